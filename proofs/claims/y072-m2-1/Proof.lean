import JvmDerived
import JvmDerived.Pilot.@@N@@Statement
import JvmDerived.Pilot.@@N@@Code
set_option linter.unusedVariables false
set_option linter.unusedSimpArgs false
namespace Jvm.Pilot.@@N@@
open Jvm Jvm.ClassFile Sem Op Lib Jvm.Free Jvm.Stand Jvm.LawKit Jvm.RoadKit Bundle Jvm.Pilot.@@N@@.Jvm.D
theorem lee {n m : Nat} (h : Nat.ble n m = true) : n ≤ m := Nat.le_of_ble_eq_true h
abbrev mn0 : MethodName := ⟨"com/example/reportwire/reportwire/Arguments", "asksForHelp", "()Z"⟩
abbrev mn1 : MethodName := ⟨"com/example/reportwire/reportwire/Arguments", "hasNext", "()Z"⟩
abbrev mn2 : MethodName := ⟨"com/example/reportwire/reportwire/Arguments", "next", "()Ljava/lang/String;"⟩
abbrev mn3 : MethodName := ⟨"java/lang/String", "<init>", "([C)V"⟩
abbrev mn4 : MethodName := ⟨"com/example/reportwire/reportwire/ArgumentsAsksForHelpPinLaw", "ch", "(JI)C"⟩
abbrev mn5 : MethodName := ⟨"java/lang/String", "equals", "(Ljava/lang/Object;)Z"⟩
abbrev mn6 : MethodName := ⟨"java/lang/String", "<init>", "([CIILjava/lang/Void;)V"⟩
abbrev mn7 : MethodName := ⟨"com/example/reportwire/reportwire/Arguments", "peek", "()Ljava/lang/String;"⟩
abbrev mn8 : MethodName := ⟨"java/lang/StringUTF16", "compress", "([CI[BII)I"⟩
abbrev mn9 : MethodName := ⟨"java/lang/StringUTF16", "compress", "([CII)[B"⟩
abbrev mn10 : MethodName := ⟨"java/lang/StringUTF16", "coderFromArrayLen", "([BI)B"⟩
abbrev mn11 : MethodName := ⟨"com/example/reportwire/reportwire/Arguments", "<init>", "([Ljava/lang/String;)V"⟩
abbrev mn12 : MethodName := ⟨"jdk/internal/util/Preconditions", "checkIndex", "(IILjava/util/function/BiFunction;)I"⟩
abbrev mn13 : MethodName := ⟨"com/example/reportwire/reportwire/ArgumentsAsksForHelpPinLaw", "makeArg", "(J)Ljava/lang/String;"⟩
abbrev mn14 : MethodName := ⟨"com/example/reportwire/reportwire/ArgumentsAsksForHelpPinLaw", "isHelp", "(J)Z"⟩
abbrev mn15 : MethodName := ⟨"java/lang/String", "isLatin1", "()Z"⟩
abbrev mn16 : MethodName := ⟨"java/lang/String", "charAt", "(I)C"⟩
theorem wdx {a0 : Array Value} {Z : State} (hw : ∀ d ∈ tables_1, d.before a0 Z = true) (i : Nat) {d : Jvm.Cond} (h : tables_1[i]? = some d) : d.before a0 Z = true := hw d (List.mem_of_getElem? h)
/-! the walk in one predicate: from S the run comes to an end at which Q holds -/
def Go (p : Program) (e : Env) (below : List Frame) (s : State) (rc rs : Nat) (Q : Option Value → Heap → List Loc → Prop) (S : State) : Prop :=
  ∃ t o, Steps p.tables e below S t ∧ t.status = .running ∧ Ended t below o ∧ ∃ v L, o = .returned v ∧ Q v t.heap L ∧ FrameEnd s o t L rc rs
section Pre
variable {p : Program} {l : Launch} {e : Env} {R : Room} {s : State} {m : MethodId} {args : Array Value} {below : List Frame} {meth : Method} {c : Code} {T : State} {locs : List Loc} {cells slots rc rs : Nat} {Q : Option Value → Heap → List Loc → Prop} {S S' : State} {h : Heap} {Z : State} {n0 : Nat}
theorem Go.st (k : ∀ t, Steps p.tables e below S' t → Steps p.tables e below S t) (g : Go p e below s rc rs Q S') : Go p e below s rc rs Q S := by
  obtain ⟨t, o, h, r⟩ := g; exact ⟨t, o, k t h, r⟩
theorem Go.tr (k : Steps p.tables e below S S') (g : Go p e below s rc rs Q S') : Go p e below s rc rs Q S := by
  obtain ⟨t, o, h, r⟩ := g; exact ⟨t, o, k.trans h, r⟩
theorem Go.ret (X : Stand p l e R s m args below meth c T locs cells slots) (hx : p.tables.exec = Jvm.exec) (hlk : meth.locks = false) {pc : Nat} {Ls : Array Slot} {w : Value} {t : FieldType} {i : Instr} {rest : List Value} (hret : meth.sig.returnType = some t) (hn : narrow t w = w)
    (hi : (i = .ireturn ∧ (t = .int ∨ t = .boolean ∨ t = .byte ∨ t = .char ∨ t = .short) ∧ ∃ z, w = .int z) ∨ (i = .lreturn ∧ t = .long ∧ ∃ z, w = .long z) ∨ (i = .dreturn ∧ t = .double ∧ ∃ z, w = .double z) ∨ (i = .freturn ∧ t = .float ∧ ∃ z, w = .float z) ∨ (i = .areturn ∧ t.isReference = true ∧ w.isRef = true))
    (hd : decode c.code pc = .ok (i, 1)) (hc : cells ≤ rc) (hs : slots ≤ rs) (hh : T.heap = h) (hq : Q (some w) h locs) : Go p e below s rc rs Q (T.setTop (mkF m pc Ls (w :: rest))) := by
  obtain ⟨fs, hr, hrun, hended, hW, hsame⟩ := X.leave (v := some w) (fun h => by rw [hret] at h; cases h) hlk
  subst hh
  exact ⟨_, _, retOut X hx hret hn hi hd hr, hrun, hended, _, _, rfl, hq, ⟨_, rfl⟩, hW, hsame.mono hc hs⟩
theorem Go.retB (X : Stand p l e R s m args below meth c T locs cells slots) (hx : p.tables.exec = Jvm.exec) (hlk : meth.locks = false) {pc : Nat} {Ls : Array Slot} {z : Int32} {t : FieldType} {rest : List Value} (hret : meth.sig.returnType = some t) (ht : t = .boolean ∨ t = .byte ∨ t = .char ∨ t = .short)
    (hd : decode c.code pc = .ok (.ireturn, 1)) (hc : cells ≤ rc) (hs : slots ≤ rs) (hh : T.heap = h) (hq : Q (some (.int (nar t z))) h locs) : Go p e below s rc rs Q (T.setTop (mkF m pc Ls (.int z :: rest))) := by
  obtain ⟨fs, hr, hrun, hended, hW, hsame⟩ := X.leave (v := some (.int (nar t z))) (fun h => by rw [hret] at h; cases h) hlk
  subst hh
  exact ⟨_, _, retN X hx hret ht hd hr, hrun, hended, _, _, rfl, hq, ⟨_, rfl⟩, hW, hsame.mono hc hs⟩
theorem Go.retV (X : Stand p l e R s m args below meth c T locs cells slots) (hx : p.tables.exec = Jvm.exec) (hlk : meth.locks = false) {pc : Nat} {Ls : Array Slot} (hret : meth.sig.returnType = none)
    (hd : decode c.code pc = .ok (.return_, 1)) (hc : cells ≤ rc) (hs : slots ≤ rs) (hh : T.heap = h) (hq : Q none h locs) : Go p e below s rc rs Q (T.setTop (mkF m pc Ls [])) := by
  obtain ⟨fs, hr, hrun, hended, hW, hsame⟩ := X.leave (v := none) (fun _ => rfl) hlk
  subst hh
  exact ⟨_, _, X.returnOut hx hret hd hr, hrun, hended, _, _, rfl, hq, ⟨_, rfl⟩, hW, hsame.mono hc hs⟩
theorem own_le (O : Old Z n0 h) : n0 ≤ h.size := O.1 ▸ O.2.1
theorem own_nb (b : Bool) : nar .boolean (if b then 1 else 0) = if b then 1 else 0 := by cases b <;> rfl
end Pre
/-! the same where String constants may be loaded for the first time: the tables go on -/
def GoW (p : Program) (e : Env) (below : List Frame) (s : State) (rc rs : Nat) (Z : State) (EL : List (String × Nat)) (Q : Option Value → Heap → List Loc → Prop) (S : State) : Prop :=
  ∃ t o, Steps p.tables e below S t ∧ t.status = .running ∧ Ended t below o ∧ ∃ v L, o = .returned v ∧ Q v t.heap L ∧ CHr Z EL s.vm s.heap t.vm t.heap ∧ ReturnedEndW s o t L rc rs
section PreW
variable {p : Program} {l : Launch} {e : Env} {R : Room} {s : State} {m : MethodId} {args : Array Value} {below : List Frame} {meth : Method} {c : Code} {T : State} {locs : List Loc} {cells slots rc rs : Nat} {Q : Option Value → Heap → List Loc → Prop} {S S' : State} {h : Heap} {Z : State} {n0 k0 : Nat} {vm0 : Vm} {EL : List (String × Nat)} {a0 : Array Value}
theorem GoW.st (k : ∀ t, Steps p.tables e below S' t → Steps p.tables e below S t) (g : GoW p e below s rc rs Z EL Q S') : GoW p e below s rc rs Z EL Q S := by
  obtain ⟨t, o, h, r⟩ := g; exact ⟨t, o, k t h, r⟩
theorem GoW.tr (k : Steps p.tables e below S S') (g : GoW p e below s rc rs Z EL Q S') : GoW p e below s rc rs Z EL Q S := by
  obtain ⟨t, o, h, r⟩ := g; exact ⟨t, o, k.trans h, r⟩
theorem own_rm {o : Outcome} {t : State} {L : List Loc} {k n k' n' : Nat} (h : ReturnedEndW s o t L k n) (h1 : k ≤ k') (h2 : n ≤ n') : ReturnedEndW s o t L k' n' := ⟨h.1, h.2.1, h.2.2.1, h.2.2.2.mono h1 h2⟩
theorem GoW.ret (X : Stand p l e R (s.setVm vm0) m args below meth c T locs cells slots) (hx : p.tables.exec = Jvm.exec) (hlk : meth.locks = false) (hS : s.Since vm0 k0) (hk : k0 ≤ T.heap.size) (hZ : Z.Warmed39 vm0) (hEL : EW Z a0 EL) (hCH : CHr Z EL s.vm s.heap vm0 h) {pc : Nat} {Ls : Array Slot} {w : Value} {t : FieldType} {i : Instr} {rest : List Value} (hret : meth.sig.returnType = some t) (hn : narrow t w = w)
    (hi : (i = .ireturn ∧ (t = .int ∨ t = .boolean ∨ t = .byte ∨ t = .char ∨ t = .short) ∧ ∃ z, w = .int z) ∨ (i = .lreturn ∧ t = .long ∧ ∃ z, w = .long z) ∨ (i = .dreturn ∧ t = .double ∧ ∃ z, w = .double z) ∨ (i = .freturn ∧ t = .float ∧ ∃ z, w = .float z) ∨ (i = .areturn ∧ t.isReference = true ∧ w.isRef = true))
    (hd : decode c.code pc = .ok (i, 1)) (hc : cells ≤ rc) (hs : slots ≤ rs) (hh : T.heap = h) (hq : Q (some w) h locs) : GoW p e below s rc rs Z EL Q (T.setTop (mkF m pc Ls (w :: rest))) := by
  obtain ⟨fs, hr, hrun, hended, hW⟩ := X.leaveW hS hk (v := some w) (fun h => by rw [hret] at h; cases h) hlk
  subst hh
  have hCHt := hCH.trans (CHv.at X hZ hEL hCH.1)
  exact ⟨_, _, retOut X hx hret hn hi hd hr, hrun, hended, _, _, rfl, hq, hCHt, own_rm hW hc hs⟩
theorem GoW.retB (X : Stand p l e R (s.setVm vm0) m args below meth c T locs cells slots) (hx : p.tables.exec = Jvm.exec) (hlk : meth.locks = false) (hS : s.Since vm0 k0) (hk : k0 ≤ T.heap.size) (hZ : Z.Warmed39 vm0) (hEL : EW Z a0 EL) (hCH : CHr Z EL s.vm s.heap vm0 h) {pc : Nat} {Ls : Array Slot} {z : Int32} {t : FieldType} {rest : List Value} (hret : meth.sig.returnType = some t) (ht : t = .boolean ∨ t = .byte ∨ t = .char ∨ t = .short)
    (hd : decode c.code pc = .ok (.ireturn, 1)) (hc : cells ≤ rc) (hs : slots ≤ rs) (hh : T.heap = h) (hq : Q (some (.int (nar t z))) h locs) : GoW p e below s rc rs Z EL Q (T.setTop (mkF m pc Ls (.int z :: rest))) := by
  obtain ⟨fs, hr, hrun, hended, hW⟩ := X.leaveW hS hk (v := some (.int (nar t z))) (fun h => by rw [hret] at h; cases h) hlk
  subst hh
  have hCHt := hCH.trans (CHv.at X hZ hEL hCH.1)
  exact ⟨_, _, retN X hx hret ht hd hr, hrun, hended, _, _, rfl, hq, hCHt, own_rm hW hc hs⟩
theorem GoW.retV (X : Stand p l e R (s.setVm vm0) m args below meth c T locs cells slots) (hx : p.tables.exec = Jvm.exec) (hlk : meth.locks = false) (hS : s.Since vm0 k0) (hk : k0 ≤ T.heap.size) (hZ : Z.Warmed39 vm0) (hEL : EW Z a0 EL) (hCH : CHr Z EL s.vm s.heap vm0 h) {pc : Nat} {Ls : Array Slot} (hret : meth.sig.returnType = none)
    (hd : decode c.code pc = .ok (.return_, 1)) (hc : cells ≤ rc) (hs : slots ≤ rs) (hh : T.heap = h) (hq : Q none h locs) : GoW p e below s rc rs Z EL Q (T.setTop (mkF m pc Ls [])) := by
  obtain ⟨fs, hr, hrun, hended, hW⟩ := X.leaveW hS hk (v := none) (fun _ => rfl) hlk
  subst hh
  have hCHt := hCH.trans (CHv.at X hZ hEL hCH.1)
  exact ⟨_, _, X.returnOut hx hret hd hr, hrun, hended, _, _, rfl, hq, hCHt, own_rm hW hc hs⟩
theorem own_back {y : MethodName} {bytes : ByteArray} {maxL : Nat} {ret : Option FieldType} {rm : Room} {len W : Nat} {as' : Array Value} {Q : Option Value → Heap → List Loc → Prop} {xs : List Addr}
    (hM : MetFree l y (head1 [Jvm.Cond.code y bytes maxL ret] rm) (fun a U => a = as' ∧ Z.Warmed39 U.vm ∧ U.heap = h ∧ CHv Z EL U.vm h ∧ ∀ y ∈ xs, Safe Z EL U.vm h y) (fun _ _ _ _ _ => True) (fun _ U o U' => ∃ v L, o = .returned v ∧ Q v U'.heap L ∧ CHr Z EL U.vm U.heap U'.vm U'.heap ∧ ReturnedEndW U o U' L rm.cells rm.slots))
    (hZ : Z.Warmed39 vm0) (wc : (Jvm.Cond.code y bytes maxL ret).before a0 Z = true) (wz : (Jvm.Cond.initialized y.cls).before a0 Z = true) (hf : rm.frames + 1 ≤ R.frames) (hl : W + (maxL + 11) + rm.locals ≤ R.locals) (hEL : EW Z a0 EL) (H : CHv Z EL vm0 h) (hs : ∀ y ∈ xs, y < h.size ∧ Safe Z EL vm0 h y) :
    BackS l R p e below (s.setVm vm0) args y len W (fun A a => a = as' ∧ A.U.heap = h ∧ A.cells + rm.cells ≤ R.cells ∧ A.slots + rm.slots ≤ R.slots)
      (fun A _ v B => ∃ L, Q v B.U.heap L ∧ B.locs = A.locs ++ L ∧ B.cells = A.cells + rm.cells ∧ B.slots = A.slots + rm.slots ∧ CHr Z EL vm0 h B.U.vm B.U.heap) :=
  BackS.of_freeW (bytes := bytes) (maxL := maxL) (ret := ret) (E := fun _ first o t L k n => k = rm.cells ∧ n = rm.slots ∧ (∃ v, o = .returned v ∧ Q v t.heap L) ∧ CHr Z EL first.vm first.heap t.vm t.heap) hM hf hl
    (fun m meth c A a Y hp => have hU : Z.Warmed39 A.U.vm := wtrans (s := s.setVm vm0) hZ Y.warmed
      ⟨by show (Jvm.Cond.and _ .tt).before a A.U = true; rw [Cond.before_and, mv hU wc]; rfl, mv hU wc, mv hU wz, hp.2.2.1, hp.2.2.2⟩)
    (fun m meth c A a g mk Y hp => ⟨hp.1, wtrans (s := s.setVm vm0) hZ Y.warmed, hp.2.1, (CHv.at Y hZ hEL H).1, fun y hy => (CHv.at Y hZ hEL H).safe (hs y hy).1 (hs y hy).2⟩) (fun _ _ _ _ _ _ _ _ _ => trivial)
    (fun _ _ _ _ ⟨v, L, h1, h2, h3, h4⟩ => ⟨L, _, _, h4, rfl, rfl, ⟨v, h1, h2⟩, h3⟩)
    (fun m meth c A a g mk v t L k n Y hp _ _ ⟨e1, e2, ⟨v', e3, e4⟩, e5⟩ => by
      cases e3; subst e1 e2
      refine ⟨L, e4, rfl, rfl, rfl, (CHv.at Y hZ hEL H).trans ?_⟩
      rw [← hp.2.1]; exact e5)
end PreW
def EL : List (String × Nat) := [("java/lang/String", 7), ("com/example/reportwire/reportwire/Arguments", 64), ("com/example/reportwire/reportwire/ArgumentsAsksForHelpPinLaw", 30)]
theorem own_wS {a0 : Array Value} {Z : State} (hw : ∀ d ∈ tables_1, d.before a0 Z = true) : ∀ d ∈ Bundle.stringAtoms, d.before a0 Z = true := fun d hd => by
  simp only [Bundle.stringAtoms, List.mem_cons, List.not_mem_nil, or_false] at hd
  rcases hd with rfl | rfl | rfl | rfl | rfl | rfl | rfl
  · exact (wdx hw 11 rfl)
  · exact (wdx hw 10 rfl)
  · exact (wdx hw 28 rfl)
  · exact (wdx hw 38 rfl)
  · exact (wdx hw 36 rfl)
  · exact (wdx hw 43 rfl)
  · exact (wdx hw 44 rfl)
theorem own_EW {a0 : Array Value} {Z : State} (hw : ∀ d ∈ tables_1, d.before a0 Z = true) : EW Z a0 EL := (EW.cons (wdx hw 174 rfl) (by decide) (EW.cons (wdx hw 133 rfl) (by decide) (EW.cons (wdx hw 42 rfl) (by decide) EW.nil)))
theorem own_ch (u : Int32) : ¬ (255 : Int32) < (u &&& (255 : Int32)).toUInt32.toUInt16.toUInt32.toInt32 := by
  rw [i2c_mask, Int32.lt_iff_toInt_lt]
  have := c_mask u 255 8 (by decide) (by decide)
  have e : (255 : Int32).toInt = 255 := rfl
  omega
theorem own_cn (u : Int32) : ¬ (255 : Int32) < nar .char ((u &&& (255 : Int32)).toUInt32.toUInt16.toUInt32.toInt32) := by
  have e : nar .char ((u &&& (255 : Int32)).toUInt32.toUInt16.toUInt32.toInt32) = (u &&& (255 : Int32)).toUInt32.toUInt16.toUInt32.toInt32 := by
    rw [i2c_mask]; exact i2c_mask u
  rw [e]; exact own_ch u
theorem own_cs {s : State} {args : Array Value} {C n d : String} (h1 : (Jvm.Cond.isInt (Term.static C n d)).value args s none s [] = some true) (h2 : (Jvm.Cond.not (Jvm.Cond.eq (Term.static C n d) (Term.int 0))).value args s none s [] = some true) (hi : (Jvm.Cond.initializedFor C n d).before args s = true) : ∃ z : Int32, Sta s s.heap C n d (.int z) ∧ ¬ z = 0 := by
  obtain ⟨z, ev⟩ := is_v h1
  refine ⟨z, Sta.start ev (Or.inl hi), fun q => ?_⟩
  subst q
  have h3 : (Jvm.Cond.eq (Term.static C n d) (Term.int 0)).value args s none s [] = some true := eq_i ev rfl rfl
  rw [Cond.value, h3] at h2
  cases h2
theorem own_c4 (u : Int32) : u &&& (3 : Int32) = 0 ∨ u &&& (3 : Int32) = 1 ∨ u &&& (3 : Int32) = 2 ∨ u &&& (3 : Int32) = 3 := by
  have h := c_mask u 3 2 (by decide) (by decide)
  generalize u &&& (3 : Int32) = y at *
  have : y.toInt = 0 ∨ y.toInt = 1 ∨ y.toInt = 2 ∨ y.toInt = 3 := by omega
  rcases this with h | h | h | h
  · exact Or.inl (Int32.toInt_inj.mp h)
  · exact Or.inr (Or.inl (Int32.toInt_inj.mp h))
  · exact Or.inr (Or.inr (Or.inl (Int32.toInt_inj.mp h)))
  · exact Or.inr (Or.inr (Or.inr (Int32.toInt_inj.mp h)))
theorem own_vs {Z : State} {h : Heap} {b : Addr} {k : ClassId} {la lb : List Int32} {d : Value} (e : la = lb) (F : Arv Z h b k .byte (Int32.ofNat (List.length lb)) (List.map Value.int lb) d) : Arv Z h b k .byte (Int32.ofNat (List.length la)) (List.map Value.int la) d := e ▸ F
theorem own_l2 (la : List Int32) (h : la.length ≤ 2) : la = [] ∨ (∃ u, la = [u]) ∨ ∃ u v, la = [u, v] := by
  match la, h with
  | [], _ => exact Or.inl rfl
  | [u], _ => exact Or.inr (Or.inl ⟨u, rfl⟩)
  | [u, v], _ => exact Or.inr (Or.inr ⟨u, v, rfl⟩)
  | _ :: _ :: _ :: _, h => simp at h
theorem own_b1 {P : Prop} [Decidable P] (h : ¬ (if P then (1 : Int32) else 0) = 0) : (if P then (1 : Int32) else 0) = 1 := by
  by_cases q : P
  · exact if_pos q
  · exact absurd (if_neg q) h
theorem own_by (u v : Int32) (hu : 0 ≤ u.toInt ∧ u.toInt ≤ 255) (hv : 0 ≤ v.toInt ∧ v.toInt ≤ 255) : (nar .byte (u.toInt8.toInt32) = nar .byte (v.toInt8.toInt32)) = (u = v) := by
  refine propext ⟨fun h => ?_, fun h => by rw [h]⟩
  change u.toInt8.toInt32.toInt8.toInt32 = v.toInt8.toInt32.toInt8.toInt32 at h
  have h1 := c_i2b u; have h2 := c_i2b v; have h3 := c_i2b (u.toInt8.toInt32); have h4 := c_i2b (v.toInt8.toInt32)
  rw [h] at h3
  apply Int32.toInt_inj.mp
  omega
theorem own_m8 (u : Int32) : 0 ≤ (u &&& (255 : Int32)).toInt ∧ (u &&& (255 : Int32)).toInt ≤ 255 := by
  have := c_mask u 255 8 (by decide) (by decide)
  omega
theorem own_nc (u : Int32) : nar .char (u &&& (255 : Int32)) = u &&& (255 : Int32) := i2c_mask u
theorem own_ncc (u : Int32) : nar .char ((u &&& (255 : Int32)).toUInt32.toUInt16.toUInt32.toInt32) = u &&& (255 : Int32) := by rw [i2c_mask]; exact i2c_mask u
theorem own_le8 (u : Int32) : ¬ (255 : Int32) < nar .char (u &&& (255 : Int32)) := by
  rw [own_nc, Int32.lt_iff_toInt_lt]
  have := own_m8 u
  have e : (255 : Int32).toInt = 255 := rfl
  omega
def fbl (la : List Int32) : List Int32 := la.map fun c => nar .byte (c.toInt8.toInt32)
theorem own_fbl (la : List Int32) : (fbl la).length = la.length := by simp [fbl]
theorem own_rr4 (y : Int32) (h0 : 0 ≤ y.toInt) (h1 : y.toInt < 4) : y = 0 ∨ y = 1 ∨ y = 2 ∨ y = 3 := by
  have h : y.toInt = 0 ∨ y.toInt = 1 ∨ y.toInt = 2 ∨ y.toInt = 3 := by omega
  rcases h with h | h | h | h
  · exact Or.inl (Int32.toInt_inj.mp h)
  · exact Or.inr (Or.inl (Int32.toInt_inj.mp h))
  · exact Or.inr (Or.inr (Or.inl (Int32.toInt_inj.mp h)))
  · exact Or.inr (Or.inr (Or.inr ((Int32.toInt_inj.mp h))))
theorem own_k4 (u : Int32) : let y := (u &&& (2147483647 : Int32)) % (4 : Int32); y = 0 ∨ y = 1 ∨ y = 2 ∨ y = 3 := by
  intro y
  have hp : 0 ≤ (u &&& (2147483647 : Int32)).toInt := (c_andS u 2147483647).2.2 (by decide)
  have hm : y.toInt = (u &&& (2147483647 : Int32)).toInt % 4 := (c_irem (u &&& (2147483647 : Int32)) 4 4 rfl).1 hp
  exact own_rr4 y (by omega) (by omega)
theorem own_l7 (la : List Int32) (h : la.length ≤ 7) : la = [] ∨ (∃ a, la = [a]) ∨ (∃ a b, la = [a, b]) ∨ (∃ a b c, la = [a, b, c]) ∨ (∃ a b c d, la = [a, b, c, d]) ∨ (∃ a b c d e, la = [a, b, c, d, e]) ∨ (∃ a b c d e f, la = [a, b, c, d, e, f]) ∨ ∃ a b c d e f g, la = [a, b, c, d, e, f, g] := by
  match la, h with
  | [], _ => simp
  | [a], _ => simp
  | [a, b], _ => simp
  | [a, b, c], _ => simp
  | [a, b, c, d], _ => simp
  | [a, b, c, d, e], _ => simp
  | [a, b, c, d, e, f], _ => simp
  | [a, b, c, d, e, f, g], _ => simp
  | _ :: _ :: _ :: _ :: _ :: _ :: _ :: _ :: _, h => simp at h
theorem own_arv {Z : State} {h : Heap} {b : Addr} {k k' : ClassId} {la lb : List Int32} {d d' : Value} (F : Arv Z h b k .byte (Int32.ofNat (List.length la)) (List.map Value.int la) d) (G : Arv Z h b k' .byte (Int32.ofNat (List.length lb)) (List.map Value.int lb) d') (ha : la.length ≤ 7) (hb : lb.length ≤ 7) : la = lb := by
  obtain ⟨c, A, -, s1, -, H1, -⟩ := F
  obtain ⟨c', A', -, s2, -, H2, -⟩ := G
  have e : c = c' := Option.some.inj (A.1.symm.trans A'.1)
  subst e
  have z : ∀ n : Nat, n ≤ 7 → (Int32.ofNat n).toNatClampNeg = n := by
    intro n hn
    have : ∀ m : Fin 8, (Int32.ofNat m.1).toNatClampNeg = m.1 := by decide
    exact this ⟨n, by omega⟩
  rw [z _ ha] at s1
  rw [z _ hb] at s2
  refine List.ext_getElem (by omega) fun i h1 h2 => ?_
  have e1 := H1 i (by omega)
  have e2 := H2 i (by omega)
  rw [e1] at e2
  have e3 := Option.some.inj e2
  simp [List.getD, h1, h2] at e3
  exact e3
theorem own_eqs {Z : State} {h : Heap} {ob oc ta td : Addr} {ka kd : ClassId} {la lb : List Int32} {d d' : Value} {C n e : String} (hc : ob = oc) (F : Fld Z h ob C n e (.ref ta)) (G : Fld Z h oc C n e (.ref td)) (V1 : Arv Z h ta ka .byte (Int32.ofNat (List.length la)) (List.map Value.int la) d) (V2 : Arv Z h td kd .byte (Int32.ofNat (List.length lb)) (List.map Value.int lb) d') (ha : la.length ≤ 7) (hb : lb.length ≤ 7) : la = lb := by
  by_cases q : ta = td
  · subst q; exact own_arv V1 V2 ha hb
  · exact absurd hc (F.ne G (fun z => q (Value.ref.inj z)))
def fk (u : Int64) (k : Int32) : Int32 := nar .char (((((u.toUInt64 >>> (((3 : Int32) + ((8 : Int32) * k)) &&& 0x3f).toInt64.toUInt64).toInt64) &&& (255 : Int64)).toInt32).toUInt32.toUInt16.toUInt32.toInt32)
theorem own_n45 : nar .char (45 : Int32) = 45 := by decide
theorem own_n69 : nar .char (69 : Int32) = 69 := by decide
theorem own_n72 : nar .char (72 : Int32) = 72 := by decide
theorem own_n76 : nar .char (76 : Int32) = 76 := by decide
theorem own_n80 : nar .char (80 : Int32) = 80 := by decide
theorem own_n101 : nar .char (101 : Int32) = 101 := by decide
theorem own_n104 : nar .char (104 : Int32) = 104 := by decide
theorem own_n108 : nar .char (108 : Int32) = 108 := by decide
theorem own_n112 : nar .char (112 : Int32) = 112 := by decide
def fset (po cx : Int32) : List Int32 := if po = 0 then [cx, (45 : Int32), (104 : Int32), (101 : Int32), (108 : Int32), (112 : Int32)] else if po = 1 then [(45 : Int32), cx, (104 : Int32), (101 : Int32), (108 : Int32), (112 : Int32)] else if po = 2 then [(45 : Int32), (45 : Int32), cx, (101 : Int32), (108 : Int32), (112 : Int32)] else if po = 3 then [(45 : Int32), (45 : Int32), (104 : Int32), cx, (108 : Int32), (112 : Int32)] else if po = 4 then [(45 : Int32), (45 : Int32), (104 : Int32), (101 : Int32), cx, (112 : Int32)] else [(45 : Int32), (45 : Int32), (104 : Int32), (101 : Int32), (108 : Int32), cx]
def fat (po : Int32) : Int32 := if po = 0 then 45 else if po = 1 then 45 else if po = 2 then 104 else if po = 3 then 101 else if po = 4 then 108 else 112
theorem own_fset (po cx : Int32) (hp : po = 0 ∨ po = 1 ∨ po = 2 ∨ po = 3 ∨ po = 4 ∨ po = 5) : (fset po cx = [(45 : Int32), (45 : Int32), (104 : Int32), (101 : Int32), (108 : Int32), (112 : Int32)]) = (cx = fat po) := by
  rcases hp with rfl | rfl | rfl | rfl | rfl | rfl <;> simp [fset, fat]
theorem own_fsl (po cx : Int32) : (fset po cx).length = 6 := by
  unfold fset
  repeat' split
  all_goals rfl
theorem own_fsr (po cx : Int32) (P : Int32 → Prop) (hc : P cx) (ha : P 45) (hb : P 104) (hd : P 101) (he : P 108) (hf : P 112) : ∀ y ∈ fset po cx, P y := by
  unfold fset
  repeat' split
  all_goals (intro y hy; simp only [List.mem_cons, List.not_mem_nil, or_false] at hy)
  all_goals (rcases hy with rfl | rfl | rfl | rfl | rfl | rfl <;> assumption)
theorem own_vset {Z : State} {h : Heap} {b : Addr} {k : ClassId} {po cx : Int32} {d : Value} (hp : po = 0 ∨ po = 1 ∨ po = 2 ∨ po = 3 ∨ po = 4 ∨ po = 5) (F : Arv Z h b k .char (6 : Int32) ([.int 45, .int 45, .int 104, .int 101, .int 108, .int 112].set po.toNatClampNeg (.int cx)) d) : Arv Z h b k .char (Int32.ofNat (List.length (fset po cx))) (List.map Value.int (fset po cx)) d := by
  rcases hp with rfl | rfl | rfl | rfl | rfl | rfl <;> exact F
theorem own_pin (po : Int32) (hp : po = 0 ∨ po = 1 ∨ po = 2 ∨ po = 3 ∨ po = 4 ∨ po = 5) : ¬ po < 0 ∧ po < 6 := by
  rcases hp with rfl | rfl | rfl | rfl | rfl | rfl <;> decide
theorem own_ptn (po : Int32) (hp : po = 0 ∨ po = 1 ∨ po = 2 ∨ po = 3 ∨ po = 4 ∨ po = 5) : po.toNatClampNeg < 6 := by
  rcases hp with rfl | rfl | rfl | rfl | rfl | rfl <;> decide
theorem own_l6 (la : List Int32) (h : la.length = 6) : ∃ a b c d e f, la = [a, b, c, d, e, f] := by
  match la, h with
  | [a, b, c, d, e, f], _ => exact ⟨a, b, c, d, e, f, rfl⟩
def fchx (mo po cx : Int32) (u : Int64) : List Int32 := if mo = 0 then [(45 : Int32), (45 : Int32), (104 : Int32), (101 : Int32), (108 : Int32), (112 : Int32)] else if mo = 1 then fset po cx else if mo = 2 then [(45 : Int32), (45 : Int32), (104 : Int32), (101 : Int32), (108 : Int32)] else if mo = 3 then [(45 : Int32), (45 : Int32), (104 : Int32), (101 : Int32), (108 : Int32), (112 : Int32), cx] else if mo = 4 then [] else if mo = 5 then [cx] else if mo = 6 then [(45 : Int32), (45 : Int32), (72 : Int32), (69 : Int32), (76 : Int32), (80 : Int32)] else [fk u 0, fk u 1, fk u 2, fk u 3, fk u 4, fk u 5]
def fch (u : Int64) : List Int32 := fchx ((u &&& (7 : Int64)).toInt32) (((((u.toUInt64 >>> ((11 : Int32) &&& 0x3f).toInt64.toUInt64).toInt64) &&& (2147483647 : Int64)) - ((((u.toUInt64 >>> ((11 : Int32) &&& 0x3f).toInt64.toUInt64).toInt64) &&& (2147483647 : Int64)) / (6 : Int64)) * (6 : Int64)).toInt32) (((((u.toUInt64 >>> ((3 : Int32) &&& 0x3f).toInt64.toUInt64).toInt64) &&& (255 : Int64)).toInt32).toUInt32.toUInt16.toUInt32.toInt32) u
theorem own_fch (u : Int64) : fch u = fchx ((u &&& (7 : Int64)).toInt32) (((((u.toUInt64 >>> ((11 : Int32) &&& 0x3f).toInt64.toUInt64).toInt64) &&& (2147483647 : Int64)) - ((((u.toUInt64 >>> ((11 : Int32) &&& 0x3f).toInt64.toUInt64).toInt64) &&& (2147483647 : Int64)) / (6 : Int64)) * (6 : Int64)).toInt32) (((((u.toUInt64 >>> ((3 : Int32) &&& 0x3f).toInt64.toUInt64).toInt64) &&& (255 : Int64)).toInt32).toUInt32.toUInt16.toUInt32.toInt32) u := rfl
theorem own_cl (y : Int64) : (((y &&& (255 : Int64)).toInt32).toUInt32.toUInt16.toUInt32.toInt32) = y.toInt32 &&& (255 : Int32) := by
  rw [Int64.toInt32_and]; exact i2c_mask _
theorem own_ncl (y : Int64) : nar .char (((y &&& (255 : Int64)).toInt32).toUInt32.toUInt16.toUInt32.toInt32) = y.toInt32 &&& (255 : Int32) := by
  rw [own_cl]; exact i2c_mask _
theorem own_lq (u : Int32) (h : 0 ≤ u.toInt ∧ u.toInt ≤ 255) : ¬ (255 : Int32) < u := by
  rw [Int32.lt_iff_toInt_lt]; have e : (255 : Int32).toInt = 255 := rfl; omega
theorem own_kr (u : Int64) (k : Int32) : 0 ≤ (fk u k).toInt ∧ (fk u k).toInt ≤ 255 := by unfold fk; rw [own_ncl]; exact own_m8 _
theorem own_nk (u : Int64) (k : Int32) : nar .char (fk u k) = fk u k := by unfold fk; rw [own_ncl]; exact i2c_mask _
theorem own_cxr (u : Int64) (cx : Int32) (h : cx = (((((u.toUInt64 >>> ((3 : Int32) &&& 0x3f).toInt64.toUInt64).toInt64) &&& (255 : Int64)).toInt32).toUInt32.toUInt16.toUInt32.toInt32)) : (0 ≤ cx.toInt ∧ cx.toInt ≤ 255) ∧ nar .char cx = cx := by
  rw [h, own_cl]; exact ⟨own_m8 _, i2c_mask _⟩
theorem own_mo (u : Int64) (mo : Int32) (h : mo = ((u &&& (7 : Int64)).toInt32)) : mo = 0 ∨ mo = 1 ∨ mo = 2 ∨ mo = 3 ∨ mo = 4 ∨ mo = 5 ∨ mo = 6 ∨ mo = 7 := by
  have h1 := c_maskL u 7 3 (by decide) (by decide)
  have h2 := c_l2i (u &&& (7 : Int64))
  rw [← h] at h2
  have h3 := mo.le_toInt; have h4 := mo.toInt_lt
  have : mo.toInt = 0 ∨ mo.toInt = 1 ∨ mo.toInt = 2 ∨ mo.toInt = 3 ∨ mo.toInt = 4 ∨ mo.toInt = 5 ∨ mo.toInt = 6 ∨ mo.toInt = 7 := by omega
  rcases this with h | h | h | h | h | h | h | h
  · exact Or.inl (Int32.toInt_inj.mp h)
  · exact Or.inr (Or.inl (Int32.toInt_inj.mp h))
  · exact Or.inr (Or.inr (Or.inl (Int32.toInt_inj.mp h)))
  · exact Or.inr (Or.inr (Or.inr (Or.inl (Int32.toInt_inj.mp h))))
  · exact Or.inr (Or.inr (Or.inr (Or.inr (Or.inl (Int32.toInt_inj.mp h)))))
  · exact Or.inr (Or.inr (Or.inr (Or.inr (Or.inr (Or.inl (Int32.toInt_inj.mp h))))))
  · exact Or.inr (Or.inr (Or.inr (Or.inr (Or.inr (Or.inr (Or.inl (Int32.toInt_inj.mp h)))))))
  · exact Or.inr (Or.inr (Or.inr (Or.inr (Or.inr (Or.inr (Or.inr ((Int32.toInt_inj.mp h))))))))
theorem own_po (u : Int64) (po : Int32) (h : po = (((((u.toUInt64 >>> ((11 : Int32) &&& 0x3f).toInt64.toUInt64).toInt64) &&& (2147483647 : Int64)) - ((((u.toUInt64 >>> ((11 : Int32) &&& 0x3f).toInt64.toUInt64).toInt64) &&& (2147483647 : Int64)) / (6 : Int64)) * (6 : Int64)).toInt32)) : po = 0 ∨ po = 1 ∨ po = 2 ∨ po = 3 ∨ po = 4 ∨ po = 5 := by
  have h1 := c_maskL ((u.toUInt64 >>> ((11 : Int32) &&& 0x3f).toInt64.toUInt64).toInt64) 2147483647 31 (by decide) (by decide)
  have h5 := (c_lrem (((u.toUInt64 >>> ((11 : Int32) &&& 0x3f).toInt64.toUInt64).toInt64) &&& (2147483647 : Int64)) 6 6 rfl).1 (by omega)
  have h2 := c_l2i ((((u.toUInt64 >>> ((11 : Int32) &&& 0x3f).toInt64.toUInt64).toInt64) &&& (2147483647 : Int64)) - ((((u.toUInt64 >>> ((11 : Int32) &&& 0x3f).toInt64.toUInt64).toInt64) &&& (2147483647 : Int64)) / (6 : Int64)) * (6 : Int64))
  rw [← h] at h2
  have h3 := po.le_toInt; have h4 := po.toInt_lt
  have : po.toInt = 0 ∨ po.toInt = 1 ∨ po.toInt = 2 ∨ po.toInt = 3 ∨ po.toInt = 4 ∨ po.toInt = 5 := by omega
  rcases this with h | h | h | h | h | h
  · exact Or.inl (Int32.toInt_inj.mp h)
  · exact Or.inr (Or.inl (Int32.toInt_inj.mp h))
  · exact Or.inr (Or.inr (Or.inl (Int32.toInt_inj.mp h)))
  · exact Or.inr (Or.inr (Or.inr (Or.inl (Int32.toInt_inj.mp h))))
  · exact Or.inr (Or.inr (Or.inr (Or.inr (Or.inl (Int32.toInt_inj.mp h)))))
  · exact Or.inr (Or.inr (Or.inr (Or.inr (Or.inr ((Int32.toInt_inj.mp h))))))
theorem own_chx (mo po cx : Int32) (u : Int64) (hc : 0 ≤ cx.toInt ∧ cx.toInt ≤ 255) : ∀ y ∈ fchx mo po cx u, 0 ≤ y.toInt ∧ y.toInt ≤ 255 := by
  unfold fchx
  split
  · decide
  · split
    · exact own_fsr _ _ (fun y => 0 ≤ y.toInt ∧ y.toInt ≤ 255) hc (by decide) (by decide) (by decide) (by decide) (by decide)
    · split
      · decide
      · split
        · intro y hy
          simp only [List.mem_cons, List.not_mem_nil, or_false] at hy
          rcases hy with hy | hy | hy | hy | hy | hy | hy <;> rw [hy] <;> first | exact hc | decide
        · split
          · intro y hy; cases hy
          · split
            · intro y hy; rw [List.mem_singleton] at hy; rw [hy]; exact hc
            · split
              · decide
              · intro y hy
                simp only [List.mem_cons, List.not_mem_nil, or_false] at hy
                rcases hy with hy | hy | hy | hy | hy | hy <;> rw [hy] <;> exact own_kr _ _
theorem own_chr (u : Int64) : ∀ y ∈ fch u, 0 ≤ y.toInt ∧ y.toInt ≤ 255 := own_chx _ _ _ _ (own_cxr u _ rfl).1
theorem own_chl (u : Int64) : (fch u).length ≤ 7 := by
  unfold fch fchx
  repeat' split
  all_goals (first | (rw [own_fsl]; decide) | simp)
theorem own_fl7 (u : Int64) : (fbl (fch u)).length ≤ 7 := by rw [own_fbl]; exact own_chl u
theorem own_nh (mo po cx : Int32) (u : Int64) (hm : mo = 0 ∨ mo = 1 ∨ mo = 2 ∨ mo = 3 ∨ mo = 4 ∨ mo = 5 ∨ mo = 6 ∨ mo = 7) (h0 : ¬ mo = 0) (h1 : ¬ mo = 1) (h7 : ¬ mo = 7) : ¬ fchx mo po cx u = [(45 : Int32), (45 : Int32), (104 : Int32), (101 : Int32), (108 : Int32), (112 : Int32)] := by
  rcases hm with h | h | h | h | h | h | h | h
  · exact absurd h h0
  · exact absurd h h1
  all_goals (first | exact absurd h h7 | (subst h; simp [fchx]))
theorem own_inj : ∀ (la lb : List Int32), (∀ y ∈ la, 0 ≤ y.toInt ∧ y.toInt ≤ 255) → (∀ y ∈ lb, 0 ≤ y.toInt ∧ y.toInt ≤ 255) → (fbl la = fbl lb ↔ la = lb)
  | [], [], _, _ => by simp [fbl]
  | [], _ :: _, _, _ => by simp [fbl]
  | _ :: _, [], _, _ => by simp [fbl]
  | a :: la, b :: lb, ha, hb => by
    have ih := own_inj la lb (fun y hy => ha y (List.mem_cons_of_mem _ hy)) (fun y hy => hb y (List.mem_cons_of_mem _ hy))
    have e := own_by a b (ha a List.mem_cons_self) (hb b List.mem_cons_self)
    simp only [fbl, List.map_cons, List.cons.injEq, e] at ih ⊢
    rw [ih]
def fh (la : List Int32) : Int32 := if la = [(45 : Int32), (45 : Int32), (104 : Int32), (101 : Int32), (108 : Int32), (112 : Int32)] then 1 else 0
theorem own_fh (u : Int64) : fh (fbl (fch u)) = fh (fch u) := by
  have e : [(45 : Int32), (45 : Int32), (104 : Int32), (101 : Int32), (108 : Int32), (112 : Int32)] = fbl [(45 : Int32), (45 : Int32), (104 : Int32), (101 : Int32), (108 : Int32), (112 : Int32)] := rfl
  have h : (fbl (fch u) = [(45 : Int32), (45 : Int32), (104 : Int32), (101 : Int32), (108 : Int32), (112 : Int32)]) = (fch u = [(45 : Int32), (45 : Int32), (104 : Int32), (101 : Int32), (108 : Int32), (112 : Int32)]) := propext (by rw [e]; exact own_inj _ _ (own_chr u) (by decide))
  simp only [fh, h]
def fo3 (x y z : Int32) : Int32 := if x = 0 then (if y = 0 then (if z = 0 then 0 else 1) else 1) else 1
theorem own_fh1 (la : List Int32) (h : ¬ fh la = 0) : fh la = 1 := by unfold fh at *; split <;> simp_all
theorem own_rf {s : State} {args : Array Value} {C n d : String} (h1 : (Jvm.Cond.isRef (Term.static C n d)).value args s none s [] = some true) (hi : (Jvm.Cond.initializedFor C n d).before args s = true) : ∃ v : Value, Sta s s.heap C n d v ∧ (v = .null ∨ ∃ z, v = .ref z) := by
  simp only [Cond.value] at h1
  cases ht : (Term.static C n d).eval args s none [] s with
  | none => simp [ht] at h1
  | some x =>
    refine ⟨x, Sta.start ht (Or.inl hi), ?_⟩
    cases x <;> simp [ht] at h1 ⊢
theorem d6_0 : decode jdk_52_method_21_code 0 = .ok (.iconst 0, 1) := by decide +kernel
theorem d6_1 : decode jdk_52_method_21_code 1 = .ok (.istore 5, 2) := by decide +kernel
theorem d6_3 : decode jdk_52_method_21_code 3 = .ok (.iload 5, 2) := by decide +kernel
theorem d6_5 : decode jdk_52_method_21_code 5 = .ok (.iload 4, 2) := by decide +kernel
theorem d6_7 : decode jdk_52_method_21_code 7 = .ok (.if_icmp .ge 37, 3) := by decide +kernel
theorem d6_10 : decode jdk_52_method_21_code 10 = .ok (.aload_n 0, 1) := by decide +kernel
theorem d6_11 : decode jdk_52_method_21_code 11 = .ok (.iload_n 1, 1) := by decide +kernel
theorem d6_12 : decode jdk_52_method_21_code 12 = .ok (.caload, 1) := by decide +kernel
theorem d6_13 : decode jdk_52_method_21_code 13 = .ok (.istore 6, 2) := by decide +kernel
theorem d6_15 : decode jdk_52_method_21_code 15 = .ok (.iload 6, 2) := by decide +kernel
theorem d6_17 : decode jdk_52_method_21_code 17 = .ok (.sipush 255, 3) := by decide +kernel
theorem d6_20 : decode jdk_52_method_21_code 20 = .ok (.if_icmp .le 6, 3) := by decide +kernel
theorem d6_26 : decode jdk_52_method_21_code 26 = .ok (.aload_n 2, 1) := by decide +kernel
theorem d6_27 : decode jdk_52_method_21_code 27 = .ok (.iload_n 3, 1) := by decide +kernel
theorem d6_28 : decode jdk_52_method_21_code 28 = .ok (.iload 6, 2) := by decide +kernel
theorem d6_30 : decode jdk_52_method_21_code 30 = .ok (.i2b, 1) := by decide +kernel
theorem d6_31 : decode jdk_52_method_21_code 31 = .ok (.bastore, 1) := by decide +kernel
theorem d6_32 : decode jdk_52_method_21_code 32 = .ok (.iinc 1 1, 3) := by decide +kernel
theorem d6_35 : decode jdk_52_method_21_code 35 = .ok (.iinc 3 1, 3) := by decide +kernel
theorem d6_38 : decode jdk_52_method_21_code 38 = .ok (.iinc 5 1, 3) := by decide +kernel
theorem d6_41 : decode jdk_52_method_21_code 41 = .ok (.goto (-38), 3) := by decide +kernel
theorem d6_44 : decode jdk_52_method_21_code 44 = .ok (.iload 4, 2) := by decide +kernel
theorem d6_46 : decode jdk_52_method_21_code 46 = .ok (.ireturn, 1) := by decide +kernel
theorem pn_java_lang_StringUTF16 : plainName "java/lang/StringUTF16" = true := by first | (simp [plainName, overriddenIn]; done) | decide +kernel
theorem ef_rm6_5 (m : MethodId) (aa : Addr) (bb : Addr) : entryFrame m #[(.ref aa), (.int 0), (.ref bb), (.int 0), (.int 5)] 7 = mkF m 0 #[.val (.ref aa), .val (.int 0), .val (.ref bb), .val (.int 0), .val (.int 5), .unset, .unset] [] := by first | (simp [entryFrame, mkF, argsToLocals, Value.category]; done) | rfl
def Q6_5 (Z : State) (aa : Addr) (bb : Addr) (ka : ClassId) (kb : ClassId) (ca : Int32) (cb : Int32) (cc : Int32) (cd : Int32) (ce : Int32) (h0 : Heap) (n0 : Nat) (v : Option Value) (h : Heap) (L : List Loc) : Prop := v = some (.int 5) ∧ Fr n0 L ∧ Keep h0 h [bb] ∧ Arv Z h bb kb .byte (5 : Int32) [(.int (nar .byte (ca.toInt8.toInt32))), (.int (nar .byte (cb.toInt8.toInt32))), (.int (nar .byte (cc.toInt8.toInt32))), (.int (nar .byte (cd.toInt8.toInt32))), (.int (nar .byte (ce.toInt8.toInt32)))] (.int 0)
set_option maxRecDepth 65536 in
set_option maxHeartbeats 40000000 in
theorem rm6_5 (l : Launch) (Z : State) (a0 : Array Value) (hw : ∀ d ∈ tables_1, d.before a0 Z = true) (ws : List Jvm.Cond) (aa : Addr) (bb : Addr) (ka : ClassId) (kb : ClassId) (ca : Int32) (cb : Int32) (cc : Int32) (cd : Int32) (ce : Int32) (h0 : Heap) (n0 : Nat) (O0 : Old Z n0 h0) (Va : Arv Z h0 aa ka .char (5 : Int32) [(.int ca), (.int cb), (.int cc), (.int cd), (.int ce)] (.int 0)) (Vb : Arv Z h0 bb kb .byte (5 : Int32) [(.int 0), (.int 0), (.int 0), (.int 0), (.int 0)] (.int 0)) (q_ca : ¬ (255 : Int32) < ca) (q_cb : ¬ (255 : Int32) < cb) (q_cc : ¬ (255 : Int32) < cc) (q_cd : ¬ (255 : Int32) < cd) (q_ce : ¬ (255 : Int32) < ce) (g_b : n0 ≤ bb) (ne_ab : aa ≠ bb) :
  MetFree l mn8 (head1 (Jvm.Cond.code mn8 jdk_52_method_21_code 7 (some .int) :: ws) ({ frames := 0, cells := 0, slots := 0, locals := 0 } : Room)) (fun ay U => ay = #[(.ref aa), (.int 0), (.ref bb), (.int 0), (.int 5)] ∧ Z.Warmed39 U.vm ∧ U.heap = h0) (fun _ _ _ _ _ => True) (fun _ U o U' => ∃ v L, o = .returned v ∧ Q6_5 Z aa bb ka kb ca cb cc cd ce h0 n0 v U'.heap L ∧ FrameEnd U o U' L ({ frames := 0, cells := 0, slots := 0, locals := 0 } : Room).cells ({ frames := 0, cells := 0, slots := 0, locals := 0 } : Room).slots) := by
 refine MetFree.of_bodySF (plainFor_of_name pn_java_lang_StringUTF16) hisR ?_
 intro p e s m args below meth c s₁ Bd hml0 hP hK
 obtain ⟨rfl, hZ, hh⟩ := hP
 have hx := Bd.exec
 have hby := Bd.bytes
 have hlk : meth.locks = false := BodyLoose.notSynchronized Bd
 have hml : c.maxLocals = 7 := hml0
 have hown : s.vm.findClass "java/lang/StringUTF16" = some m.cls := findClass_of_methodNamed Bd.named
 have hnm := (name_of_methodNamed Bd.named Bd.method).1
 have X0 : Stand p l e ({ frames := 0, cells := 0, slots := 0, locals := 0 } : Room) s m #[(.ref aa), (.int 0), (.ref bb), (.int 0), (.int 5)] below meth c s₁ [] 0 0 := Stand.of_body Bd
 have e0 : s₁.heap = h0 := by rw [← hh, Bd.state]; rfl
 have N0 := Fr.nil n0
 suffices hgo : Go p e below s 0 0 (Q6_5 Z aa bb ka kb ca cb cc cd ce h0 n0) (s₁.setTop (mkF m 0 #[.val (.ref aa), .val (.int 0), .val (.ref bb), .val (.int 0), .val (.int 5), .unset, .unset] [])) by
  obtain ⟨t, o, h1, h2⟩ := hgo; exact ⟨t, o, castTop (ef_rm6_5 m aa bb) h1, h2⟩
 show Go _ _ _ _ _ _ _ (s₁.setTop (mkF m 0 #[.val (.ref aa), .val (.int 0), .val (.ref bb), .val (.int 0), .val (.int 5), .unset, .unset] []))
 refine Go.st (fun _ => XS.iconst X0.here hx rfl (hb hby d6_0)) ?_
 refine Go.st (fun _ => XS.istore X0.here hx rfl (hb hby d6_1) rfl (l' := #[.val (.ref aa), .val (.int 0), .val (.ref bb), .val (.int 0), .val (.int 5), .val (.int 0), .unset]) rfl) ?_
 refine Go.st (fun _ => XS.iload X0.here hx rfl (hb hby d6_3) rfl) ?_
 refine Go.st (fun _ => XS.iload X0.here hx rfl (hb hby d6_5) rfl) ?_
 show Go _ _ _ _ _ _ _ (s₁.setTop (mkF m 7 #[.val (.ref aa), .val (.int 0), .val (.ref bb), .val (.int 0), .val (.int 5), .val (.int 0), .unset] [(.int 5), (.int 0)]))
 refine Go.st (fun _ => XS.icmpNo X0.here hx rfl (hb hby d6_7) rfl (XT.ii_ge_f (by decide))) ?_
 refine Go.st (fun _ => XS.aloadN X0.here hx rfl (hb hby d6_10) rfl rfl) ?_
 refine Go.st (fun _ => XS.iloadN X0.here hx rfl (hb hby d6_11) rfl) ?_
 show Go _ _ _ _ _ _ _ (s₁.setTop (mkF m 12 #[.val (.ref aa), .val (.int 0), .val (.ref bb), .val (.int 0), .val (.int 5), .val (.int 0), .unset] [(.int 0), (.ref aa)]))
 obtain ⟨cl1, Ar1, qc1, Sz1, Nn1, Ha1, Gf1⟩ := id Va
 refine Go.st (fun _ => X0.caload hx (j := (0 : Int32)) (v := (.int ca)) (by rw [e0]; exact Ar1.1) (State.isArrayOf_alike hZ.alike Ar1.2.1) Ar1.2.2 (inb_of Sz1 ⟨by decide, by decide⟩) (Ha1.at (inb_of Sz1 ⟨by decide, by decide⟩) rfl) (g := (mkF m 12 #[.val (.ref aa), .val (.int 0), .val (.ref bb), .val (.int 0), .val (.int 5), .val (.int 0), .unset] [(.int 0), (.ref aa)])) rfl rfl (hb hby d6_12) _) ?_
 show Go _ _ _ _ _ _ _ (s₁.setTop (mkF m 13 #[.val (.ref aa), .val (.int 0), .val (.ref bb), .val (.int 0), .val (.int 5), .val (.int 0), .unset] [(.int ca)]))
 refine Go.st (fun _ => XS.istore X0.here hx rfl (hb hby d6_13) rfl (l' := #[.val (.ref aa), .val (.int 0), .val (.ref bb), .val (.int 0), .val (.int 5), .val (.int 0), .val (.int ca)]) rfl) ?_
 refine Go.st (fun _ => XS.iload X0.here hx rfl (hb hby d6_15) rfl) ?_
 refine Go.st (fun _ => XS.sipush X0.here hx rfl (hb hby d6_17)) ?_
 show Go _ _ _ _ _ _ _ (s₁.setTop (mkF m 20 #[.val (.ref aa), .val (.int 0), .val (.ref bb), .val (.int 0), .val (.int 5), .val (.int 0), .val (.int ca)] [(.int 255), (.int ca)]))
 refine Go.st (fun _ => XS.icmpYes X0.here hx rfl (pc0 := 20) (pc' := 26) rfl (hb hby d6_20) rfl (XT.ii_le_t q_ca) (by decide) (by decide)) ?_
 refine Go.st (fun _ => XS.aloadN X0.here hx rfl (hb hby d6_26) rfl rfl) ?_
 refine Go.st (fun _ => XS.iloadN X0.here hx rfl (hb hby d6_27) rfl) ?_
 refine Go.st (fun _ => XS.iload X0.here hx rfl (hb hby d6_28) rfl) ?_
 refine Go.st (fun _ => XS.i2b X0.here hx rfl (hb hby d6_30) rfl) ?_
 obtain ⟨cl2, Ar2, qc2, Sz2, Nn2, Ha2, Gf2⟩ := id Vb
 obtain ⟨T2, h2, X2, e2, W2, st2⟩ := stB X0 hx hZ e0 Ar2 (j := (0 : Int32)) (inb_of Sz2 ⟨by decide, by decide⟩) (g := (mkF m 31 #[.val (.ref aa), .val (.int 0), .val (.ref bb), .val (.int 0), .val (.int 5), .val (.int 0), .val (.int ca)] [(.int (ca.toInt8.toInt32)), (.int 0), (.ref bb)])) rfl rfl (hb hby d6_31)
 refine Go.st st2 ?_
 have f4 := Va.other W2 ne_ab
 have O2 := O0.wr W2 g_b
 have N2 := Fr.snoc X2 N0 g_b
 have K2 : Keep h0 h2 [bb] := (Keep.refl h0 [bb]).wr W2 (Or.inl (by simp))
 have f3 : Arv Z h2 bb kb .byte (5 : Int32) [(.int (nar .byte (ca.toInt8.toInt32))), (.int 0), (.int 0), (.int 0), (.int 0)] (.int 0) := Arv.set Ar2 qc2 Sz2 Nn2 Ha2 Gf2 (fits_nar_byte _) W2 0 rfl (Nat.le_of_ble_eq_true rfl)
 refine Go.st (fun _ => XS.iinc X2.here hx rfl (hb hby d6_32) rfl (l' := #[.val (.ref aa), .val (.int 1), .val (.ref bb), .val (.int 0), .val (.int 5), .val (.int 0), .val (.int ca)]) rfl) ?_
 refine Go.st (fun _ => XS.iinc X2.here hx rfl (hb hby d6_35) rfl (l' := #[.val (.ref aa), .val (.int 1), .val (.ref bb), .val (.int 1), .val (.int 5), .val (.int 0), .val (.int ca)]) rfl) ?_
 refine Go.st (fun _ => XS.iinc X2.here hx rfl (hb hby d6_38) rfl (l' := #[.val (.ref aa), .val (.int 1), .val (.ref bb), .val (.int 1), .val (.int 5), .val (.int 1), .val (.int ca)]) rfl) ?_
 show Go _ _ _ _ _ _ _ (T2.setTop (mkF m 41 #[.val (.ref aa), .val (.int 1), .val (.ref bb), .val (.int 1), .val (.int 5), .val (.int 1), .val (.int ca)] []))
 refine Go.st (fun _ => XS.goto X2.here hx rfl (pc0 := 41) (pc' := 3) rfl (hb hby d6_41) (by decide) (by decide)) ?_
 show Go _ _ _ _ _ _ _ (T2.setTop (mkF m 3 #[.val (.ref aa), .val (.int 1), .val (.ref bb), .val (.int 1), .val (.int 5), .val (.int 1), .val (.int ca)] []))
 refine Go.st (fun _ => XS.iload X2.here hx rfl (hb hby d6_3) rfl) ?_
 refine Go.st (fun _ => XS.iload X2.here hx rfl (hb hby d6_5) rfl) ?_
 show Go _ _ _ _ _ _ _ (T2.setTop (mkF m 7 #[.val (.ref aa), .val (.int 1), .val (.ref bb), .val (.int 1), .val (.int 5), .val (.int 1), .val (.int ca)] [(.int 5), (.int 1)]))
 refine Go.st (fun _ => XS.icmpNo X2.here hx rfl (hb hby d6_7) rfl (XT.ii_ge_f (by decide))) ?_
 refine Go.st (fun _ => XS.aloadN X2.here hx rfl (hb hby d6_10) rfl rfl) ?_
 refine Go.st (fun _ => XS.iloadN X2.here hx rfl (hb hby d6_11) rfl) ?_
 show Go _ _ _ _ _ _ _ (T2.setTop (mkF m 12 #[.val (.ref aa), .val (.int 1), .val (.ref bb), .val (.int 1), .val (.int 5), .val (.int 1), .val (.int ca)] [(.int 1), (.ref aa)]))
 obtain ⟨cl5, Ar5, qc5, Sz5, Nn5, Ha5, Gf5⟩ := id f4
 refine Go.st (fun _ => X2.caload hx (j := (1 : Int32)) (v := (.int cb)) (by rw [e2]; exact Ar5.1) (State.isArrayOf_alike hZ.alike Ar5.2.1) Ar5.2.2 (inb_of Sz5 ⟨by decide, by decide⟩) (Ha5.at (inb_of Sz5 ⟨by decide, by decide⟩) rfl) (g := (mkF m 12 #[.val (.ref aa), .val (.int 1), .val (.ref bb), .val (.int 1), .val (.int 5), .val (.int 1), .val (.int ca)] [(.int 1), (.ref aa)])) rfl rfl (hb hby d6_12) _) ?_
 show Go _ _ _ _ _ _ _ (T2.setTop (mkF m 13 #[.val (.ref aa), .val (.int 1), .val (.ref bb), .val (.int 1), .val (.int 5), .val (.int 1), .val (.int ca)] [(.int cb)]))
 refine Go.st (fun _ => XS.istore X2.here hx rfl (hb hby d6_13) rfl (l' := #[.val (.ref aa), .val (.int 1), .val (.ref bb), .val (.int 1), .val (.int 5), .val (.int 1), .val (.int cb)]) rfl) ?_
 refine Go.st (fun _ => XS.iload X2.here hx rfl (hb hby d6_15) rfl) ?_
 refine Go.st (fun _ => XS.sipush X2.here hx rfl (hb hby d6_17)) ?_
 show Go _ _ _ _ _ _ _ (T2.setTop (mkF m 20 #[.val (.ref aa), .val (.int 1), .val (.ref bb), .val (.int 1), .val (.int 5), .val (.int 1), .val (.int cb)] [(.int 255), (.int cb)]))
 refine Go.st (fun _ => XS.icmpYes X2.here hx rfl (pc0 := 20) (pc' := 26) rfl (hb hby d6_20) rfl (XT.ii_le_t q_cb) (by decide) (by decide)) ?_
 refine Go.st (fun _ => XS.aloadN X2.here hx rfl (hb hby d6_26) rfl rfl) ?_
 refine Go.st (fun _ => XS.iloadN X2.here hx rfl (hb hby d6_27) rfl) ?_
 refine Go.st (fun _ => XS.iload X2.here hx rfl (hb hby d6_28) rfl) ?_
 refine Go.st (fun _ => XS.i2b X2.here hx rfl (hb hby d6_30) rfl) ?_
 obtain ⟨cl6, Ar6, qc6, Sz6, Nn6, Ha6, Gf6⟩ := id f3
 obtain ⟨T6, h6, X6, e6, W6, st6⟩ := stB X2 hx hZ e2 Ar6 (j := (1 : Int32)) (inb_of Sz6 ⟨by decide, by decide⟩) (g := (mkF m 31 #[.val (.ref aa), .val (.int 1), .val (.ref bb), .val (.int 1), .val (.int 5), .val (.int 1), .val (.int cb)] [(.int (cb.toInt8.toInt32)), (.int 1), (.ref bb)])) rfl rfl (hb hby d6_31)
 refine Go.st st6 ?_
 have f8 := f4.other W6 ne_ab
 have O6 := O2.wr W6 g_b
 have N6 := Fr.snoc X6 N2 g_b
 have K6 : Keep h0 h6 [bb] := K2.wr W6 (Or.inl (by simp))
 have f7 : Arv Z h6 bb kb .byte (5 : Int32) [(.int (nar .byte (ca.toInt8.toInt32))), (.int (nar .byte (cb.toInt8.toInt32))), (.int 0), (.int 0), (.int 0)] (.int 0) := Arv.set Ar6 qc6 Sz6 Nn6 Ha6 Gf6 (fits_nar_byte _) W6 1 rfl (Nat.le_of_ble_eq_true rfl)
 refine Go.st (fun _ => XS.iinc X6.here hx rfl (hb hby d6_32) rfl (l' := #[.val (.ref aa), .val (.int 2), .val (.ref bb), .val (.int 1), .val (.int 5), .val (.int 1), .val (.int cb)]) rfl) ?_
 refine Go.st (fun _ => XS.iinc X6.here hx rfl (hb hby d6_35) rfl (l' := #[.val (.ref aa), .val (.int 2), .val (.ref bb), .val (.int 2), .val (.int 5), .val (.int 1), .val (.int cb)]) rfl) ?_
 refine Go.st (fun _ => XS.iinc X6.here hx rfl (hb hby d6_38) rfl (l' := #[.val (.ref aa), .val (.int 2), .val (.ref bb), .val (.int 2), .val (.int 5), .val (.int 2), .val (.int cb)]) rfl) ?_
 show Go _ _ _ _ _ _ _ (T6.setTop (mkF m 41 #[.val (.ref aa), .val (.int 2), .val (.ref bb), .val (.int 2), .val (.int 5), .val (.int 2), .val (.int cb)] []))
 refine Go.st (fun _ => XS.goto X6.here hx rfl (pc0 := 41) (pc' := 3) rfl (hb hby d6_41) (by decide) (by decide)) ?_
 show Go _ _ _ _ _ _ _ (T6.setTop (mkF m 3 #[.val (.ref aa), .val (.int 2), .val (.ref bb), .val (.int 2), .val (.int 5), .val (.int 2), .val (.int cb)] []))
 refine Go.st (fun _ => XS.iload X6.here hx rfl (hb hby d6_3) rfl) ?_
 refine Go.st (fun _ => XS.iload X6.here hx rfl (hb hby d6_5) rfl) ?_
 show Go _ _ _ _ _ _ _ (T6.setTop (mkF m 7 #[.val (.ref aa), .val (.int 2), .val (.ref bb), .val (.int 2), .val (.int 5), .val (.int 2), .val (.int cb)] [(.int 5), (.int 2)]))
 refine Go.st (fun _ => XS.icmpNo X6.here hx rfl (hb hby d6_7) rfl (XT.ii_ge_f (by decide))) ?_
 refine Go.st (fun _ => XS.aloadN X6.here hx rfl (hb hby d6_10) rfl rfl) ?_
 refine Go.st (fun _ => XS.iloadN X6.here hx rfl (hb hby d6_11) rfl) ?_
 show Go _ _ _ _ _ _ _ (T6.setTop (mkF m 12 #[.val (.ref aa), .val (.int 2), .val (.ref bb), .val (.int 2), .val (.int 5), .val (.int 2), .val (.int cb)] [(.int 2), (.ref aa)]))
 obtain ⟨cl9, Ar9, qc9, Sz9, Nn9, Ha9, Gf9⟩ := id f8
 refine Go.st (fun _ => X6.caload hx (j := (2 : Int32)) (v := (.int cc)) (by rw [e6]; exact Ar9.1) (State.isArrayOf_alike hZ.alike Ar9.2.1) Ar9.2.2 (inb_of Sz9 ⟨by decide, by decide⟩) (Ha9.at (inb_of Sz9 ⟨by decide, by decide⟩) rfl) (g := (mkF m 12 #[.val (.ref aa), .val (.int 2), .val (.ref bb), .val (.int 2), .val (.int 5), .val (.int 2), .val (.int cb)] [(.int 2), (.ref aa)])) rfl rfl (hb hby d6_12) _) ?_
 show Go _ _ _ _ _ _ _ (T6.setTop (mkF m 13 #[.val (.ref aa), .val (.int 2), .val (.ref bb), .val (.int 2), .val (.int 5), .val (.int 2), .val (.int cb)] [(.int cc)]))
 refine Go.st (fun _ => XS.istore X6.here hx rfl (hb hby d6_13) rfl (l' := #[.val (.ref aa), .val (.int 2), .val (.ref bb), .val (.int 2), .val (.int 5), .val (.int 2), .val (.int cc)]) rfl) ?_
 refine Go.st (fun _ => XS.iload X6.here hx rfl (hb hby d6_15) rfl) ?_
 refine Go.st (fun _ => XS.sipush X6.here hx rfl (hb hby d6_17)) ?_
 show Go _ _ _ _ _ _ _ (T6.setTop (mkF m 20 #[.val (.ref aa), .val (.int 2), .val (.ref bb), .val (.int 2), .val (.int 5), .val (.int 2), .val (.int cc)] [(.int 255), (.int cc)]))
 refine Go.st (fun _ => XS.icmpYes X6.here hx rfl (pc0 := 20) (pc' := 26) rfl (hb hby d6_20) rfl (XT.ii_le_t q_cc) (by decide) (by decide)) ?_
 refine Go.st (fun _ => XS.aloadN X6.here hx rfl (hb hby d6_26) rfl rfl) ?_
 refine Go.st (fun _ => XS.iloadN X6.here hx rfl (hb hby d6_27) rfl) ?_
 refine Go.st (fun _ => XS.iload X6.here hx rfl (hb hby d6_28) rfl) ?_
 refine Go.st (fun _ => XS.i2b X6.here hx rfl (hb hby d6_30) rfl) ?_
 obtain ⟨cl10, Ar10, qc10, Sz10, Nn10, Ha10, Gf10⟩ := id f7
 obtain ⟨T10, h10, X10, e10, W10, st10⟩ := stB X6 hx hZ e6 Ar10 (j := (2 : Int32)) (inb_of Sz10 ⟨by decide, by decide⟩) (g := (mkF m 31 #[.val (.ref aa), .val (.int 2), .val (.ref bb), .val (.int 2), .val (.int 5), .val (.int 2), .val (.int cc)] [(.int (cc.toInt8.toInt32)), (.int 2), (.ref bb)])) rfl rfl (hb hby d6_31)
 refine Go.st st10 ?_
 have f12 := f8.other W10 ne_ab
 have O10 := O6.wr W10 g_b
 have N10 := Fr.snoc X10 N6 g_b
 have K10 : Keep h0 h10 [bb] := K6.wr W10 (Or.inl (by simp))
 have f11 : Arv Z h10 bb kb .byte (5 : Int32) [(.int (nar .byte (ca.toInt8.toInt32))), (.int (nar .byte (cb.toInt8.toInt32))), (.int (nar .byte (cc.toInt8.toInt32))), (.int 0), (.int 0)] (.int 0) := Arv.set Ar10 qc10 Sz10 Nn10 Ha10 Gf10 (fits_nar_byte _) W10 2 rfl (Nat.le_of_ble_eq_true rfl)
 refine Go.st (fun _ => XS.iinc X10.here hx rfl (hb hby d6_32) rfl (l' := #[.val (.ref aa), .val (.int 3), .val (.ref bb), .val (.int 2), .val (.int 5), .val (.int 2), .val (.int cc)]) rfl) ?_
 refine Go.st (fun _ => XS.iinc X10.here hx rfl (hb hby d6_35) rfl (l' := #[.val (.ref aa), .val (.int 3), .val (.ref bb), .val (.int 3), .val (.int 5), .val (.int 2), .val (.int cc)]) rfl) ?_
 refine Go.st (fun _ => XS.iinc X10.here hx rfl (hb hby d6_38) rfl (l' := #[.val (.ref aa), .val (.int 3), .val (.ref bb), .val (.int 3), .val (.int 5), .val (.int 3), .val (.int cc)]) rfl) ?_
 show Go _ _ _ _ _ _ _ (T10.setTop (mkF m 41 #[.val (.ref aa), .val (.int 3), .val (.ref bb), .val (.int 3), .val (.int 5), .val (.int 3), .val (.int cc)] []))
 refine Go.st (fun _ => XS.goto X10.here hx rfl (pc0 := 41) (pc' := 3) rfl (hb hby d6_41) (by decide) (by decide)) ?_
 show Go _ _ _ _ _ _ _ (T10.setTop (mkF m 3 #[.val (.ref aa), .val (.int 3), .val (.ref bb), .val (.int 3), .val (.int 5), .val (.int 3), .val (.int cc)] []))
 refine Go.st (fun _ => XS.iload X10.here hx rfl (hb hby d6_3) rfl) ?_
 refine Go.st (fun _ => XS.iload X10.here hx rfl (hb hby d6_5) rfl) ?_
 show Go _ _ _ _ _ _ _ (T10.setTop (mkF m 7 #[.val (.ref aa), .val (.int 3), .val (.ref bb), .val (.int 3), .val (.int 5), .val (.int 3), .val (.int cc)] [(.int 5), (.int 3)]))
 refine Go.st (fun _ => XS.icmpNo X10.here hx rfl (hb hby d6_7) rfl (XT.ii_ge_f (by decide))) ?_
 refine Go.st (fun _ => XS.aloadN X10.here hx rfl (hb hby d6_10) rfl rfl) ?_
 refine Go.st (fun _ => XS.iloadN X10.here hx rfl (hb hby d6_11) rfl) ?_
 show Go _ _ _ _ _ _ _ (T10.setTop (mkF m 12 #[.val (.ref aa), .val (.int 3), .val (.ref bb), .val (.int 3), .val (.int 5), .val (.int 3), .val (.int cc)] [(.int 3), (.ref aa)]))
 obtain ⟨cl13, Ar13, qc13, Sz13, Nn13, Ha13, Gf13⟩ := id f12
 refine Go.st (fun _ => X10.caload hx (j := (3 : Int32)) (v := (.int cd)) (by rw [e10]; exact Ar13.1) (State.isArrayOf_alike hZ.alike Ar13.2.1) Ar13.2.2 (inb_of Sz13 ⟨by decide, by decide⟩) (Ha13.at (inb_of Sz13 ⟨by decide, by decide⟩) rfl) (g := (mkF m 12 #[.val (.ref aa), .val (.int 3), .val (.ref bb), .val (.int 3), .val (.int 5), .val (.int 3), .val (.int cc)] [(.int 3), (.ref aa)])) rfl rfl (hb hby d6_12) _) ?_
 show Go _ _ _ _ _ _ _ (T10.setTop (mkF m 13 #[.val (.ref aa), .val (.int 3), .val (.ref bb), .val (.int 3), .val (.int 5), .val (.int 3), .val (.int cc)] [(.int cd)]))
 refine Go.st (fun _ => XS.istore X10.here hx rfl (hb hby d6_13) rfl (l' := #[.val (.ref aa), .val (.int 3), .val (.ref bb), .val (.int 3), .val (.int 5), .val (.int 3), .val (.int cd)]) rfl) ?_
 refine Go.st (fun _ => XS.iload X10.here hx rfl (hb hby d6_15) rfl) ?_
 refine Go.st (fun _ => XS.sipush X10.here hx rfl (hb hby d6_17)) ?_
 show Go _ _ _ _ _ _ _ (T10.setTop (mkF m 20 #[.val (.ref aa), .val (.int 3), .val (.ref bb), .val (.int 3), .val (.int 5), .val (.int 3), .val (.int cd)] [(.int 255), (.int cd)]))
 refine Go.st (fun _ => XS.icmpYes X10.here hx rfl (pc0 := 20) (pc' := 26) rfl (hb hby d6_20) rfl (XT.ii_le_t q_cd) (by decide) (by decide)) ?_
 refine Go.st (fun _ => XS.aloadN X10.here hx rfl (hb hby d6_26) rfl rfl) ?_
 refine Go.st (fun _ => XS.iloadN X10.here hx rfl (hb hby d6_27) rfl) ?_
 refine Go.st (fun _ => XS.iload X10.here hx rfl (hb hby d6_28) rfl) ?_
 refine Go.st (fun _ => XS.i2b X10.here hx rfl (hb hby d6_30) rfl) ?_
 obtain ⟨cl14, Ar14, qc14, Sz14, Nn14, Ha14, Gf14⟩ := id f11
 obtain ⟨T14, h14, X14, e14, W14, st14⟩ := stB X10 hx hZ e10 Ar14 (j := (3 : Int32)) (inb_of Sz14 ⟨by decide, by decide⟩) (g := (mkF m 31 #[.val (.ref aa), .val (.int 3), .val (.ref bb), .val (.int 3), .val (.int 5), .val (.int 3), .val (.int cd)] [(.int (cd.toInt8.toInt32)), (.int 3), (.ref bb)])) rfl rfl (hb hby d6_31)
 refine Go.st st14 ?_
 have f16 := f12.other W14 ne_ab
 have O14 := O10.wr W14 g_b
 have N14 := Fr.snoc X14 N10 g_b
 have K14 : Keep h0 h14 [bb] := K10.wr W14 (Or.inl (by simp))
 have f15 : Arv Z h14 bb kb .byte (5 : Int32) [(.int (nar .byte (ca.toInt8.toInt32))), (.int (nar .byte (cb.toInt8.toInt32))), (.int (nar .byte (cc.toInt8.toInt32))), (.int (nar .byte (cd.toInt8.toInt32))), (.int 0)] (.int 0) := Arv.set Ar14 qc14 Sz14 Nn14 Ha14 Gf14 (fits_nar_byte _) W14 3 rfl (Nat.le_of_ble_eq_true rfl)
 refine Go.st (fun _ => XS.iinc X14.here hx rfl (hb hby d6_32) rfl (l' := #[.val (.ref aa), .val (.int 4), .val (.ref bb), .val (.int 3), .val (.int 5), .val (.int 3), .val (.int cd)]) rfl) ?_
 refine Go.st (fun _ => XS.iinc X14.here hx rfl (hb hby d6_35) rfl (l' := #[.val (.ref aa), .val (.int 4), .val (.ref bb), .val (.int 4), .val (.int 5), .val (.int 3), .val (.int cd)]) rfl) ?_
 refine Go.st (fun _ => XS.iinc X14.here hx rfl (hb hby d6_38) rfl (l' := #[.val (.ref aa), .val (.int 4), .val (.ref bb), .val (.int 4), .val (.int 5), .val (.int 4), .val (.int cd)]) rfl) ?_
 show Go _ _ _ _ _ _ _ (T14.setTop (mkF m 41 #[.val (.ref aa), .val (.int 4), .val (.ref bb), .val (.int 4), .val (.int 5), .val (.int 4), .val (.int cd)] []))
 refine Go.st (fun _ => XS.goto X14.here hx rfl (pc0 := 41) (pc' := 3) rfl (hb hby d6_41) (by decide) (by decide)) ?_
 show Go _ _ _ _ _ _ _ (T14.setTop (mkF m 3 #[.val (.ref aa), .val (.int 4), .val (.ref bb), .val (.int 4), .val (.int 5), .val (.int 4), .val (.int cd)] []))
 refine Go.st (fun _ => XS.iload X14.here hx rfl (hb hby d6_3) rfl) ?_
 refine Go.st (fun _ => XS.iload X14.here hx rfl (hb hby d6_5) rfl) ?_
 show Go _ _ _ _ _ _ _ (T14.setTop (mkF m 7 #[.val (.ref aa), .val (.int 4), .val (.ref bb), .val (.int 4), .val (.int 5), .val (.int 4), .val (.int cd)] [(.int 5), (.int 4)]))
 refine Go.st (fun _ => XS.icmpNo X14.here hx rfl (hb hby d6_7) rfl (XT.ii_ge_f (by decide))) ?_
 refine Go.st (fun _ => XS.aloadN X14.here hx rfl (hb hby d6_10) rfl rfl) ?_
 refine Go.st (fun _ => XS.iloadN X14.here hx rfl (hb hby d6_11) rfl) ?_
 show Go _ _ _ _ _ _ _ (T14.setTop (mkF m 12 #[.val (.ref aa), .val (.int 4), .val (.ref bb), .val (.int 4), .val (.int 5), .val (.int 4), .val (.int cd)] [(.int 4), (.ref aa)]))
 obtain ⟨cl17, Ar17, qc17, Sz17, Nn17, Ha17, Gf17⟩ := id f16
 refine Go.st (fun _ => X14.caload hx (j := (4 : Int32)) (v := (.int ce)) (by rw [e14]; exact Ar17.1) (State.isArrayOf_alike hZ.alike Ar17.2.1) Ar17.2.2 (inb_of Sz17 ⟨by decide, by decide⟩) (Ha17.at (inb_of Sz17 ⟨by decide, by decide⟩) rfl) (g := (mkF m 12 #[.val (.ref aa), .val (.int 4), .val (.ref bb), .val (.int 4), .val (.int 5), .val (.int 4), .val (.int cd)] [(.int 4), (.ref aa)])) rfl rfl (hb hby d6_12) _) ?_
 show Go _ _ _ _ _ _ _ (T14.setTop (mkF m 13 #[.val (.ref aa), .val (.int 4), .val (.ref bb), .val (.int 4), .val (.int 5), .val (.int 4), .val (.int cd)] [(.int ce)]))
 refine Go.st (fun _ => XS.istore X14.here hx rfl (hb hby d6_13) rfl (l' := #[.val (.ref aa), .val (.int 4), .val (.ref bb), .val (.int 4), .val (.int 5), .val (.int 4), .val (.int ce)]) rfl) ?_
 refine Go.st (fun _ => XS.iload X14.here hx rfl (hb hby d6_15) rfl) ?_
 refine Go.st (fun _ => XS.sipush X14.here hx rfl (hb hby d6_17)) ?_
 show Go _ _ _ _ _ _ _ (T14.setTop (mkF m 20 #[.val (.ref aa), .val (.int 4), .val (.ref bb), .val (.int 4), .val (.int 5), .val (.int 4), .val (.int ce)] [(.int 255), (.int ce)]))
 refine Go.st (fun _ => XS.icmpYes X14.here hx rfl (pc0 := 20) (pc' := 26) rfl (hb hby d6_20) rfl (XT.ii_le_t q_ce) (by decide) (by decide)) ?_
 refine Go.st (fun _ => XS.aloadN X14.here hx rfl (hb hby d6_26) rfl rfl) ?_
 refine Go.st (fun _ => XS.iloadN X14.here hx rfl (hb hby d6_27) rfl) ?_
 refine Go.st (fun _ => XS.iload X14.here hx rfl (hb hby d6_28) rfl) ?_
 refine Go.st (fun _ => XS.i2b X14.here hx rfl (hb hby d6_30) rfl) ?_
 obtain ⟨cl18, Ar18, qc18, Sz18, Nn18, Ha18, Gf18⟩ := id f15
 obtain ⟨T18, h18, X18, e18, W18, st18⟩ := stB X14 hx hZ e14 Ar18 (j := (4 : Int32)) (inb_of Sz18 ⟨by decide, by decide⟩) (g := (mkF m 31 #[.val (.ref aa), .val (.int 4), .val (.ref bb), .val (.int 4), .val (.int 5), .val (.int 4), .val (.int ce)] [(.int (ce.toInt8.toInt32)), (.int 4), (.ref bb)])) rfl rfl (hb hby d6_31)
 refine Go.st st18 ?_
 have f20 := f16.other W18 ne_ab
 have O18 := O14.wr W18 g_b
 have N18 := Fr.snoc X18 N14 g_b
 have K18 : Keep h0 h18 [bb] := K14.wr W18 (Or.inl (by simp))
 have f19 : Arv Z h18 bb kb .byte (5 : Int32) [(.int (nar .byte (ca.toInt8.toInt32))), (.int (nar .byte (cb.toInt8.toInt32))), (.int (nar .byte (cc.toInt8.toInt32))), (.int (nar .byte (cd.toInt8.toInt32))), (.int (nar .byte (ce.toInt8.toInt32)))] (.int 0) := Arv.set Ar18 qc18 Sz18 Nn18 Ha18 Gf18 (fits_nar_byte _) W18 4 rfl (Nat.le_of_ble_eq_true rfl)
 refine Go.st (fun _ => XS.iinc X18.here hx rfl (hb hby d6_32) rfl (l' := #[.val (.ref aa), .val (.int 5), .val (.ref bb), .val (.int 4), .val (.int 5), .val (.int 4), .val (.int ce)]) rfl) ?_
 refine Go.st (fun _ => XS.iinc X18.here hx rfl (hb hby d6_35) rfl (l' := #[.val (.ref aa), .val (.int 5), .val (.ref bb), .val (.int 5), .val (.int 5), .val (.int 4), .val (.int ce)]) rfl) ?_
 refine Go.st (fun _ => XS.iinc X18.here hx rfl (hb hby d6_38) rfl (l' := #[.val (.ref aa), .val (.int 5), .val (.ref bb), .val (.int 5), .val (.int 5), .val (.int 5), .val (.int ce)]) rfl) ?_
 show Go _ _ _ _ _ _ _ (T18.setTop (mkF m 41 #[.val (.ref aa), .val (.int 5), .val (.ref bb), .val (.int 5), .val (.int 5), .val (.int 5), .val (.int ce)] []))
 refine Go.st (fun _ => XS.goto X18.here hx rfl (pc0 := 41) (pc' := 3) rfl (hb hby d6_41) (by decide) (by decide)) ?_
 show Go _ _ _ _ _ _ _ (T18.setTop (mkF m 3 #[.val (.ref aa), .val (.int 5), .val (.ref bb), .val (.int 5), .val (.int 5), .val (.int 5), .val (.int ce)] []))
 refine Go.st (fun _ => XS.iload X18.here hx rfl (hb hby d6_3) rfl) ?_
 refine Go.st (fun _ => XS.iload X18.here hx rfl (hb hby d6_5) rfl) ?_
 show Go _ _ _ _ _ _ _ (T18.setTop (mkF m 7 #[.val (.ref aa), .val (.int 5), .val (.ref bb), .val (.int 5), .val (.int 5), .val (.int 5), .val (.int ce)] [(.int 5), (.int 5)]))
 refine Go.st (fun _ => XS.icmpYes X18.here hx rfl (pc0 := 7) (pc' := 44) rfl (hb hby d6_7) rfl (XT.ii_ge_t (by decide)) (by decide) (by decide)) ?_
 refine Go.st (fun _ => XS.iload X18.here hx rfl (hb hby d6_44) rfl) ?_
 show Go _ _ _ _ _ _ _ (T18.setTop (mkF m 46 #[.val (.ref aa), .val (.int 5), .val (.ref bb), .val (.int 5), .val (.int 5), .val (.int 5), .val (.int ce)] [(.int 5)]))
 refine Go.ret X18 hx hlk (t := .int) Bd.returns rfl (Or.inl ⟨rfl, Or.inl rfl, _, rfl⟩) (hb hby d6_46) (by decide) (by decide) e18 ?_
 exact ⟨rfl, N18, K18, f19⟩
theorem d5_0 : decode jdk_52_method_16_code 0 = .ok (.iload_n 2, 1) := by decide +kernel
theorem d5_1 : decode jdk_52_method_16_code 1 = .ok (.newarray .byte, 2) := by decide +kernel
theorem d5_3 : decode jdk_52_method_16_code 3 = .ok (.astore_n 3, 1) := by decide +kernel
theorem d5_4 : decode jdk_52_method_16_code 4 = .ok (.aload_n 0, 1) := by decide +kernel
theorem d5_5 : decode jdk_52_method_16_code 5 = .ok (.iload_n 1, 1) := by decide +kernel
theorem d5_6 : decode jdk_52_method_16_code 6 = .ok (.aload_n 3, 1) := by decide +kernel
theorem d5_7 : decode jdk_52_method_16_code 7 = .ok (.iconst 0, 1) := by decide +kernel
theorem d5_8 : decode jdk_52_method_16_code 8 = .ok (.iload_n 2, 1) := by decide +kernel
theorem pd___CI_BII_I : parseMethodDescriptor "([CI[BII)I" = some ⟨[(.array .char), .int, (.array .byte), .int, .int], some .int⟩ := by decide +kernel
theorem d5_9 : decode jdk_52_method_16_code 9 = .ok (.invokestatic 115, 3) := by decide +kernel
theorem d5_12 : decode jdk_52_method_16_code 12 = .ok (.istore 4, 2) := by decide +kernel
theorem d5_14 : decode jdk_52_method_16_code 14 = .ok (.iload 4, 2) := by decide +kernel
theorem d5_16 : decode jdk_52_method_16_code 16 = .ok (.iload_n 2, 1) := by decide +kernel
theorem d5_17 : decode jdk_52_method_16_code 17 = .ok (.if_icmp .eq 40, 3) := by decide +kernel
theorem d5_57 : decode jdk_52_method_16_code 57 = .ok (.aload_n 3, 1) := by decide +kernel
theorem d5_58 : decode jdk_52_method_16_code 58 = .ok (.areturn, 1) := by decide +kernel
theorem ef_rm5_5 (m : MethodId) (aa : Addr) : entryFrame m #[(.ref aa), (.int 0), (.int 5)] 6 = mkF m 0 #[.val (.ref aa), .val (.int 0), .val (.int 5), .unset, .unset, .unset] [] := by first | (simp [entryFrame, mkF, argsToLocals, Value.category]; done) | rfl
def Q5_5 (Z : State) (aa : Addr) (ka : ClassId) (ca : Int32) (cb : Int32) (cc : Int32) (cd : Int32) (ce : Int32) (h0 : Heap) (n0 : Nat) (v : Option Value) (h : Heap) (L : List Loc) : Prop := ∃ (rr : Addr) (kr : ClassId), v = some (.ref rr) ∧ Fr n0 L ∧ Keep h0 h [] ∧ Arv Z h rr kr .byte (5 : Int32) [(.int (nar .byte (ca.toInt8.toInt32))), (.int (nar .byte (cb.toInt8.toInt32))), (.int (nar .byte (cc.toInt8.toInt32))), (.int (nar .byte (cd.toInt8.toInt32))), (.int (nar .byte (ce.toInt8.toInt32)))] (.int 0) ∧ h0.size ≤ rr
set_option maxRecDepth 65536 in
set_option maxHeartbeats 40000000 in
theorem rm5_5 (l : Launch) (Z : State) (a0 : Array Value) (hw : ∀ d ∈ tables_1, d.before a0 Z = true) (ws : List Jvm.Cond) (aa : Addr) (ka : ClassId) (ca : Int32) (cb : Int32) (cc : Int32) (cd : Int32) (ce : Int32) (h0 : Heap) (n0 : Nat) (O0 : Old Z n0 h0) (Va : Arv Z h0 aa ka .char (5 : Int32) [(.int ca), (.int cb), (.int cc), (.int cd), (.int ce)] (.int 0)) (q_ca : ¬ (255 : Int32) < ca) (q_cb : ¬ (255 : Int32) < cb) (q_cc : ¬ (255 : Int32) < cc) (q_cd : ¬ (255 : Int32) < cd) (q_ce : ¬ (255 : Int32) < ce) :
  MetFree l mn9 (head1 (Jvm.Cond.code mn9 jdk_52_method_16_code 6 (some (.array .byte)) :: ws) ({ frames := 1, cells := 1, slots := 5, locals := 18 } : Room)) (fun ay U => ay = #[(.ref aa), (.int 0), (.int 5)] ∧ Z.Warmed39 U.vm ∧ U.heap = h0) (fun _ _ _ _ _ => True) (fun _ U o U' => ∃ v L, o = .returned v ∧ Q5_5 Z aa ka ca cb cc cd ce h0 n0 v U'.heap L ∧ FrameEnd U o U' L ({ frames := 1, cells := 1, slots := 5, locals := 18 } : Room).cells ({ frames := 1, cells := 1, slots := 5, locals := 18 } : Room).slots) := by
 refine MetFree.of_bodySF (plainFor_of_name pn_java_lang_StringUTF16) hisR ?_
 intro p e s m args below meth c s₁ Bd hml0 hP hK
 obtain ⟨rfl, hZ, hh⟩ := hP
 have hx := Bd.exec
 have hby := Bd.bytes
 have hlk : meth.locks = false := BodyLoose.notSynchronized Bd
 have hml : c.maxLocals = 6 := hml0
 have hown : s.vm.findClass "java/lang/StringUTF16" = some m.cls := findClass_of_methodNamed Bd.named
 have hnm := (name_of_methodNamed Bd.named Bd.method).1
 have X0 : Stand p l e ({ frames := 1, cells := 1, slots := 5, locals := 18 } : Room) s m #[(.ref aa), (.int 0), (.int 5)] below meth c s₁ [] 0 0 := Stand.of_body Bd
 have e0 : s₁.heap = h0 := by rw [← hh, Bd.state]; rfl
 have N0 := Fr.nil n0
 suffices hgo : Go p e below s 1 5 (Q5_5 Z aa ka ca cb cc cd ce h0 n0) (s₁.setTop (mkF m 0 #[.val (.ref aa), .val (.int 0), .val (.int 5), .unset, .unset, .unset] [])) by
  obtain ⟨t, o, h1, h2⟩ := hgo; exact ⟨t, o, castTop (ef_rm5_5 m aa) h1, h2⟩
 show Go _ _ _ _ _ _ _ (s₁.setTop (mkF m 0 #[.val (.ref aa), .val (.int 0), .val (.int 5), .unset, .unset, .unset] []))
 refine Go.st (fun _ => XS.iloadN X0.here hx rfl (hb hby d5_0) rfl) ?_
 obtain ⟨T1, h1, k1, X1, e1, E1, A1, st1⟩ := newP X0 hx hZ (wdx hw 28 rfl) e0 (g := (mkF m 1 #[.val (.ref aa), .val (.int 0), .val (.int 5), .unset, .unset, .unset] [(.int 5)])) rfl (hb hby d5_1) rfl (by decide) (cap := 5) (by decide) (by decide) (by decide) (by decide)
 obtain ⟨b1, g1⟩ : ∃ z, z = h0.size := ⟨_, rfl⟩
 rw [← g1] at A1 st1
 refine Go.st st1 ?_
 have g_b1 : n0 ≤ b1 := Nat.le_trans (own_le O0) (Nat.le_of_eq g1.symm)
 have z_b1 : h0.size ≤ b1 := Nat.le_of_eq g1.symm
 have ne2 : aa ≠ b1 := Nat.ne_of_lt (Nat.lt_of_lt_of_le Va.lt (Nat.le_of_eq g1.symm))
 have f3 := Va.ext E1
 have O1 := O0.ext E1
 have K1 : Keep h0 h1 [] := (Keep.refl h0 []).ext E1
 have f4 : Arv Z h1 b1 k1 .byte (5 : Int32) [(.int 0), (.int 0), (.int 0), (.int 0), (.int 0)] (.int 0) := (Arv.new A1 (by decide)).pad (pad_rep [] (.int 0) 5)
 show Go _ _ _ _ _ _ _ (T1.setTop (mkF m 3 #[.val (.ref aa), .val (.int 0), .val (.int 5), .unset, .unset, .unset] [(.ref b1)]))
 refine Go.st (fun _ => XS.astoreN X1.here hx rfl (hb hby d5_3) rfl rfl (l' := #[.val (.ref aa), .val (.int 0), .val (.int 5), .val (.ref b1), .unset, .unset]) rfl) ?_
 refine Go.st (fun _ => XS.aloadN X1.here hx rfl (hb hby d5_4) rfl rfl) ?_
 refine Go.st (fun _ => XS.iloadN X1.here hx rfl (hb hby d5_5) rfl) ?_
 refine Go.st (fun _ => XS.aloadN X1.here hx rfl (hb hby d5_6) rfl rfl) ?_
 refine Go.st (fun _ => XS.iconst X1.here hx rfl (hb hby d5_7)) ?_
 refine Go.st (fun _ => XS.iloadN X1.here hx rfl (hb hby d5_8) rfl) ?_
 show Go _ _ _ _ _ _ _ (T1.setTop (mkF m 9 #[.val (.ref aa), .val (.int 0), .val (.int 5), .val (.ref b1), .unset, .unset] [(.int 5), (.int 0), (.ref b1), (.int 0), (.ref aa)]))
 obtain ⟨_, _, ⟨T5, L5, k5, n5⟩, -, X5, ⟨Lc5, hQ5, l5, y5, z5⟩, st5⟩ := Jvm.LawKit.callS X1 hx (y := mn8) hown (mvT hZ (wdx hw 29 rfl)) (mvT hZ (wdx hw 30 rfl)) (mvT hZ (wdx hw 26 rfl)) (mvT hZ (wdx hw 31 rfl)) (by decide) (backOf (W := 0) (rm6_5 l Z a0 hw [] aa b1 ka k1 ca cb cc cd ce h1 n0 O1 f3 f4 q_ca q_cb q_cc q_cd q_ce g_b1 ne2) hZ (wdx hw 31 rfl) (wdx hw 26 rfl) (by decide) (by decide)) (g := (mkF m 9 #[.val (.ref aa), .val (.int 0), .val (.int 5), .val (.ref b1), .unset, .unset] [(.int 5), (.int 0), (.ref b1), (.int 0), (.ref aa)])) rfl (by rw [hml]; rfl) (argsL := [(.ref aa), (.int 0), (.ref b1), (.int 0), (.int 5)]) (rest := []) (lenOf pd___CI_BII_I rfl) rfl (by show 2 * 0 + _ ≤ _; exact Nat.le_of_eq rfl) (hb hby d5_9) (fun _ _ => ⟨rfl, e1, (by exact lee rfl), (by exact lee rfl)⟩)
 dsimp only [Pt.U, Pt.locs, Pt.cells, Pt.slots] at X5 l5 y5 z5 st5 hQ5
 subst l5 y5 z5
 obtain ⟨rfl, Nq5, Kq5, f6⟩ := hQ5
 have N5 := Fr.app N0 Nq5
 refine Go.st st5 ?_
 have f7 := f3.keep Kq5 (ninS ne2 nin0)
 have O5 := O1.keep Kq5 (allS g_b1 all0)
 have K5 : Keep h0 T5.heap [] := K1.trans Kq5 (allS (Or.inr z_b1) all0)
 show Go _ _ _ _ _ _ _ (T5.setTop (mkF m 12 #[.val (.ref aa), .val (.int 0), .val (.int 5), .val (.ref b1), .unset, .unset] [(.int 5)]))
 refine Go.st (fun _ => XS.istore X5.here hx rfl (hb hby d5_12) rfl (l' := #[.val (.ref aa), .val (.int 0), .val (.int 5), .val (.ref b1), .val (.int 5), .unset]) rfl) ?_
 refine Go.st (fun _ => XS.iload X5.here hx rfl (hb hby d5_14) rfl) ?_
 refine Go.st (fun _ => XS.iloadN X5.here hx rfl (hb hby d5_16) rfl) ?_
 show Go _ _ _ _ _ _ _ (T5.setTop (mkF m 17 #[.val (.ref aa), .val (.int 0), .val (.int 5), .val (.ref b1), .val (.int 5), .unset] [(.int 5), (.int 5)]))
 refine Go.st (fun _ => XS.icmpYes X5.here hx rfl (pc0 := 17) (pc' := 57) rfl (hb hby d5_17) rfl (XT.ii_eq_t (by decide)) (by decide) (by decide)) ?_
 refine Go.st (fun _ => XS.aloadN X5.here hx rfl (hb hby d5_57) rfl rfl) ?_
 show Go _ _ _ _ _ _ _ (T5.setTop (mkF m 58 #[.val (.ref aa), .val (.int 0), .val (.int 5), .val (.ref b1), .val (.int 5), .unset] [(.ref b1)]))
 refine Go.ret X5 hx hlk (t := (.array .byte)) Bd.returns rfl (Or.inr (Or.inr (Or.inr (Or.inr ⟨rfl, rfl, rfl⟩)))) (hb hby d5_58) (by decide) (by decide) rfl ?_
 exact ⟨b1, k1, rfl, N5, K5, f6, z_b1⟩
theorem d7_0 : decode jdk_52_method_15_code 0 = .ok (.iload_n 1, 1) := by decide +kernel
theorem d7_1 : decode jdk_52_method_15_code 1 = .ok (.aload_n 0, 1) := by decide +kernel
theorem d7_2 : decode jdk_52_method_15_code 2 = .ok (.arraylength, 1) := by decide +kernel
theorem d7_3 : decode jdk_52_method_15_code 3 = .ok (.isub, 1) := by decide +kernel
theorem d7_4 : decode jdk_52_method_15_code 4 = .ok (.bipush 31, 2) := by decide +kernel
theorem d7_6 : decode jdk_52_method_15_code 6 = .ok (.iushr, 1) := by decide +kernel
theorem d7_7 : decode jdk_52_method_15_code 7 = .ok (.i2b, 1) := by decide +kernel
theorem d7_8 : decode jdk_52_method_15_code 8 = .ok (.ireturn, 1) := by decide +kernel
theorem ef_rm7_5 (m : MethodId) (bb : Addr) : entryFrame m #[(.ref bb), (.int 5)] 2 = mkF m 0 #[.val (.ref bb), .val (.int 5)] [] := by first | (simp [entryFrame, mkF, argsToLocals, Value.category]; done) | rfl
def Q7_5 (Z : State) (bb : Addr) (kb : ClassId) (ca : Int32) (cb : Int32) (cc : Int32) (cd : Int32) (ce : Int32) (h0 : Heap) (n0 : Nat) (v : Option Value) (h : Heap) (L : List Loc) : Prop := v = some (.int 0) ∧ Fr n0 L ∧ h = h0
set_option maxRecDepth 65536 in
set_option maxHeartbeats 40000000 in
theorem rm7_5 (l : Launch) (Z : State) (a0 : Array Value) (hw : ∀ d ∈ tables_1, d.before a0 Z = true) (ws : List Jvm.Cond) (bb : Addr) (kb : ClassId) (ca : Int32) (cb : Int32) (cc : Int32) (cd : Int32) (ce : Int32) (h0 : Heap) (n0 : Nat) (O0 : Old Z n0 h0) (Vb : Arv Z h0 bb kb .byte (5 : Int32) [(.int ca), (.int cb), (.int cc), (.int cd), (.int ce)] (.int 0)) :
  MetFree l mn10 (head1 (Jvm.Cond.code mn10 jdk_52_method_15_code 2 (some .byte) :: ws) ({ frames := 0, cells := 0, slots := 0, locals := 0 } : Room)) (fun ay U => ay = #[(.ref bb), (.int 5)] ∧ Z.Warmed39 U.vm ∧ U.heap = h0) (fun _ _ _ _ _ => True) (fun _ U o U' => ∃ v L, o = .returned v ∧ Q7_5 Z bb kb ca cb cc cd ce h0 n0 v U'.heap L ∧ FrameEnd U o U' L ({ frames := 0, cells := 0, slots := 0, locals := 0 } : Room).cells ({ frames := 0, cells := 0, slots := 0, locals := 0 } : Room).slots) := by
 refine MetFree.of_bodySF (plainFor_of_name pn_java_lang_StringUTF16) hisR ?_
 intro p e s m args below meth c s₁ Bd hml0 hP hK
 obtain ⟨rfl, hZ, hh⟩ := hP
 have hx := Bd.exec
 have hby := Bd.bytes
 have hlk : meth.locks = false := BodyLoose.notSynchronized Bd
 have hml : c.maxLocals = 2 := hml0
 have hown : s.vm.findClass "java/lang/StringUTF16" = some m.cls := findClass_of_methodNamed Bd.named
 have hnm := (name_of_methodNamed Bd.named Bd.method).1
 have X0 : Stand p l e ({ frames := 0, cells := 0, slots := 0, locals := 0 } : Room) s m #[(.ref bb), (.int 5)] below meth c s₁ [] 0 0 := Stand.of_body Bd
 have e0 : s₁.heap = h0 := by rw [← hh, Bd.state]; rfl
 have N0 := Fr.nil n0
 suffices hgo : Go p e below s 0 0 (Q7_5 Z bb kb ca cb cc cd ce h0 n0) (s₁.setTop (mkF m 0 #[.val (.ref bb), .val (.int 5)] [])) by
  obtain ⟨t, o, h1, h2⟩ := hgo; exact ⟨t, o, castTop (ef_rm7_5 m bb) h1, h2⟩
 show Go _ _ _ _ _ _ _ (s₁.setTop (mkF m 0 #[.val (.ref bb), .val (.int 5)] []))
 refine Go.st (fun _ => XS.iloadN X0.here hx rfl (hb hby d7_0) rfl) ?_
 refine Go.st (fun _ => XS.aloadN X0.here hx rfl (hb hby d7_1) rfl rfl) ?_
 show Go _ _ _ _ _ _ _ (s₁.setTop (mkF m 2 #[.val (.ref bb), .val (.int 5)] [(.ref bb), (.int 5)]))
 obtain ⟨cl1, Ar1, qc1, Sz1, Nn1, Ha1, Gf1⟩ := id Vb
 refine Go.st (fun _ => X0.arraylength hx (by rw [e0]; exact Ar1.1) (State.isArrayOf_alike hZ.alike Ar1.2.1) (g := (mkF m 2 #[.val (.ref bb), .val (.int 5)] [(.ref bb), (.int 5)])) rfl rfl (hb hby d7_2) _) ?_
 rw [len_of Sz1 Nn1]
 show Go _ _ _ _ _ _ _ (s₁.setTop (mkF m 3 #[.val (.ref bb), .val (.int 5)] [(.int 5), (.int 5)]))
 refine Go.st (fun _ => XS.isub X0.here hx rfl (hb hby d7_3) rfl) ?_
 refine Go.st (fun _ => XS.bipush X0.here hx rfl (hb hby d7_4)) ?_
 refine Go.st (fun _ => XS.iushr X0.here hx rfl (hb hby d7_6) rfl) ?_
 refine Go.st (fun _ => XS.i2b X0.here hx rfl (hb hby d7_7) rfl) ?_
 show Go _ _ _ _ _ _ _ (s₁.setTop (mkF m 8 #[.val (.ref bb), .val (.int 5)] [(.int ((((0 : Int32).toUInt32 >>> ((31 : Int32) &&& 31).toUInt32).toInt32).toInt8.toInt32))]))
 refine Go.retB X0 hx hlk (t := .byte) Bd.returns (by simp) (hb hby d7_8) (by decide) (by decide) e0 ?_
 exact ⟨rfl, N0, rfl⟩
theorem d3_0 : decode jdk_42_method_149_code 0 = .ok (.aload_n 0, 1) := by decide +kernel
theorem d3_1 : decode jdk_42_method_149_code 1 = .ok (.invokespecial 1, 3) := by decide +kernel
theorem d3_4 : decode jdk_42_method_149_code 4 = .ok (.iload_n 3, 1) := by decide +kernel
theorem d3_5 : decode jdk_42_method_149_code 5 = .ok (.ifCond .ne 22, 3) := by decide +kernel
theorem d3_27 : decode jdk_42_method_149_code 27 = .ok (.getstatic 38, 3) := by decide +kernel
theorem d3_30 : decode jdk_42_method_149_code 30 = .ok (.ifCond .eq 28, 3) := by decide +kernel
theorem d3_33 : decode jdk_42_method_149_code 33 = .ok (.aload_n 1, 1) := by decide +kernel
theorem d3_34 : decode jdk_42_method_149_code 34 = .ok (.iload_n 2, 1) := by decide +kernel
theorem d3_35 : decode jdk_42_method_149_code 35 = .ok (.iload_n 3, 1) := by decide +kernel
theorem pd___CII__B : parseMethodDescriptor "([CII)[B" = some ⟨[(.array .char), .int, .int], some (.array .byte)⟩ := by decide +kernel
theorem d3_36 : decode jdk_42_method_149_code 36 = .ok (.invokestatic 177, 3) := by decide +kernel
theorem d3_39 : decode jdk_42_method_149_code 39 = .ok (.astore 5, 2) := by decide +kernel
theorem d3_41 : decode jdk_42_method_149_code 41 = .ok (.aload_n 0, 1) := by decide +kernel
theorem d3_42 : decode jdk_42_method_149_code 42 = .ok (.aload 5, 2) := by decide +kernel
theorem d3_44 : decode jdk_42_method_149_code 44 = .ok (.iload_n 3, 1) := by decide +kernel
theorem pd___BI_B : parseMethodDescriptor "([BI)B" = some ⟨[(.array .byte), .int], some .byte⟩ := by decide +kernel
theorem d3_45 : decode jdk_42_method_149_code 45 = .ok (.invokestatic 47, 3) := by decide +kernel
theorem d3_48 : decode jdk_42_method_149_code 48 = .ok (.putfield 15, 3) := by decide +kernel
theorem d3_51 : decode jdk_42_method_149_code 51 = .ok (.aload_n 0, 1) := by decide +kernel
theorem d3_52 : decode jdk_42_method_149_code 52 = .ok (.aload 5, 2) := by decide +kernel
theorem d3_54 : decode jdk_42_method_149_code 54 = .ok (.putfield 9, 3) := by decide +kernel
theorem d3_57 : decode jdk_42_method_149_code 57 = .ok (.return_, 1) := by decide +kernel
theorem pn_java_lang_String : plainName "java/lang/String" = true := by first | (simp [plainName, overriddenIn]; done) | decide +kernel
theorem ef_rm3_5 (m : MethodId) (ob : Addr) (aa : Addr) : entryFrame m #[(.ref ob), (.ref aa), (.int 0), (.int 5), .null] 6 = mkF m 0 #[.val (.ref ob), .val (.ref aa), .val (.int 0), .val (.int 5), .val .null, .unset] [] := by first | (simp [entryFrame, mkF, argsToLocals, Value.category]; done) | rfl
def Q3_5 (Z : State) (ob : Addr) (aa : Addr) (ka : ClassId) (cs : Int32) (ca : Int32) (cb : Int32) (cc : Int32) (cd : Int32) (ce : Int32) (h0 : Heap) (n0 : Nat) (v : Option Value) (h : Heap) (L : List Loc) : Prop := ∃ (tb : Addr) (kt : ClassId), v = none ∧ Fr n0 L ∧ Keep h0 h [ob] ∧ Fld Z h ob "java/lang/String" "value" "[B" (.ref tb) ∧ Fld Z h ob "java/lang/String" "coder" "B" (.int 0) ∧ Arv Z h tb kt .byte (5 : Int32) [(.int (nar .byte (ca.toInt8.toInt32))), (.int (nar .byte (cb.toInt8.toInt32))), (.int (nar .byte (cc.toInt8.toInt32))), (.int (nar .byte (cd.toInt8.toInt32))), (.int (nar .byte (ce.toInt8.toInt32)))] (.int 0) ∧ h0.size ≤ tb
set_option maxRecDepth 65536 in
set_option maxHeartbeats 40000000 in
theorem rm3_5 (l : Launch) (Z : State) (a0 : Array Value) (hw : ∀ d ∈ tables_1, d.before a0 Z = true) (ws : List Jvm.Cond) (ob : Addr) (aa : Addr) (ka : ClassId) (cs : Int32) (ca : Int32) (cb : Int32) (cc : Int32) (cd : Int32) (ce : Int32) (h0 : Heap) (n0 : Nat) (O0 : Old Z n0 h0) (E_o : Exa Z h0 ob "java/lang/String") (Fv : Fld Z h0 ob "java/lang/String" "value" "[B" .null) (Fc : Fld Z h0 ob "java/lang/String" "coder" "B" (.int 0)) (Va : Arv Z h0 aa ka .char (5 : Int32) [(.int ca), (.int cb), (.int cc), (.int cd), (.int ce)] (.int 0)) (S_cs : Sta Z Z.heap "java/lang/String" "COMPACT_STRINGS" "Z" (.int cs)) (q_cs : ¬ cs = (0 : Int32)) (q_ca : ¬ (255 : Int32) < ca) (q_cb : ¬ (255 : Int32) < cb) (q_cc : ¬ (255 : Int32) < cc) (q_cd : ¬ (255 : Int32) < cd) (q_ce : ¬ (255 : Int32) < ce) (g_o : n0 ≤ ob) (ne_oa : ob ≠ aa) :
  MetFree l mn6 (head1 (Jvm.Cond.code mn6 jdk_42_method_149_code 6 none :: ws) ({ frames := 2, cells := 1, slots := 5, locals := 35 } : Room)) (fun ay U => ay = #[(.ref ob), (.ref aa), (.int 0), (.int 5), .null] ∧ Z.Warmed39 U.vm ∧ U.heap = h0) (fun _ _ _ _ _ => True) (fun _ U o U' => ∃ v L, o = .returned v ∧ Q3_5 Z ob aa ka cs ca cb cc cd ce h0 n0 v U'.heap L ∧ FrameEnd U o U' L ({ frames := 2, cells := 1, slots := 5, locals := 35 } : Room).cells ({ frames := 2, cells := 1, slots := 5, locals := 35 } : Room).slots) := by
 refine MetFree.of_bodySF (plainFor_of_name pn_java_lang_String) hisR ?_
 intro p e s m args below meth c s₁ Bd hml0 hP hK
 obtain ⟨rfl, hZ, hh⟩ := hP
 have hx := Bd.exec
 have hby := Bd.bytes
 have hlk : meth.locks = false := BodyLoose.notSynchronized Bd
 have hml : c.maxLocals = 6 := hml0
 have hown : s.vm.findClass "java/lang/String" = some m.cls := findClass_of_methodNamed Bd.named
 have hnm := (name_of_methodNamed Bd.named Bd.method).1
 have X0 : Stand p l e ({ frames := 2, cells := 1, slots := 5, locals := 35 } : Room) s m #[(.ref ob), (.ref aa), (.int 0), (.int 5), .null] below meth c s₁ [] 0 0 := Stand.of_body Bd
 have e0 : s₁.heap = h0 := by rw [← hh, Bd.state]; rfl
 have N0 := Fr.nil n0
 suffices hgo : Go p e below s 1 5 (Q3_5 Z ob aa ka cs ca cb cc cd ce h0 n0) (s₁.setTop (mkF m 0 #[.val (.ref ob), .val (.ref aa), .val (.int 0), .val (.int 5), .val .null, .unset] [])) by
  obtain ⟨t, o, h1, h2⟩ := hgo; exact ⟨t, o, castTop (ef_rm3_5 m ob aa) h1, h2⟩
 show Go _ _ _ _ _ _ _ (s₁.setTop (mkF m 0 #[.val (.ref ob), .val (.ref aa), .val (.int 0), .val (.int 5), .val .null, .unset] []))
 refine Go.st (fun _ => XS.aloadN X0.here hx rfl (hb hby d3_0) rfl rfl) ?_
 show Go _ _ _ _ _ _ _ (s₁.setTop (mkF m 1 #[.val (.ref ob), .val (.ref aa), .val (.int 0), .val (.int 5), .val .null, .unset] [(.ref ob)]))
 obtain ⟨T1, X1, e1, st1⟩ := initO X0 hx hZ hown (wdx hw 20 rfl) (wdx hw 21 rfl) (wdx hw 22 rfl) e0 (g := (mkF m 1 #[.val (.ref ob), .val (.ref aa), .val (.int 0), .val (.int 5), .val .null, .unset] [(.ref ob)])) rfl (by rw [hml]; rfl) rfl (hb hby d3_1) (by decide) (W := 0) (by show 2 * 0 + _ ≤ _; exact Nat.le_of_eq rfl) (by decide)
 refine Go.st st1 ?_
 show Go _ _ _ _ _ _ _ (T1.setTop (mkF m 4 #[.val (.ref ob), .val (.ref aa), .val (.int 0), .val (.int 5), .val .null, .unset] []))
 refine Go.st (fun _ => XS.iloadN X1.here hx rfl (hb hby d3_4) rfl) ?_
 show Go _ _ _ _ _ _ _ (T1.setTop (mkF m 5 #[.val (.ref ob), .val (.ref aa), .val (.int 0), .val (.int 5), .val .null, .unset] [(.int 5)]))
 refine Go.st (fun _ => XS.ifYes X1.here hx rfl (pc0 := 5) (pc' := 27) rfl (hb hby d3_5) rfl (XT.i0_ne_t (by decide)) (by decide) (by decide)) ?_
 obtain ⟨T2, X2, e2, st2⟩ := getS2 X1 hx hZ hown (host := "") (Or.inl (wdx hw 23 rfl)) Via.refl e1 (S_cs.ext O0.2) (g := (mkF m 27 #[.val (.ref ob), .val (.ref aa), .val (.int 0), .val (.int 5), .val .null, .unset] [])) rfl (hb hby d3_27)
 refine Go.st st2 ?_
 show Go _ _ _ _ _ _ _ (T2.setTop (mkF m 30 #[.val (.ref ob), .val (.ref aa), .val (.int 0), .val (.int 5), .val .null, .unset] [(.int cs)]))
 refine Go.st (fun _ => XS.ifNo X2.here hx rfl (hb hby d3_30) rfl (XT.i0_eq_f q_cs)) ?_
 refine Go.st (fun _ => XS.aloadN X2.here hx rfl (hb hby d3_33) rfl rfl) ?_
 refine Go.st (fun _ => XS.iloadN X2.here hx rfl (hb hby d3_34) rfl) ?_
 refine Go.st (fun _ => XS.iloadN X2.here hx rfl (hb hby d3_35) rfl) ?_
 show Go _ _ _ _ _ _ _ (T2.setTop (mkF m 36 #[.val (.ref ob), .val (.ref aa), .val (.int 0), .val (.int 5), .val .null, .unset] [(.int 5), (.int 0), (.ref aa)]))
 obtain ⟨_, _, ⟨T3, L3, k3, n3⟩, -, X3, ⟨Lc3, hQ3, l3, y3, z3⟩, st3⟩ := Jvm.LawKit.callS X2 hx (y := mn9) hown (mvT hZ (wdx hw 24 rfl)) (mvT hZ (wdx hw 25 rfl)) (mvT hZ (wdx hw 26 rfl)) (mvT hZ (wdx hw 27 rfl)) (by decide) (backOf (W := 0) (rm5_5 l Z a0 hw [] aa ka ca cb cc cd ce h0 n0 O0 Va q_ca q_cb q_cc q_cd q_ce) hZ (wdx hw 27 rfl) (wdx hw 26 rfl) (by decide) (by decide)) (g := (mkF m 36 #[.val (.ref ob), .val (.ref aa), .val (.int 0), .val (.int 5), .val .null, .unset] [(.int 5), (.int 0), (.ref aa)])) rfl (by rw [hml]; rfl) (argsL := [(.ref aa), (.int 0), (.int 5)]) (rest := []) (lenOf pd___CII__B rfl) rfl (by show 2 * 0 + _ ≤ _; exact Nat.le_of_eq rfl) (hb hby d3_36) (fun _ _ => ⟨rfl, e2, (by exact lee rfl), (by exact lee rfl)⟩)
 dsimp only [Pt.U, Pt.locs, Pt.cells, Pt.slots] at X3 l3 y3 z3 st3 hQ3
 subst l3 y3 z3
 obtain ⟨rr_3, kr_3, rfl, Nq3, Kq3, f4, szr_3⟩ := hQ3
 have N3 := Fr.app N0 Nq3
 refine Go.st st3 ?_
 have f5 := E_o.keep Kq3
 have f6 := Fv.keep Kq3 nin0
 have f7 := Fc.keep Kq3 nin0
 have f8 := Va.keep Kq3 nin0
 have O3 := O0.keep Kq3 all0
 have K3 : Keep h0 T3.heap [ob] := (Keep.refl h0 [ob]).trans Kq3 all0
 have g_rr_3 : n0 ≤ rr_3 := Nat.le_trans (own_le O0) szr_3
 have z_rr_3 : h0.size ≤ rr_3 := szr_3
 have ne9 : ob ≠ rr_3 := Nat.ne_of_lt (Nat.lt_of_lt_of_le E_o.lt szr_3)
 have ne10 : aa ≠ rr_3 := Nat.ne_of_lt (Nat.lt_of_lt_of_le Va.lt szr_3)
 show Go _ _ _ _ _ _ _ (T3.setTop (mkF m 39 #[.val (.ref ob), .val (.ref aa), .val (.int 0), .val (.int 5), .val .null, .unset] [(.ref rr_3)]))
 refine Go.st (fun _ => XS.astore X3.here hx rfl (hb hby d3_39) rfl rfl (l' := #[.val (.ref ob), .val (.ref aa), .val (.int 0), .val (.int 5), .val .null, .val (.ref rr_3)]) rfl) ?_
 refine Go.st (fun _ => XS.aloadN X3.here hx rfl (hb hby d3_41) rfl rfl) ?_
 refine Go.st (fun _ => XS.aload X3.here hx rfl (hb hby d3_42) rfl rfl) ?_
 refine Go.st (fun _ => XS.iloadN X3.here hx rfl (hb hby d3_44) rfl) ?_
 show Go _ _ _ _ _ _ _ (T3.setTop (mkF m 45 #[.val (.ref ob), .val (.ref aa), .val (.int 0), .val (.int 5), .val .null, .val (.ref rr_3)] [(.int 5), (.ref rr_3), (.ref ob)]))
 obtain ⟨_, _, ⟨T11, L11, k11, n11⟩, -, X11, ⟨Lc11, hQ11, l11, y11, z11⟩, st11⟩ := Jvm.LawKit.callS X3 hx (y := mn10) hown (mvT hZ (wdx hw 32 rfl)) (mvT hZ (wdx hw 33 rfl)) (mvT hZ (wdx hw 26 rfl)) (mvT hZ (wdx hw 34 rfl)) (by decide) (backOf (W := 1) (rm7_5 l Z a0 hw [] rr_3 kr_3 (nar .byte (ca.toInt8.toInt32)) (nar .byte (cb.toInt8.toInt32)) (nar .byte (cc.toInt8.toInt32)) (nar .byte (cd.toInt8.toInt32)) (nar .byte (ce.toInt8.toInt32)) T3.heap n0 O3 f4) hZ (wdx hw 34 rfl) (wdx hw 26 rfl) (by decide) (by decide)) (g := (mkF m 45 #[.val (.ref ob), .val (.ref aa), .val (.int 0), .val (.int 5), .val .null, .val (.ref rr_3)] [(.int 5), (.ref rr_3), (.ref ob)])) rfl (by rw [hml]; rfl) (argsL := [(.ref rr_3), (.int 5)]) (rest := [(.ref ob)]) (lenOf pd___BI_B rfl) rfl (by show 2 * 0 + _ ≤ _; exact Nat.le_of_eq rfl) (hb hby d3_45) (fun _ _ => ⟨rfl, rfl, (by exact lee rfl), (by exact lee rfl)⟩)
 dsimp only [Pt.U, Pt.locs, Pt.cells, Pt.slots] at X11 l11 y11 z11 st11 hQ11
 subst l11 y11 z11
 obtain ⟨rfl, Nq11, eq11⟩ := hQ11
 have N11 := Fr.app N3 Nq11
 refine Go.st st11 ?_
 show Go _ _ _ _ _ _ _ (T11.setTop (mkF m 48 #[.val (.ref ob), .val (.ref aa), .val (.int 0), .val (.int 5), .val .null, .val (.ref rr_3)] [(.int 0), (.ref ob)]))
 obtain ⟨T12, h12, X12, e12, W12, st12⟩ := putFN X11 hx hZ hown (wdx hw 35 rfl) Via.refl eq11 f7 f5 (Or.inr ⟨(wdx hw 36 rfl), rfl, hnm⟩) (wdx hw 10 rfl) (ty := .byte) (v' := (.int 0)) (by decide) rfl rfl (g := (mkF m 48 #[.val (.ref ob), .val (.ref aa), .val (.int 0), .val (.int 5), .val .null, .val (.ref rr_3)] [(.int 0), (.ref ob)])) rfl rfl (hb hby d3_48)
 refine Go.st st12 ?_
 have f13 := f5.wr W12
 have f14 := f6.other W12 (Or.inr (slot_ne (Or.inr (wdx hw 38 rfl)) (Or.inr (wdx hw 36 rfl)) (by decide) (t := (.array .byte)) (t' := .byte) (by decide) (by decide)))
 have f15 := f7.same W12
 have f16 := f8.other W12 (Ne.symm ne_oa)
 have f17 := f4.other W12 (Ne.symm ne9)
 have O12 := O3.wr W12 g_o
 have N12 := Fr.snoc X12 N11 g_o
 have K12 : Keep h0 h12 [ob] := K3.wr W12 (Or.inl (by simp))
 refine Go.st (fun _ => XS.aloadN X12.here hx rfl (hb hby d3_51) rfl rfl) ?_
 refine Go.st (fun _ => XS.aload X12.here hx rfl (hb hby d3_52) rfl rfl) ?_
 obtain ⟨T18, h18, X18, e18, W18, st18⟩ := putF X12 hx hZ hown (host := "") (Or.inl (wdx hw 37 rfl)) Via.refl e12 f14 f13 (Or.inr ⟨(wdx hw 38 rfl), rfl, hnm⟩) (wdx hw 10 rfl) (ty := (.array .byte)) (by decide) rfl rfl (g := (mkF m 54 #[.val (.ref ob), .val (.ref aa), .val (.int 0), .val (.int 5), .val .null, .val (.ref rr_3)] [(.ref rr_3), (.ref ob)])) rfl rfl (hb hby d3_54)
 refine Go.st st18 ?_
 have f19 := f13.wr W18
 have f20 := f14.same W18
 have f21 := f15.other W18 (Or.inr (slot_ne (Or.inr (wdx hw 36 rfl)) (Or.inr (wdx hw 38 rfl)) (by decide) (t := .byte) (t' := (.array .byte)) (by decide) (by decide)))
 have f22 := f16.other W18 (Ne.symm ne_oa)
 have f23 := f17.other W18 (Ne.symm ne9)
 have O18 := O12.wr W18 g_o
 have N18 := Fr.snoc X18 N12 g_o
 have K18 : Keep h0 h18 [ob] := K12.wr W18 (Or.inl (by simp))
 show Go _ _ _ _ _ _ _ (T18.setTop (mkF m 57 #[.val (.ref ob), .val (.ref aa), .val (.int 0), .val (.int 5), .val .null, .val (.ref rr_3)] []))
 refine Go.retV X18 hx hlk Bd.returns (hb hby d3_57) (by decide) (by decide) e18 ?_
 exact ⟨rr_3, kr_3, rfl, N18, K18, f20, f21, f23, z_rr_3⟩
theorem d2_0 : decode jdk_42_method_3_code 0 = .ok (.aload_n 0, 1) := by decide +kernel
theorem d2_1 : decode jdk_42_method_3_code 1 = .ok (.aload_n 1, 1) := by decide +kernel
theorem d2_2 : decode jdk_42_method_3_code 2 = .ok (.iconst 0, 1) := by decide +kernel
theorem d2_3 : decode jdk_42_method_3_code 3 = .ok (.aload_n 1, 1) := by decide +kernel
theorem d2_4 : decode jdk_42_method_3_code 4 = .ok (.arraylength, 1) := by decide +kernel
theorem d2_5 : decode jdk_42_method_3_code 5 = .ok (.aconst_null, 1) := by decide +kernel
theorem pd___CIILjava_lang_Void__V : parseMethodDescriptor "([CIILjava/lang/Void;)V" = some ⟨[(.array .char), .int, .int, (.object "java/lang/Void")], none⟩ := by decide +kernel
theorem d2_6 : decode jdk_42_method_3_code 6 = .ok (.invokespecial 27, 3) := by decide +kernel
theorem d2_9 : decode jdk_42_method_3_code 9 = .ok (.return_, 1) := by decide +kernel
theorem ef_rm2_5 (m : MethodId) (ob : Addr) (aa : Addr) : entryFrame m #[(.ref ob), (.ref aa)] 2 = mkF m 0 #[.val (.ref ob), .val (.ref aa)] [] := by first | (simp [entryFrame, mkF, argsToLocals, Value.category]; done) | rfl
def Q2_5 (Z : State) (ob : Addr) (aa : Addr) (ka : ClassId) (cs : Int32) (ca : Int32) (cb : Int32) (cc : Int32) (cd : Int32) (ce : Int32) (h0 : Heap) (n0 : Nat) (v : Option Value) (h : Heap) (L : List Loc) : Prop := ∃ (tb : Addr) (kt : ClassId), v = none ∧ Fr n0 L ∧ Keep h0 h [ob] ∧ Fld Z h ob "java/lang/String" "value" "[B" (.ref tb) ∧ Fld Z h ob "java/lang/String" "coder" "B" (.int 0) ∧ Arv Z h tb kt .byte (5 : Int32) [(.int (nar .byte (ca.toInt8.toInt32))), (.int (nar .byte (cb.toInt8.toInt32))), (.int (nar .byte (cc.toInt8.toInt32))), (.int (nar .byte (cd.toInt8.toInt32))), (.int (nar .byte (ce.toInt8.toInt32)))] (.int 0) ∧ h0.size ≤ tb
set_option maxRecDepth 65536 in
set_option maxHeartbeats 40000000 in
theorem rm2_5 (l : Launch) (Z : State) (a0 : Array Value) (hw : ∀ d ∈ tables_1, d.before a0 Z = true) (ws : List Jvm.Cond) (ob : Addr) (aa : Addr) (ka : ClassId) (cs : Int32) (ca : Int32) (cb : Int32) (cc : Int32) (cd : Int32) (ce : Int32) (h0 : Heap) (n0 : Nat) (O0 : Old Z n0 h0) (E_o : Exa Z h0 ob "java/lang/String") (Fv : Fld Z h0 ob "java/lang/String" "value" "[B" .null) (Fc : Fld Z h0 ob "java/lang/String" "coder" "B" (.int 0)) (Va : Arv Z h0 aa ka .char (5 : Int32) [(.int ca), (.int cb), (.int cc), (.int cd), (.int ce)] (.int 0)) (S_cs : Sta Z Z.heap "java/lang/String" "COMPACT_STRINGS" "Z" (.int cs)) (q_cs : ¬ cs = (0 : Int32)) (q_ca : ¬ (255 : Int32) < ca) (q_cb : ¬ (255 : Int32) < cb) (q_cc : ¬ (255 : Int32) < cc) (q_cd : ¬ (255 : Int32) < cd) (q_ce : ¬ (255 : Int32) < ce) (g_o : n0 ≤ ob) (ne_oa : ob ≠ aa) :
  MetFree l mn3 (head1 (Jvm.Cond.code mn3 jdk_42_method_3_code 2 none :: ws) ({ frames := 3, cells := 1, slots := 5, locals := 52 } : Room)) (fun ay U => ay = #[(.ref ob), (.ref aa)] ∧ Z.Warmed39 U.vm ∧ U.heap = h0) (fun _ _ _ _ _ => True) (fun _ U o U' => ∃ v L, o = .returned v ∧ Q2_5 Z ob aa ka cs ca cb cc cd ce h0 n0 v U'.heap L ∧ FrameEnd U o U' L ({ frames := 3, cells := 1, slots := 5, locals := 52 } : Room).cells ({ frames := 3, cells := 1, slots := 5, locals := 52 } : Room).slots) := by
 refine MetFree.of_bodySF (plainFor_of_name pn_java_lang_String) hisR ?_
 intro p e s m args below meth c s₁ Bd hml0 hP hK
 obtain ⟨rfl, hZ, hh⟩ := hP
 have hx := Bd.exec
 have hby := Bd.bytes
 have hlk : meth.locks = false := BodyLoose.notSynchronized Bd
 have hml : c.maxLocals = 2 := hml0
 have hown : s.vm.findClass "java/lang/String" = some m.cls := findClass_of_methodNamed Bd.named
 have hnm := (name_of_methodNamed Bd.named Bd.method).1
 have X0 : Stand p l e ({ frames := 3, cells := 1, slots := 5, locals := 52 } : Room) s m #[(.ref ob), (.ref aa)] below meth c s₁ [] 0 0 := Stand.of_body Bd
 have e0 : s₁.heap = h0 := by rw [← hh, Bd.state]; rfl
 have N0 := Fr.nil n0
 suffices hgo : Go p e below s 1 5 (Q2_5 Z ob aa ka cs ca cb cc cd ce h0 n0) (s₁.setTop (mkF m 0 #[.val (.ref ob), .val (.ref aa)] [])) by
  obtain ⟨t, o, h1, h2⟩ := hgo; exact ⟨t, o, castTop (ef_rm2_5 m ob aa) h1, h2⟩
 show Go _ _ _ _ _ _ _ (s₁.setTop (mkF m 0 #[.val (.ref ob), .val (.ref aa)] []))
 refine Go.st (fun _ => XS.aloadN X0.here hx rfl (hb hby d2_0) rfl rfl) ?_
 refine Go.st (fun _ => XS.aloadN X0.here hx rfl (hb hby d2_1) rfl rfl) ?_
 refine Go.st (fun _ => XS.iconst X0.here hx rfl (hb hby d2_2)) ?_
 refine Go.st (fun _ => XS.aloadN X0.here hx rfl (hb hby d2_3) rfl rfl) ?_
 show Go _ _ _ _ _ _ _ (s₁.setTop (mkF m 4 #[.val (.ref ob), .val (.ref aa)] [(.ref aa), (.int 0), (.ref aa), (.ref ob)]))
 obtain ⟨cl1, Ar1, qc1, Sz1, Nn1, Ha1, Gf1⟩ := id Va
 refine Go.st (fun _ => X0.arraylength hx (by rw [e0]; exact Ar1.1) (State.isArrayOf_alike hZ.alike Ar1.2.1) (g := (mkF m 4 #[.val (.ref ob), .val (.ref aa)] [(.ref aa), (.int 0), (.ref aa), (.ref ob)])) rfl rfl (hb hby d2_4) _) ?_
 rw [len_of Sz1 Nn1]
 show Go _ _ _ _ _ _ _ (s₁.setTop (mkF m 5 #[.val (.ref ob), .val (.ref aa)] [(.int 5), (.int 0), (.ref aa), (.ref ob)]))
 refine Go.st (fun _ => XS.aconstNull X0.here hx rfl (hb hby d2_5)) ?_
 show Go _ _ _ _ _ _ _ (s₁.setTop (mkF m 6 #[.val (.ref ob), .val (.ref aa)] [.null, (.int 5), (.int 0), (.ref aa), (.ref ob)]))
 obtain ⟨_, _, ⟨T2, L2, k2, n2⟩, -, X2, ⟨Lc2, hQ2, l2, y2, z2⟩, st2⟩ := X0.specialBack hx (y := mn6) rfl hown (mvT hZ (wdx hw 16 rfl)) (mvT hZ (wdx hw 17 rfl)) (mvT hZ (wdx hw 19 rfl)) (by decide) (backOf (W := 0) (rm3_5 l Z a0 hw [] ob aa ka cs ca cb cc cd ce h0 n0 O0 E_o Fv Fc Va S_cs q_cs q_ca q_cb q_cc q_cd q_ce g_o ne_oa) hZ (wdx hw 19 rfl) (wdx hw 11 rfl) (by decide) (by decide)) (g := (mkF m 6 #[.val (.ref ob), .val (.ref aa)] [.null, (.int 5), (.int 0), (.ref aa), (.ref ob)])) rfl (by rw [hml]; rfl) (Steps.refl _) (a := ob) (argsL := [(.ref aa), (.int 0), (.int 5), .null]) (rest := []) (lenOf pd___CIILjava_lang_Void__V rfl) rfl (by show 2 * 0 + _ ≤ _; exact Nat.le_of_eq rfl) (hb hby d2_6) (fun _ _ => ⟨rfl, e0, (by exact lee rfl), (by exact lee rfl)⟩)
 dsimp only [Pt.U, Pt.locs, Pt.cells, Pt.slots] at X2 l2 y2 z2 st2 hQ2
 subst l2 y2 z2
 obtain ⟨tb_2, kt_2, rfl, Nq2, Kq2, f3, f4, f5, szt_2⟩ := hQ2
 have N2 := Fr.app N0 Nq2
 refine Go.tr st2 ?_
 have f6 := E_o.keep Kq2
 have f7 := Va.keep Kq2 (ninS (Ne.symm ne_oa) nin0)
 have O2 := O0.keep Kq2 (allS g_o all0)
 have K2 : Keep h0 T2.heap [ob] := (Keep.refl h0 [ob]).trans Kq2 (allS (Or.inl (by simp)) all0)
 have g_tb_2 : n0 ≤ tb_2 := Nat.le_trans (own_le O0) szt_2
 have z_tb_2 : h0.size ≤ tb_2 := szt_2
 have ne8 : ob ≠ tb_2 := Nat.ne_of_lt (Nat.lt_of_lt_of_le E_o.lt szt_2)
 have ne9 : aa ≠ tb_2 := Nat.ne_of_lt (Nat.lt_of_lt_of_le Va.lt szt_2)
 show Go _ _ _ _ _ _ _ (T2.setTop (mkF m 9 #[.val (.ref ob), .val (.ref aa)] []))
 refine Go.retV X2 hx hlk Bd.returns (hb hby d2_9) (by decide) (by decide) rfl ?_
 exact ⟨tb_2, kt_2, rfl, N2, K2, f3, f4, f5, z_tb_2⟩
theorem ef_rm6_6 (m : MethodId) (aa : Addr) (bb : Addr) : entryFrame m #[(.ref aa), (.int 0), (.ref bb), (.int 0), (.int 6)] 7 = mkF m 0 #[.val (.ref aa), .val (.int 0), .val (.ref bb), .val (.int 0), .val (.int 6), .unset, .unset] [] := by first | (simp [entryFrame, mkF, argsToLocals, Value.category]; done) | rfl
def Q6_6 (Z : State) (aa : Addr) (bb : Addr) (ka : ClassId) (kb : ClassId) (ca : Int32) (cb : Int32) (cc : Int32) (cd : Int32) (ce : Int32) (cf : Int32) (h0 : Heap) (n0 : Nat) (v : Option Value) (h : Heap) (L : List Loc) : Prop := v = some (.int 6) ∧ Fr n0 L ∧ Keep h0 h [bb] ∧ Arv Z h bb kb .byte (6 : Int32) [(.int (nar .byte (ca.toInt8.toInt32))), (.int (nar .byte (cb.toInt8.toInt32))), (.int (nar .byte (cc.toInt8.toInt32))), (.int (nar .byte (cd.toInt8.toInt32))), (.int (nar .byte (ce.toInt8.toInt32))), (.int (nar .byte (cf.toInt8.toInt32)))] (.int 0)
set_option maxRecDepth 65536 in
set_option maxHeartbeats 40000000 in
theorem rm6_6 (l : Launch) (Z : State) (a0 : Array Value) (hw : ∀ d ∈ tables_1, d.before a0 Z = true) (ws : List Jvm.Cond) (aa : Addr) (bb : Addr) (ka : ClassId) (kb : ClassId) (ca : Int32) (cb : Int32) (cc : Int32) (cd : Int32) (ce : Int32) (cf : Int32) (h0 : Heap) (n0 : Nat) (O0 : Old Z n0 h0) (Va : Arv Z h0 aa ka .char (6 : Int32) [(.int ca), (.int cb), (.int cc), (.int cd), (.int ce), (.int cf)] (.int 0)) (Vb : Arv Z h0 bb kb .byte (6 : Int32) [(.int 0), (.int 0), (.int 0), (.int 0), (.int 0), (.int 0)] (.int 0)) (q_ca : ¬ (255 : Int32) < ca) (q_cb : ¬ (255 : Int32) < cb) (q_cc : ¬ (255 : Int32) < cc) (q_cd : ¬ (255 : Int32) < cd) (q_ce : ¬ (255 : Int32) < ce) (q_cf : ¬ (255 : Int32) < cf) (g_b : n0 ≤ bb) (ne_ab : aa ≠ bb) :
  MetFree l mn8 (head1 (Jvm.Cond.code mn8 jdk_52_method_21_code 7 (some .int) :: ws) ({ frames := 0, cells := 0, slots := 0, locals := 0 } : Room)) (fun ay U => ay = #[(.ref aa), (.int 0), (.ref bb), (.int 0), (.int 6)] ∧ Z.Warmed39 U.vm ∧ U.heap = h0) (fun _ _ _ _ _ => True) (fun _ U o U' => ∃ v L, o = .returned v ∧ Q6_6 Z aa bb ka kb ca cb cc cd ce cf h0 n0 v U'.heap L ∧ FrameEnd U o U' L ({ frames := 0, cells := 0, slots := 0, locals := 0 } : Room).cells ({ frames := 0, cells := 0, slots := 0, locals := 0 } : Room).slots) := by
 refine MetFree.of_bodySF (plainFor_of_name pn_java_lang_StringUTF16) hisR ?_
 intro p e s m args below meth c s₁ Bd hml0 hP hK
 obtain ⟨rfl, hZ, hh⟩ := hP
 have hx := Bd.exec
 have hby := Bd.bytes
 have hlk : meth.locks = false := BodyLoose.notSynchronized Bd
 have hml : c.maxLocals = 7 := hml0
 have hown : s.vm.findClass "java/lang/StringUTF16" = some m.cls := findClass_of_methodNamed Bd.named
 have hnm := (name_of_methodNamed Bd.named Bd.method).1
 have X0 : Stand p l e ({ frames := 0, cells := 0, slots := 0, locals := 0 } : Room) s m #[(.ref aa), (.int 0), (.ref bb), (.int 0), (.int 6)] below meth c s₁ [] 0 0 := Stand.of_body Bd
 have e0 : s₁.heap = h0 := by rw [← hh, Bd.state]; rfl
 have N0 := Fr.nil n0
 suffices hgo : Go p e below s 0 0 (Q6_6 Z aa bb ka kb ca cb cc cd ce cf h0 n0) (s₁.setTop (mkF m 0 #[.val (.ref aa), .val (.int 0), .val (.ref bb), .val (.int 0), .val (.int 6), .unset, .unset] [])) by
  obtain ⟨t, o, h1, h2⟩ := hgo; exact ⟨t, o, castTop (ef_rm6_6 m aa bb) h1, h2⟩
 show Go _ _ _ _ _ _ _ (s₁.setTop (mkF m 0 #[.val (.ref aa), .val (.int 0), .val (.ref bb), .val (.int 0), .val (.int 6), .unset, .unset] []))
 refine Go.st (fun _ => XS.iconst X0.here hx rfl (hb hby d6_0)) ?_
 refine Go.st (fun _ => XS.istore X0.here hx rfl (hb hby d6_1) rfl (l' := #[.val (.ref aa), .val (.int 0), .val (.ref bb), .val (.int 0), .val (.int 6), .val (.int 0), .unset]) rfl) ?_
 refine Go.st (fun _ => XS.iload X0.here hx rfl (hb hby d6_3) rfl) ?_
 refine Go.st (fun _ => XS.iload X0.here hx rfl (hb hby d6_5) rfl) ?_
 show Go _ _ _ _ _ _ _ (s₁.setTop (mkF m 7 #[.val (.ref aa), .val (.int 0), .val (.ref bb), .val (.int 0), .val (.int 6), .val (.int 0), .unset] [(.int 6), (.int 0)]))
 refine Go.st (fun _ => XS.icmpNo X0.here hx rfl (hb hby d6_7) rfl (XT.ii_ge_f (by decide))) ?_
 refine Go.st (fun _ => XS.aloadN X0.here hx rfl (hb hby d6_10) rfl rfl) ?_
 refine Go.st (fun _ => XS.iloadN X0.here hx rfl (hb hby d6_11) rfl) ?_
 show Go _ _ _ _ _ _ _ (s₁.setTop (mkF m 12 #[.val (.ref aa), .val (.int 0), .val (.ref bb), .val (.int 0), .val (.int 6), .val (.int 0), .unset] [(.int 0), (.ref aa)]))
 obtain ⟨cl1, Ar1, qc1, Sz1, Nn1, Ha1, Gf1⟩ := id Va
 refine Go.st (fun _ => X0.caload hx (j := (0 : Int32)) (v := (.int ca)) (by rw [e0]; exact Ar1.1) (State.isArrayOf_alike hZ.alike Ar1.2.1) Ar1.2.2 (inb_of Sz1 ⟨by decide, by decide⟩) (Ha1.at (inb_of Sz1 ⟨by decide, by decide⟩) rfl) (g := (mkF m 12 #[.val (.ref aa), .val (.int 0), .val (.ref bb), .val (.int 0), .val (.int 6), .val (.int 0), .unset] [(.int 0), (.ref aa)])) rfl rfl (hb hby d6_12) _) ?_
 show Go _ _ _ _ _ _ _ (s₁.setTop (mkF m 13 #[.val (.ref aa), .val (.int 0), .val (.ref bb), .val (.int 0), .val (.int 6), .val (.int 0), .unset] [(.int ca)]))
 refine Go.st (fun _ => XS.istore X0.here hx rfl (hb hby d6_13) rfl (l' := #[.val (.ref aa), .val (.int 0), .val (.ref bb), .val (.int 0), .val (.int 6), .val (.int 0), .val (.int ca)]) rfl) ?_
 refine Go.st (fun _ => XS.iload X0.here hx rfl (hb hby d6_15) rfl) ?_
 refine Go.st (fun _ => XS.sipush X0.here hx rfl (hb hby d6_17)) ?_
 show Go _ _ _ _ _ _ _ (s₁.setTop (mkF m 20 #[.val (.ref aa), .val (.int 0), .val (.ref bb), .val (.int 0), .val (.int 6), .val (.int 0), .val (.int ca)] [(.int 255), (.int ca)]))
 refine Go.st (fun _ => XS.icmpYes X0.here hx rfl (pc0 := 20) (pc' := 26) rfl (hb hby d6_20) rfl (XT.ii_le_t q_ca) (by decide) (by decide)) ?_
 refine Go.st (fun _ => XS.aloadN X0.here hx rfl (hb hby d6_26) rfl rfl) ?_
 refine Go.st (fun _ => XS.iloadN X0.here hx rfl (hb hby d6_27) rfl) ?_
 refine Go.st (fun _ => XS.iload X0.here hx rfl (hb hby d6_28) rfl) ?_
 refine Go.st (fun _ => XS.i2b X0.here hx rfl (hb hby d6_30) rfl) ?_
 obtain ⟨cl2, Ar2, qc2, Sz2, Nn2, Ha2, Gf2⟩ := id Vb
 obtain ⟨T2, h2, X2, e2, W2, st2⟩ := stB X0 hx hZ e0 Ar2 (j := (0 : Int32)) (inb_of Sz2 ⟨by decide, by decide⟩) (g := (mkF m 31 #[.val (.ref aa), .val (.int 0), .val (.ref bb), .val (.int 0), .val (.int 6), .val (.int 0), .val (.int ca)] [(.int (ca.toInt8.toInt32)), (.int 0), (.ref bb)])) rfl rfl (hb hby d6_31)
 refine Go.st st2 ?_
 have f4 := Va.other W2 ne_ab
 have O2 := O0.wr W2 g_b
 have N2 := Fr.snoc X2 N0 g_b
 have K2 : Keep h0 h2 [bb] := (Keep.refl h0 [bb]).wr W2 (Or.inl (by simp))
 have f3 : Arv Z h2 bb kb .byte (6 : Int32) [(.int (nar .byte (ca.toInt8.toInt32))), (.int 0), (.int 0), (.int 0), (.int 0), (.int 0)] (.int 0) := Arv.set Ar2 qc2 Sz2 Nn2 Ha2 Gf2 (fits_nar_byte _) W2 0 rfl (Nat.le_of_ble_eq_true rfl)
 refine Go.st (fun _ => XS.iinc X2.here hx rfl (hb hby d6_32) rfl (l' := #[.val (.ref aa), .val (.int 1), .val (.ref bb), .val (.int 0), .val (.int 6), .val (.int 0), .val (.int ca)]) rfl) ?_
 refine Go.st (fun _ => XS.iinc X2.here hx rfl (hb hby d6_35) rfl (l' := #[.val (.ref aa), .val (.int 1), .val (.ref bb), .val (.int 1), .val (.int 6), .val (.int 0), .val (.int ca)]) rfl) ?_
 refine Go.st (fun _ => XS.iinc X2.here hx rfl (hb hby d6_38) rfl (l' := #[.val (.ref aa), .val (.int 1), .val (.ref bb), .val (.int 1), .val (.int 6), .val (.int 1), .val (.int ca)]) rfl) ?_
 show Go _ _ _ _ _ _ _ (T2.setTop (mkF m 41 #[.val (.ref aa), .val (.int 1), .val (.ref bb), .val (.int 1), .val (.int 6), .val (.int 1), .val (.int ca)] []))
 refine Go.st (fun _ => XS.goto X2.here hx rfl (pc0 := 41) (pc' := 3) rfl (hb hby d6_41) (by decide) (by decide)) ?_
 show Go _ _ _ _ _ _ _ (T2.setTop (mkF m 3 #[.val (.ref aa), .val (.int 1), .val (.ref bb), .val (.int 1), .val (.int 6), .val (.int 1), .val (.int ca)] []))
 refine Go.st (fun _ => XS.iload X2.here hx rfl (hb hby d6_3) rfl) ?_
 refine Go.st (fun _ => XS.iload X2.here hx rfl (hb hby d6_5) rfl) ?_
 show Go _ _ _ _ _ _ _ (T2.setTop (mkF m 7 #[.val (.ref aa), .val (.int 1), .val (.ref bb), .val (.int 1), .val (.int 6), .val (.int 1), .val (.int ca)] [(.int 6), (.int 1)]))
 refine Go.st (fun _ => XS.icmpNo X2.here hx rfl (hb hby d6_7) rfl (XT.ii_ge_f (by decide))) ?_
 refine Go.st (fun _ => XS.aloadN X2.here hx rfl (hb hby d6_10) rfl rfl) ?_
 refine Go.st (fun _ => XS.iloadN X2.here hx rfl (hb hby d6_11) rfl) ?_
 show Go _ _ _ _ _ _ _ (T2.setTop (mkF m 12 #[.val (.ref aa), .val (.int 1), .val (.ref bb), .val (.int 1), .val (.int 6), .val (.int 1), .val (.int ca)] [(.int 1), (.ref aa)]))
 obtain ⟨cl5, Ar5, qc5, Sz5, Nn5, Ha5, Gf5⟩ := id f4
 refine Go.st (fun _ => X2.caload hx (j := (1 : Int32)) (v := (.int cb)) (by rw [e2]; exact Ar5.1) (State.isArrayOf_alike hZ.alike Ar5.2.1) Ar5.2.2 (inb_of Sz5 ⟨by decide, by decide⟩) (Ha5.at (inb_of Sz5 ⟨by decide, by decide⟩) rfl) (g := (mkF m 12 #[.val (.ref aa), .val (.int 1), .val (.ref bb), .val (.int 1), .val (.int 6), .val (.int 1), .val (.int ca)] [(.int 1), (.ref aa)])) rfl rfl (hb hby d6_12) _) ?_
 show Go _ _ _ _ _ _ _ (T2.setTop (mkF m 13 #[.val (.ref aa), .val (.int 1), .val (.ref bb), .val (.int 1), .val (.int 6), .val (.int 1), .val (.int ca)] [(.int cb)]))
 refine Go.st (fun _ => XS.istore X2.here hx rfl (hb hby d6_13) rfl (l' := #[.val (.ref aa), .val (.int 1), .val (.ref bb), .val (.int 1), .val (.int 6), .val (.int 1), .val (.int cb)]) rfl) ?_
 refine Go.st (fun _ => XS.iload X2.here hx rfl (hb hby d6_15) rfl) ?_
 refine Go.st (fun _ => XS.sipush X2.here hx rfl (hb hby d6_17)) ?_
 show Go _ _ _ _ _ _ _ (T2.setTop (mkF m 20 #[.val (.ref aa), .val (.int 1), .val (.ref bb), .val (.int 1), .val (.int 6), .val (.int 1), .val (.int cb)] [(.int 255), (.int cb)]))
 refine Go.st (fun _ => XS.icmpYes X2.here hx rfl (pc0 := 20) (pc' := 26) rfl (hb hby d6_20) rfl (XT.ii_le_t q_cb) (by decide) (by decide)) ?_
 refine Go.st (fun _ => XS.aloadN X2.here hx rfl (hb hby d6_26) rfl rfl) ?_
 refine Go.st (fun _ => XS.iloadN X2.here hx rfl (hb hby d6_27) rfl) ?_
 refine Go.st (fun _ => XS.iload X2.here hx rfl (hb hby d6_28) rfl) ?_
 refine Go.st (fun _ => XS.i2b X2.here hx rfl (hb hby d6_30) rfl) ?_
 obtain ⟨cl6, Ar6, qc6, Sz6, Nn6, Ha6, Gf6⟩ := id f3
 obtain ⟨T6, h6, X6, e6, W6, st6⟩ := stB X2 hx hZ e2 Ar6 (j := (1 : Int32)) (inb_of Sz6 ⟨by decide, by decide⟩) (g := (mkF m 31 #[.val (.ref aa), .val (.int 1), .val (.ref bb), .val (.int 1), .val (.int 6), .val (.int 1), .val (.int cb)] [(.int (cb.toInt8.toInt32)), (.int 1), (.ref bb)])) rfl rfl (hb hby d6_31)
 refine Go.st st6 ?_
 have f8 := f4.other W6 ne_ab
 have O6 := O2.wr W6 g_b
 have N6 := Fr.snoc X6 N2 g_b
 have K6 : Keep h0 h6 [bb] := K2.wr W6 (Or.inl (by simp))
 have f7 : Arv Z h6 bb kb .byte (6 : Int32) [(.int (nar .byte (ca.toInt8.toInt32))), (.int (nar .byte (cb.toInt8.toInt32))), (.int 0), (.int 0), (.int 0), (.int 0)] (.int 0) := Arv.set Ar6 qc6 Sz6 Nn6 Ha6 Gf6 (fits_nar_byte _) W6 1 rfl (Nat.le_of_ble_eq_true rfl)
 refine Go.st (fun _ => XS.iinc X6.here hx rfl (hb hby d6_32) rfl (l' := #[.val (.ref aa), .val (.int 2), .val (.ref bb), .val (.int 1), .val (.int 6), .val (.int 1), .val (.int cb)]) rfl) ?_
 refine Go.st (fun _ => XS.iinc X6.here hx rfl (hb hby d6_35) rfl (l' := #[.val (.ref aa), .val (.int 2), .val (.ref bb), .val (.int 2), .val (.int 6), .val (.int 1), .val (.int cb)]) rfl) ?_
 refine Go.st (fun _ => XS.iinc X6.here hx rfl (hb hby d6_38) rfl (l' := #[.val (.ref aa), .val (.int 2), .val (.ref bb), .val (.int 2), .val (.int 6), .val (.int 2), .val (.int cb)]) rfl) ?_
 show Go _ _ _ _ _ _ _ (T6.setTop (mkF m 41 #[.val (.ref aa), .val (.int 2), .val (.ref bb), .val (.int 2), .val (.int 6), .val (.int 2), .val (.int cb)] []))
 refine Go.st (fun _ => XS.goto X6.here hx rfl (pc0 := 41) (pc' := 3) rfl (hb hby d6_41) (by decide) (by decide)) ?_
 show Go _ _ _ _ _ _ _ (T6.setTop (mkF m 3 #[.val (.ref aa), .val (.int 2), .val (.ref bb), .val (.int 2), .val (.int 6), .val (.int 2), .val (.int cb)] []))
 refine Go.st (fun _ => XS.iload X6.here hx rfl (hb hby d6_3) rfl) ?_
 refine Go.st (fun _ => XS.iload X6.here hx rfl (hb hby d6_5) rfl) ?_
 show Go _ _ _ _ _ _ _ (T6.setTop (mkF m 7 #[.val (.ref aa), .val (.int 2), .val (.ref bb), .val (.int 2), .val (.int 6), .val (.int 2), .val (.int cb)] [(.int 6), (.int 2)]))
 refine Go.st (fun _ => XS.icmpNo X6.here hx rfl (hb hby d6_7) rfl (XT.ii_ge_f (by decide))) ?_
 refine Go.st (fun _ => XS.aloadN X6.here hx rfl (hb hby d6_10) rfl rfl) ?_
 refine Go.st (fun _ => XS.iloadN X6.here hx rfl (hb hby d6_11) rfl) ?_
 show Go _ _ _ _ _ _ _ (T6.setTop (mkF m 12 #[.val (.ref aa), .val (.int 2), .val (.ref bb), .val (.int 2), .val (.int 6), .val (.int 2), .val (.int cb)] [(.int 2), (.ref aa)]))
 obtain ⟨cl9, Ar9, qc9, Sz9, Nn9, Ha9, Gf9⟩ := id f8
 refine Go.st (fun _ => X6.caload hx (j := (2 : Int32)) (v := (.int cc)) (by rw [e6]; exact Ar9.1) (State.isArrayOf_alike hZ.alike Ar9.2.1) Ar9.2.2 (inb_of Sz9 ⟨by decide, by decide⟩) (Ha9.at (inb_of Sz9 ⟨by decide, by decide⟩) rfl) (g := (mkF m 12 #[.val (.ref aa), .val (.int 2), .val (.ref bb), .val (.int 2), .val (.int 6), .val (.int 2), .val (.int cb)] [(.int 2), (.ref aa)])) rfl rfl (hb hby d6_12) _) ?_
 show Go _ _ _ _ _ _ _ (T6.setTop (mkF m 13 #[.val (.ref aa), .val (.int 2), .val (.ref bb), .val (.int 2), .val (.int 6), .val (.int 2), .val (.int cb)] [(.int cc)]))
 refine Go.st (fun _ => XS.istore X6.here hx rfl (hb hby d6_13) rfl (l' := #[.val (.ref aa), .val (.int 2), .val (.ref bb), .val (.int 2), .val (.int 6), .val (.int 2), .val (.int cc)]) rfl) ?_
 refine Go.st (fun _ => XS.iload X6.here hx rfl (hb hby d6_15) rfl) ?_
 refine Go.st (fun _ => XS.sipush X6.here hx rfl (hb hby d6_17)) ?_
 show Go _ _ _ _ _ _ _ (T6.setTop (mkF m 20 #[.val (.ref aa), .val (.int 2), .val (.ref bb), .val (.int 2), .val (.int 6), .val (.int 2), .val (.int cc)] [(.int 255), (.int cc)]))
 refine Go.st (fun _ => XS.icmpYes X6.here hx rfl (pc0 := 20) (pc' := 26) rfl (hb hby d6_20) rfl (XT.ii_le_t q_cc) (by decide) (by decide)) ?_
 refine Go.st (fun _ => XS.aloadN X6.here hx rfl (hb hby d6_26) rfl rfl) ?_
 refine Go.st (fun _ => XS.iloadN X6.here hx rfl (hb hby d6_27) rfl) ?_
 refine Go.st (fun _ => XS.iload X6.here hx rfl (hb hby d6_28) rfl) ?_
 refine Go.st (fun _ => XS.i2b X6.here hx rfl (hb hby d6_30) rfl) ?_
 obtain ⟨cl10, Ar10, qc10, Sz10, Nn10, Ha10, Gf10⟩ := id f7
 obtain ⟨T10, h10, X10, e10, W10, st10⟩ := stB X6 hx hZ e6 Ar10 (j := (2 : Int32)) (inb_of Sz10 ⟨by decide, by decide⟩) (g := (mkF m 31 #[.val (.ref aa), .val (.int 2), .val (.ref bb), .val (.int 2), .val (.int 6), .val (.int 2), .val (.int cc)] [(.int (cc.toInt8.toInt32)), (.int 2), (.ref bb)])) rfl rfl (hb hby d6_31)
 refine Go.st st10 ?_
 have f12 := f8.other W10 ne_ab
 have O10 := O6.wr W10 g_b
 have N10 := Fr.snoc X10 N6 g_b
 have K10 : Keep h0 h10 [bb] := K6.wr W10 (Or.inl (by simp))
 have f11 : Arv Z h10 bb kb .byte (6 : Int32) [(.int (nar .byte (ca.toInt8.toInt32))), (.int (nar .byte (cb.toInt8.toInt32))), (.int (nar .byte (cc.toInt8.toInt32))), (.int 0), (.int 0), (.int 0)] (.int 0) := Arv.set Ar10 qc10 Sz10 Nn10 Ha10 Gf10 (fits_nar_byte _) W10 2 rfl (Nat.le_of_ble_eq_true rfl)
 refine Go.st (fun _ => XS.iinc X10.here hx rfl (hb hby d6_32) rfl (l' := #[.val (.ref aa), .val (.int 3), .val (.ref bb), .val (.int 2), .val (.int 6), .val (.int 2), .val (.int cc)]) rfl) ?_
 refine Go.st (fun _ => XS.iinc X10.here hx rfl (hb hby d6_35) rfl (l' := #[.val (.ref aa), .val (.int 3), .val (.ref bb), .val (.int 3), .val (.int 6), .val (.int 2), .val (.int cc)]) rfl) ?_
 refine Go.st (fun _ => XS.iinc X10.here hx rfl (hb hby d6_38) rfl (l' := #[.val (.ref aa), .val (.int 3), .val (.ref bb), .val (.int 3), .val (.int 6), .val (.int 3), .val (.int cc)]) rfl) ?_
 show Go _ _ _ _ _ _ _ (T10.setTop (mkF m 41 #[.val (.ref aa), .val (.int 3), .val (.ref bb), .val (.int 3), .val (.int 6), .val (.int 3), .val (.int cc)] []))
 refine Go.st (fun _ => XS.goto X10.here hx rfl (pc0 := 41) (pc' := 3) rfl (hb hby d6_41) (by decide) (by decide)) ?_
 show Go _ _ _ _ _ _ _ (T10.setTop (mkF m 3 #[.val (.ref aa), .val (.int 3), .val (.ref bb), .val (.int 3), .val (.int 6), .val (.int 3), .val (.int cc)] []))
 refine Go.st (fun _ => XS.iload X10.here hx rfl (hb hby d6_3) rfl) ?_
 refine Go.st (fun _ => XS.iload X10.here hx rfl (hb hby d6_5) rfl) ?_
 show Go _ _ _ _ _ _ _ (T10.setTop (mkF m 7 #[.val (.ref aa), .val (.int 3), .val (.ref bb), .val (.int 3), .val (.int 6), .val (.int 3), .val (.int cc)] [(.int 6), (.int 3)]))
 refine Go.st (fun _ => XS.icmpNo X10.here hx rfl (hb hby d6_7) rfl (XT.ii_ge_f (by decide))) ?_
 refine Go.st (fun _ => XS.aloadN X10.here hx rfl (hb hby d6_10) rfl rfl) ?_
 refine Go.st (fun _ => XS.iloadN X10.here hx rfl (hb hby d6_11) rfl) ?_
 show Go _ _ _ _ _ _ _ (T10.setTop (mkF m 12 #[.val (.ref aa), .val (.int 3), .val (.ref bb), .val (.int 3), .val (.int 6), .val (.int 3), .val (.int cc)] [(.int 3), (.ref aa)]))
 obtain ⟨cl13, Ar13, qc13, Sz13, Nn13, Ha13, Gf13⟩ := id f12
 refine Go.st (fun _ => X10.caload hx (j := (3 : Int32)) (v := (.int cd)) (by rw [e10]; exact Ar13.1) (State.isArrayOf_alike hZ.alike Ar13.2.1) Ar13.2.2 (inb_of Sz13 ⟨by decide, by decide⟩) (Ha13.at (inb_of Sz13 ⟨by decide, by decide⟩) rfl) (g := (mkF m 12 #[.val (.ref aa), .val (.int 3), .val (.ref bb), .val (.int 3), .val (.int 6), .val (.int 3), .val (.int cc)] [(.int 3), (.ref aa)])) rfl rfl (hb hby d6_12) _) ?_
 show Go _ _ _ _ _ _ _ (T10.setTop (mkF m 13 #[.val (.ref aa), .val (.int 3), .val (.ref bb), .val (.int 3), .val (.int 6), .val (.int 3), .val (.int cc)] [(.int cd)]))
 refine Go.st (fun _ => XS.istore X10.here hx rfl (hb hby d6_13) rfl (l' := #[.val (.ref aa), .val (.int 3), .val (.ref bb), .val (.int 3), .val (.int 6), .val (.int 3), .val (.int cd)]) rfl) ?_
 refine Go.st (fun _ => XS.iload X10.here hx rfl (hb hby d6_15) rfl) ?_
 refine Go.st (fun _ => XS.sipush X10.here hx rfl (hb hby d6_17)) ?_
 show Go _ _ _ _ _ _ _ (T10.setTop (mkF m 20 #[.val (.ref aa), .val (.int 3), .val (.ref bb), .val (.int 3), .val (.int 6), .val (.int 3), .val (.int cd)] [(.int 255), (.int cd)]))
 refine Go.st (fun _ => XS.icmpYes X10.here hx rfl (pc0 := 20) (pc' := 26) rfl (hb hby d6_20) rfl (XT.ii_le_t q_cd) (by decide) (by decide)) ?_
 refine Go.st (fun _ => XS.aloadN X10.here hx rfl (hb hby d6_26) rfl rfl) ?_
 refine Go.st (fun _ => XS.iloadN X10.here hx rfl (hb hby d6_27) rfl) ?_
 refine Go.st (fun _ => XS.iload X10.here hx rfl (hb hby d6_28) rfl) ?_
 refine Go.st (fun _ => XS.i2b X10.here hx rfl (hb hby d6_30) rfl) ?_
 obtain ⟨cl14, Ar14, qc14, Sz14, Nn14, Ha14, Gf14⟩ := id f11
 obtain ⟨T14, h14, X14, e14, W14, st14⟩ := stB X10 hx hZ e10 Ar14 (j := (3 : Int32)) (inb_of Sz14 ⟨by decide, by decide⟩) (g := (mkF m 31 #[.val (.ref aa), .val (.int 3), .val (.ref bb), .val (.int 3), .val (.int 6), .val (.int 3), .val (.int cd)] [(.int (cd.toInt8.toInt32)), (.int 3), (.ref bb)])) rfl rfl (hb hby d6_31)
 refine Go.st st14 ?_
 have f16 := f12.other W14 ne_ab
 have O14 := O10.wr W14 g_b
 have N14 := Fr.snoc X14 N10 g_b
 have K14 : Keep h0 h14 [bb] := K10.wr W14 (Or.inl (by simp))
 have f15 : Arv Z h14 bb kb .byte (6 : Int32) [(.int (nar .byte (ca.toInt8.toInt32))), (.int (nar .byte (cb.toInt8.toInt32))), (.int (nar .byte (cc.toInt8.toInt32))), (.int (nar .byte (cd.toInt8.toInt32))), (.int 0), (.int 0)] (.int 0) := Arv.set Ar14 qc14 Sz14 Nn14 Ha14 Gf14 (fits_nar_byte _) W14 3 rfl (Nat.le_of_ble_eq_true rfl)
 refine Go.st (fun _ => XS.iinc X14.here hx rfl (hb hby d6_32) rfl (l' := #[.val (.ref aa), .val (.int 4), .val (.ref bb), .val (.int 3), .val (.int 6), .val (.int 3), .val (.int cd)]) rfl) ?_
 refine Go.st (fun _ => XS.iinc X14.here hx rfl (hb hby d6_35) rfl (l' := #[.val (.ref aa), .val (.int 4), .val (.ref bb), .val (.int 4), .val (.int 6), .val (.int 3), .val (.int cd)]) rfl) ?_
 refine Go.st (fun _ => XS.iinc X14.here hx rfl (hb hby d6_38) rfl (l' := #[.val (.ref aa), .val (.int 4), .val (.ref bb), .val (.int 4), .val (.int 6), .val (.int 4), .val (.int cd)]) rfl) ?_
 show Go _ _ _ _ _ _ _ (T14.setTop (mkF m 41 #[.val (.ref aa), .val (.int 4), .val (.ref bb), .val (.int 4), .val (.int 6), .val (.int 4), .val (.int cd)] []))
 refine Go.st (fun _ => XS.goto X14.here hx rfl (pc0 := 41) (pc' := 3) rfl (hb hby d6_41) (by decide) (by decide)) ?_
 show Go _ _ _ _ _ _ _ (T14.setTop (mkF m 3 #[.val (.ref aa), .val (.int 4), .val (.ref bb), .val (.int 4), .val (.int 6), .val (.int 4), .val (.int cd)] []))
 refine Go.st (fun _ => XS.iload X14.here hx rfl (hb hby d6_3) rfl) ?_
 refine Go.st (fun _ => XS.iload X14.here hx rfl (hb hby d6_5) rfl) ?_
 show Go _ _ _ _ _ _ _ (T14.setTop (mkF m 7 #[.val (.ref aa), .val (.int 4), .val (.ref bb), .val (.int 4), .val (.int 6), .val (.int 4), .val (.int cd)] [(.int 6), (.int 4)]))
 refine Go.st (fun _ => XS.icmpNo X14.here hx rfl (hb hby d6_7) rfl (XT.ii_ge_f (by decide))) ?_
 refine Go.st (fun _ => XS.aloadN X14.here hx rfl (hb hby d6_10) rfl rfl) ?_
 refine Go.st (fun _ => XS.iloadN X14.here hx rfl (hb hby d6_11) rfl) ?_
 show Go _ _ _ _ _ _ _ (T14.setTop (mkF m 12 #[.val (.ref aa), .val (.int 4), .val (.ref bb), .val (.int 4), .val (.int 6), .val (.int 4), .val (.int cd)] [(.int 4), (.ref aa)]))
 obtain ⟨cl17, Ar17, qc17, Sz17, Nn17, Ha17, Gf17⟩ := id f16
 refine Go.st (fun _ => X14.caload hx (j := (4 : Int32)) (v := (.int ce)) (by rw [e14]; exact Ar17.1) (State.isArrayOf_alike hZ.alike Ar17.2.1) Ar17.2.2 (inb_of Sz17 ⟨by decide, by decide⟩) (Ha17.at (inb_of Sz17 ⟨by decide, by decide⟩) rfl) (g := (mkF m 12 #[.val (.ref aa), .val (.int 4), .val (.ref bb), .val (.int 4), .val (.int 6), .val (.int 4), .val (.int cd)] [(.int 4), (.ref aa)])) rfl rfl (hb hby d6_12) _) ?_
 show Go _ _ _ _ _ _ _ (T14.setTop (mkF m 13 #[.val (.ref aa), .val (.int 4), .val (.ref bb), .val (.int 4), .val (.int 6), .val (.int 4), .val (.int cd)] [(.int ce)]))
 refine Go.st (fun _ => XS.istore X14.here hx rfl (hb hby d6_13) rfl (l' := #[.val (.ref aa), .val (.int 4), .val (.ref bb), .val (.int 4), .val (.int 6), .val (.int 4), .val (.int ce)]) rfl) ?_
 refine Go.st (fun _ => XS.iload X14.here hx rfl (hb hby d6_15) rfl) ?_
 refine Go.st (fun _ => XS.sipush X14.here hx rfl (hb hby d6_17)) ?_
 show Go _ _ _ _ _ _ _ (T14.setTop (mkF m 20 #[.val (.ref aa), .val (.int 4), .val (.ref bb), .val (.int 4), .val (.int 6), .val (.int 4), .val (.int ce)] [(.int 255), (.int ce)]))
 refine Go.st (fun _ => XS.icmpYes X14.here hx rfl (pc0 := 20) (pc' := 26) rfl (hb hby d6_20) rfl (XT.ii_le_t q_ce) (by decide) (by decide)) ?_
 refine Go.st (fun _ => XS.aloadN X14.here hx rfl (hb hby d6_26) rfl rfl) ?_
 refine Go.st (fun _ => XS.iloadN X14.here hx rfl (hb hby d6_27) rfl) ?_
 refine Go.st (fun _ => XS.iload X14.here hx rfl (hb hby d6_28) rfl) ?_
 refine Go.st (fun _ => XS.i2b X14.here hx rfl (hb hby d6_30) rfl) ?_
 obtain ⟨cl18, Ar18, qc18, Sz18, Nn18, Ha18, Gf18⟩ := id f15
 obtain ⟨T18, h18, X18, e18, W18, st18⟩ := stB X14 hx hZ e14 Ar18 (j := (4 : Int32)) (inb_of Sz18 ⟨by decide, by decide⟩) (g := (mkF m 31 #[.val (.ref aa), .val (.int 4), .val (.ref bb), .val (.int 4), .val (.int 6), .val (.int 4), .val (.int ce)] [(.int (ce.toInt8.toInt32)), (.int 4), (.ref bb)])) rfl rfl (hb hby d6_31)
 refine Go.st st18 ?_
 have f20 := f16.other W18 ne_ab
 have O18 := O14.wr W18 g_b
 have N18 := Fr.snoc X18 N14 g_b
 have K18 : Keep h0 h18 [bb] := K14.wr W18 (Or.inl (by simp))
 have f19 : Arv Z h18 bb kb .byte (6 : Int32) [(.int (nar .byte (ca.toInt8.toInt32))), (.int (nar .byte (cb.toInt8.toInt32))), (.int (nar .byte (cc.toInt8.toInt32))), (.int (nar .byte (cd.toInt8.toInt32))), (.int (nar .byte (ce.toInt8.toInt32))), (.int 0)] (.int 0) := Arv.set Ar18 qc18 Sz18 Nn18 Ha18 Gf18 (fits_nar_byte _) W18 4 rfl (Nat.le_of_ble_eq_true rfl)
 refine Go.st (fun _ => XS.iinc X18.here hx rfl (hb hby d6_32) rfl (l' := #[.val (.ref aa), .val (.int 5), .val (.ref bb), .val (.int 4), .val (.int 6), .val (.int 4), .val (.int ce)]) rfl) ?_
 refine Go.st (fun _ => XS.iinc X18.here hx rfl (hb hby d6_35) rfl (l' := #[.val (.ref aa), .val (.int 5), .val (.ref bb), .val (.int 5), .val (.int 6), .val (.int 4), .val (.int ce)]) rfl) ?_
 refine Go.st (fun _ => XS.iinc X18.here hx rfl (hb hby d6_38) rfl (l' := #[.val (.ref aa), .val (.int 5), .val (.ref bb), .val (.int 5), .val (.int 6), .val (.int 5), .val (.int ce)]) rfl) ?_
 show Go _ _ _ _ _ _ _ (T18.setTop (mkF m 41 #[.val (.ref aa), .val (.int 5), .val (.ref bb), .val (.int 5), .val (.int 6), .val (.int 5), .val (.int ce)] []))
 refine Go.st (fun _ => XS.goto X18.here hx rfl (pc0 := 41) (pc' := 3) rfl (hb hby d6_41) (by decide) (by decide)) ?_
 show Go _ _ _ _ _ _ _ (T18.setTop (mkF m 3 #[.val (.ref aa), .val (.int 5), .val (.ref bb), .val (.int 5), .val (.int 6), .val (.int 5), .val (.int ce)] []))
 refine Go.st (fun _ => XS.iload X18.here hx rfl (hb hby d6_3) rfl) ?_
 refine Go.st (fun _ => XS.iload X18.here hx rfl (hb hby d6_5) rfl) ?_
 show Go _ _ _ _ _ _ _ (T18.setTop (mkF m 7 #[.val (.ref aa), .val (.int 5), .val (.ref bb), .val (.int 5), .val (.int 6), .val (.int 5), .val (.int ce)] [(.int 6), (.int 5)]))
 refine Go.st (fun _ => XS.icmpNo X18.here hx rfl (hb hby d6_7) rfl (XT.ii_ge_f (by decide))) ?_
 refine Go.st (fun _ => XS.aloadN X18.here hx rfl (hb hby d6_10) rfl rfl) ?_
 refine Go.st (fun _ => XS.iloadN X18.here hx rfl (hb hby d6_11) rfl) ?_
 show Go _ _ _ _ _ _ _ (T18.setTop (mkF m 12 #[.val (.ref aa), .val (.int 5), .val (.ref bb), .val (.int 5), .val (.int 6), .val (.int 5), .val (.int ce)] [(.int 5), (.ref aa)]))
 obtain ⟨cl21, Ar21, qc21, Sz21, Nn21, Ha21, Gf21⟩ := id f20
 refine Go.st (fun _ => X18.caload hx (j := (5 : Int32)) (v := (.int cf)) (by rw [e18]; exact Ar21.1) (State.isArrayOf_alike hZ.alike Ar21.2.1) Ar21.2.2 (inb_of Sz21 ⟨by decide, by decide⟩) (Ha21.at (inb_of Sz21 ⟨by decide, by decide⟩) rfl) (g := (mkF m 12 #[.val (.ref aa), .val (.int 5), .val (.ref bb), .val (.int 5), .val (.int 6), .val (.int 5), .val (.int ce)] [(.int 5), (.ref aa)])) rfl rfl (hb hby d6_12) _) ?_
 show Go _ _ _ _ _ _ _ (T18.setTop (mkF m 13 #[.val (.ref aa), .val (.int 5), .val (.ref bb), .val (.int 5), .val (.int 6), .val (.int 5), .val (.int ce)] [(.int cf)]))
 refine Go.st (fun _ => XS.istore X18.here hx rfl (hb hby d6_13) rfl (l' := #[.val (.ref aa), .val (.int 5), .val (.ref bb), .val (.int 5), .val (.int 6), .val (.int 5), .val (.int cf)]) rfl) ?_
 refine Go.st (fun _ => XS.iload X18.here hx rfl (hb hby d6_15) rfl) ?_
 refine Go.st (fun _ => XS.sipush X18.here hx rfl (hb hby d6_17)) ?_
 show Go _ _ _ _ _ _ _ (T18.setTop (mkF m 20 #[.val (.ref aa), .val (.int 5), .val (.ref bb), .val (.int 5), .val (.int 6), .val (.int 5), .val (.int cf)] [(.int 255), (.int cf)]))
 refine Go.st (fun _ => XS.icmpYes X18.here hx rfl (pc0 := 20) (pc' := 26) rfl (hb hby d6_20) rfl (XT.ii_le_t q_cf) (by decide) (by decide)) ?_
 refine Go.st (fun _ => XS.aloadN X18.here hx rfl (hb hby d6_26) rfl rfl) ?_
 refine Go.st (fun _ => XS.iloadN X18.here hx rfl (hb hby d6_27) rfl) ?_
 refine Go.st (fun _ => XS.iload X18.here hx rfl (hb hby d6_28) rfl) ?_
 refine Go.st (fun _ => XS.i2b X18.here hx rfl (hb hby d6_30) rfl) ?_
 obtain ⟨cl22, Ar22, qc22, Sz22, Nn22, Ha22, Gf22⟩ := id f19
 obtain ⟨T22, h22, X22, e22, W22, st22⟩ := stB X18 hx hZ e18 Ar22 (j := (5 : Int32)) (inb_of Sz22 ⟨by decide, by decide⟩) (g := (mkF m 31 #[.val (.ref aa), .val (.int 5), .val (.ref bb), .val (.int 5), .val (.int 6), .val (.int 5), .val (.int cf)] [(.int (cf.toInt8.toInt32)), (.int 5), (.ref bb)])) rfl rfl (hb hby d6_31)
 refine Go.st st22 ?_
 have f24 := f20.other W22 ne_ab
 have O22 := O18.wr W22 g_b
 have N22 := Fr.snoc X22 N18 g_b
 have K22 : Keep h0 h22 [bb] := K18.wr W22 (Or.inl (by simp))
 have f23 : Arv Z h22 bb kb .byte (6 : Int32) [(.int (nar .byte (ca.toInt8.toInt32))), (.int (nar .byte (cb.toInt8.toInt32))), (.int (nar .byte (cc.toInt8.toInt32))), (.int (nar .byte (cd.toInt8.toInt32))), (.int (nar .byte (ce.toInt8.toInt32))), (.int (nar .byte (cf.toInt8.toInt32)))] (.int 0) := Arv.set Ar22 qc22 Sz22 Nn22 Ha22 Gf22 (fits_nar_byte _) W22 5 rfl (Nat.le_of_ble_eq_true rfl)
 refine Go.st (fun _ => XS.iinc X22.here hx rfl (hb hby d6_32) rfl (l' := #[.val (.ref aa), .val (.int 6), .val (.ref bb), .val (.int 5), .val (.int 6), .val (.int 5), .val (.int cf)]) rfl) ?_
 refine Go.st (fun _ => XS.iinc X22.here hx rfl (hb hby d6_35) rfl (l' := #[.val (.ref aa), .val (.int 6), .val (.ref bb), .val (.int 6), .val (.int 6), .val (.int 5), .val (.int cf)]) rfl) ?_
 refine Go.st (fun _ => XS.iinc X22.here hx rfl (hb hby d6_38) rfl (l' := #[.val (.ref aa), .val (.int 6), .val (.ref bb), .val (.int 6), .val (.int 6), .val (.int 6), .val (.int cf)]) rfl) ?_
 show Go _ _ _ _ _ _ _ (T22.setTop (mkF m 41 #[.val (.ref aa), .val (.int 6), .val (.ref bb), .val (.int 6), .val (.int 6), .val (.int 6), .val (.int cf)] []))
 refine Go.st (fun _ => XS.goto X22.here hx rfl (pc0 := 41) (pc' := 3) rfl (hb hby d6_41) (by decide) (by decide)) ?_
 show Go _ _ _ _ _ _ _ (T22.setTop (mkF m 3 #[.val (.ref aa), .val (.int 6), .val (.ref bb), .val (.int 6), .val (.int 6), .val (.int 6), .val (.int cf)] []))
 refine Go.st (fun _ => XS.iload X22.here hx rfl (hb hby d6_3) rfl) ?_
 refine Go.st (fun _ => XS.iload X22.here hx rfl (hb hby d6_5) rfl) ?_
 show Go _ _ _ _ _ _ _ (T22.setTop (mkF m 7 #[.val (.ref aa), .val (.int 6), .val (.ref bb), .val (.int 6), .val (.int 6), .val (.int 6), .val (.int cf)] [(.int 6), (.int 6)]))
 refine Go.st (fun _ => XS.icmpYes X22.here hx rfl (pc0 := 7) (pc' := 44) rfl (hb hby d6_7) rfl (XT.ii_ge_t (by decide)) (by decide) (by decide)) ?_
 refine Go.st (fun _ => XS.iload X22.here hx rfl (hb hby d6_44) rfl) ?_
 show Go _ _ _ _ _ _ _ (T22.setTop (mkF m 46 #[.val (.ref aa), .val (.int 6), .val (.ref bb), .val (.int 6), .val (.int 6), .val (.int 6), .val (.int cf)] [(.int 6)]))
 refine Go.ret X22 hx hlk (t := .int) Bd.returns rfl (Or.inl ⟨rfl, Or.inl rfl, _, rfl⟩) (hb hby d6_46) (by decide) (by decide) e22 ?_
 exact ⟨rfl, N22, K22, f23⟩
theorem ef_rm5_6 (m : MethodId) (aa : Addr) : entryFrame m #[(.ref aa), (.int 0), (.int 6)] 6 = mkF m 0 #[.val (.ref aa), .val (.int 0), .val (.int 6), .unset, .unset, .unset] [] := by first | (simp [entryFrame, mkF, argsToLocals, Value.category]; done) | rfl
def Q5_6 (Z : State) (aa : Addr) (ka : ClassId) (ca : Int32) (cb : Int32) (cc : Int32) (cd : Int32) (ce : Int32) (cf : Int32) (h0 : Heap) (n0 : Nat) (v : Option Value) (h : Heap) (L : List Loc) : Prop := ∃ (rr : Addr) (kr : ClassId), v = some (.ref rr) ∧ Fr n0 L ∧ Keep h0 h [] ∧ Arv Z h rr kr .byte (6 : Int32) [(.int (nar .byte (ca.toInt8.toInt32))), (.int (nar .byte (cb.toInt8.toInt32))), (.int (nar .byte (cc.toInt8.toInt32))), (.int (nar .byte (cd.toInt8.toInt32))), (.int (nar .byte (ce.toInt8.toInt32))), (.int (nar .byte (cf.toInt8.toInt32)))] (.int 0) ∧ h0.size ≤ rr
set_option maxRecDepth 65536 in
set_option maxHeartbeats 40000000 in
theorem rm5_6 (l : Launch) (Z : State) (a0 : Array Value) (hw : ∀ d ∈ tables_1, d.before a0 Z = true) (ws : List Jvm.Cond) (aa : Addr) (ka : ClassId) (ca : Int32) (cb : Int32) (cc : Int32) (cd : Int32) (ce : Int32) (cf : Int32) (h0 : Heap) (n0 : Nat) (O0 : Old Z n0 h0) (Va : Arv Z h0 aa ka .char (6 : Int32) [(.int ca), (.int cb), (.int cc), (.int cd), (.int ce), (.int cf)] (.int 0)) (q_ca : ¬ (255 : Int32) < ca) (q_cb : ¬ (255 : Int32) < cb) (q_cc : ¬ (255 : Int32) < cc) (q_cd : ¬ (255 : Int32) < cd) (q_ce : ¬ (255 : Int32) < ce) (q_cf : ¬ (255 : Int32) < cf) :
  MetFree l mn9 (head1 (Jvm.Cond.code mn9 jdk_52_method_16_code 6 (some (.array .byte)) :: ws) ({ frames := 1, cells := 1, slots := 6, locals := 18 } : Room)) (fun ay U => ay = #[(.ref aa), (.int 0), (.int 6)] ∧ Z.Warmed39 U.vm ∧ U.heap = h0) (fun _ _ _ _ _ => True) (fun _ U o U' => ∃ v L, o = .returned v ∧ Q5_6 Z aa ka ca cb cc cd ce cf h0 n0 v U'.heap L ∧ FrameEnd U o U' L ({ frames := 1, cells := 1, slots := 6, locals := 18 } : Room).cells ({ frames := 1, cells := 1, slots := 6, locals := 18 } : Room).slots) := by
 refine MetFree.of_bodySF (plainFor_of_name pn_java_lang_StringUTF16) hisR ?_
 intro p e s m args below meth c s₁ Bd hml0 hP hK
 obtain ⟨rfl, hZ, hh⟩ := hP
 have hx := Bd.exec
 have hby := Bd.bytes
 have hlk : meth.locks = false := BodyLoose.notSynchronized Bd
 have hml : c.maxLocals = 6 := hml0
 have hown : s.vm.findClass "java/lang/StringUTF16" = some m.cls := findClass_of_methodNamed Bd.named
 have hnm := (name_of_methodNamed Bd.named Bd.method).1
 have X0 : Stand p l e ({ frames := 1, cells := 1, slots := 6, locals := 18 } : Room) s m #[(.ref aa), (.int 0), (.int 6)] below meth c s₁ [] 0 0 := Stand.of_body Bd
 have e0 : s₁.heap = h0 := by rw [← hh, Bd.state]; rfl
 have N0 := Fr.nil n0
 suffices hgo : Go p e below s 1 6 (Q5_6 Z aa ka ca cb cc cd ce cf h0 n0) (s₁.setTop (mkF m 0 #[.val (.ref aa), .val (.int 0), .val (.int 6), .unset, .unset, .unset] [])) by
  obtain ⟨t, o, h1, h2⟩ := hgo; exact ⟨t, o, castTop (ef_rm5_6 m aa) h1, h2⟩
 show Go _ _ _ _ _ _ _ (s₁.setTop (mkF m 0 #[.val (.ref aa), .val (.int 0), .val (.int 6), .unset, .unset, .unset] []))
 refine Go.st (fun _ => XS.iloadN X0.here hx rfl (hb hby d5_0) rfl) ?_
 obtain ⟨T1, h1, k1, X1, e1, E1, A1, st1⟩ := newP X0 hx hZ (wdx hw 28 rfl) e0 (g := (mkF m 1 #[.val (.ref aa), .val (.int 0), .val (.int 6), .unset, .unset, .unset] [(.int 6)])) rfl (hb hby d5_1) rfl (by decide) (cap := 6) (by decide) (by decide) (by decide) (by decide)
 obtain ⟨b1, g1⟩ : ∃ z, z = h0.size := ⟨_, rfl⟩
 rw [← g1] at A1 st1
 refine Go.st st1 ?_
 have g_b1 : n0 ≤ b1 := Nat.le_trans (own_le O0) (Nat.le_of_eq g1.symm)
 have z_b1 : h0.size ≤ b1 := Nat.le_of_eq g1.symm
 have ne2 : aa ≠ b1 := Nat.ne_of_lt (Nat.lt_of_lt_of_le Va.lt (Nat.le_of_eq g1.symm))
 have f3 := Va.ext E1
 have O1 := O0.ext E1
 have K1 : Keep h0 h1 [] := (Keep.refl h0 []).ext E1
 have f4 : Arv Z h1 b1 k1 .byte (6 : Int32) [(.int 0), (.int 0), (.int 0), (.int 0), (.int 0), (.int 0)] (.int 0) := (Arv.new A1 (by decide)).pad (pad_rep [] (.int 0) 6)
 show Go _ _ _ _ _ _ _ (T1.setTop (mkF m 3 #[.val (.ref aa), .val (.int 0), .val (.int 6), .unset, .unset, .unset] [(.ref b1)]))
 refine Go.st (fun _ => XS.astoreN X1.here hx rfl (hb hby d5_3) rfl rfl (l' := #[.val (.ref aa), .val (.int 0), .val (.int 6), .val (.ref b1), .unset, .unset]) rfl) ?_
 refine Go.st (fun _ => XS.aloadN X1.here hx rfl (hb hby d5_4) rfl rfl) ?_
 refine Go.st (fun _ => XS.iloadN X1.here hx rfl (hb hby d5_5) rfl) ?_
 refine Go.st (fun _ => XS.aloadN X1.here hx rfl (hb hby d5_6) rfl rfl) ?_
 refine Go.st (fun _ => XS.iconst X1.here hx rfl (hb hby d5_7)) ?_
 refine Go.st (fun _ => XS.iloadN X1.here hx rfl (hb hby d5_8) rfl) ?_
 show Go _ _ _ _ _ _ _ (T1.setTop (mkF m 9 #[.val (.ref aa), .val (.int 0), .val (.int 6), .val (.ref b1), .unset, .unset] [(.int 6), (.int 0), (.ref b1), (.int 0), (.ref aa)]))
 obtain ⟨_, _, ⟨T5, L5, k5, n5⟩, -, X5, ⟨Lc5, hQ5, l5, y5, z5⟩, st5⟩ := Jvm.LawKit.callS X1 hx (y := mn8) hown (mvT hZ (wdx hw 29 rfl)) (mvT hZ (wdx hw 30 rfl)) (mvT hZ (wdx hw 26 rfl)) (mvT hZ (wdx hw 31 rfl)) (by decide) (backOf (W := 0) (rm6_6 l Z a0 hw [] aa b1 ka k1 ca cb cc cd ce cf h1 n0 O1 f3 f4 q_ca q_cb q_cc q_cd q_ce q_cf g_b1 ne2) hZ (wdx hw 31 rfl) (wdx hw 26 rfl) (by decide) (by decide)) (g := (mkF m 9 #[.val (.ref aa), .val (.int 0), .val (.int 6), .val (.ref b1), .unset, .unset] [(.int 6), (.int 0), (.ref b1), (.int 0), (.ref aa)])) rfl (by rw [hml]; rfl) (argsL := [(.ref aa), (.int 0), (.ref b1), (.int 0), (.int 6)]) (rest := []) (lenOf pd___CI_BII_I rfl) rfl (by show 2 * 0 + _ ≤ _; exact Nat.le_of_eq rfl) (hb hby d5_9) (fun _ _ => ⟨rfl, e1, (by exact lee rfl), (by exact lee rfl)⟩)
 dsimp only [Pt.U, Pt.locs, Pt.cells, Pt.slots] at X5 l5 y5 z5 st5 hQ5
 subst l5 y5 z5
 obtain ⟨rfl, Nq5, Kq5, f6⟩ := hQ5
 have N5 := Fr.app N0 Nq5
 refine Go.st st5 ?_
 have f7 := f3.keep Kq5 (ninS ne2 nin0)
 have O5 := O1.keep Kq5 (allS g_b1 all0)
 have K5 : Keep h0 T5.heap [] := K1.trans Kq5 (allS (Or.inr z_b1) all0)
 show Go _ _ _ _ _ _ _ (T5.setTop (mkF m 12 #[.val (.ref aa), .val (.int 0), .val (.int 6), .val (.ref b1), .unset, .unset] [(.int 6)]))
 refine Go.st (fun _ => XS.istore X5.here hx rfl (hb hby d5_12) rfl (l' := #[.val (.ref aa), .val (.int 0), .val (.int 6), .val (.ref b1), .val (.int 6), .unset]) rfl) ?_
 refine Go.st (fun _ => XS.iload X5.here hx rfl (hb hby d5_14) rfl) ?_
 refine Go.st (fun _ => XS.iloadN X5.here hx rfl (hb hby d5_16) rfl) ?_
 show Go _ _ _ _ _ _ _ (T5.setTop (mkF m 17 #[.val (.ref aa), .val (.int 0), .val (.int 6), .val (.ref b1), .val (.int 6), .unset] [(.int 6), (.int 6)]))
 refine Go.st (fun _ => XS.icmpYes X5.here hx rfl (pc0 := 17) (pc' := 57) rfl (hb hby d5_17) rfl (XT.ii_eq_t (by decide)) (by decide) (by decide)) ?_
 refine Go.st (fun _ => XS.aloadN X5.here hx rfl (hb hby d5_57) rfl rfl) ?_
 show Go _ _ _ _ _ _ _ (T5.setTop (mkF m 58 #[.val (.ref aa), .val (.int 0), .val (.int 6), .val (.ref b1), .val (.int 6), .unset] [(.ref b1)]))
 refine Go.ret X5 hx hlk (t := (.array .byte)) Bd.returns rfl (Or.inr (Or.inr (Or.inr (Or.inr ⟨rfl, rfl, rfl⟩)))) (hb hby d5_58) (by decide) (by decide) rfl ?_
 exact ⟨b1, k1, rfl, N5, K5, f6, z_b1⟩
theorem ef_rm7_6 (m : MethodId) (bb : Addr) : entryFrame m #[(.ref bb), (.int 6)] 2 = mkF m 0 #[.val (.ref bb), .val (.int 6)] [] := by first | (simp [entryFrame, mkF, argsToLocals, Value.category]; done) | rfl
def Q7_6 (Z : State) (bb : Addr) (kb : ClassId) (ca : Int32) (cb : Int32) (cc : Int32) (cd : Int32) (ce : Int32) (cf : Int32) (h0 : Heap) (n0 : Nat) (v : Option Value) (h : Heap) (L : List Loc) : Prop := v = some (.int 0) ∧ Fr n0 L ∧ h = h0
set_option maxRecDepth 65536 in
set_option maxHeartbeats 40000000 in
theorem rm7_6 (l : Launch) (Z : State) (a0 : Array Value) (hw : ∀ d ∈ tables_1, d.before a0 Z = true) (ws : List Jvm.Cond) (bb : Addr) (kb : ClassId) (ca : Int32) (cb : Int32) (cc : Int32) (cd : Int32) (ce : Int32) (cf : Int32) (h0 : Heap) (n0 : Nat) (O0 : Old Z n0 h0) (Vb : Arv Z h0 bb kb .byte (6 : Int32) [(.int ca), (.int cb), (.int cc), (.int cd), (.int ce), (.int cf)] (.int 0)) :
  MetFree l mn10 (head1 (Jvm.Cond.code mn10 jdk_52_method_15_code 2 (some .byte) :: ws) ({ frames := 0, cells := 0, slots := 0, locals := 0 } : Room)) (fun ay U => ay = #[(.ref bb), (.int 6)] ∧ Z.Warmed39 U.vm ∧ U.heap = h0) (fun _ _ _ _ _ => True) (fun _ U o U' => ∃ v L, o = .returned v ∧ Q7_6 Z bb kb ca cb cc cd ce cf h0 n0 v U'.heap L ∧ FrameEnd U o U' L ({ frames := 0, cells := 0, slots := 0, locals := 0 } : Room).cells ({ frames := 0, cells := 0, slots := 0, locals := 0 } : Room).slots) := by
 refine MetFree.of_bodySF (plainFor_of_name pn_java_lang_StringUTF16) hisR ?_
 intro p e s m args below meth c s₁ Bd hml0 hP hK
 obtain ⟨rfl, hZ, hh⟩ := hP
 have hx := Bd.exec
 have hby := Bd.bytes
 have hlk : meth.locks = false := BodyLoose.notSynchronized Bd
 have hml : c.maxLocals = 2 := hml0
 have hown : s.vm.findClass "java/lang/StringUTF16" = some m.cls := findClass_of_methodNamed Bd.named
 have hnm := (name_of_methodNamed Bd.named Bd.method).1
 have X0 : Stand p l e ({ frames := 0, cells := 0, slots := 0, locals := 0 } : Room) s m #[(.ref bb), (.int 6)] below meth c s₁ [] 0 0 := Stand.of_body Bd
 have e0 : s₁.heap = h0 := by rw [← hh, Bd.state]; rfl
 have N0 := Fr.nil n0
 suffices hgo : Go p e below s 0 0 (Q7_6 Z bb kb ca cb cc cd ce cf h0 n0) (s₁.setTop (mkF m 0 #[.val (.ref bb), .val (.int 6)] [])) by
  obtain ⟨t, o, h1, h2⟩ := hgo; exact ⟨t, o, castTop (ef_rm7_6 m bb) h1, h2⟩
 show Go _ _ _ _ _ _ _ (s₁.setTop (mkF m 0 #[.val (.ref bb), .val (.int 6)] []))
 refine Go.st (fun _ => XS.iloadN X0.here hx rfl (hb hby d7_0) rfl) ?_
 refine Go.st (fun _ => XS.aloadN X0.here hx rfl (hb hby d7_1) rfl rfl) ?_
 show Go _ _ _ _ _ _ _ (s₁.setTop (mkF m 2 #[.val (.ref bb), .val (.int 6)] [(.ref bb), (.int 6)]))
 obtain ⟨cl1, Ar1, qc1, Sz1, Nn1, Ha1, Gf1⟩ := id Vb
 refine Go.st (fun _ => X0.arraylength hx (by rw [e0]; exact Ar1.1) (State.isArrayOf_alike hZ.alike Ar1.2.1) (g := (mkF m 2 #[.val (.ref bb), .val (.int 6)] [(.ref bb), (.int 6)])) rfl rfl (hb hby d7_2) _) ?_
 rw [len_of Sz1 Nn1]
 show Go _ _ _ _ _ _ _ (s₁.setTop (mkF m 3 #[.val (.ref bb), .val (.int 6)] [(.int 6), (.int 6)]))
 refine Go.st (fun _ => XS.isub X0.here hx rfl (hb hby d7_3) rfl) ?_
 refine Go.st (fun _ => XS.bipush X0.here hx rfl (hb hby d7_4)) ?_
 refine Go.st (fun _ => XS.iushr X0.here hx rfl (hb hby d7_6) rfl) ?_
 refine Go.st (fun _ => XS.i2b X0.here hx rfl (hb hby d7_7) rfl) ?_
 show Go _ _ _ _ _ _ _ (s₁.setTop (mkF m 8 #[.val (.ref bb), .val (.int 6)] [(.int ((((0 : Int32).toUInt32 >>> ((31 : Int32) &&& 31).toUInt32).toInt32).toInt8.toInt32))]))
 refine Go.retB X0 hx hlk (t := .byte) Bd.returns (by simp) (hb hby d7_8) (by decide) (by decide) e0 ?_
 exact ⟨rfl, N0, rfl⟩
theorem ef_rm3_6 (m : MethodId) (ob : Addr) (aa : Addr) : entryFrame m #[(.ref ob), (.ref aa), (.int 0), (.int 6), .null] 6 = mkF m 0 #[.val (.ref ob), .val (.ref aa), .val (.int 0), .val (.int 6), .val .null, .unset] [] := by first | (simp [entryFrame, mkF, argsToLocals, Value.category]; done) | rfl
def Q3_6 (Z : State) (ob : Addr) (aa : Addr) (ka : ClassId) (cs : Int32) (ca : Int32) (cb : Int32) (cc : Int32) (cd : Int32) (ce : Int32) (cf : Int32) (h0 : Heap) (n0 : Nat) (v : Option Value) (h : Heap) (L : List Loc) : Prop := ∃ (tb : Addr) (kt : ClassId), v = none ∧ Fr n0 L ∧ Keep h0 h [ob] ∧ Fld Z h ob "java/lang/String" "value" "[B" (.ref tb) ∧ Fld Z h ob "java/lang/String" "coder" "B" (.int 0) ∧ Arv Z h tb kt .byte (6 : Int32) [(.int (nar .byte (ca.toInt8.toInt32))), (.int (nar .byte (cb.toInt8.toInt32))), (.int (nar .byte (cc.toInt8.toInt32))), (.int (nar .byte (cd.toInt8.toInt32))), (.int (nar .byte (ce.toInt8.toInt32))), (.int (nar .byte (cf.toInt8.toInt32)))] (.int 0) ∧ h0.size ≤ tb
set_option maxRecDepth 65536 in
set_option maxHeartbeats 40000000 in
theorem rm3_6 (l : Launch) (Z : State) (a0 : Array Value) (hw : ∀ d ∈ tables_1, d.before a0 Z = true) (ws : List Jvm.Cond) (ob : Addr) (aa : Addr) (ka : ClassId) (cs : Int32) (ca : Int32) (cb : Int32) (cc : Int32) (cd : Int32) (ce : Int32) (cf : Int32) (h0 : Heap) (n0 : Nat) (O0 : Old Z n0 h0) (E_o : Exa Z h0 ob "java/lang/String") (Fv : Fld Z h0 ob "java/lang/String" "value" "[B" .null) (Fc : Fld Z h0 ob "java/lang/String" "coder" "B" (.int 0)) (Va : Arv Z h0 aa ka .char (6 : Int32) [(.int ca), (.int cb), (.int cc), (.int cd), (.int ce), (.int cf)] (.int 0)) (S_cs : Sta Z Z.heap "java/lang/String" "COMPACT_STRINGS" "Z" (.int cs)) (q_cs : ¬ cs = (0 : Int32)) (q_ca : ¬ (255 : Int32) < ca) (q_cb : ¬ (255 : Int32) < cb) (q_cc : ¬ (255 : Int32) < cc) (q_cd : ¬ (255 : Int32) < cd) (q_ce : ¬ (255 : Int32) < ce) (q_cf : ¬ (255 : Int32) < cf) (g_o : n0 ≤ ob) (ne_oa : ob ≠ aa) :
  MetFree l mn6 (head1 (Jvm.Cond.code mn6 jdk_42_method_149_code 6 none :: ws) ({ frames := 2, cells := 1, slots := 6, locals := 35 } : Room)) (fun ay U => ay = #[(.ref ob), (.ref aa), (.int 0), (.int 6), .null] ∧ Z.Warmed39 U.vm ∧ U.heap = h0) (fun _ _ _ _ _ => True) (fun _ U o U' => ∃ v L, o = .returned v ∧ Q3_6 Z ob aa ka cs ca cb cc cd ce cf h0 n0 v U'.heap L ∧ FrameEnd U o U' L ({ frames := 2, cells := 1, slots := 6, locals := 35 } : Room).cells ({ frames := 2, cells := 1, slots := 6, locals := 35 } : Room).slots) := by
 refine MetFree.of_bodySF (plainFor_of_name pn_java_lang_String) hisR ?_
 intro p e s m args below meth c s₁ Bd hml0 hP hK
 obtain ⟨rfl, hZ, hh⟩ := hP
 have hx := Bd.exec
 have hby := Bd.bytes
 have hlk : meth.locks = false := BodyLoose.notSynchronized Bd
 have hml : c.maxLocals = 6 := hml0
 have hown : s.vm.findClass "java/lang/String" = some m.cls := findClass_of_methodNamed Bd.named
 have hnm := (name_of_methodNamed Bd.named Bd.method).1
 have X0 : Stand p l e ({ frames := 2, cells := 1, slots := 6, locals := 35 } : Room) s m #[(.ref ob), (.ref aa), (.int 0), (.int 6), .null] below meth c s₁ [] 0 0 := Stand.of_body Bd
 have e0 : s₁.heap = h0 := by rw [← hh, Bd.state]; rfl
 have N0 := Fr.nil n0
 suffices hgo : Go p e below s 1 6 (Q3_6 Z ob aa ka cs ca cb cc cd ce cf h0 n0) (s₁.setTop (mkF m 0 #[.val (.ref ob), .val (.ref aa), .val (.int 0), .val (.int 6), .val .null, .unset] [])) by
  obtain ⟨t, o, h1, h2⟩ := hgo; exact ⟨t, o, castTop (ef_rm3_6 m ob aa) h1, h2⟩
 show Go _ _ _ _ _ _ _ (s₁.setTop (mkF m 0 #[.val (.ref ob), .val (.ref aa), .val (.int 0), .val (.int 6), .val .null, .unset] []))
 refine Go.st (fun _ => XS.aloadN X0.here hx rfl (hb hby d3_0) rfl rfl) ?_
 show Go _ _ _ _ _ _ _ (s₁.setTop (mkF m 1 #[.val (.ref ob), .val (.ref aa), .val (.int 0), .val (.int 6), .val .null, .unset] [(.ref ob)]))
 obtain ⟨T1, X1, e1, st1⟩ := initO X0 hx hZ hown (wdx hw 20 rfl) (wdx hw 21 rfl) (wdx hw 22 rfl) e0 (g := (mkF m 1 #[.val (.ref ob), .val (.ref aa), .val (.int 0), .val (.int 6), .val .null, .unset] [(.ref ob)])) rfl (by rw [hml]; rfl) rfl (hb hby d3_1) (by decide) (W := 0) (by show 2 * 0 + _ ≤ _; exact Nat.le_of_eq rfl) (by decide)
 refine Go.st st1 ?_
 show Go _ _ _ _ _ _ _ (T1.setTop (mkF m 4 #[.val (.ref ob), .val (.ref aa), .val (.int 0), .val (.int 6), .val .null, .unset] []))
 refine Go.st (fun _ => XS.iloadN X1.here hx rfl (hb hby d3_4) rfl) ?_
 show Go _ _ _ _ _ _ _ (T1.setTop (mkF m 5 #[.val (.ref ob), .val (.ref aa), .val (.int 0), .val (.int 6), .val .null, .unset] [(.int 6)]))
 refine Go.st (fun _ => XS.ifYes X1.here hx rfl (pc0 := 5) (pc' := 27) rfl (hb hby d3_5) rfl (XT.i0_ne_t (by decide)) (by decide) (by decide)) ?_
 obtain ⟨T2, X2, e2, st2⟩ := getS2 X1 hx hZ hown (host := "") (Or.inl (wdx hw 23 rfl)) Via.refl e1 (S_cs.ext O0.2) (g := (mkF m 27 #[.val (.ref ob), .val (.ref aa), .val (.int 0), .val (.int 6), .val .null, .unset] [])) rfl (hb hby d3_27)
 refine Go.st st2 ?_
 show Go _ _ _ _ _ _ _ (T2.setTop (mkF m 30 #[.val (.ref ob), .val (.ref aa), .val (.int 0), .val (.int 6), .val .null, .unset] [(.int cs)]))
 refine Go.st (fun _ => XS.ifNo X2.here hx rfl (hb hby d3_30) rfl (XT.i0_eq_f q_cs)) ?_
 refine Go.st (fun _ => XS.aloadN X2.here hx rfl (hb hby d3_33) rfl rfl) ?_
 refine Go.st (fun _ => XS.iloadN X2.here hx rfl (hb hby d3_34) rfl) ?_
 refine Go.st (fun _ => XS.iloadN X2.here hx rfl (hb hby d3_35) rfl) ?_
 show Go _ _ _ _ _ _ _ (T2.setTop (mkF m 36 #[.val (.ref ob), .val (.ref aa), .val (.int 0), .val (.int 6), .val .null, .unset] [(.int 6), (.int 0), (.ref aa)]))
 obtain ⟨_, _, ⟨T3, L3, k3, n3⟩, -, X3, ⟨Lc3, hQ3, l3, y3, z3⟩, st3⟩ := Jvm.LawKit.callS X2 hx (y := mn9) hown (mvT hZ (wdx hw 24 rfl)) (mvT hZ (wdx hw 25 rfl)) (mvT hZ (wdx hw 26 rfl)) (mvT hZ (wdx hw 27 rfl)) (by decide) (backOf (W := 0) (rm5_6 l Z a0 hw [] aa ka ca cb cc cd ce cf h0 n0 O0 Va q_ca q_cb q_cc q_cd q_ce q_cf) hZ (wdx hw 27 rfl) (wdx hw 26 rfl) (by decide) (by decide)) (g := (mkF m 36 #[.val (.ref ob), .val (.ref aa), .val (.int 0), .val (.int 6), .val .null, .unset] [(.int 6), (.int 0), (.ref aa)])) rfl (by rw [hml]; rfl) (argsL := [(.ref aa), (.int 0), (.int 6)]) (rest := []) (lenOf pd___CII__B rfl) rfl (by show 2 * 0 + _ ≤ _; exact Nat.le_of_eq rfl) (hb hby d3_36) (fun _ _ => ⟨rfl, e2, (by exact lee rfl), (by exact lee rfl)⟩)
 dsimp only [Pt.U, Pt.locs, Pt.cells, Pt.slots] at X3 l3 y3 z3 st3 hQ3
 subst l3 y3 z3
 obtain ⟨rr_3, kr_3, rfl, Nq3, Kq3, f4, szr_3⟩ := hQ3
 have N3 := Fr.app N0 Nq3
 refine Go.st st3 ?_
 have f5 := E_o.keep Kq3
 have f6 := Fv.keep Kq3 nin0
 have f7 := Fc.keep Kq3 nin0
 have f8 := Va.keep Kq3 nin0
 have O3 := O0.keep Kq3 all0
 have K3 : Keep h0 T3.heap [ob] := (Keep.refl h0 [ob]).trans Kq3 all0
 have g_rr_3 : n0 ≤ rr_3 := Nat.le_trans (own_le O0) szr_3
 have z_rr_3 : h0.size ≤ rr_3 := szr_3
 have ne9 : ob ≠ rr_3 := Nat.ne_of_lt (Nat.lt_of_lt_of_le E_o.lt szr_3)
 have ne10 : aa ≠ rr_3 := Nat.ne_of_lt (Nat.lt_of_lt_of_le Va.lt szr_3)
 show Go _ _ _ _ _ _ _ (T3.setTop (mkF m 39 #[.val (.ref ob), .val (.ref aa), .val (.int 0), .val (.int 6), .val .null, .unset] [(.ref rr_3)]))
 refine Go.st (fun _ => XS.astore X3.here hx rfl (hb hby d3_39) rfl rfl (l' := #[.val (.ref ob), .val (.ref aa), .val (.int 0), .val (.int 6), .val .null, .val (.ref rr_3)]) rfl) ?_
 refine Go.st (fun _ => XS.aloadN X3.here hx rfl (hb hby d3_41) rfl rfl) ?_
 refine Go.st (fun _ => XS.aload X3.here hx rfl (hb hby d3_42) rfl rfl) ?_
 refine Go.st (fun _ => XS.iloadN X3.here hx rfl (hb hby d3_44) rfl) ?_
 show Go _ _ _ _ _ _ _ (T3.setTop (mkF m 45 #[.val (.ref ob), .val (.ref aa), .val (.int 0), .val (.int 6), .val .null, .val (.ref rr_3)] [(.int 6), (.ref rr_3), (.ref ob)]))
 obtain ⟨_, _, ⟨T11, L11, k11, n11⟩, -, X11, ⟨Lc11, hQ11, l11, y11, z11⟩, st11⟩ := Jvm.LawKit.callS X3 hx (y := mn10) hown (mvT hZ (wdx hw 32 rfl)) (mvT hZ (wdx hw 33 rfl)) (mvT hZ (wdx hw 26 rfl)) (mvT hZ (wdx hw 34 rfl)) (by decide) (backOf (W := 1) (rm7_6 l Z a0 hw [] rr_3 kr_3 (nar .byte (ca.toInt8.toInt32)) (nar .byte (cb.toInt8.toInt32)) (nar .byte (cc.toInt8.toInt32)) (nar .byte (cd.toInt8.toInt32)) (nar .byte (ce.toInt8.toInt32)) (nar .byte (cf.toInt8.toInt32)) T3.heap n0 O3 f4) hZ (wdx hw 34 rfl) (wdx hw 26 rfl) (by decide) (by decide)) (g := (mkF m 45 #[.val (.ref ob), .val (.ref aa), .val (.int 0), .val (.int 6), .val .null, .val (.ref rr_3)] [(.int 6), (.ref rr_3), (.ref ob)])) rfl (by rw [hml]; rfl) (argsL := [(.ref rr_3), (.int 6)]) (rest := [(.ref ob)]) (lenOf pd___BI_B rfl) rfl (by show 2 * 0 + _ ≤ _; exact Nat.le_of_eq rfl) (hb hby d3_45) (fun _ _ => ⟨rfl, rfl, (by exact lee rfl), (by exact lee rfl)⟩)
 dsimp only [Pt.U, Pt.locs, Pt.cells, Pt.slots] at X11 l11 y11 z11 st11 hQ11
 subst l11 y11 z11
 obtain ⟨rfl, Nq11, eq11⟩ := hQ11
 have N11 := Fr.app N3 Nq11
 refine Go.st st11 ?_
 show Go _ _ _ _ _ _ _ (T11.setTop (mkF m 48 #[.val (.ref ob), .val (.ref aa), .val (.int 0), .val (.int 6), .val .null, .val (.ref rr_3)] [(.int 0), (.ref ob)]))
 obtain ⟨T12, h12, X12, e12, W12, st12⟩ := putFN X11 hx hZ hown (wdx hw 35 rfl) Via.refl eq11 f7 f5 (Or.inr ⟨(wdx hw 36 rfl), rfl, hnm⟩) (wdx hw 10 rfl) (ty := .byte) (v' := (.int 0)) (by decide) rfl rfl (g := (mkF m 48 #[.val (.ref ob), .val (.ref aa), .val (.int 0), .val (.int 6), .val .null, .val (.ref rr_3)] [(.int 0), (.ref ob)])) rfl rfl (hb hby d3_48)
 refine Go.st st12 ?_
 have f13 := f5.wr W12
 have f14 := f6.other W12 (Or.inr (slot_ne (Or.inr (wdx hw 38 rfl)) (Or.inr (wdx hw 36 rfl)) (by decide) (t := (.array .byte)) (t' := .byte) (by decide) (by decide)))
 have f15 := f7.same W12
 have f16 := f8.other W12 (Ne.symm ne_oa)
 have f17 := f4.other W12 (Ne.symm ne9)
 have O12 := O3.wr W12 g_o
 have N12 := Fr.snoc X12 N11 g_o
 have K12 : Keep h0 h12 [ob] := K3.wr W12 (Or.inl (by simp))
 refine Go.st (fun _ => XS.aloadN X12.here hx rfl (hb hby d3_51) rfl rfl) ?_
 refine Go.st (fun _ => XS.aload X12.here hx rfl (hb hby d3_52) rfl rfl) ?_
 obtain ⟨T18, h18, X18, e18, W18, st18⟩ := putF X12 hx hZ hown (host := "") (Or.inl (wdx hw 37 rfl)) Via.refl e12 f14 f13 (Or.inr ⟨(wdx hw 38 rfl), rfl, hnm⟩) (wdx hw 10 rfl) (ty := (.array .byte)) (by decide) rfl rfl (g := (mkF m 54 #[.val (.ref ob), .val (.ref aa), .val (.int 0), .val (.int 6), .val .null, .val (.ref rr_3)] [(.ref rr_3), (.ref ob)])) rfl rfl (hb hby d3_54)
 refine Go.st st18 ?_
 have f19 := f13.wr W18
 have f20 := f14.same W18
 have f21 := f15.other W18 (Or.inr (slot_ne (Or.inr (wdx hw 36 rfl)) (Or.inr (wdx hw 38 rfl)) (by decide) (t := .byte) (t' := (.array .byte)) (by decide) (by decide)))
 have f22 := f16.other W18 (Ne.symm ne_oa)
 have f23 := f17.other W18 (Ne.symm ne9)
 have O18 := O12.wr W18 g_o
 have N18 := Fr.snoc X18 N12 g_o
 have K18 : Keep h0 h18 [ob] := K12.wr W18 (Or.inl (by simp))
 show Go _ _ _ _ _ _ _ (T18.setTop (mkF m 57 #[.val (.ref ob), .val (.ref aa), .val (.int 0), .val (.int 6), .val .null, .val (.ref rr_3)] []))
 refine Go.retV X18 hx hlk Bd.returns (hb hby d3_57) (by decide) (by decide) e18 ?_
 exact ⟨rr_3, kr_3, rfl, N18, K18, f20, f21, f23, z_rr_3⟩
theorem ef_rm2_6 (m : MethodId) (ob : Addr) (aa : Addr) : entryFrame m #[(.ref ob), (.ref aa)] 2 = mkF m 0 #[.val (.ref ob), .val (.ref aa)] [] := by first | (simp [entryFrame, mkF, argsToLocals, Value.category]; done) | rfl
def Q2_6 (Z : State) (ob : Addr) (aa : Addr) (ka : ClassId) (cs : Int32) (ca : Int32) (cb : Int32) (cc : Int32) (cd : Int32) (ce : Int32) (cf : Int32) (h0 : Heap) (n0 : Nat) (v : Option Value) (h : Heap) (L : List Loc) : Prop := ∃ (tb : Addr) (kt : ClassId), v = none ∧ Fr n0 L ∧ Keep h0 h [ob] ∧ Fld Z h ob "java/lang/String" "value" "[B" (.ref tb) ∧ Fld Z h ob "java/lang/String" "coder" "B" (.int 0) ∧ Arv Z h tb kt .byte (6 : Int32) [(.int (nar .byte (ca.toInt8.toInt32))), (.int (nar .byte (cb.toInt8.toInt32))), (.int (nar .byte (cc.toInt8.toInt32))), (.int (nar .byte (cd.toInt8.toInt32))), (.int (nar .byte (ce.toInt8.toInt32))), (.int (nar .byte (cf.toInt8.toInt32)))] (.int 0) ∧ h0.size ≤ tb
set_option maxRecDepth 65536 in
set_option maxHeartbeats 40000000 in
theorem rm2_6 (l : Launch) (Z : State) (a0 : Array Value) (hw : ∀ d ∈ tables_1, d.before a0 Z = true) (ws : List Jvm.Cond) (ob : Addr) (aa : Addr) (ka : ClassId) (cs : Int32) (ca : Int32) (cb : Int32) (cc : Int32) (cd : Int32) (ce : Int32) (cf : Int32) (h0 : Heap) (n0 : Nat) (O0 : Old Z n0 h0) (E_o : Exa Z h0 ob "java/lang/String") (Fv : Fld Z h0 ob "java/lang/String" "value" "[B" .null) (Fc : Fld Z h0 ob "java/lang/String" "coder" "B" (.int 0)) (Va : Arv Z h0 aa ka .char (6 : Int32) [(.int ca), (.int cb), (.int cc), (.int cd), (.int ce), (.int cf)] (.int 0)) (S_cs : Sta Z Z.heap "java/lang/String" "COMPACT_STRINGS" "Z" (.int cs)) (q_cs : ¬ cs = (0 : Int32)) (q_ca : ¬ (255 : Int32) < ca) (q_cb : ¬ (255 : Int32) < cb) (q_cc : ¬ (255 : Int32) < cc) (q_cd : ¬ (255 : Int32) < cd) (q_ce : ¬ (255 : Int32) < ce) (q_cf : ¬ (255 : Int32) < cf) (g_o : n0 ≤ ob) (ne_oa : ob ≠ aa) :
  MetFree l mn3 (head1 (Jvm.Cond.code mn3 jdk_42_method_3_code 2 none :: ws) ({ frames := 3, cells := 1, slots := 6, locals := 52 } : Room)) (fun ay U => ay = #[(.ref ob), (.ref aa)] ∧ Z.Warmed39 U.vm ∧ U.heap = h0) (fun _ _ _ _ _ => True) (fun _ U o U' => ∃ v L, o = .returned v ∧ Q2_6 Z ob aa ka cs ca cb cc cd ce cf h0 n0 v U'.heap L ∧ FrameEnd U o U' L ({ frames := 3, cells := 1, slots := 6, locals := 52 } : Room).cells ({ frames := 3, cells := 1, slots := 6, locals := 52 } : Room).slots) := by
 refine MetFree.of_bodySF (plainFor_of_name pn_java_lang_String) hisR ?_
 intro p e s m args below meth c s₁ Bd hml0 hP hK
 obtain ⟨rfl, hZ, hh⟩ := hP
 have hx := Bd.exec
 have hby := Bd.bytes
 have hlk : meth.locks = false := BodyLoose.notSynchronized Bd
 have hml : c.maxLocals = 2 := hml0
 have hown : s.vm.findClass "java/lang/String" = some m.cls := findClass_of_methodNamed Bd.named
 have hnm := (name_of_methodNamed Bd.named Bd.method).1
 have X0 : Stand p l e ({ frames := 3, cells := 1, slots := 6, locals := 52 } : Room) s m #[(.ref ob), (.ref aa)] below meth c s₁ [] 0 0 := Stand.of_body Bd
 have e0 : s₁.heap = h0 := by rw [← hh, Bd.state]; rfl
 have N0 := Fr.nil n0
 suffices hgo : Go p e below s 1 6 (Q2_6 Z ob aa ka cs ca cb cc cd ce cf h0 n0) (s₁.setTop (mkF m 0 #[.val (.ref ob), .val (.ref aa)] [])) by
  obtain ⟨t, o, h1, h2⟩ := hgo; exact ⟨t, o, castTop (ef_rm2_6 m ob aa) h1, h2⟩
 show Go _ _ _ _ _ _ _ (s₁.setTop (mkF m 0 #[.val (.ref ob), .val (.ref aa)] []))
 refine Go.st (fun _ => XS.aloadN X0.here hx rfl (hb hby d2_0) rfl rfl) ?_
 refine Go.st (fun _ => XS.aloadN X0.here hx rfl (hb hby d2_1) rfl rfl) ?_
 refine Go.st (fun _ => XS.iconst X0.here hx rfl (hb hby d2_2)) ?_
 refine Go.st (fun _ => XS.aloadN X0.here hx rfl (hb hby d2_3) rfl rfl) ?_
 show Go _ _ _ _ _ _ _ (s₁.setTop (mkF m 4 #[.val (.ref ob), .val (.ref aa)] [(.ref aa), (.int 0), (.ref aa), (.ref ob)]))
 obtain ⟨cl1, Ar1, qc1, Sz1, Nn1, Ha1, Gf1⟩ := id Va
 refine Go.st (fun _ => X0.arraylength hx (by rw [e0]; exact Ar1.1) (State.isArrayOf_alike hZ.alike Ar1.2.1) (g := (mkF m 4 #[.val (.ref ob), .val (.ref aa)] [(.ref aa), (.int 0), (.ref aa), (.ref ob)])) rfl rfl (hb hby d2_4) _) ?_
 rw [len_of Sz1 Nn1]
 show Go _ _ _ _ _ _ _ (s₁.setTop (mkF m 5 #[.val (.ref ob), .val (.ref aa)] [(.int 6), (.int 0), (.ref aa), (.ref ob)]))
 refine Go.st (fun _ => XS.aconstNull X0.here hx rfl (hb hby d2_5)) ?_
 show Go _ _ _ _ _ _ _ (s₁.setTop (mkF m 6 #[.val (.ref ob), .val (.ref aa)] [.null, (.int 6), (.int 0), (.ref aa), (.ref ob)]))
 obtain ⟨_, _, ⟨T2, L2, k2, n2⟩, -, X2, ⟨Lc2, hQ2, l2, y2, z2⟩, st2⟩ := X0.specialBack hx (y := mn6) rfl hown (mvT hZ (wdx hw 16 rfl)) (mvT hZ (wdx hw 17 rfl)) (mvT hZ (wdx hw 19 rfl)) (by decide) (backOf (W := 0) (rm3_6 l Z a0 hw [] ob aa ka cs ca cb cc cd ce cf h0 n0 O0 E_o Fv Fc Va S_cs q_cs q_ca q_cb q_cc q_cd q_ce q_cf g_o ne_oa) hZ (wdx hw 19 rfl) (wdx hw 11 rfl) (by decide) (by decide)) (g := (mkF m 6 #[.val (.ref ob), .val (.ref aa)] [.null, (.int 6), (.int 0), (.ref aa), (.ref ob)])) rfl (by rw [hml]; rfl) (Steps.refl _) (a := ob) (argsL := [(.ref aa), (.int 0), (.int 6), .null]) (rest := []) (lenOf pd___CIILjava_lang_Void__V rfl) rfl (by show 2 * 0 + _ ≤ _; exact Nat.le_of_eq rfl) (hb hby d2_6) (fun _ _ => ⟨rfl, e0, (by exact lee rfl), (by exact lee rfl)⟩)
 dsimp only [Pt.U, Pt.locs, Pt.cells, Pt.slots] at X2 l2 y2 z2 st2 hQ2
 subst l2 y2 z2
 obtain ⟨tb_2, kt_2, rfl, Nq2, Kq2, f3, f4, f5, szt_2⟩ := hQ2
 have N2 := Fr.app N0 Nq2
 refine Go.tr st2 ?_
 have f6 := E_o.keep Kq2
 have f7 := Va.keep Kq2 (ninS (Ne.symm ne_oa) nin0)
 have O2 := O0.keep Kq2 (allS g_o all0)
 have K2 : Keep h0 T2.heap [ob] := (Keep.refl h0 [ob]).trans Kq2 (allS (Or.inl (by simp)) all0)
 have g_tb_2 : n0 ≤ tb_2 := Nat.le_trans (own_le O0) szt_2
 have z_tb_2 : h0.size ≤ tb_2 := szt_2
 have ne8 : ob ≠ tb_2 := Nat.ne_of_lt (Nat.lt_of_lt_of_le E_o.lt szt_2)
 have ne9 : aa ≠ tb_2 := Nat.ne_of_lt (Nat.lt_of_lt_of_le Va.lt szt_2)
 show Go _ _ _ _ _ _ _ (T2.setTop (mkF m 9 #[.val (.ref ob), .val (.ref aa)] []))
 refine Go.retV X2 hx hlk Bd.returns (hb hby d2_9) (by decide) (by decide) rfl ?_
 exact ⟨tb_2, kt_2, rfl, N2, K2, f3, f4, f5, z_tb_2⟩
theorem ef_rm6_7 (m : MethodId) (aa : Addr) (bb : Addr) : entryFrame m #[(.ref aa), (.int 0), (.ref bb), (.int 0), (.int 7)] 7 = mkF m 0 #[.val (.ref aa), .val (.int 0), .val (.ref bb), .val (.int 0), .val (.int 7), .unset, .unset] [] := by first | (simp [entryFrame, mkF, argsToLocals, Value.category]; done) | rfl
def Q6_7 (Z : State) (aa : Addr) (bb : Addr) (ka : ClassId) (kb : ClassId) (ca : Int32) (cb : Int32) (cc : Int32) (cd : Int32) (ce : Int32) (cf : Int32) (cg : Int32) (h0 : Heap) (n0 : Nat) (v : Option Value) (h : Heap) (L : List Loc) : Prop := v = some (.int 7) ∧ Fr n0 L ∧ Keep h0 h [bb] ∧ Arv Z h bb kb .byte (7 : Int32) [(.int (nar .byte (ca.toInt8.toInt32))), (.int (nar .byte (cb.toInt8.toInt32))), (.int (nar .byte (cc.toInt8.toInt32))), (.int (nar .byte (cd.toInt8.toInt32))), (.int (nar .byte (ce.toInt8.toInt32))), (.int (nar .byte (cf.toInt8.toInt32))), (.int (nar .byte (cg.toInt8.toInt32)))] (.int 0)
set_option maxRecDepth 65536 in
set_option maxHeartbeats 40000000 in
theorem rm6_7 (l : Launch) (Z : State) (a0 : Array Value) (hw : ∀ d ∈ tables_1, d.before a0 Z = true) (ws : List Jvm.Cond) (aa : Addr) (bb : Addr) (ka : ClassId) (kb : ClassId) (ca : Int32) (cb : Int32) (cc : Int32) (cd : Int32) (ce : Int32) (cf : Int32) (cg : Int32) (h0 : Heap) (n0 : Nat) (O0 : Old Z n0 h0) (Va : Arv Z h0 aa ka .char (7 : Int32) [(.int ca), (.int cb), (.int cc), (.int cd), (.int ce), (.int cf), (.int cg)] (.int 0)) (Vb : Arv Z h0 bb kb .byte (7 : Int32) [(.int 0), (.int 0), (.int 0), (.int 0), (.int 0), (.int 0), (.int 0)] (.int 0)) (q_ca : ¬ (255 : Int32) < ca) (q_cb : ¬ (255 : Int32) < cb) (q_cc : ¬ (255 : Int32) < cc) (q_cd : ¬ (255 : Int32) < cd) (q_ce : ¬ (255 : Int32) < ce) (q_cf : ¬ (255 : Int32) < cf) (q_cg : ¬ (255 : Int32) < cg) (g_b : n0 ≤ bb) (ne_ab : aa ≠ bb) :
  MetFree l mn8 (head1 (Jvm.Cond.code mn8 jdk_52_method_21_code 7 (some .int) :: ws) ({ frames := 0, cells := 0, slots := 0, locals := 0 } : Room)) (fun ay U => ay = #[(.ref aa), (.int 0), (.ref bb), (.int 0), (.int 7)] ∧ Z.Warmed39 U.vm ∧ U.heap = h0) (fun _ _ _ _ _ => True) (fun _ U o U' => ∃ v L, o = .returned v ∧ Q6_7 Z aa bb ka kb ca cb cc cd ce cf cg h0 n0 v U'.heap L ∧ FrameEnd U o U' L ({ frames := 0, cells := 0, slots := 0, locals := 0 } : Room).cells ({ frames := 0, cells := 0, slots := 0, locals := 0 } : Room).slots) := by
 refine MetFree.of_bodySF (plainFor_of_name pn_java_lang_StringUTF16) hisR ?_
 intro p e s m args below meth c s₁ Bd hml0 hP hK
 obtain ⟨rfl, hZ, hh⟩ := hP
 have hx := Bd.exec
 have hby := Bd.bytes
 have hlk : meth.locks = false := BodyLoose.notSynchronized Bd
 have hml : c.maxLocals = 7 := hml0
 have hown : s.vm.findClass "java/lang/StringUTF16" = some m.cls := findClass_of_methodNamed Bd.named
 have hnm := (name_of_methodNamed Bd.named Bd.method).1
 have X0 : Stand p l e ({ frames := 0, cells := 0, slots := 0, locals := 0 } : Room) s m #[(.ref aa), (.int 0), (.ref bb), (.int 0), (.int 7)] below meth c s₁ [] 0 0 := Stand.of_body Bd
 have e0 : s₁.heap = h0 := by rw [← hh, Bd.state]; rfl
 have N0 := Fr.nil n0
 suffices hgo : Go p e below s 0 0 (Q6_7 Z aa bb ka kb ca cb cc cd ce cf cg h0 n0) (s₁.setTop (mkF m 0 #[.val (.ref aa), .val (.int 0), .val (.ref bb), .val (.int 0), .val (.int 7), .unset, .unset] [])) by
  obtain ⟨t, o, h1, h2⟩ := hgo; exact ⟨t, o, castTop (ef_rm6_7 m aa bb) h1, h2⟩
 show Go _ _ _ _ _ _ _ (s₁.setTop (mkF m 0 #[.val (.ref aa), .val (.int 0), .val (.ref bb), .val (.int 0), .val (.int 7), .unset, .unset] []))
 refine Go.st (fun _ => XS.iconst X0.here hx rfl (hb hby d6_0)) ?_
 refine Go.st (fun _ => XS.istore X0.here hx rfl (hb hby d6_1) rfl (l' := #[.val (.ref aa), .val (.int 0), .val (.ref bb), .val (.int 0), .val (.int 7), .val (.int 0), .unset]) rfl) ?_
 refine Go.st (fun _ => XS.iload X0.here hx rfl (hb hby d6_3) rfl) ?_
 refine Go.st (fun _ => XS.iload X0.here hx rfl (hb hby d6_5) rfl) ?_
 show Go _ _ _ _ _ _ _ (s₁.setTop (mkF m 7 #[.val (.ref aa), .val (.int 0), .val (.ref bb), .val (.int 0), .val (.int 7), .val (.int 0), .unset] [(.int 7), (.int 0)]))
 refine Go.st (fun _ => XS.icmpNo X0.here hx rfl (hb hby d6_7) rfl (XT.ii_ge_f (by decide))) ?_
 refine Go.st (fun _ => XS.aloadN X0.here hx rfl (hb hby d6_10) rfl rfl) ?_
 refine Go.st (fun _ => XS.iloadN X0.here hx rfl (hb hby d6_11) rfl) ?_
 show Go _ _ _ _ _ _ _ (s₁.setTop (mkF m 12 #[.val (.ref aa), .val (.int 0), .val (.ref bb), .val (.int 0), .val (.int 7), .val (.int 0), .unset] [(.int 0), (.ref aa)]))
 obtain ⟨cl1, Ar1, qc1, Sz1, Nn1, Ha1, Gf1⟩ := id Va
 refine Go.st (fun _ => X0.caload hx (j := (0 : Int32)) (v := (.int ca)) (by rw [e0]; exact Ar1.1) (State.isArrayOf_alike hZ.alike Ar1.2.1) Ar1.2.2 (inb_of Sz1 ⟨by decide, by decide⟩) (Ha1.at (inb_of Sz1 ⟨by decide, by decide⟩) rfl) (g := (mkF m 12 #[.val (.ref aa), .val (.int 0), .val (.ref bb), .val (.int 0), .val (.int 7), .val (.int 0), .unset] [(.int 0), (.ref aa)])) rfl rfl (hb hby d6_12) _) ?_
 show Go _ _ _ _ _ _ _ (s₁.setTop (mkF m 13 #[.val (.ref aa), .val (.int 0), .val (.ref bb), .val (.int 0), .val (.int 7), .val (.int 0), .unset] [(.int ca)]))
 refine Go.st (fun _ => XS.istore X0.here hx rfl (hb hby d6_13) rfl (l' := #[.val (.ref aa), .val (.int 0), .val (.ref bb), .val (.int 0), .val (.int 7), .val (.int 0), .val (.int ca)]) rfl) ?_
 refine Go.st (fun _ => XS.iload X0.here hx rfl (hb hby d6_15) rfl) ?_
 refine Go.st (fun _ => XS.sipush X0.here hx rfl (hb hby d6_17)) ?_
 show Go _ _ _ _ _ _ _ (s₁.setTop (mkF m 20 #[.val (.ref aa), .val (.int 0), .val (.ref bb), .val (.int 0), .val (.int 7), .val (.int 0), .val (.int ca)] [(.int 255), (.int ca)]))
 refine Go.st (fun _ => XS.icmpYes X0.here hx rfl (pc0 := 20) (pc' := 26) rfl (hb hby d6_20) rfl (XT.ii_le_t q_ca) (by decide) (by decide)) ?_
 refine Go.st (fun _ => XS.aloadN X0.here hx rfl (hb hby d6_26) rfl rfl) ?_
 refine Go.st (fun _ => XS.iloadN X0.here hx rfl (hb hby d6_27) rfl) ?_
 refine Go.st (fun _ => XS.iload X0.here hx rfl (hb hby d6_28) rfl) ?_
 refine Go.st (fun _ => XS.i2b X0.here hx rfl (hb hby d6_30) rfl) ?_
 obtain ⟨cl2, Ar2, qc2, Sz2, Nn2, Ha2, Gf2⟩ := id Vb
 obtain ⟨T2, h2, X2, e2, W2, st2⟩ := stB X0 hx hZ e0 Ar2 (j := (0 : Int32)) (inb_of Sz2 ⟨by decide, by decide⟩) (g := (mkF m 31 #[.val (.ref aa), .val (.int 0), .val (.ref bb), .val (.int 0), .val (.int 7), .val (.int 0), .val (.int ca)] [(.int (ca.toInt8.toInt32)), (.int 0), (.ref bb)])) rfl rfl (hb hby d6_31)
 refine Go.st st2 ?_
 have f4 := Va.other W2 ne_ab
 have O2 := O0.wr W2 g_b
 have N2 := Fr.snoc X2 N0 g_b
 have K2 : Keep h0 h2 [bb] := (Keep.refl h0 [bb]).wr W2 (Or.inl (by simp))
 have f3 : Arv Z h2 bb kb .byte (7 : Int32) [(.int (nar .byte (ca.toInt8.toInt32))), (.int 0), (.int 0), (.int 0), (.int 0), (.int 0), (.int 0)] (.int 0) := Arv.set Ar2 qc2 Sz2 Nn2 Ha2 Gf2 (fits_nar_byte _) W2 0 rfl (Nat.le_of_ble_eq_true rfl)
 refine Go.st (fun _ => XS.iinc X2.here hx rfl (hb hby d6_32) rfl (l' := #[.val (.ref aa), .val (.int 1), .val (.ref bb), .val (.int 0), .val (.int 7), .val (.int 0), .val (.int ca)]) rfl) ?_
 refine Go.st (fun _ => XS.iinc X2.here hx rfl (hb hby d6_35) rfl (l' := #[.val (.ref aa), .val (.int 1), .val (.ref bb), .val (.int 1), .val (.int 7), .val (.int 0), .val (.int ca)]) rfl) ?_
 refine Go.st (fun _ => XS.iinc X2.here hx rfl (hb hby d6_38) rfl (l' := #[.val (.ref aa), .val (.int 1), .val (.ref bb), .val (.int 1), .val (.int 7), .val (.int 1), .val (.int ca)]) rfl) ?_
 show Go _ _ _ _ _ _ _ (T2.setTop (mkF m 41 #[.val (.ref aa), .val (.int 1), .val (.ref bb), .val (.int 1), .val (.int 7), .val (.int 1), .val (.int ca)] []))
 refine Go.st (fun _ => XS.goto X2.here hx rfl (pc0 := 41) (pc' := 3) rfl (hb hby d6_41) (by decide) (by decide)) ?_
 show Go _ _ _ _ _ _ _ (T2.setTop (mkF m 3 #[.val (.ref aa), .val (.int 1), .val (.ref bb), .val (.int 1), .val (.int 7), .val (.int 1), .val (.int ca)] []))
 refine Go.st (fun _ => XS.iload X2.here hx rfl (hb hby d6_3) rfl) ?_
 refine Go.st (fun _ => XS.iload X2.here hx rfl (hb hby d6_5) rfl) ?_
 show Go _ _ _ _ _ _ _ (T2.setTop (mkF m 7 #[.val (.ref aa), .val (.int 1), .val (.ref bb), .val (.int 1), .val (.int 7), .val (.int 1), .val (.int ca)] [(.int 7), (.int 1)]))
 refine Go.st (fun _ => XS.icmpNo X2.here hx rfl (hb hby d6_7) rfl (XT.ii_ge_f (by decide))) ?_
 refine Go.st (fun _ => XS.aloadN X2.here hx rfl (hb hby d6_10) rfl rfl) ?_
 refine Go.st (fun _ => XS.iloadN X2.here hx rfl (hb hby d6_11) rfl) ?_
 show Go _ _ _ _ _ _ _ (T2.setTop (mkF m 12 #[.val (.ref aa), .val (.int 1), .val (.ref bb), .val (.int 1), .val (.int 7), .val (.int 1), .val (.int ca)] [(.int 1), (.ref aa)]))
 obtain ⟨cl5, Ar5, qc5, Sz5, Nn5, Ha5, Gf5⟩ := id f4
 refine Go.st (fun _ => X2.caload hx (j := (1 : Int32)) (v := (.int cb)) (by rw [e2]; exact Ar5.1) (State.isArrayOf_alike hZ.alike Ar5.2.1) Ar5.2.2 (inb_of Sz5 ⟨by decide, by decide⟩) (Ha5.at (inb_of Sz5 ⟨by decide, by decide⟩) rfl) (g := (mkF m 12 #[.val (.ref aa), .val (.int 1), .val (.ref bb), .val (.int 1), .val (.int 7), .val (.int 1), .val (.int ca)] [(.int 1), (.ref aa)])) rfl rfl (hb hby d6_12) _) ?_
 show Go _ _ _ _ _ _ _ (T2.setTop (mkF m 13 #[.val (.ref aa), .val (.int 1), .val (.ref bb), .val (.int 1), .val (.int 7), .val (.int 1), .val (.int ca)] [(.int cb)]))
 refine Go.st (fun _ => XS.istore X2.here hx rfl (hb hby d6_13) rfl (l' := #[.val (.ref aa), .val (.int 1), .val (.ref bb), .val (.int 1), .val (.int 7), .val (.int 1), .val (.int cb)]) rfl) ?_
 refine Go.st (fun _ => XS.iload X2.here hx rfl (hb hby d6_15) rfl) ?_
 refine Go.st (fun _ => XS.sipush X2.here hx rfl (hb hby d6_17)) ?_
 show Go _ _ _ _ _ _ _ (T2.setTop (mkF m 20 #[.val (.ref aa), .val (.int 1), .val (.ref bb), .val (.int 1), .val (.int 7), .val (.int 1), .val (.int cb)] [(.int 255), (.int cb)]))
 refine Go.st (fun _ => XS.icmpYes X2.here hx rfl (pc0 := 20) (pc' := 26) rfl (hb hby d6_20) rfl (XT.ii_le_t q_cb) (by decide) (by decide)) ?_
 refine Go.st (fun _ => XS.aloadN X2.here hx rfl (hb hby d6_26) rfl rfl) ?_
 refine Go.st (fun _ => XS.iloadN X2.here hx rfl (hb hby d6_27) rfl) ?_
 refine Go.st (fun _ => XS.iload X2.here hx rfl (hb hby d6_28) rfl) ?_
 refine Go.st (fun _ => XS.i2b X2.here hx rfl (hb hby d6_30) rfl) ?_
 obtain ⟨cl6, Ar6, qc6, Sz6, Nn6, Ha6, Gf6⟩ := id f3
 obtain ⟨T6, h6, X6, e6, W6, st6⟩ := stB X2 hx hZ e2 Ar6 (j := (1 : Int32)) (inb_of Sz6 ⟨by decide, by decide⟩) (g := (mkF m 31 #[.val (.ref aa), .val (.int 1), .val (.ref bb), .val (.int 1), .val (.int 7), .val (.int 1), .val (.int cb)] [(.int (cb.toInt8.toInt32)), (.int 1), (.ref bb)])) rfl rfl (hb hby d6_31)
 refine Go.st st6 ?_
 have f8 := f4.other W6 ne_ab
 have O6 := O2.wr W6 g_b
 have N6 := Fr.snoc X6 N2 g_b
 have K6 : Keep h0 h6 [bb] := K2.wr W6 (Or.inl (by simp))
 have f7 : Arv Z h6 bb kb .byte (7 : Int32) [(.int (nar .byte (ca.toInt8.toInt32))), (.int (nar .byte (cb.toInt8.toInt32))), (.int 0), (.int 0), (.int 0), (.int 0), (.int 0)] (.int 0) := Arv.set Ar6 qc6 Sz6 Nn6 Ha6 Gf6 (fits_nar_byte _) W6 1 rfl (Nat.le_of_ble_eq_true rfl)
 refine Go.st (fun _ => XS.iinc X6.here hx rfl (hb hby d6_32) rfl (l' := #[.val (.ref aa), .val (.int 2), .val (.ref bb), .val (.int 1), .val (.int 7), .val (.int 1), .val (.int cb)]) rfl) ?_
 refine Go.st (fun _ => XS.iinc X6.here hx rfl (hb hby d6_35) rfl (l' := #[.val (.ref aa), .val (.int 2), .val (.ref bb), .val (.int 2), .val (.int 7), .val (.int 1), .val (.int cb)]) rfl) ?_
 refine Go.st (fun _ => XS.iinc X6.here hx rfl (hb hby d6_38) rfl (l' := #[.val (.ref aa), .val (.int 2), .val (.ref bb), .val (.int 2), .val (.int 7), .val (.int 2), .val (.int cb)]) rfl) ?_
 show Go _ _ _ _ _ _ _ (T6.setTop (mkF m 41 #[.val (.ref aa), .val (.int 2), .val (.ref bb), .val (.int 2), .val (.int 7), .val (.int 2), .val (.int cb)] []))
 refine Go.st (fun _ => XS.goto X6.here hx rfl (pc0 := 41) (pc' := 3) rfl (hb hby d6_41) (by decide) (by decide)) ?_
 show Go _ _ _ _ _ _ _ (T6.setTop (mkF m 3 #[.val (.ref aa), .val (.int 2), .val (.ref bb), .val (.int 2), .val (.int 7), .val (.int 2), .val (.int cb)] []))
 refine Go.st (fun _ => XS.iload X6.here hx rfl (hb hby d6_3) rfl) ?_
 refine Go.st (fun _ => XS.iload X6.here hx rfl (hb hby d6_5) rfl) ?_
 show Go _ _ _ _ _ _ _ (T6.setTop (mkF m 7 #[.val (.ref aa), .val (.int 2), .val (.ref bb), .val (.int 2), .val (.int 7), .val (.int 2), .val (.int cb)] [(.int 7), (.int 2)]))
 refine Go.st (fun _ => XS.icmpNo X6.here hx rfl (hb hby d6_7) rfl (XT.ii_ge_f (by decide))) ?_
 refine Go.st (fun _ => XS.aloadN X6.here hx rfl (hb hby d6_10) rfl rfl) ?_
 refine Go.st (fun _ => XS.iloadN X6.here hx rfl (hb hby d6_11) rfl) ?_
 show Go _ _ _ _ _ _ _ (T6.setTop (mkF m 12 #[.val (.ref aa), .val (.int 2), .val (.ref bb), .val (.int 2), .val (.int 7), .val (.int 2), .val (.int cb)] [(.int 2), (.ref aa)]))
 obtain ⟨cl9, Ar9, qc9, Sz9, Nn9, Ha9, Gf9⟩ := id f8
 refine Go.st (fun _ => X6.caload hx (j := (2 : Int32)) (v := (.int cc)) (by rw [e6]; exact Ar9.1) (State.isArrayOf_alike hZ.alike Ar9.2.1) Ar9.2.2 (inb_of Sz9 ⟨by decide, by decide⟩) (Ha9.at (inb_of Sz9 ⟨by decide, by decide⟩) rfl) (g := (mkF m 12 #[.val (.ref aa), .val (.int 2), .val (.ref bb), .val (.int 2), .val (.int 7), .val (.int 2), .val (.int cb)] [(.int 2), (.ref aa)])) rfl rfl (hb hby d6_12) _) ?_
 show Go _ _ _ _ _ _ _ (T6.setTop (mkF m 13 #[.val (.ref aa), .val (.int 2), .val (.ref bb), .val (.int 2), .val (.int 7), .val (.int 2), .val (.int cb)] [(.int cc)]))
 refine Go.st (fun _ => XS.istore X6.here hx rfl (hb hby d6_13) rfl (l' := #[.val (.ref aa), .val (.int 2), .val (.ref bb), .val (.int 2), .val (.int 7), .val (.int 2), .val (.int cc)]) rfl) ?_
 refine Go.st (fun _ => XS.iload X6.here hx rfl (hb hby d6_15) rfl) ?_
 refine Go.st (fun _ => XS.sipush X6.here hx rfl (hb hby d6_17)) ?_
 show Go _ _ _ _ _ _ _ (T6.setTop (mkF m 20 #[.val (.ref aa), .val (.int 2), .val (.ref bb), .val (.int 2), .val (.int 7), .val (.int 2), .val (.int cc)] [(.int 255), (.int cc)]))
 refine Go.st (fun _ => XS.icmpYes X6.here hx rfl (pc0 := 20) (pc' := 26) rfl (hb hby d6_20) rfl (XT.ii_le_t q_cc) (by decide) (by decide)) ?_
 refine Go.st (fun _ => XS.aloadN X6.here hx rfl (hb hby d6_26) rfl rfl) ?_
 refine Go.st (fun _ => XS.iloadN X6.here hx rfl (hb hby d6_27) rfl) ?_
 refine Go.st (fun _ => XS.iload X6.here hx rfl (hb hby d6_28) rfl) ?_
 refine Go.st (fun _ => XS.i2b X6.here hx rfl (hb hby d6_30) rfl) ?_
 obtain ⟨cl10, Ar10, qc10, Sz10, Nn10, Ha10, Gf10⟩ := id f7
 obtain ⟨T10, h10, X10, e10, W10, st10⟩ := stB X6 hx hZ e6 Ar10 (j := (2 : Int32)) (inb_of Sz10 ⟨by decide, by decide⟩) (g := (mkF m 31 #[.val (.ref aa), .val (.int 2), .val (.ref bb), .val (.int 2), .val (.int 7), .val (.int 2), .val (.int cc)] [(.int (cc.toInt8.toInt32)), (.int 2), (.ref bb)])) rfl rfl (hb hby d6_31)
 refine Go.st st10 ?_
 have f12 := f8.other W10 ne_ab
 have O10 := O6.wr W10 g_b
 have N10 := Fr.snoc X10 N6 g_b
 have K10 : Keep h0 h10 [bb] := K6.wr W10 (Or.inl (by simp))
 have f11 : Arv Z h10 bb kb .byte (7 : Int32) [(.int (nar .byte (ca.toInt8.toInt32))), (.int (nar .byte (cb.toInt8.toInt32))), (.int (nar .byte (cc.toInt8.toInt32))), (.int 0), (.int 0), (.int 0), (.int 0)] (.int 0) := Arv.set Ar10 qc10 Sz10 Nn10 Ha10 Gf10 (fits_nar_byte _) W10 2 rfl (Nat.le_of_ble_eq_true rfl)
 refine Go.st (fun _ => XS.iinc X10.here hx rfl (hb hby d6_32) rfl (l' := #[.val (.ref aa), .val (.int 3), .val (.ref bb), .val (.int 2), .val (.int 7), .val (.int 2), .val (.int cc)]) rfl) ?_
 refine Go.st (fun _ => XS.iinc X10.here hx rfl (hb hby d6_35) rfl (l' := #[.val (.ref aa), .val (.int 3), .val (.ref bb), .val (.int 3), .val (.int 7), .val (.int 2), .val (.int cc)]) rfl) ?_
 refine Go.st (fun _ => XS.iinc X10.here hx rfl (hb hby d6_38) rfl (l' := #[.val (.ref aa), .val (.int 3), .val (.ref bb), .val (.int 3), .val (.int 7), .val (.int 3), .val (.int cc)]) rfl) ?_
 show Go _ _ _ _ _ _ _ (T10.setTop (mkF m 41 #[.val (.ref aa), .val (.int 3), .val (.ref bb), .val (.int 3), .val (.int 7), .val (.int 3), .val (.int cc)] []))
 refine Go.st (fun _ => XS.goto X10.here hx rfl (pc0 := 41) (pc' := 3) rfl (hb hby d6_41) (by decide) (by decide)) ?_
 show Go _ _ _ _ _ _ _ (T10.setTop (mkF m 3 #[.val (.ref aa), .val (.int 3), .val (.ref bb), .val (.int 3), .val (.int 7), .val (.int 3), .val (.int cc)] []))
 refine Go.st (fun _ => XS.iload X10.here hx rfl (hb hby d6_3) rfl) ?_
 refine Go.st (fun _ => XS.iload X10.here hx rfl (hb hby d6_5) rfl) ?_
 show Go _ _ _ _ _ _ _ (T10.setTop (mkF m 7 #[.val (.ref aa), .val (.int 3), .val (.ref bb), .val (.int 3), .val (.int 7), .val (.int 3), .val (.int cc)] [(.int 7), (.int 3)]))
 refine Go.st (fun _ => XS.icmpNo X10.here hx rfl (hb hby d6_7) rfl (XT.ii_ge_f (by decide))) ?_
 refine Go.st (fun _ => XS.aloadN X10.here hx rfl (hb hby d6_10) rfl rfl) ?_
 refine Go.st (fun _ => XS.iloadN X10.here hx rfl (hb hby d6_11) rfl) ?_
 show Go _ _ _ _ _ _ _ (T10.setTop (mkF m 12 #[.val (.ref aa), .val (.int 3), .val (.ref bb), .val (.int 3), .val (.int 7), .val (.int 3), .val (.int cc)] [(.int 3), (.ref aa)]))
 obtain ⟨cl13, Ar13, qc13, Sz13, Nn13, Ha13, Gf13⟩ := id f12
 refine Go.st (fun _ => X10.caload hx (j := (3 : Int32)) (v := (.int cd)) (by rw [e10]; exact Ar13.1) (State.isArrayOf_alike hZ.alike Ar13.2.1) Ar13.2.2 (inb_of Sz13 ⟨by decide, by decide⟩) (Ha13.at (inb_of Sz13 ⟨by decide, by decide⟩) rfl) (g := (mkF m 12 #[.val (.ref aa), .val (.int 3), .val (.ref bb), .val (.int 3), .val (.int 7), .val (.int 3), .val (.int cc)] [(.int 3), (.ref aa)])) rfl rfl (hb hby d6_12) _) ?_
 show Go _ _ _ _ _ _ _ (T10.setTop (mkF m 13 #[.val (.ref aa), .val (.int 3), .val (.ref bb), .val (.int 3), .val (.int 7), .val (.int 3), .val (.int cc)] [(.int cd)]))
 refine Go.st (fun _ => XS.istore X10.here hx rfl (hb hby d6_13) rfl (l' := #[.val (.ref aa), .val (.int 3), .val (.ref bb), .val (.int 3), .val (.int 7), .val (.int 3), .val (.int cd)]) rfl) ?_
 refine Go.st (fun _ => XS.iload X10.here hx rfl (hb hby d6_15) rfl) ?_
 refine Go.st (fun _ => XS.sipush X10.here hx rfl (hb hby d6_17)) ?_
 show Go _ _ _ _ _ _ _ (T10.setTop (mkF m 20 #[.val (.ref aa), .val (.int 3), .val (.ref bb), .val (.int 3), .val (.int 7), .val (.int 3), .val (.int cd)] [(.int 255), (.int cd)]))
 refine Go.st (fun _ => XS.icmpYes X10.here hx rfl (pc0 := 20) (pc' := 26) rfl (hb hby d6_20) rfl (XT.ii_le_t q_cd) (by decide) (by decide)) ?_
 refine Go.st (fun _ => XS.aloadN X10.here hx rfl (hb hby d6_26) rfl rfl) ?_
 refine Go.st (fun _ => XS.iloadN X10.here hx rfl (hb hby d6_27) rfl) ?_
 refine Go.st (fun _ => XS.iload X10.here hx rfl (hb hby d6_28) rfl) ?_
 refine Go.st (fun _ => XS.i2b X10.here hx rfl (hb hby d6_30) rfl) ?_
 obtain ⟨cl14, Ar14, qc14, Sz14, Nn14, Ha14, Gf14⟩ := id f11
 obtain ⟨T14, h14, X14, e14, W14, st14⟩ := stB X10 hx hZ e10 Ar14 (j := (3 : Int32)) (inb_of Sz14 ⟨by decide, by decide⟩) (g := (mkF m 31 #[.val (.ref aa), .val (.int 3), .val (.ref bb), .val (.int 3), .val (.int 7), .val (.int 3), .val (.int cd)] [(.int (cd.toInt8.toInt32)), (.int 3), (.ref bb)])) rfl rfl (hb hby d6_31)
 refine Go.st st14 ?_
 have f16 := f12.other W14 ne_ab
 have O14 := O10.wr W14 g_b
 have N14 := Fr.snoc X14 N10 g_b
 have K14 : Keep h0 h14 [bb] := K10.wr W14 (Or.inl (by simp))
 have f15 : Arv Z h14 bb kb .byte (7 : Int32) [(.int (nar .byte (ca.toInt8.toInt32))), (.int (nar .byte (cb.toInt8.toInt32))), (.int (nar .byte (cc.toInt8.toInt32))), (.int (nar .byte (cd.toInt8.toInt32))), (.int 0), (.int 0), (.int 0)] (.int 0) := Arv.set Ar14 qc14 Sz14 Nn14 Ha14 Gf14 (fits_nar_byte _) W14 3 rfl (Nat.le_of_ble_eq_true rfl)
 refine Go.st (fun _ => XS.iinc X14.here hx rfl (hb hby d6_32) rfl (l' := #[.val (.ref aa), .val (.int 4), .val (.ref bb), .val (.int 3), .val (.int 7), .val (.int 3), .val (.int cd)]) rfl) ?_
 refine Go.st (fun _ => XS.iinc X14.here hx rfl (hb hby d6_35) rfl (l' := #[.val (.ref aa), .val (.int 4), .val (.ref bb), .val (.int 4), .val (.int 7), .val (.int 3), .val (.int cd)]) rfl) ?_
 refine Go.st (fun _ => XS.iinc X14.here hx rfl (hb hby d6_38) rfl (l' := #[.val (.ref aa), .val (.int 4), .val (.ref bb), .val (.int 4), .val (.int 7), .val (.int 4), .val (.int cd)]) rfl) ?_
 show Go _ _ _ _ _ _ _ (T14.setTop (mkF m 41 #[.val (.ref aa), .val (.int 4), .val (.ref bb), .val (.int 4), .val (.int 7), .val (.int 4), .val (.int cd)] []))
 refine Go.st (fun _ => XS.goto X14.here hx rfl (pc0 := 41) (pc' := 3) rfl (hb hby d6_41) (by decide) (by decide)) ?_
 show Go _ _ _ _ _ _ _ (T14.setTop (mkF m 3 #[.val (.ref aa), .val (.int 4), .val (.ref bb), .val (.int 4), .val (.int 7), .val (.int 4), .val (.int cd)] []))
 refine Go.st (fun _ => XS.iload X14.here hx rfl (hb hby d6_3) rfl) ?_
 refine Go.st (fun _ => XS.iload X14.here hx rfl (hb hby d6_5) rfl) ?_
 show Go _ _ _ _ _ _ _ (T14.setTop (mkF m 7 #[.val (.ref aa), .val (.int 4), .val (.ref bb), .val (.int 4), .val (.int 7), .val (.int 4), .val (.int cd)] [(.int 7), (.int 4)]))
 refine Go.st (fun _ => XS.icmpNo X14.here hx rfl (hb hby d6_7) rfl (XT.ii_ge_f (by decide))) ?_
 refine Go.st (fun _ => XS.aloadN X14.here hx rfl (hb hby d6_10) rfl rfl) ?_
 refine Go.st (fun _ => XS.iloadN X14.here hx rfl (hb hby d6_11) rfl) ?_
 show Go _ _ _ _ _ _ _ (T14.setTop (mkF m 12 #[.val (.ref aa), .val (.int 4), .val (.ref bb), .val (.int 4), .val (.int 7), .val (.int 4), .val (.int cd)] [(.int 4), (.ref aa)]))
 obtain ⟨cl17, Ar17, qc17, Sz17, Nn17, Ha17, Gf17⟩ := id f16
 refine Go.st (fun _ => X14.caload hx (j := (4 : Int32)) (v := (.int ce)) (by rw [e14]; exact Ar17.1) (State.isArrayOf_alike hZ.alike Ar17.2.1) Ar17.2.2 (inb_of Sz17 ⟨by decide, by decide⟩) (Ha17.at (inb_of Sz17 ⟨by decide, by decide⟩) rfl) (g := (mkF m 12 #[.val (.ref aa), .val (.int 4), .val (.ref bb), .val (.int 4), .val (.int 7), .val (.int 4), .val (.int cd)] [(.int 4), (.ref aa)])) rfl rfl (hb hby d6_12) _) ?_
 show Go _ _ _ _ _ _ _ (T14.setTop (mkF m 13 #[.val (.ref aa), .val (.int 4), .val (.ref bb), .val (.int 4), .val (.int 7), .val (.int 4), .val (.int cd)] [(.int ce)]))
 refine Go.st (fun _ => XS.istore X14.here hx rfl (hb hby d6_13) rfl (l' := #[.val (.ref aa), .val (.int 4), .val (.ref bb), .val (.int 4), .val (.int 7), .val (.int 4), .val (.int ce)]) rfl) ?_
 refine Go.st (fun _ => XS.iload X14.here hx rfl (hb hby d6_15) rfl) ?_
 refine Go.st (fun _ => XS.sipush X14.here hx rfl (hb hby d6_17)) ?_
 show Go _ _ _ _ _ _ _ (T14.setTop (mkF m 20 #[.val (.ref aa), .val (.int 4), .val (.ref bb), .val (.int 4), .val (.int 7), .val (.int 4), .val (.int ce)] [(.int 255), (.int ce)]))
 refine Go.st (fun _ => XS.icmpYes X14.here hx rfl (pc0 := 20) (pc' := 26) rfl (hb hby d6_20) rfl (XT.ii_le_t q_ce) (by decide) (by decide)) ?_
 refine Go.st (fun _ => XS.aloadN X14.here hx rfl (hb hby d6_26) rfl rfl) ?_
 refine Go.st (fun _ => XS.iloadN X14.here hx rfl (hb hby d6_27) rfl) ?_
 refine Go.st (fun _ => XS.iload X14.here hx rfl (hb hby d6_28) rfl) ?_
 refine Go.st (fun _ => XS.i2b X14.here hx rfl (hb hby d6_30) rfl) ?_
 obtain ⟨cl18, Ar18, qc18, Sz18, Nn18, Ha18, Gf18⟩ := id f15
 obtain ⟨T18, h18, X18, e18, W18, st18⟩ := stB X14 hx hZ e14 Ar18 (j := (4 : Int32)) (inb_of Sz18 ⟨by decide, by decide⟩) (g := (mkF m 31 #[.val (.ref aa), .val (.int 4), .val (.ref bb), .val (.int 4), .val (.int 7), .val (.int 4), .val (.int ce)] [(.int (ce.toInt8.toInt32)), (.int 4), (.ref bb)])) rfl rfl (hb hby d6_31)
 refine Go.st st18 ?_
 have f20 := f16.other W18 ne_ab
 have O18 := O14.wr W18 g_b
 have N18 := Fr.snoc X18 N14 g_b
 have K18 : Keep h0 h18 [bb] := K14.wr W18 (Or.inl (by simp))
 have f19 : Arv Z h18 bb kb .byte (7 : Int32) [(.int (nar .byte (ca.toInt8.toInt32))), (.int (nar .byte (cb.toInt8.toInt32))), (.int (nar .byte (cc.toInt8.toInt32))), (.int (nar .byte (cd.toInt8.toInt32))), (.int (nar .byte (ce.toInt8.toInt32))), (.int 0), (.int 0)] (.int 0) := Arv.set Ar18 qc18 Sz18 Nn18 Ha18 Gf18 (fits_nar_byte _) W18 4 rfl (Nat.le_of_ble_eq_true rfl)
 refine Go.st (fun _ => XS.iinc X18.here hx rfl (hb hby d6_32) rfl (l' := #[.val (.ref aa), .val (.int 5), .val (.ref bb), .val (.int 4), .val (.int 7), .val (.int 4), .val (.int ce)]) rfl) ?_
 refine Go.st (fun _ => XS.iinc X18.here hx rfl (hb hby d6_35) rfl (l' := #[.val (.ref aa), .val (.int 5), .val (.ref bb), .val (.int 5), .val (.int 7), .val (.int 4), .val (.int ce)]) rfl) ?_
 refine Go.st (fun _ => XS.iinc X18.here hx rfl (hb hby d6_38) rfl (l' := #[.val (.ref aa), .val (.int 5), .val (.ref bb), .val (.int 5), .val (.int 7), .val (.int 5), .val (.int ce)]) rfl) ?_
 show Go _ _ _ _ _ _ _ (T18.setTop (mkF m 41 #[.val (.ref aa), .val (.int 5), .val (.ref bb), .val (.int 5), .val (.int 7), .val (.int 5), .val (.int ce)] []))
 refine Go.st (fun _ => XS.goto X18.here hx rfl (pc0 := 41) (pc' := 3) rfl (hb hby d6_41) (by decide) (by decide)) ?_
 show Go _ _ _ _ _ _ _ (T18.setTop (mkF m 3 #[.val (.ref aa), .val (.int 5), .val (.ref bb), .val (.int 5), .val (.int 7), .val (.int 5), .val (.int ce)] []))
 refine Go.st (fun _ => XS.iload X18.here hx rfl (hb hby d6_3) rfl) ?_
 refine Go.st (fun _ => XS.iload X18.here hx rfl (hb hby d6_5) rfl) ?_
 show Go _ _ _ _ _ _ _ (T18.setTop (mkF m 7 #[.val (.ref aa), .val (.int 5), .val (.ref bb), .val (.int 5), .val (.int 7), .val (.int 5), .val (.int ce)] [(.int 7), (.int 5)]))
 refine Go.st (fun _ => XS.icmpNo X18.here hx rfl (hb hby d6_7) rfl (XT.ii_ge_f (by decide))) ?_
 refine Go.st (fun _ => XS.aloadN X18.here hx rfl (hb hby d6_10) rfl rfl) ?_
 refine Go.st (fun _ => XS.iloadN X18.here hx rfl (hb hby d6_11) rfl) ?_
 show Go _ _ _ _ _ _ _ (T18.setTop (mkF m 12 #[.val (.ref aa), .val (.int 5), .val (.ref bb), .val (.int 5), .val (.int 7), .val (.int 5), .val (.int ce)] [(.int 5), (.ref aa)]))
 obtain ⟨cl21, Ar21, qc21, Sz21, Nn21, Ha21, Gf21⟩ := id f20
 refine Go.st (fun _ => X18.caload hx (j := (5 : Int32)) (v := (.int cf)) (by rw [e18]; exact Ar21.1) (State.isArrayOf_alike hZ.alike Ar21.2.1) Ar21.2.2 (inb_of Sz21 ⟨by decide, by decide⟩) (Ha21.at (inb_of Sz21 ⟨by decide, by decide⟩) rfl) (g := (mkF m 12 #[.val (.ref aa), .val (.int 5), .val (.ref bb), .val (.int 5), .val (.int 7), .val (.int 5), .val (.int ce)] [(.int 5), (.ref aa)])) rfl rfl (hb hby d6_12) _) ?_
 show Go _ _ _ _ _ _ _ (T18.setTop (mkF m 13 #[.val (.ref aa), .val (.int 5), .val (.ref bb), .val (.int 5), .val (.int 7), .val (.int 5), .val (.int ce)] [(.int cf)]))
 refine Go.st (fun _ => XS.istore X18.here hx rfl (hb hby d6_13) rfl (l' := #[.val (.ref aa), .val (.int 5), .val (.ref bb), .val (.int 5), .val (.int 7), .val (.int 5), .val (.int cf)]) rfl) ?_
 refine Go.st (fun _ => XS.iload X18.here hx rfl (hb hby d6_15) rfl) ?_
 refine Go.st (fun _ => XS.sipush X18.here hx rfl (hb hby d6_17)) ?_
 show Go _ _ _ _ _ _ _ (T18.setTop (mkF m 20 #[.val (.ref aa), .val (.int 5), .val (.ref bb), .val (.int 5), .val (.int 7), .val (.int 5), .val (.int cf)] [(.int 255), (.int cf)]))
 refine Go.st (fun _ => XS.icmpYes X18.here hx rfl (pc0 := 20) (pc' := 26) rfl (hb hby d6_20) rfl (XT.ii_le_t q_cf) (by decide) (by decide)) ?_
 refine Go.st (fun _ => XS.aloadN X18.here hx rfl (hb hby d6_26) rfl rfl) ?_
 refine Go.st (fun _ => XS.iloadN X18.here hx rfl (hb hby d6_27) rfl) ?_
 refine Go.st (fun _ => XS.iload X18.here hx rfl (hb hby d6_28) rfl) ?_
 refine Go.st (fun _ => XS.i2b X18.here hx rfl (hb hby d6_30) rfl) ?_
 obtain ⟨cl22, Ar22, qc22, Sz22, Nn22, Ha22, Gf22⟩ := id f19
 obtain ⟨T22, h22, X22, e22, W22, st22⟩ := stB X18 hx hZ e18 Ar22 (j := (5 : Int32)) (inb_of Sz22 ⟨by decide, by decide⟩) (g := (mkF m 31 #[.val (.ref aa), .val (.int 5), .val (.ref bb), .val (.int 5), .val (.int 7), .val (.int 5), .val (.int cf)] [(.int (cf.toInt8.toInt32)), (.int 5), (.ref bb)])) rfl rfl (hb hby d6_31)
 refine Go.st st22 ?_
 have f24 := f20.other W22 ne_ab
 have O22 := O18.wr W22 g_b
 have N22 := Fr.snoc X22 N18 g_b
 have K22 : Keep h0 h22 [bb] := K18.wr W22 (Or.inl (by simp))
 have f23 : Arv Z h22 bb kb .byte (7 : Int32) [(.int (nar .byte (ca.toInt8.toInt32))), (.int (nar .byte (cb.toInt8.toInt32))), (.int (nar .byte (cc.toInt8.toInt32))), (.int (nar .byte (cd.toInt8.toInt32))), (.int (nar .byte (ce.toInt8.toInt32))), (.int (nar .byte (cf.toInt8.toInt32))), (.int 0)] (.int 0) := Arv.set Ar22 qc22 Sz22 Nn22 Ha22 Gf22 (fits_nar_byte _) W22 5 rfl (Nat.le_of_ble_eq_true rfl)
 refine Go.st (fun _ => XS.iinc X22.here hx rfl (hb hby d6_32) rfl (l' := #[.val (.ref aa), .val (.int 6), .val (.ref bb), .val (.int 5), .val (.int 7), .val (.int 5), .val (.int cf)]) rfl) ?_
 refine Go.st (fun _ => XS.iinc X22.here hx rfl (hb hby d6_35) rfl (l' := #[.val (.ref aa), .val (.int 6), .val (.ref bb), .val (.int 6), .val (.int 7), .val (.int 5), .val (.int cf)]) rfl) ?_
 refine Go.st (fun _ => XS.iinc X22.here hx rfl (hb hby d6_38) rfl (l' := #[.val (.ref aa), .val (.int 6), .val (.ref bb), .val (.int 6), .val (.int 7), .val (.int 6), .val (.int cf)]) rfl) ?_
 show Go _ _ _ _ _ _ _ (T22.setTop (mkF m 41 #[.val (.ref aa), .val (.int 6), .val (.ref bb), .val (.int 6), .val (.int 7), .val (.int 6), .val (.int cf)] []))
 refine Go.st (fun _ => XS.goto X22.here hx rfl (pc0 := 41) (pc' := 3) rfl (hb hby d6_41) (by decide) (by decide)) ?_
 show Go _ _ _ _ _ _ _ (T22.setTop (mkF m 3 #[.val (.ref aa), .val (.int 6), .val (.ref bb), .val (.int 6), .val (.int 7), .val (.int 6), .val (.int cf)] []))
 refine Go.st (fun _ => XS.iload X22.here hx rfl (hb hby d6_3) rfl) ?_
 refine Go.st (fun _ => XS.iload X22.here hx rfl (hb hby d6_5) rfl) ?_
 show Go _ _ _ _ _ _ _ (T22.setTop (mkF m 7 #[.val (.ref aa), .val (.int 6), .val (.ref bb), .val (.int 6), .val (.int 7), .val (.int 6), .val (.int cf)] [(.int 7), (.int 6)]))
 refine Go.st (fun _ => XS.icmpNo X22.here hx rfl (hb hby d6_7) rfl (XT.ii_ge_f (by decide))) ?_
 refine Go.st (fun _ => XS.aloadN X22.here hx rfl (hb hby d6_10) rfl rfl) ?_
 refine Go.st (fun _ => XS.iloadN X22.here hx rfl (hb hby d6_11) rfl) ?_
 show Go _ _ _ _ _ _ _ (T22.setTop (mkF m 12 #[.val (.ref aa), .val (.int 6), .val (.ref bb), .val (.int 6), .val (.int 7), .val (.int 6), .val (.int cf)] [(.int 6), (.ref aa)]))
 obtain ⟨cl25, Ar25, qc25, Sz25, Nn25, Ha25, Gf25⟩ := id f24
 refine Go.st (fun _ => X22.caload hx (j := (6 : Int32)) (v := (.int cg)) (by rw [e22]; exact Ar25.1) (State.isArrayOf_alike hZ.alike Ar25.2.1) Ar25.2.2 (inb_of Sz25 ⟨by decide, by decide⟩) (Ha25.at (inb_of Sz25 ⟨by decide, by decide⟩) rfl) (g := (mkF m 12 #[.val (.ref aa), .val (.int 6), .val (.ref bb), .val (.int 6), .val (.int 7), .val (.int 6), .val (.int cf)] [(.int 6), (.ref aa)])) rfl rfl (hb hby d6_12) _) ?_
 show Go _ _ _ _ _ _ _ (T22.setTop (mkF m 13 #[.val (.ref aa), .val (.int 6), .val (.ref bb), .val (.int 6), .val (.int 7), .val (.int 6), .val (.int cf)] [(.int cg)]))
 refine Go.st (fun _ => XS.istore X22.here hx rfl (hb hby d6_13) rfl (l' := #[.val (.ref aa), .val (.int 6), .val (.ref bb), .val (.int 6), .val (.int 7), .val (.int 6), .val (.int cg)]) rfl) ?_
 refine Go.st (fun _ => XS.iload X22.here hx rfl (hb hby d6_15) rfl) ?_
 refine Go.st (fun _ => XS.sipush X22.here hx rfl (hb hby d6_17)) ?_
 show Go _ _ _ _ _ _ _ (T22.setTop (mkF m 20 #[.val (.ref aa), .val (.int 6), .val (.ref bb), .val (.int 6), .val (.int 7), .val (.int 6), .val (.int cg)] [(.int 255), (.int cg)]))
 refine Go.st (fun _ => XS.icmpYes X22.here hx rfl (pc0 := 20) (pc' := 26) rfl (hb hby d6_20) rfl (XT.ii_le_t q_cg) (by decide) (by decide)) ?_
 refine Go.st (fun _ => XS.aloadN X22.here hx rfl (hb hby d6_26) rfl rfl) ?_
 refine Go.st (fun _ => XS.iloadN X22.here hx rfl (hb hby d6_27) rfl) ?_
 refine Go.st (fun _ => XS.iload X22.here hx rfl (hb hby d6_28) rfl) ?_
 refine Go.st (fun _ => XS.i2b X22.here hx rfl (hb hby d6_30) rfl) ?_
 obtain ⟨cl26, Ar26, qc26, Sz26, Nn26, Ha26, Gf26⟩ := id f23
 obtain ⟨T26, h26, X26, e26, W26, st26⟩ := stB X22 hx hZ e22 Ar26 (j := (6 : Int32)) (inb_of Sz26 ⟨by decide, by decide⟩) (g := (mkF m 31 #[.val (.ref aa), .val (.int 6), .val (.ref bb), .val (.int 6), .val (.int 7), .val (.int 6), .val (.int cg)] [(.int (cg.toInt8.toInt32)), (.int 6), (.ref bb)])) rfl rfl (hb hby d6_31)
 refine Go.st st26 ?_
 have f28 := f24.other W26 ne_ab
 have O26 := O22.wr W26 g_b
 have N26 := Fr.snoc X26 N22 g_b
 have K26 : Keep h0 h26 [bb] := K22.wr W26 (Or.inl (by simp))
 have f27 : Arv Z h26 bb kb .byte (7 : Int32) [(.int (nar .byte (ca.toInt8.toInt32))), (.int (nar .byte (cb.toInt8.toInt32))), (.int (nar .byte (cc.toInt8.toInt32))), (.int (nar .byte (cd.toInt8.toInt32))), (.int (nar .byte (ce.toInt8.toInt32))), (.int (nar .byte (cf.toInt8.toInt32))), (.int (nar .byte (cg.toInt8.toInt32)))] (.int 0) := Arv.set Ar26 qc26 Sz26 Nn26 Ha26 Gf26 (fits_nar_byte _) W26 6 rfl (Nat.le_of_ble_eq_true rfl)
 refine Go.st (fun _ => XS.iinc X26.here hx rfl (hb hby d6_32) rfl (l' := #[.val (.ref aa), .val (.int 7), .val (.ref bb), .val (.int 6), .val (.int 7), .val (.int 6), .val (.int cg)]) rfl) ?_
 refine Go.st (fun _ => XS.iinc X26.here hx rfl (hb hby d6_35) rfl (l' := #[.val (.ref aa), .val (.int 7), .val (.ref bb), .val (.int 7), .val (.int 7), .val (.int 6), .val (.int cg)]) rfl) ?_
 refine Go.st (fun _ => XS.iinc X26.here hx rfl (hb hby d6_38) rfl (l' := #[.val (.ref aa), .val (.int 7), .val (.ref bb), .val (.int 7), .val (.int 7), .val (.int 7), .val (.int cg)]) rfl) ?_
 show Go _ _ _ _ _ _ _ (T26.setTop (mkF m 41 #[.val (.ref aa), .val (.int 7), .val (.ref bb), .val (.int 7), .val (.int 7), .val (.int 7), .val (.int cg)] []))
 refine Go.st (fun _ => XS.goto X26.here hx rfl (pc0 := 41) (pc' := 3) rfl (hb hby d6_41) (by decide) (by decide)) ?_
 show Go _ _ _ _ _ _ _ (T26.setTop (mkF m 3 #[.val (.ref aa), .val (.int 7), .val (.ref bb), .val (.int 7), .val (.int 7), .val (.int 7), .val (.int cg)] []))
 refine Go.st (fun _ => XS.iload X26.here hx rfl (hb hby d6_3) rfl) ?_
 refine Go.st (fun _ => XS.iload X26.here hx rfl (hb hby d6_5) rfl) ?_
 show Go _ _ _ _ _ _ _ (T26.setTop (mkF m 7 #[.val (.ref aa), .val (.int 7), .val (.ref bb), .val (.int 7), .val (.int 7), .val (.int 7), .val (.int cg)] [(.int 7), (.int 7)]))
 refine Go.st (fun _ => XS.icmpYes X26.here hx rfl (pc0 := 7) (pc' := 44) rfl (hb hby d6_7) rfl (XT.ii_ge_t (by decide)) (by decide) (by decide)) ?_
 refine Go.st (fun _ => XS.iload X26.here hx rfl (hb hby d6_44) rfl) ?_
 show Go _ _ _ _ _ _ _ (T26.setTop (mkF m 46 #[.val (.ref aa), .val (.int 7), .val (.ref bb), .val (.int 7), .val (.int 7), .val (.int 7), .val (.int cg)] [(.int 7)]))
 refine Go.ret X26 hx hlk (t := .int) Bd.returns rfl (Or.inl ⟨rfl, Or.inl rfl, _, rfl⟩) (hb hby d6_46) (by decide) (by decide) e26 ?_
 exact ⟨rfl, N26, K26, f27⟩
theorem ef_rm5_7 (m : MethodId) (aa : Addr) : entryFrame m #[(.ref aa), (.int 0), (.int 7)] 6 = mkF m 0 #[.val (.ref aa), .val (.int 0), .val (.int 7), .unset, .unset, .unset] [] := by first | (simp [entryFrame, mkF, argsToLocals, Value.category]; done) | rfl
def Q5_7 (Z : State) (aa : Addr) (ka : ClassId) (ca : Int32) (cb : Int32) (cc : Int32) (cd : Int32) (ce : Int32) (cf : Int32) (cg : Int32) (h0 : Heap) (n0 : Nat) (v : Option Value) (h : Heap) (L : List Loc) : Prop := ∃ (rr : Addr) (kr : ClassId), v = some (.ref rr) ∧ Fr n0 L ∧ Keep h0 h [] ∧ Arv Z h rr kr .byte (7 : Int32) [(.int (nar .byte (ca.toInt8.toInt32))), (.int (nar .byte (cb.toInt8.toInt32))), (.int (nar .byte (cc.toInt8.toInt32))), (.int (nar .byte (cd.toInt8.toInt32))), (.int (nar .byte (ce.toInt8.toInt32))), (.int (nar .byte (cf.toInt8.toInt32))), (.int (nar .byte (cg.toInt8.toInt32)))] (.int 0) ∧ h0.size ≤ rr
set_option maxRecDepth 65536 in
set_option maxHeartbeats 40000000 in
theorem rm5_7 (l : Launch) (Z : State) (a0 : Array Value) (hw : ∀ d ∈ tables_1, d.before a0 Z = true) (ws : List Jvm.Cond) (aa : Addr) (ka : ClassId) (ca : Int32) (cb : Int32) (cc : Int32) (cd : Int32) (ce : Int32) (cf : Int32) (cg : Int32) (h0 : Heap) (n0 : Nat) (O0 : Old Z n0 h0) (Va : Arv Z h0 aa ka .char (7 : Int32) [(.int ca), (.int cb), (.int cc), (.int cd), (.int ce), (.int cf), (.int cg)] (.int 0)) (q_ca : ¬ (255 : Int32) < ca) (q_cb : ¬ (255 : Int32) < cb) (q_cc : ¬ (255 : Int32) < cc) (q_cd : ¬ (255 : Int32) < cd) (q_ce : ¬ (255 : Int32) < ce) (q_cf : ¬ (255 : Int32) < cf) (q_cg : ¬ (255 : Int32) < cg) :
  MetFree l mn9 (head1 (Jvm.Cond.code mn9 jdk_52_method_16_code 6 (some (.array .byte)) :: ws) ({ frames := 1, cells := 1, slots := 7, locals := 18 } : Room)) (fun ay U => ay = #[(.ref aa), (.int 0), (.int 7)] ∧ Z.Warmed39 U.vm ∧ U.heap = h0) (fun _ _ _ _ _ => True) (fun _ U o U' => ∃ v L, o = .returned v ∧ Q5_7 Z aa ka ca cb cc cd ce cf cg h0 n0 v U'.heap L ∧ FrameEnd U o U' L ({ frames := 1, cells := 1, slots := 7, locals := 18 } : Room).cells ({ frames := 1, cells := 1, slots := 7, locals := 18 } : Room).slots) := by
 refine MetFree.of_bodySF (plainFor_of_name pn_java_lang_StringUTF16) hisR ?_
 intro p e s m args below meth c s₁ Bd hml0 hP hK
 obtain ⟨rfl, hZ, hh⟩ := hP
 have hx := Bd.exec
 have hby := Bd.bytes
 have hlk : meth.locks = false := BodyLoose.notSynchronized Bd
 have hml : c.maxLocals = 6 := hml0
 have hown : s.vm.findClass "java/lang/StringUTF16" = some m.cls := findClass_of_methodNamed Bd.named
 have hnm := (name_of_methodNamed Bd.named Bd.method).1
 have X0 : Stand p l e ({ frames := 1, cells := 1, slots := 7, locals := 18 } : Room) s m #[(.ref aa), (.int 0), (.int 7)] below meth c s₁ [] 0 0 := Stand.of_body Bd
 have e0 : s₁.heap = h0 := by rw [← hh, Bd.state]; rfl
 have N0 := Fr.nil n0
 suffices hgo : Go p e below s 1 7 (Q5_7 Z aa ka ca cb cc cd ce cf cg h0 n0) (s₁.setTop (mkF m 0 #[.val (.ref aa), .val (.int 0), .val (.int 7), .unset, .unset, .unset] [])) by
  obtain ⟨t, o, h1, h2⟩ := hgo; exact ⟨t, o, castTop (ef_rm5_7 m aa) h1, h2⟩
 show Go _ _ _ _ _ _ _ (s₁.setTop (mkF m 0 #[.val (.ref aa), .val (.int 0), .val (.int 7), .unset, .unset, .unset] []))
 refine Go.st (fun _ => XS.iloadN X0.here hx rfl (hb hby d5_0) rfl) ?_
 obtain ⟨T1, h1, k1, X1, e1, E1, A1, st1⟩ := newP X0 hx hZ (wdx hw 28 rfl) e0 (g := (mkF m 1 #[.val (.ref aa), .val (.int 0), .val (.int 7), .unset, .unset, .unset] [(.int 7)])) rfl (hb hby d5_1) rfl (by decide) (cap := 7) (by decide) (by decide) (by decide) (by decide)
 obtain ⟨b1, g1⟩ : ∃ z, z = h0.size := ⟨_, rfl⟩
 rw [← g1] at A1 st1
 refine Go.st st1 ?_
 have g_b1 : n0 ≤ b1 := Nat.le_trans (own_le O0) (Nat.le_of_eq g1.symm)
 have z_b1 : h0.size ≤ b1 := Nat.le_of_eq g1.symm
 have ne2 : aa ≠ b1 := Nat.ne_of_lt (Nat.lt_of_lt_of_le Va.lt (Nat.le_of_eq g1.symm))
 have f3 := Va.ext E1
 have O1 := O0.ext E1
 have K1 : Keep h0 h1 [] := (Keep.refl h0 []).ext E1
 have f4 : Arv Z h1 b1 k1 .byte (7 : Int32) [(.int 0), (.int 0), (.int 0), (.int 0), (.int 0), (.int 0), (.int 0)] (.int 0) := (Arv.new A1 (by decide)).pad (pad_rep [] (.int 0) 7)
 show Go _ _ _ _ _ _ _ (T1.setTop (mkF m 3 #[.val (.ref aa), .val (.int 0), .val (.int 7), .unset, .unset, .unset] [(.ref b1)]))
 refine Go.st (fun _ => XS.astoreN X1.here hx rfl (hb hby d5_3) rfl rfl (l' := #[.val (.ref aa), .val (.int 0), .val (.int 7), .val (.ref b1), .unset, .unset]) rfl) ?_
 refine Go.st (fun _ => XS.aloadN X1.here hx rfl (hb hby d5_4) rfl rfl) ?_
 refine Go.st (fun _ => XS.iloadN X1.here hx rfl (hb hby d5_5) rfl) ?_
 refine Go.st (fun _ => XS.aloadN X1.here hx rfl (hb hby d5_6) rfl rfl) ?_
 refine Go.st (fun _ => XS.iconst X1.here hx rfl (hb hby d5_7)) ?_
 refine Go.st (fun _ => XS.iloadN X1.here hx rfl (hb hby d5_8) rfl) ?_
 show Go _ _ _ _ _ _ _ (T1.setTop (mkF m 9 #[.val (.ref aa), .val (.int 0), .val (.int 7), .val (.ref b1), .unset, .unset] [(.int 7), (.int 0), (.ref b1), (.int 0), (.ref aa)]))
 obtain ⟨_, _, ⟨T5, L5, k5, n5⟩, -, X5, ⟨Lc5, hQ5, l5, y5, z5⟩, st5⟩ := Jvm.LawKit.callS X1 hx (y := mn8) hown (mvT hZ (wdx hw 29 rfl)) (mvT hZ (wdx hw 30 rfl)) (mvT hZ (wdx hw 26 rfl)) (mvT hZ (wdx hw 31 rfl)) (by decide) (backOf (W := 0) (rm6_7 l Z a0 hw [] aa b1 ka k1 ca cb cc cd ce cf cg h1 n0 O1 f3 f4 q_ca q_cb q_cc q_cd q_ce q_cf q_cg g_b1 ne2) hZ (wdx hw 31 rfl) (wdx hw 26 rfl) (by decide) (by decide)) (g := (mkF m 9 #[.val (.ref aa), .val (.int 0), .val (.int 7), .val (.ref b1), .unset, .unset] [(.int 7), (.int 0), (.ref b1), (.int 0), (.ref aa)])) rfl (by rw [hml]; rfl) (argsL := [(.ref aa), (.int 0), (.ref b1), (.int 0), (.int 7)]) (rest := []) (lenOf pd___CI_BII_I rfl) rfl (by show 2 * 0 + _ ≤ _; exact Nat.le_of_eq rfl) (hb hby d5_9) (fun _ _ => ⟨rfl, e1, (by exact lee rfl), (by exact lee rfl)⟩)
 dsimp only [Pt.U, Pt.locs, Pt.cells, Pt.slots] at X5 l5 y5 z5 st5 hQ5
 subst l5 y5 z5
 obtain ⟨rfl, Nq5, Kq5, f6⟩ := hQ5
 have N5 := Fr.app N0 Nq5
 refine Go.st st5 ?_
 have f7 := f3.keep Kq5 (ninS ne2 nin0)
 have O5 := O1.keep Kq5 (allS g_b1 all0)
 have K5 : Keep h0 T5.heap [] := K1.trans Kq5 (allS (Or.inr z_b1) all0)
 show Go _ _ _ _ _ _ _ (T5.setTop (mkF m 12 #[.val (.ref aa), .val (.int 0), .val (.int 7), .val (.ref b1), .unset, .unset] [(.int 7)]))
 refine Go.st (fun _ => XS.istore X5.here hx rfl (hb hby d5_12) rfl (l' := #[.val (.ref aa), .val (.int 0), .val (.int 7), .val (.ref b1), .val (.int 7), .unset]) rfl) ?_
 refine Go.st (fun _ => XS.iload X5.here hx rfl (hb hby d5_14) rfl) ?_
 refine Go.st (fun _ => XS.iloadN X5.here hx rfl (hb hby d5_16) rfl) ?_
 show Go _ _ _ _ _ _ _ (T5.setTop (mkF m 17 #[.val (.ref aa), .val (.int 0), .val (.int 7), .val (.ref b1), .val (.int 7), .unset] [(.int 7), (.int 7)]))
 refine Go.st (fun _ => XS.icmpYes X5.here hx rfl (pc0 := 17) (pc' := 57) rfl (hb hby d5_17) rfl (XT.ii_eq_t (by decide)) (by decide) (by decide)) ?_
 refine Go.st (fun _ => XS.aloadN X5.here hx rfl (hb hby d5_57) rfl rfl) ?_
 show Go _ _ _ _ _ _ _ (T5.setTop (mkF m 58 #[.val (.ref aa), .val (.int 0), .val (.int 7), .val (.ref b1), .val (.int 7), .unset] [(.ref b1)]))
 refine Go.ret X5 hx hlk (t := (.array .byte)) Bd.returns rfl (Or.inr (Or.inr (Or.inr (Or.inr ⟨rfl, rfl, rfl⟩)))) (hb hby d5_58) (by decide) (by decide) rfl ?_
 exact ⟨b1, k1, rfl, N5, K5, f6, z_b1⟩
theorem ef_rm7_7 (m : MethodId) (bb : Addr) : entryFrame m #[(.ref bb), (.int 7)] 2 = mkF m 0 #[.val (.ref bb), .val (.int 7)] [] := by first | (simp [entryFrame, mkF, argsToLocals, Value.category]; done) | rfl
def Q7_7 (Z : State) (bb : Addr) (kb : ClassId) (ca : Int32) (cb : Int32) (cc : Int32) (cd : Int32) (ce : Int32) (cf : Int32) (cg : Int32) (h0 : Heap) (n0 : Nat) (v : Option Value) (h : Heap) (L : List Loc) : Prop := v = some (.int 0) ∧ Fr n0 L ∧ h = h0
set_option maxRecDepth 65536 in
set_option maxHeartbeats 40000000 in
theorem rm7_7 (l : Launch) (Z : State) (a0 : Array Value) (hw : ∀ d ∈ tables_1, d.before a0 Z = true) (ws : List Jvm.Cond) (bb : Addr) (kb : ClassId) (ca : Int32) (cb : Int32) (cc : Int32) (cd : Int32) (ce : Int32) (cf : Int32) (cg : Int32) (h0 : Heap) (n0 : Nat) (O0 : Old Z n0 h0) (Vb : Arv Z h0 bb kb .byte (7 : Int32) [(.int ca), (.int cb), (.int cc), (.int cd), (.int ce), (.int cf), (.int cg)] (.int 0)) :
  MetFree l mn10 (head1 (Jvm.Cond.code mn10 jdk_52_method_15_code 2 (some .byte) :: ws) ({ frames := 0, cells := 0, slots := 0, locals := 0 } : Room)) (fun ay U => ay = #[(.ref bb), (.int 7)] ∧ Z.Warmed39 U.vm ∧ U.heap = h0) (fun _ _ _ _ _ => True) (fun _ U o U' => ∃ v L, o = .returned v ∧ Q7_7 Z bb kb ca cb cc cd ce cf cg h0 n0 v U'.heap L ∧ FrameEnd U o U' L ({ frames := 0, cells := 0, slots := 0, locals := 0 } : Room).cells ({ frames := 0, cells := 0, slots := 0, locals := 0 } : Room).slots) := by
 refine MetFree.of_bodySF (plainFor_of_name pn_java_lang_StringUTF16) hisR ?_
 intro p e s m args below meth c s₁ Bd hml0 hP hK
 obtain ⟨rfl, hZ, hh⟩ := hP
 have hx := Bd.exec
 have hby := Bd.bytes
 have hlk : meth.locks = false := BodyLoose.notSynchronized Bd
 have hml : c.maxLocals = 2 := hml0
 have hown : s.vm.findClass "java/lang/StringUTF16" = some m.cls := findClass_of_methodNamed Bd.named
 have hnm := (name_of_methodNamed Bd.named Bd.method).1
 have X0 : Stand p l e ({ frames := 0, cells := 0, slots := 0, locals := 0 } : Room) s m #[(.ref bb), (.int 7)] below meth c s₁ [] 0 0 := Stand.of_body Bd
 have e0 : s₁.heap = h0 := by rw [← hh, Bd.state]; rfl
 have N0 := Fr.nil n0
 suffices hgo : Go p e below s 0 0 (Q7_7 Z bb kb ca cb cc cd ce cf cg h0 n0) (s₁.setTop (mkF m 0 #[.val (.ref bb), .val (.int 7)] [])) by
  obtain ⟨t, o, h1, h2⟩ := hgo; exact ⟨t, o, castTop (ef_rm7_7 m bb) h1, h2⟩
 show Go _ _ _ _ _ _ _ (s₁.setTop (mkF m 0 #[.val (.ref bb), .val (.int 7)] []))
 refine Go.st (fun _ => XS.iloadN X0.here hx rfl (hb hby d7_0) rfl) ?_
 refine Go.st (fun _ => XS.aloadN X0.here hx rfl (hb hby d7_1) rfl rfl) ?_
 show Go _ _ _ _ _ _ _ (s₁.setTop (mkF m 2 #[.val (.ref bb), .val (.int 7)] [(.ref bb), (.int 7)]))
 obtain ⟨cl1, Ar1, qc1, Sz1, Nn1, Ha1, Gf1⟩ := id Vb
 refine Go.st (fun _ => X0.arraylength hx (by rw [e0]; exact Ar1.1) (State.isArrayOf_alike hZ.alike Ar1.2.1) (g := (mkF m 2 #[.val (.ref bb), .val (.int 7)] [(.ref bb), (.int 7)])) rfl rfl (hb hby d7_2) _) ?_
 rw [len_of Sz1 Nn1]
 show Go _ _ _ _ _ _ _ (s₁.setTop (mkF m 3 #[.val (.ref bb), .val (.int 7)] [(.int 7), (.int 7)]))
 refine Go.st (fun _ => XS.isub X0.here hx rfl (hb hby d7_3) rfl) ?_
 refine Go.st (fun _ => XS.bipush X0.here hx rfl (hb hby d7_4)) ?_
 refine Go.st (fun _ => XS.iushr X0.here hx rfl (hb hby d7_6) rfl) ?_
 refine Go.st (fun _ => XS.i2b X0.here hx rfl (hb hby d7_7) rfl) ?_
 show Go _ _ _ _ _ _ _ (s₁.setTop (mkF m 8 #[.val (.ref bb), .val (.int 7)] [(.int ((((0 : Int32).toUInt32 >>> ((31 : Int32) &&& 31).toUInt32).toInt32).toInt8.toInt32))]))
 refine Go.retB X0 hx hlk (t := .byte) Bd.returns (by simp) (hb hby d7_8) (by decide) (by decide) e0 ?_
 exact ⟨rfl, N0, rfl⟩
theorem ef_rm3_7 (m : MethodId) (ob : Addr) (aa : Addr) : entryFrame m #[(.ref ob), (.ref aa), (.int 0), (.int 7), .null] 6 = mkF m 0 #[.val (.ref ob), .val (.ref aa), .val (.int 0), .val (.int 7), .val .null, .unset] [] := by first | (simp [entryFrame, mkF, argsToLocals, Value.category]; done) | rfl
def Q3_7 (Z : State) (ob : Addr) (aa : Addr) (ka : ClassId) (cs : Int32) (ca : Int32) (cb : Int32) (cc : Int32) (cd : Int32) (ce : Int32) (cf : Int32) (cg : Int32) (h0 : Heap) (n0 : Nat) (v : Option Value) (h : Heap) (L : List Loc) : Prop := ∃ (tb : Addr) (kt : ClassId), v = none ∧ Fr n0 L ∧ Keep h0 h [ob] ∧ Fld Z h ob "java/lang/String" "value" "[B" (.ref tb) ∧ Fld Z h ob "java/lang/String" "coder" "B" (.int 0) ∧ Arv Z h tb kt .byte (7 : Int32) [(.int (nar .byte (ca.toInt8.toInt32))), (.int (nar .byte (cb.toInt8.toInt32))), (.int (nar .byte (cc.toInt8.toInt32))), (.int (nar .byte (cd.toInt8.toInt32))), (.int (nar .byte (ce.toInt8.toInt32))), (.int (nar .byte (cf.toInt8.toInt32))), (.int (nar .byte (cg.toInt8.toInt32)))] (.int 0) ∧ h0.size ≤ tb
set_option maxRecDepth 65536 in
set_option maxHeartbeats 40000000 in
theorem rm3_7 (l : Launch) (Z : State) (a0 : Array Value) (hw : ∀ d ∈ tables_1, d.before a0 Z = true) (ws : List Jvm.Cond) (ob : Addr) (aa : Addr) (ka : ClassId) (cs : Int32) (ca : Int32) (cb : Int32) (cc : Int32) (cd : Int32) (ce : Int32) (cf : Int32) (cg : Int32) (h0 : Heap) (n0 : Nat) (O0 : Old Z n0 h0) (E_o : Exa Z h0 ob "java/lang/String") (Fv : Fld Z h0 ob "java/lang/String" "value" "[B" .null) (Fc : Fld Z h0 ob "java/lang/String" "coder" "B" (.int 0)) (Va : Arv Z h0 aa ka .char (7 : Int32) [(.int ca), (.int cb), (.int cc), (.int cd), (.int ce), (.int cf), (.int cg)] (.int 0)) (S_cs : Sta Z Z.heap "java/lang/String" "COMPACT_STRINGS" "Z" (.int cs)) (q_cs : ¬ cs = (0 : Int32)) (q_ca : ¬ (255 : Int32) < ca) (q_cb : ¬ (255 : Int32) < cb) (q_cc : ¬ (255 : Int32) < cc) (q_cd : ¬ (255 : Int32) < cd) (q_ce : ¬ (255 : Int32) < ce) (q_cf : ¬ (255 : Int32) < cf) (q_cg : ¬ (255 : Int32) < cg) (g_o : n0 ≤ ob) (ne_oa : ob ≠ aa) :
  MetFree l mn6 (head1 (Jvm.Cond.code mn6 jdk_42_method_149_code 6 none :: ws) ({ frames := 2, cells := 1, slots := 7, locals := 35 } : Room)) (fun ay U => ay = #[(.ref ob), (.ref aa), (.int 0), (.int 7), .null] ∧ Z.Warmed39 U.vm ∧ U.heap = h0) (fun _ _ _ _ _ => True) (fun _ U o U' => ∃ v L, o = .returned v ∧ Q3_7 Z ob aa ka cs ca cb cc cd ce cf cg h0 n0 v U'.heap L ∧ FrameEnd U o U' L ({ frames := 2, cells := 1, slots := 7, locals := 35 } : Room).cells ({ frames := 2, cells := 1, slots := 7, locals := 35 } : Room).slots) := by
 refine MetFree.of_bodySF (plainFor_of_name pn_java_lang_String) hisR ?_
 intro p e s m args below meth c s₁ Bd hml0 hP hK
 obtain ⟨rfl, hZ, hh⟩ := hP
 have hx := Bd.exec
 have hby := Bd.bytes
 have hlk : meth.locks = false := BodyLoose.notSynchronized Bd
 have hml : c.maxLocals = 6 := hml0
 have hown : s.vm.findClass "java/lang/String" = some m.cls := findClass_of_methodNamed Bd.named
 have hnm := (name_of_methodNamed Bd.named Bd.method).1
 have X0 : Stand p l e ({ frames := 2, cells := 1, slots := 7, locals := 35 } : Room) s m #[(.ref ob), (.ref aa), (.int 0), (.int 7), .null] below meth c s₁ [] 0 0 := Stand.of_body Bd
 have e0 : s₁.heap = h0 := by rw [← hh, Bd.state]; rfl
 have N0 := Fr.nil n0
 suffices hgo : Go p e below s 1 7 (Q3_7 Z ob aa ka cs ca cb cc cd ce cf cg h0 n0) (s₁.setTop (mkF m 0 #[.val (.ref ob), .val (.ref aa), .val (.int 0), .val (.int 7), .val .null, .unset] [])) by
  obtain ⟨t, o, h1, h2⟩ := hgo; exact ⟨t, o, castTop (ef_rm3_7 m ob aa) h1, h2⟩
 show Go _ _ _ _ _ _ _ (s₁.setTop (mkF m 0 #[.val (.ref ob), .val (.ref aa), .val (.int 0), .val (.int 7), .val .null, .unset] []))
 refine Go.st (fun _ => XS.aloadN X0.here hx rfl (hb hby d3_0) rfl rfl) ?_
 show Go _ _ _ _ _ _ _ (s₁.setTop (mkF m 1 #[.val (.ref ob), .val (.ref aa), .val (.int 0), .val (.int 7), .val .null, .unset] [(.ref ob)]))
 obtain ⟨T1, X1, e1, st1⟩ := initO X0 hx hZ hown (wdx hw 20 rfl) (wdx hw 21 rfl) (wdx hw 22 rfl) e0 (g := (mkF m 1 #[.val (.ref ob), .val (.ref aa), .val (.int 0), .val (.int 7), .val .null, .unset] [(.ref ob)])) rfl (by rw [hml]; rfl) rfl (hb hby d3_1) (by decide) (W := 0) (by show 2 * 0 + _ ≤ _; exact Nat.le_of_eq rfl) (by decide)
 refine Go.st st1 ?_
 show Go _ _ _ _ _ _ _ (T1.setTop (mkF m 4 #[.val (.ref ob), .val (.ref aa), .val (.int 0), .val (.int 7), .val .null, .unset] []))
 refine Go.st (fun _ => XS.iloadN X1.here hx rfl (hb hby d3_4) rfl) ?_
 show Go _ _ _ _ _ _ _ (T1.setTop (mkF m 5 #[.val (.ref ob), .val (.ref aa), .val (.int 0), .val (.int 7), .val .null, .unset] [(.int 7)]))
 refine Go.st (fun _ => XS.ifYes X1.here hx rfl (pc0 := 5) (pc' := 27) rfl (hb hby d3_5) rfl (XT.i0_ne_t (by decide)) (by decide) (by decide)) ?_
 obtain ⟨T2, X2, e2, st2⟩ := getS2 X1 hx hZ hown (host := "") (Or.inl (wdx hw 23 rfl)) Via.refl e1 (S_cs.ext O0.2) (g := (mkF m 27 #[.val (.ref ob), .val (.ref aa), .val (.int 0), .val (.int 7), .val .null, .unset] [])) rfl (hb hby d3_27)
 refine Go.st st2 ?_
 show Go _ _ _ _ _ _ _ (T2.setTop (mkF m 30 #[.val (.ref ob), .val (.ref aa), .val (.int 0), .val (.int 7), .val .null, .unset] [(.int cs)]))
 refine Go.st (fun _ => XS.ifNo X2.here hx rfl (hb hby d3_30) rfl (XT.i0_eq_f q_cs)) ?_
 refine Go.st (fun _ => XS.aloadN X2.here hx rfl (hb hby d3_33) rfl rfl) ?_
 refine Go.st (fun _ => XS.iloadN X2.here hx rfl (hb hby d3_34) rfl) ?_
 refine Go.st (fun _ => XS.iloadN X2.here hx rfl (hb hby d3_35) rfl) ?_
 show Go _ _ _ _ _ _ _ (T2.setTop (mkF m 36 #[.val (.ref ob), .val (.ref aa), .val (.int 0), .val (.int 7), .val .null, .unset] [(.int 7), (.int 0), (.ref aa)]))
 obtain ⟨_, _, ⟨T3, L3, k3, n3⟩, -, X3, ⟨Lc3, hQ3, l3, y3, z3⟩, st3⟩ := Jvm.LawKit.callS X2 hx (y := mn9) hown (mvT hZ (wdx hw 24 rfl)) (mvT hZ (wdx hw 25 rfl)) (mvT hZ (wdx hw 26 rfl)) (mvT hZ (wdx hw 27 rfl)) (by decide) (backOf (W := 0) (rm5_7 l Z a0 hw [] aa ka ca cb cc cd ce cf cg h0 n0 O0 Va q_ca q_cb q_cc q_cd q_ce q_cf q_cg) hZ (wdx hw 27 rfl) (wdx hw 26 rfl) (by decide) (by decide)) (g := (mkF m 36 #[.val (.ref ob), .val (.ref aa), .val (.int 0), .val (.int 7), .val .null, .unset] [(.int 7), (.int 0), (.ref aa)])) rfl (by rw [hml]; rfl) (argsL := [(.ref aa), (.int 0), (.int 7)]) (rest := []) (lenOf pd___CII__B rfl) rfl (by show 2 * 0 + _ ≤ _; exact Nat.le_of_eq rfl) (hb hby d3_36) (fun _ _ => ⟨rfl, e2, (by exact lee rfl), (by exact lee rfl)⟩)
 dsimp only [Pt.U, Pt.locs, Pt.cells, Pt.slots] at X3 l3 y3 z3 st3 hQ3
 subst l3 y3 z3
 obtain ⟨rr_3, kr_3, rfl, Nq3, Kq3, f4, szr_3⟩ := hQ3
 have N3 := Fr.app N0 Nq3
 refine Go.st st3 ?_
 have f5 := E_o.keep Kq3
 have f6 := Fv.keep Kq3 nin0
 have f7 := Fc.keep Kq3 nin0
 have f8 := Va.keep Kq3 nin0
 have O3 := O0.keep Kq3 all0
 have K3 : Keep h0 T3.heap [ob] := (Keep.refl h0 [ob]).trans Kq3 all0
 have g_rr_3 : n0 ≤ rr_3 := Nat.le_trans (own_le O0) szr_3
 have z_rr_3 : h0.size ≤ rr_3 := szr_3
 have ne9 : ob ≠ rr_3 := Nat.ne_of_lt (Nat.lt_of_lt_of_le E_o.lt szr_3)
 have ne10 : aa ≠ rr_3 := Nat.ne_of_lt (Nat.lt_of_lt_of_le Va.lt szr_3)
 show Go _ _ _ _ _ _ _ (T3.setTop (mkF m 39 #[.val (.ref ob), .val (.ref aa), .val (.int 0), .val (.int 7), .val .null, .unset] [(.ref rr_3)]))
 refine Go.st (fun _ => XS.astore X3.here hx rfl (hb hby d3_39) rfl rfl (l' := #[.val (.ref ob), .val (.ref aa), .val (.int 0), .val (.int 7), .val .null, .val (.ref rr_3)]) rfl) ?_
 refine Go.st (fun _ => XS.aloadN X3.here hx rfl (hb hby d3_41) rfl rfl) ?_
 refine Go.st (fun _ => XS.aload X3.here hx rfl (hb hby d3_42) rfl rfl) ?_
 refine Go.st (fun _ => XS.iloadN X3.here hx rfl (hb hby d3_44) rfl) ?_
 show Go _ _ _ _ _ _ _ (T3.setTop (mkF m 45 #[.val (.ref ob), .val (.ref aa), .val (.int 0), .val (.int 7), .val .null, .val (.ref rr_3)] [(.int 7), (.ref rr_3), (.ref ob)]))
 obtain ⟨_, _, ⟨T11, L11, k11, n11⟩, -, X11, ⟨Lc11, hQ11, l11, y11, z11⟩, st11⟩ := Jvm.LawKit.callS X3 hx (y := mn10) hown (mvT hZ (wdx hw 32 rfl)) (mvT hZ (wdx hw 33 rfl)) (mvT hZ (wdx hw 26 rfl)) (mvT hZ (wdx hw 34 rfl)) (by decide) (backOf (W := 1) (rm7_7 l Z a0 hw [] rr_3 kr_3 (nar .byte (ca.toInt8.toInt32)) (nar .byte (cb.toInt8.toInt32)) (nar .byte (cc.toInt8.toInt32)) (nar .byte (cd.toInt8.toInt32)) (nar .byte (ce.toInt8.toInt32)) (nar .byte (cf.toInt8.toInt32)) (nar .byte (cg.toInt8.toInt32)) T3.heap n0 O3 f4) hZ (wdx hw 34 rfl) (wdx hw 26 rfl) (by decide) (by decide)) (g := (mkF m 45 #[.val (.ref ob), .val (.ref aa), .val (.int 0), .val (.int 7), .val .null, .val (.ref rr_3)] [(.int 7), (.ref rr_3), (.ref ob)])) rfl (by rw [hml]; rfl) (argsL := [(.ref rr_3), (.int 7)]) (rest := [(.ref ob)]) (lenOf pd___BI_B rfl) rfl (by show 2 * 0 + _ ≤ _; exact Nat.le_of_eq rfl) (hb hby d3_45) (fun _ _ => ⟨rfl, rfl, (by exact lee rfl), (by exact lee rfl)⟩)
 dsimp only [Pt.U, Pt.locs, Pt.cells, Pt.slots] at X11 l11 y11 z11 st11 hQ11
 subst l11 y11 z11
 obtain ⟨rfl, Nq11, eq11⟩ := hQ11
 have N11 := Fr.app N3 Nq11
 refine Go.st st11 ?_
 show Go _ _ _ _ _ _ _ (T11.setTop (mkF m 48 #[.val (.ref ob), .val (.ref aa), .val (.int 0), .val (.int 7), .val .null, .val (.ref rr_3)] [(.int 0), (.ref ob)]))
 obtain ⟨T12, h12, X12, e12, W12, st12⟩ := putFN X11 hx hZ hown (wdx hw 35 rfl) Via.refl eq11 f7 f5 (Or.inr ⟨(wdx hw 36 rfl), rfl, hnm⟩) (wdx hw 10 rfl) (ty := .byte) (v' := (.int 0)) (by decide) rfl rfl (g := (mkF m 48 #[.val (.ref ob), .val (.ref aa), .val (.int 0), .val (.int 7), .val .null, .val (.ref rr_3)] [(.int 0), (.ref ob)])) rfl rfl (hb hby d3_48)
 refine Go.st st12 ?_
 have f13 := f5.wr W12
 have f14 := f6.other W12 (Or.inr (slot_ne (Or.inr (wdx hw 38 rfl)) (Or.inr (wdx hw 36 rfl)) (by decide) (t := (.array .byte)) (t' := .byte) (by decide) (by decide)))
 have f15 := f7.same W12
 have f16 := f8.other W12 (Ne.symm ne_oa)
 have f17 := f4.other W12 (Ne.symm ne9)
 have O12 := O3.wr W12 g_o
 have N12 := Fr.snoc X12 N11 g_o
 have K12 : Keep h0 h12 [ob] := K3.wr W12 (Or.inl (by simp))
 refine Go.st (fun _ => XS.aloadN X12.here hx rfl (hb hby d3_51) rfl rfl) ?_
 refine Go.st (fun _ => XS.aload X12.here hx rfl (hb hby d3_52) rfl rfl) ?_
 obtain ⟨T18, h18, X18, e18, W18, st18⟩ := putF X12 hx hZ hown (host := "") (Or.inl (wdx hw 37 rfl)) Via.refl e12 f14 f13 (Or.inr ⟨(wdx hw 38 rfl), rfl, hnm⟩) (wdx hw 10 rfl) (ty := (.array .byte)) (by decide) rfl rfl (g := (mkF m 54 #[.val (.ref ob), .val (.ref aa), .val (.int 0), .val (.int 7), .val .null, .val (.ref rr_3)] [(.ref rr_3), (.ref ob)])) rfl rfl (hb hby d3_54)
 refine Go.st st18 ?_
 have f19 := f13.wr W18
 have f20 := f14.same W18
 have f21 := f15.other W18 (Or.inr (slot_ne (Or.inr (wdx hw 36 rfl)) (Or.inr (wdx hw 38 rfl)) (by decide) (t := .byte) (t' := (.array .byte)) (by decide) (by decide)))
 have f22 := f16.other W18 (Ne.symm ne_oa)
 have f23 := f17.other W18 (Ne.symm ne9)
 have O18 := O12.wr W18 g_o
 have N18 := Fr.snoc X18 N12 g_o
 have K18 : Keep h0 h18 [ob] := K12.wr W18 (Or.inl (by simp))
 show Go _ _ _ _ _ _ _ (T18.setTop (mkF m 57 #[.val (.ref ob), .val (.ref aa), .val (.int 0), .val (.int 7), .val .null, .val (.ref rr_3)] []))
 refine Go.retV X18 hx hlk Bd.returns (hb hby d3_57) (by decide) (by decide) e18 ?_
 exact ⟨rr_3, kr_3, rfl, N18, K18, f20, f21, f23, z_rr_3⟩
theorem ef_rm2_7 (m : MethodId) (ob : Addr) (aa : Addr) : entryFrame m #[(.ref ob), (.ref aa)] 2 = mkF m 0 #[.val (.ref ob), .val (.ref aa)] [] := by first | (simp [entryFrame, mkF, argsToLocals, Value.category]; done) | rfl
def Q2_7 (Z : State) (ob : Addr) (aa : Addr) (ka : ClassId) (cs : Int32) (ca : Int32) (cb : Int32) (cc : Int32) (cd : Int32) (ce : Int32) (cf : Int32) (cg : Int32) (h0 : Heap) (n0 : Nat) (v : Option Value) (h : Heap) (L : List Loc) : Prop := ∃ (tb : Addr) (kt : ClassId), v = none ∧ Fr n0 L ∧ Keep h0 h [ob] ∧ Fld Z h ob "java/lang/String" "value" "[B" (.ref tb) ∧ Fld Z h ob "java/lang/String" "coder" "B" (.int 0) ∧ Arv Z h tb kt .byte (7 : Int32) [(.int (nar .byte (ca.toInt8.toInt32))), (.int (nar .byte (cb.toInt8.toInt32))), (.int (nar .byte (cc.toInt8.toInt32))), (.int (nar .byte (cd.toInt8.toInt32))), (.int (nar .byte (ce.toInt8.toInt32))), (.int (nar .byte (cf.toInt8.toInt32))), (.int (nar .byte (cg.toInt8.toInt32)))] (.int 0) ∧ h0.size ≤ tb
set_option maxRecDepth 65536 in
set_option maxHeartbeats 40000000 in
theorem rm2_7 (l : Launch) (Z : State) (a0 : Array Value) (hw : ∀ d ∈ tables_1, d.before a0 Z = true) (ws : List Jvm.Cond) (ob : Addr) (aa : Addr) (ka : ClassId) (cs : Int32) (ca : Int32) (cb : Int32) (cc : Int32) (cd : Int32) (ce : Int32) (cf : Int32) (cg : Int32) (h0 : Heap) (n0 : Nat) (O0 : Old Z n0 h0) (E_o : Exa Z h0 ob "java/lang/String") (Fv : Fld Z h0 ob "java/lang/String" "value" "[B" .null) (Fc : Fld Z h0 ob "java/lang/String" "coder" "B" (.int 0)) (Va : Arv Z h0 aa ka .char (7 : Int32) [(.int ca), (.int cb), (.int cc), (.int cd), (.int ce), (.int cf), (.int cg)] (.int 0)) (S_cs : Sta Z Z.heap "java/lang/String" "COMPACT_STRINGS" "Z" (.int cs)) (q_cs : ¬ cs = (0 : Int32)) (q_ca : ¬ (255 : Int32) < ca) (q_cb : ¬ (255 : Int32) < cb) (q_cc : ¬ (255 : Int32) < cc) (q_cd : ¬ (255 : Int32) < cd) (q_ce : ¬ (255 : Int32) < ce) (q_cf : ¬ (255 : Int32) < cf) (q_cg : ¬ (255 : Int32) < cg) (g_o : n0 ≤ ob) (ne_oa : ob ≠ aa) :
  MetFree l mn3 (head1 (Jvm.Cond.code mn3 jdk_42_method_3_code 2 none :: ws) ({ frames := 3, cells := 1, slots := 7, locals := 52 } : Room)) (fun ay U => ay = #[(.ref ob), (.ref aa)] ∧ Z.Warmed39 U.vm ∧ U.heap = h0) (fun _ _ _ _ _ => True) (fun _ U o U' => ∃ v L, o = .returned v ∧ Q2_7 Z ob aa ka cs ca cb cc cd ce cf cg h0 n0 v U'.heap L ∧ FrameEnd U o U' L ({ frames := 3, cells := 1, slots := 7, locals := 52 } : Room).cells ({ frames := 3, cells := 1, slots := 7, locals := 52 } : Room).slots) := by
 refine MetFree.of_bodySF (plainFor_of_name pn_java_lang_String) hisR ?_
 intro p e s m args below meth c s₁ Bd hml0 hP hK
 obtain ⟨rfl, hZ, hh⟩ := hP
 have hx := Bd.exec
 have hby := Bd.bytes
 have hlk : meth.locks = false := BodyLoose.notSynchronized Bd
 have hml : c.maxLocals = 2 := hml0
 have hown : s.vm.findClass "java/lang/String" = some m.cls := findClass_of_methodNamed Bd.named
 have hnm := (name_of_methodNamed Bd.named Bd.method).1
 have X0 : Stand p l e ({ frames := 3, cells := 1, slots := 7, locals := 52 } : Room) s m #[(.ref ob), (.ref aa)] below meth c s₁ [] 0 0 := Stand.of_body Bd
 have e0 : s₁.heap = h0 := by rw [← hh, Bd.state]; rfl
 have N0 := Fr.nil n0
 suffices hgo : Go p e below s 1 7 (Q2_7 Z ob aa ka cs ca cb cc cd ce cf cg h0 n0) (s₁.setTop (mkF m 0 #[.val (.ref ob), .val (.ref aa)] [])) by
  obtain ⟨t, o, h1, h2⟩ := hgo; exact ⟨t, o, castTop (ef_rm2_7 m ob aa) h1, h2⟩
 show Go _ _ _ _ _ _ _ (s₁.setTop (mkF m 0 #[.val (.ref ob), .val (.ref aa)] []))
 refine Go.st (fun _ => XS.aloadN X0.here hx rfl (hb hby d2_0) rfl rfl) ?_
 refine Go.st (fun _ => XS.aloadN X0.here hx rfl (hb hby d2_1) rfl rfl) ?_
 refine Go.st (fun _ => XS.iconst X0.here hx rfl (hb hby d2_2)) ?_
 refine Go.st (fun _ => XS.aloadN X0.here hx rfl (hb hby d2_3) rfl rfl) ?_
 show Go _ _ _ _ _ _ _ (s₁.setTop (mkF m 4 #[.val (.ref ob), .val (.ref aa)] [(.ref aa), (.int 0), (.ref aa), (.ref ob)]))
 obtain ⟨cl1, Ar1, qc1, Sz1, Nn1, Ha1, Gf1⟩ := id Va
 refine Go.st (fun _ => X0.arraylength hx (by rw [e0]; exact Ar1.1) (State.isArrayOf_alike hZ.alike Ar1.2.1) (g := (mkF m 4 #[.val (.ref ob), .val (.ref aa)] [(.ref aa), (.int 0), (.ref aa), (.ref ob)])) rfl rfl (hb hby d2_4) _) ?_
 rw [len_of Sz1 Nn1]
 show Go _ _ _ _ _ _ _ (s₁.setTop (mkF m 5 #[.val (.ref ob), .val (.ref aa)] [(.int 7), (.int 0), (.ref aa), (.ref ob)]))
 refine Go.st (fun _ => XS.aconstNull X0.here hx rfl (hb hby d2_5)) ?_
 show Go _ _ _ _ _ _ _ (s₁.setTop (mkF m 6 #[.val (.ref ob), .val (.ref aa)] [.null, (.int 7), (.int 0), (.ref aa), (.ref ob)]))
 obtain ⟨_, _, ⟨T2, L2, k2, n2⟩, -, X2, ⟨Lc2, hQ2, l2, y2, z2⟩, st2⟩ := X0.specialBack hx (y := mn6) rfl hown (mvT hZ (wdx hw 16 rfl)) (mvT hZ (wdx hw 17 rfl)) (mvT hZ (wdx hw 19 rfl)) (by decide) (backOf (W := 0) (rm3_7 l Z a0 hw [] ob aa ka cs ca cb cc cd ce cf cg h0 n0 O0 E_o Fv Fc Va S_cs q_cs q_ca q_cb q_cc q_cd q_ce q_cf q_cg g_o ne_oa) hZ (wdx hw 19 rfl) (wdx hw 11 rfl) (by decide) (by decide)) (g := (mkF m 6 #[.val (.ref ob), .val (.ref aa)] [.null, (.int 7), (.int 0), (.ref aa), (.ref ob)])) rfl (by rw [hml]; rfl) (Steps.refl _) (a := ob) (argsL := [(.ref aa), (.int 0), (.int 7), .null]) (rest := []) (lenOf pd___CIILjava_lang_Void__V rfl) rfl (by show 2 * 0 + _ ≤ _; exact Nat.le_of_eq rfl) (hb hby d2_6) (fun _ _ => ⟨rfl, e0, (by exact lee rfl), (by exact lee rfl)⟩)
 dsimp only [Pt.U, Pt.locs, Pt.cells, Pt.slots] at X2 l2 y2 z2 st2 hQ2
 subst l2 y2 z2
 obtain ⟨tb_2, kt_2, rfl, Nq2, Kq2, f3, f4, f5, szt_2⟩ := hQ2
 have N2 := Fr.app N0 Nq2
 refine Go.tr st2 ?_
 have f6 := E_o.keep Kq2
 have f7 := Va.keep Kq2 (ninS (Ne.symm ne_oa) nin0)
 have O2 := O0.keep Kq2 (allS g_o all0)
 have K2 : Keep h0 T2.heap [ob] := (Keep.refl h0 [ob]).trans Kq2 (allS (Or.inl (by simp)) all0)
 have g_tb_2 : n0 ≤ tb_2 := Nat.le_trans (own_le O0) szt_2
 have z_tb_2 : h0.size ≤ tb_2 := szt_2
 have ne8 : ob ≠ tb_2 := Nat.ne_of_lt (Nat.lt_of_lt_of_le E_o.lt szt_2)
 have ne9 : aa ≠ tb_2 := Nat.ne_of_lt (Nat.lt_of_lt_of_le Va.lt szt_2)
 show Go _ _ _ _ _ _ _ (T2.setTop (mkF m 9 #[.val (.ref ob), .val (.ref aa)] []))
 refine Go.retV X2 hx hlk Bd.returns (hb hby d2_9) (by decide) (by decide) rfl ?_
 exact ⟨tb_2, kt_2, rfl, N2, K2, f3, f4, f5, z_tb_2⟩
theorem d3_8 : decode jdk_42_method_149_code 8 = .ok (.aload_n 0, 1) := by decide +kernel
theorem d3_9 : decode jdk_42_method_149_code 9 = .ok (.ldc 7, 2) := by decide +kernel
theorem d3_11 : decode jdk_42_method_149_code 11 = .ok (.getfield 9, 3) := by decide +kernel
theorem d3_14 : decode jdk_42_method_149_code 14 = .ok (.putfield 9, 3) := by decide +kernel
theorem d3_17 : decode jdk_42_method_149_code 17 = .ok (.aload_n 0, 1) := by decide +kernel
theorem d3_18 : decode jdk_42_method_149_code 18 = .ok (.ldc 7, 2) := by decide +kernel
theorem d3_20 : decode jdk_42_method_149_code 20 = .ok (.getfield 15, 3) := by decide +kernel
theorem d3_23 : decode jdk_42_method_149_code 23 = .ok (.putfield 15, 3) := by decide +kernel
theorem d3_26 : decode jdk_42_method_149_code 26 = .ok (.return_, 1) := by decide +kernel
theorem ef_rm3_0 (m : MethodId) (ob : Addr) (aa : Addr) : entryFrame m #[(.ref ob), (.ref aa), (.int 0), (.int 0), .null] 6 = mkF m 0 #[.val (.ref ob), .val (.ref aa), .val (.int 0), .val (.int 0), .val .null, .unset] [] := by first | (simp [entryFrame, mkF, argsToLocals, Value.category]; done) | rfl
def Q3_0 (Z : State) (ob : Addr) (aa : Addr) (h0 : Heap) (n0 : Nat) (v : Option Value) (h : Heap) (L : List Loc) : Prop := ∃ (tb : Addr) (kt : ClassId), v = none ∧ Fr n0 L ∧ Keep h0 h [ob] ∧ Fld Z h ob "java/lang/String" "value" "[B" (.ref tb) ∧ Fld Z h ob "java/lang/String" "coder" "B" (.int 0) ∧ Arv Z h tb kt .byte (0 : Int32) [] (.int 0)
set_option maxRecDepth 65536 in
set_option maxHeartbeats 40000000 in
theorem rm3_0 (l : Launch) (Z : State) (a0 : Array Value) (hw : ∀ d ∈ tables_1, d.before a0 Z = true) (ws : List Jvm.Cond) (ob : Addr) (aa : Addr) (h0 : Heap) (n0 : Nat) (O0 : Old Z n0 h0) (E_o : Exa Z h0 ob "java/lang/String") (Fv : Fld Z h0 ob "java/lang/String" "value" "[B" .null) (Fc : Fld Z h0 ob "java/lang/String" "coder" "B" (.int 0)) (g_o : n0 ≤ ob) :
  MetFree l mn6 (head1 (Jvm.Cond.code mn6 jdk_42_method_149_code 6 none :: ws) ({ frames := 1, cells := 4, slots := 8, locals := 12 } : Room)) (fun ay U => ay = #[(.ref ob), (.ref aa), (.int 0), (.int 0), .null] ∧ Z.Warmed39 U.vm ∧ U.heap = h0 ∧ CHv Z EL U.vm h0 ∧ ∀ y ∈ ([ob] : List Addr), Safe Z EL U.vm h0 y) (fun _ _ _ _ _ => True) (fun _ U o U' => ∃ v L, o = .returned v ∧ Q3_0 Z ob aa h0 n0 v U'.heap L ∧ CHr Z EL U.vm U.heap U'.vm U'.heap ∧ ReturnedEndW U o U' L ({ frames := 1, cells := 4, slots := 8, locals := 12 } : Room).cells ({ frames := 1, cells := 4, slots := 8, locals := 12 } : Room).slots) := by
 refine MetFree.of_bodySF (plainFor_of_name pn_java_lang_String) hisR ?_
 intro p e s m args below meth c s₁ Bd hml0 hP hK
 obtain ⟨rfl, hZ, hh, hCH, hSf⟩ := hP
 have hx := Bd.exec
 have hby := Bd.bytes
 have hlk : meth.locks = false := BodyLoose.notSynchronized Bd
 have hml : c.maxLocals = 6 := hml0
 have hown : s.vm.findClass "java/lang/String" = some m.cls := findClass_of_methodNamed Bd.named
 have hnm := (name_of_methodNamed Bd.named Bd.method).1
 have X0 : Stand p l e ({ frames := 1, cells := 4, slots := 8, locals := 12 } : Room) (s.setVm s.vm) m #[(.ref ob), (.ref aa), (.int 0), (.int 0), .null] below meth c s₁ [] 0 0 := Stand.of_body Bd
 have e0 : s₁.heap = h0 := by rw [← hh, Bd.state]; rfl
 have N0 := Fr.nil n0
 have hS0 : s.Since s.vm 0 := (State.WarmedH.refl s).since 0
 have hk0 : 0 ≤ h0.size := Nat.zero_le _
 have CH0 : CHr Z EL s.vm s.heap s.vm h0 := by rw [hh]; exact CHr.refl hCH
 have hEL : EW Z a0 EL := own_EW hw
 have hwS := own_wS hw
 suffices hgo : GoW p e below s 4 8 Z EL (Q3_0 Z ob aa h0 n0) (s₁.setTop (mkF m 0 #[.val (.ref ob), .val (.ref aa), .val (.int 0), .val (.int 0), .val .null, .unset] [])) by
  obtain ⟨t, o, h1, h2⟩ := hgo; exact ⟨t, o, castTop (ef_rm3_0 m ob aa) h1, h2⟩
 show GoW _ _ _ _ _ _ _ _ _ (s₁.setTop (mkF m 0 #[.val (.ref ob), .val (.ref aa), .val (.int 0), .val (.int 0), .val .null, .unset] []))
 refine GoW.st (fun _ => XS.aloadN X0.here hx rfl (hb hby d3_0) rfl rfl) ?_
 show GoW _ _ _ _ _ _ _ _ _ (s₁.setTop (mkF m 1 #[.val (.ref ob), .val (.ref aa), .val (.int 0), .val (.int 0), .val .null, .unset] [(.ref ob)]))
 obtain ⟨T1, X1, e1, st1⟩ := initO X0 hx hZ hown (wdx hw 20 rfl) (wdx hw 21 rfl) (wdx hw 22 rfl) e0 (g := (mkF m 1 #[.val (.ref ob), .val (.ref aa), .val (.int 0), .val (.int 0), .val .null, .unset] [(.ref ob)])) rfl (by rw [hml]; rfl) rfl (hb hby d3_1) (by decide) (W := 0) (by show 2 * 0 + _ ≤ _; exact Nat.le_of_eq rfl) (by decide)
 refine GoW.st st1 ?_
 show GoW _ _ _ _ _ _ _ _ _ (T1.setTop (mkF m 4 #[.val (.ref ob), .val (.ref aa), .val (.int 0), .val (.int 0), .val .null, .unset] []))
 refine GoW.st (fun _ => XS.iloadN X1.here hx rfl (hb hby d3_4) rfl) ?_
 show GoW _ _ _ _ _ _ _ _ _ (T1.setTop (mkF m 5 #[.val (.ref ob), .val (.ref aa), .val (.int 0), .val (.int 0), .val .null, .unset] [(.int 0)]))
 refine GoW.st (fun _ => XS.ifNo X1.here hx rfl (hb hby d3_5) rfl (XT.i0_ne_f (by decide))) ?_
 refine GoW.st (fun _ => XS.aloadN X1.here hx rfl (hb hby d3_8) rfl rfl) ?_
 obtain ⟨a2, T2, h2, q2, b2, kb2, X2, e2, E2, hS2, hk2, hZ2, hown2, Ea2, Fc2, Fv2, Vb2, lta2, ltb2, C2, -, hne2, st2⟩ := ldcCH X1 hx hZ hown (wdx hw 174 rfl) hwS e1 hS0 hk0 hEL (List.mem_of_getElem? (i := 0) rfl) CH0.1 (vs := []) (z := (0 : Int32)) ⟨by decide, rfl⟩ (by decide) (by decide) (g := (mkF m 9 #[.val (.ref ob), .val (.ref aa), .val (.int 0), .val (.int 0), .val .null, .unset] [(.ref ob)])) rfl (hb hby d3_9) (n := 0) (by decide) (by decide) (by decide) (by decide)
 refine GoW.st st2 ?_
 have f3 := E_o.ext E2
 have f4 := Fv.ext E2
 have f5 := Fc.ext E2
 have f6 : Safe Z EL T2.vm h2 ob := C2.safe E_o.lt (hSf ob (List.mem_of_getElem? (i := 0) rfl))
 have CH2 := CH0.trans C2
 have O2 := O0.ext E2
 have K2 : Keep h0 h2 [ob] := (Keep.refl h0 [ob]).ext E2
 have hn7 := hne2 ob f6
 show GoW _ _ _ _ _ _ _ _ _ (T2.setTop (mkF m 11 #[.val (.ref ob), .val (.ref aa), .val (.int 0), .val (.int 0), .val .null, .unset] [(.ref a2), (.ref ob)]))
 obtain ⟨T8, X8, e8, st8⟩ := getF X2 hx hZ2 hown2 (host := "") (Or.inl (wdx hw 37 rfl)) Via.refl e2 Fv2 (g := (mkF m 11 #[.val (.ref ob), .val (.ref aa), .val (.int 0), .val (.int 0), .val .null, .unset] [(.ref a2), (.ref ob)])) rfl rfl (hb hby d3_11)
 refine GoW.st st8 ?_
 obtain ⟨T9, h9, X9, e9, W9, st9⟩ := putF X8 hx hZ2 hown2 (host := "") (Or.inl (wdx hw 37 rfl)) Via.refl e8 f4 f3 (Or.inr ⟨(wdx hw 38 rfl), rfl, hnm⟩) (wdx hw 10 rfl) (ty := (.array .byte)) (by decide) rfl rfl (g := (mkF m 14 #[.val (.ref ob), .val (.ref aa), .val (.int 0), .val (.int 0), .val .null, .unset] [(.ref b2), (.ref ob)])) rfl rfl (hb hby d3_14)
 refine GoW.st st9 ?_
 have f10 := f3.wr W9
 have f11 := f4.same W9
 have f12 := f5.other W9 (Or.inr (slot_ne (Or.inr (wdx hw 36 rfl)) (Or.inr (wdx hw 38 rfl)) (by decide) (t := .byte) (t' := (.array .byte)) (by decide) (by decide)))
 have f13 := Safe.wr W9 f6 CH2.1 f6
 have f14 := Ea2.wr W9
 have f15 := Fc2.other W9 (Or.inl (Ne.symm hn7.1))
 have f16 := Fv2.other W9 (Or.inl (Ne.symm hn7.1))
 have f17 := Vb2.other W9 (Ne.symm hn7.2)
 have CH9 := CH2.trans (CHr.wr W9 f6 CH2.1)
 have hk9 : q2 ≤ Array.size h9 := Nat.le_trans hk2 (Keep.of_wr W9).1
 have O9 := O2.wr W9 g_o
 have N9 := Fr.snoc X9 N0 g_o
 have K9 : Keep h0 h9 [ob] := K2.wr W9 (Or.inl (by simp))
 refine GoW.st (fun _ => XS.aloadN X9.here hx rfl (hb hby d3_17) rfl rfl) ?_
 obtain ⟨a18, T18, h18, q18, b18, kb18, X18, e18, E18, hS18, hk18, hZ18, hown18, Ea18, Fc18, Fv18, Vb18, lta18, ltb18, C18, -, hne18, st18⟩ := ldcCH X9 hx hZ2 hown2 (wdx hw 174 rfl) hwS e9 hS2 hk9 hEL (List.mem_of_getElem? (i := 0) rfl) CH9.1 (vs := []) (z := (0 : Int32)) ⟨by decide, rfl⟩ (by decide) (by decide) (g := (mkF m 18 #[.val (.ref ob), .val (.ref aa), .val (.int 0), .val (.int 0), .val .null, .unset] [(.ref ob)])) rfl (hb hby d3_18) (n := 0) (by decide) (by decide) (by decide) (by decide)
 refine GoW.st st18 ?_
 have f19 := f10.ext E18
 have f20 := f11.ext E18
 have f21 := f12.ext E18
 have f22 : Safe Z EL T18.vm h18 ob := C18.safe f10.lt f13
 have f23 := f14.ext E18
 have f24 := f15.ext E18
 have f25 := f16.ext E18
 have f26 := f17.ext E18
 have CH18 := CH9.trans C18
 have O18 := O9.ext E18
 have K18 : Keep h0 h18 [ob] := K9.ext E18
 have hn27 := hne18 ob f22
 show GoW _ _ _ _ _ _ _ _ _ (T18.setTop (mkF m 20 #[.val (.ref ob), .val (.ref aa), .val (.int 0), .val (.int 0), .val .null, .unset] [(.ref a18), (.ref ob)]))
 obtain ⟨T28, X28, e28, st28⟩ := getF X18 hx hZ18 hown18 (host := "") (Or.inl (wdx hw 35 rfl)) Via.refl e18 Fc18 (g := (mkF m 20 #[.val (.ref ob), .val (.ref aa), .val (.int 0), .val (.int 0), .val .null, .unset] [(.ref a18), (.ref ob)])) rfl rfl (hb hby d3_20)
 refine GoW.st st28 ?_
 obtain ⟨T29, h29, X29, e29, W29, st29⟩ := putFN X28 hx hZ18 hown18 (wdx hw 35 rfl) Via.refl e28 f21 f19 (Or.inr ⟨(wdx hw 36 rfl), rfl, hnm⟩) (wdx hw 10 rfl) (ty := .byte) (v' := (.int 0)) (by decide) rfl rfl (g := (mkF m 23 #[.val (.ref ob), .val (.ref aa), .val (.int 0), .val (.int 0), .val .null, .unset] [(.int 0), (.ref ob)])) rfl rfl (hb hby d3_23)
 refine GoW.st st29 ?_
 have f30 := f19.wr W29
 have f31 := f20.other W29 (Or.inr (slot_ne (Or.inr (wdx hw 38 rfl)) (Or.inr (wdx hw 36 rfl)) (by decide) (t := (.array .byte)) (t' := .byte) (by decide) (by decide)))
 have f32 := f21.same W29
 have f33 := Safe.wr W29 f22 CH18.1 f22
 have f34 := f23.wr W29
 have f35 := f24.other W29 (Or.inl (Ne.symm hn7.1))
 have f36 := f25.other W29 (Or.inl (Ne.symm hn7.1))
 have f37 := f26.other W29 (Ne.symm hn7.2)
 have f38 := Ea18.wr W29
 have f39 := Fc18.other W29 (Or.inl (Ne.symm hn27.1))
 have f40 := Fv18.other W29 (Or.inl (Ne.symm hn27.1))
 have f41 := Vb18.other W29 (Ne.symm hn27.2)
 have CH29 := CH18.trans (CHr.wr W29 f22 CH18.1)
 have hk29 : q18 ≤ Array.size h29 := Nat.le_trans hk18 (Keep.of_wr W29).1
 have O29 := O18.wr W29 g_o
 have N29 := Fr.snoc X29 N9 g_o
 have K29 : Keep h0 h29 [ob] := K18.wr W29 (Or.inl (by simp))
 show GoW _ _ _ _ _ _ _ _ _ (T29.setTop (mkF m 26 #[.val (.ref ob), .val (.ref aa), .val (.int 0), .val (.int 0), .val .null, .unset] []))
 refine GoW.retV X29 hx hlk hS18 (by rw [e29]; exact hk29) hZ18 hEL CH29 Bd.returns (hb hby d3_26) (by decide) (by decide) e29 ?_
 exact ⟨b2, kb2, rfl, N29, K29, f31, f32, f37⟩
theorem ef_rm2_0 (m : MethodId) (ob : Addr) (aa : Addr) : entryFrame m #[(.ref ob), (.ref aa)] 2 = mkF m 0 #[.val (.ref ob), .val (.ref aa)] [] := by first | (simp [entryFrame, mkF, argsToLocals, Value.category]; done) | rfl
def Q2_0 (Z : State) (ob : Addr) (aa : Addr) (ka : ClassId) (h0 : Heap) (n0 : Nat) (v : Option Value) (h : Heap) (L : List Loc) : Prop := ∃ (tb : Addr) (kt : ClassId), v = none ∧ Fr n0 L ∧ Keep h0 h [ob] ∧ Fld Z h ob "java/lang/String" "value" "[B" (.ref tb) ∧ Fld Z h ob "java/lang/String" "coder" "B" (.int 0) ∧ Arv Z h tb kt .byte (0 : Int32) [] (.int 0)
set_option maxRecDepth 65536 in
set_option maxHeartbeats 40000000 in
theorem rm2_0 (l : Launch) (Z : State) (a0 : Array Value) (hw : ∀ d ∈ tables_1, d.before a0 Z = true) (ws : List Jvm.Cond) (ob : Addr) (aa : Addr) (ka : ClassId) (h0 : Heap) (n0 : Nat) (O0 : Old Z n0 h0) (E_o : Exa Z h0 ob "java/lang/String") (Fv : Fld Z h0 ob "java/lang/String" "value" "[B" .null) (Fc : Fld Z h0 ob "java/lang/String" "coder" "B" (.int 0)) (Va : Arv Z h0 aa ka .char (0 : Int32) [] (.int 0)) (g_o : n0 ≤ ob) :
  MetFree l mn3 (head1 (Jvm.Cond.code mn3 jdk_42_method_3_code 2 none :: ws) ({ frames := 2, cells := 4, slots := 8, locals := 29 } : Room)) (fun ay U => ay = #[(.ref ob), (.ref aa)] ∧ Z.Warmed39 U.vm ∧ U.heap = h0 ∧ CHv Z EL U.vm h0 ∧ ∀ y ∈ ([ob] : List Addr), Safe Z EL U.vm h0 y) (fun _ _ _ _ _ => True) (fun _ U o U' => ∃ v L, o = .returned v ∧ Q2_0 Z ob aa ka h0 n0 v U'.heap L ∧ CHr Z EL U.vm U.heap U'.vm U'.heap ∧ ReturnedEndW U o U' L ({ frames := 2, cells := 4, slots := 8, locals := 29 } : Room).cells ({ frames := 2, cells := 4, slots := 8, locals := 29 } : Room).slots) := by
 refine MetFree.of_bodySF (plainFor_of_name pn_java_lang_String) hisR ?_
 intro p e s m args below meth c s₁ Bd hml0 hP hK
 obtain ⟨rfl, hZ, hh, hCH, hSf⟩ := hP
 have hx := Bd.exec
 have hby := Bd.bytes
 have hlk : meth.locks = false := BodyLoose.notSynchronized Bd
 have hml : c.maxLocals = 2 := hml0
 have hown : s.vm.findClass "java/lang/String" = some m.cls := findClass_of_methodNamed Bd.named
 have hnm := (name_of_methodNamed Bd.named Bd.method).1
 have X0 : Stand p l e ({ frames := 2, cells := 4, slots := 8, locals := 29 } : Room) (s.setVm s.vm) m #[(.ref ob), (.ref aa)] below meth c s₁ [] 0 0 := Stand.of_body Bd
 have e0 : s₁.heap = h0 := by rw [← hh, Bd.state]; rfl
 have N0 := Fr.nil n0
 have hS0 : s.Since s.vm 0 := (State.WarmedH.refl s).since 0
 have hk0 : 0 ≤ h0.size := Nat.zero_le _
 have CH0 : CHr Z EL s.vm s.heap s.vm h0 := by rw [hh]; exact CHr.refl hCH
 have hEL : EW Z a0 EL := own_EW hw
 have hwS := own_wS hw
 suffices hgo : GoW p e below s 4 8 Z EL (Q2_0 Z ob aa ka h0 n0) (s₁.setTop (mkF m 0 #[.val (.ref ob), .val (.ref aa)] [])) by
  obtain ⟨t, o, h1, h2⟩ := hgo; exact ⟨t, o, castTop (ef_rm2_0 m ob aa) h1, h2⟩
 show GoW _ _ _ _ _ _ _ _ _ (s₁.setTop (mkF m 0 #[.val (.ref ob), .val (.ref aa)] []))
 refine GoW.st (fun _ => XS.aloadN X0.here hx rfl (hb hby d2_0) rfl rfl) ?_
 refine GoW.st (fun _ => XS.aloadN X0.here hx rfl (hb hby d2_1) rfl rfl) ?_
 refine GoW.st (fun _ => XS.iconst X0.here hx rfl (hb hby d2_2)) ?_
 refine GoW.st (fun _ => XS.aloadN X0.here hx rfl (hb hby d2_3) rfl rfl) ?_
 show GoW _ _ _ _ _ _ _ _ _ (s₁.setTop (mkF m 4 #[.val (.ref ob), .val (.ref aa)] [(.ref aa), (.int 0), (.ref aa), (.ref ob)]))
 obtain ⟨cl1, Ar1, qc1, Sz1, Nn1, Ha1, Gf1⟩ := id Va
 refine GoW.st (fun _ => X0.arraylength hx (by rw [e0]; exact Ar1.1) (State.isArrayOf_alike hZ.alike Ar1.2.1) (g := (mkF m 4 #[.val (.ref ob), .val (.ref aa)] [(.ref aa), (.int 0), (.ref aa), (.ref ob)])) rfl rfl (hb hby d2_4) _) ?_
 rw [len_of Sz1 Nn1]
 show GoW _ _ _ _ _ _ _ _ _ (s₁.setTop (mkF m 5 #[.val (.ref ob), .val (.ref aa)] [(.int 0), (.int 0), (.ref aa), (.ref ob)]))
 refine GoW.st (fun _ => XS.aconstNull X0.here hx rfl (hb hby d2_5)) ?_
 show GoW _ _ _ _ _ _ _ _ _ (s₁.setTop (mkF m 6 #[.val (.ref ob), .val (.ref aa)] [.null, (.int 0), (.int 0), (.ref aa), (.ref ob)]))
 obtain ⟨_, _, ⟨T2, L2, k2, n2⟩, -, Xr2, hSr2, hgr2, ⟨Lc2, hQ2, l2, y2, z2, C2⟩, st2⟩ := X0.specialBackS hx (y := mn6) rfl hown (mvT hZ (wdx hw 16 rfl)) (mvT hZ (wdx hw 17 rfl)) (mvT hZ (wdx hw 19 rfl)) (by decide) (own_back (W := 0) (rm3_0 l Z a0 hw [] ob aa h0 n0 O0 E_o Fv Fc g_o) hZ (wdx hw 19 rfl) (wdx hw 11 rfl) (by decide) (by decide) hEL CH0.1 (allS ⟨E_o.lt, (hSf ob (List.mem_of_getElem? (i := 0) rfl))⟩ all0)) (g := (mkF m 6 #[.val (.ref ob), .val (.ref aa)] [.null, (.int 0), (.int 0), (.ref aa), (.ref ob)])) rfl (by rw [hml]; rfl) (Steps.refl _) (a := ob) (argsL := [(.ref aa), (.int 0), (.int 0), .null]) (rest := []) (lenOf pd___CIILjava_lang_Void__V rfl) rfl (by show 2 * 0 + _ ≤ _; exact Nat.le_of_eq rfl) (hb hby d2_6) (fun _ _ => ⟨rfl, e0, (by exact lee rfl), (by exact lee rfl)⟩)
 dsimp only [Pt.U, Pt.locs, Pt.cells, Pt.slots] at Xr2 hSr2 hgr2 l2 y2 z2 C2 st2 hQ2
 subst l2 y2 z2
 obtain ⟨X2, hS2, hZ2, hown2⟩ := rebS hS0 (by rw [e0]; exact hk0) Xr2 hSr2 hgr2 hZ hown
 obtain ⟨tb_2, kt_2, rfl, Nq2, Kq2, f3, f4, f5⟩ := hQ2
 have N2 := Fr.app N0 Nq2
 refine GoW.tr st2 ?_
 have f6 := E_o.keep Kq2
 have ne7 : ob ≠ aa := Exa.neArv E_o Va (wdx hw 10 rfl)
 have f8 := Va.keep Kq2 (ninS (Ne.symm ne7) nin0)
 have f9 : Safe Z EL T2.vm T2.heap ob := C2.safe E_o.lt (hSf ob (List.mem_of_getElem? (i := 0) rfl))
 have CH2 := CH0.trans C2
 have O2 := O0.keep Kq2 (allS g_o all0)
 have K2 : Keep h0 T2.heap [ob] := (Keep.refl h0 [ob]).trans Kq2 (allS (Or.inl (by simp)) all0)
 show GoW _ _ _ _ _ _ _ _ _ (T2.setTop (mkF m 9 #[.val (.ref ob), .val (.ref aa)] []))
 refine GoW.retV X2 hx hlk hS2 (Nat.le_refl _) hZ2 hEL CH2 Bd.returns (hb hby d2_9) (by decide) (by decide) rfl ?_
 exact ⟨tb_2, kt_2, rfl, N2, K2, f3, f4, f5⟩
theorem d19_0 : decode jdk_71_method_1_code 0 = .ok (.aload_n 0, 1) := by decide +kernel
theorem d19_1 : decode jdk_71_method_1_code 1 = .ok (.invokespecial 1, 3) := by decide +kernel
theorem d19_4 : decode jdk_71_method_1_code 4 = .ok (.return_, 1) := by decide +kernel
theorem pn_java_util_AbstractMap : plainName "java/util/AbstractMap" = true := by first | (simp [plainName, overriddenIn]; done) | decide +kernel
theorem ef_rm19 (m : MethodId) (ob : Addr) : entryFrame m #[(.ref ob)] 1 = mkF m 0 #[.val (.ref ob)] [] := by first | (simp [entryFrame, mkF, argsToLocals, Value.category]; done) | rfl
def Q19 (Z : State) (ob : Addr) (h0 : Heap) (n0 : Nat) (v : Option Value) (h : Heap) (L : List Loc) : Prop := v = none ∧ Fr n0 L ∧ h = h0
set_option maxRecDepth 65536 in
set_option maxHeartbeats 40000000 in
theorem rm19 (l : Launch) (Z : State) (a0 : Array Value) (hw : ∀ d ∈ tables_1, d.before a0 Z = true) (ws : List Jvm.Cond) (ob : Addr) (h0 : Heap) (n0 : Nat) (O0 : Old Z n0 h0) :
  MetFree l (⟨"java/util/AbstractMap", "<init>", "()V"⟩ : MethodName) (head1 (Jvm.Cond.code (⟨"java/util/AbstractMap", "<init>", "()V"⟩ : MethodName) jdk_71_method_1_code 1 none :: ws) ({ frames := 1, cells := 0, slots := 0, locals := 12 } : Room)) (fun ay U => ay = #[(.ref ob)] ∧ Z.Warmed39 U.vm ∧ U.heap = h0) (fun _ _ _ _ _ => True) (fun _ U o U' => ∃ v L, o = .returned v ∧ Q19 Z ob h0 n0 v U'.heap L ∧ FrameEnd U o U' L ({ frames := 1, cells := 0, slots := 0, locals := 12 } : Room).cells ({ frames := 1, cells := 0, slots := 0, locals := 12 } : Room).slots) := by
 refine MetFree.of_bodySF (plainFor_of_name pn_java_util_AbstractMap) hisR ?_
 intro p e s m args below meth c s₁ Bd hml0 hP hK
 obtain ⟨rfl, hZ, hh⟩ := hP
 have hx := Bd.exec
 have hby := Bd.bytes
 have hlk : meth.locks = false := BodyLoose.notSynchronized Bd
 have hml : c.maxLocals = 1 := hml0
 have hown : s.vm.findClass "java/util/AbstractMap" = some m.cls := findClass_of_methodNamed Bd.named
 have hnm := (name_of_methodNamed Bd.named Bd.method).1
 have X0 : Stand p l e ({ frames := 1, cells := 0, slots := 0, locals := 12 } : Room) s m #[(.ref ob)] below meth c s₁ [] 0 0 := Stand.of_body Bd
 have e0 : s₁.heap = h0 := by rw [← hh, Bd.state]; rfl
 have N0 := Fr.nil n0
 suffices hgo : Go p e below s 0 0 (Q19 Z ob h0 n0) (s₁.setTop (mkF m 0 #[.val (.ref ob)] [])) by
  obtain ⟨t, o, h1, h2⟩ := hgo; exact ⟨t, o, castTop (ef_rm19 m ob) h1, h2⟩
 show Go _ _ _ _ _ _ _ (s₁.setTop (mkF m 0 #[.val (.ref ob)] []))
 refine Go.st (fun _ => XS.aloadN X0.here hx rfl (hb hby d19_0) rfl rfl) ?_
 show Go _ _ _ _ _ _ _ (s₁.setTop (mkF m 1 #[.val (.ref ob)] [(.ref ob)]))
 obtain ⟨T1, X1, e1, st1⟩ := initO X0 hx hZ hown (wdx hw 107 rfl) (wdx hw 21 rfl) (wdx hw 22 rfl) e0 (g := (mkF m 1 #[.val (.ref ob)] [(.ref ob)])) rfl (by rw [hml]; rfl) rfl (hb hby d19_1) (by decide) (W := 0) (by show 2 * 0 + _ ≤ _; exact Nat.le_of_eq rfl) (by decide)
 refine Go.st st1 ?_
 show Go _ _ _ _ _ _ _ (T1.setTop (mkF m 4 #[.val (.ref ob)] []))
 refine Go.retV X1 hx hlk Bd.returns (hb hby d19_4) (by decide) (by decide) e1 ?_
 exact ⟨rfl, N0, rfl⟩
theorem d17_0 : decode jdk_22_method_1_code 0 = .ok (.aload_n 0, 1) := by decide +kernel
theorem d17_1 : decode jdk_22_method_1_code 1 = .ok (.invokespecial 1, 3) := by decide +kernel
theorem d17_4 : decode jdk_22_method_1_code 4 = .ok (.return_, 1) := by decide +kernel
theorem pn_java_util_AbstractCollection : plainName "java/util/AbstractCollection" = true := by first | (simp [plainName, overriddenIn]; done) | decide +kernel
theorem ef_rm17 (m : MethodId) (ob : Addr) : entryFrame m #[(.ref ob)] 1 = mkF m 0 #[.val (.ref ob)] [] := by first | (simp [entryFrame, mkF, argsToLocals, Value.category]; done) | rfl
def Q17 (Z : State) (ob : Addr) (h0 : Heap) (n0 : Nat) (v : Option Value) (h : Heap) (L : List Loc) : Prop := v = none ∧ Fr n0 L ∧ h = h0
set_option maxRecDepth 65536 in
set_option maxHeartbeats 40000000 in
theorem rm17 (l : Launch) (Z : State) (a0 : Array Value) (hw : ∀ d ∈ tables_1, d.before a0 Z = true) (ws : List Jvm.Cond) (ob : Addr) (h0 : Heap) (n0 : Nat) (O0 : Old Z n0 h0) :
  MetFree l (⟨"java/util/AbstractCollection", "<init>", "()V"⟩ : MethodName) (head1 (Jvm.Cond.code (⟨"java/util/AbstractCollection", "<init>", "()V"⟩ : MethodName) jdk_22_method_1_code 1 none :: ws) ({ frames := 1, cells := 0, slots := 0, locals := 12 } : Room)) (fun ay U => ay = #[(.ref ob)] ∧ Z.Warmed39 U.vm ∧ U.heap = h0) (fun _ _ _ _ _ => True) (fun _ U o U' => ∃ v L, o = .returned v ∧ Q17 Z ob h0 n0 v U'.heap L ∧ FrameEnd U o U' L ({ frames := 1, cells := 0, slots := 0, locals := 12 } : Room).cells ({ frames := 1, cells := 0, slots := 0, locals := 12 } : Room).slots) := by
 refine MetFree.of_bodySF (plainFor_of_name pn_java_util_AbstractCollection) hisR ?_
 intro p e s m args below meth c s₁ Bd hml0 hP hK
 obtain ⟨rfl, hZ, hh⟩ := hP
 have hx := Bd.exec
 have hby := Bd.bytes
 have hlk : meth.locks = false := BodyLoose.notSynchronized Bd
 have hml : c.maxLocals = 1 := hml0
 have hown : s.vm.findClass "java/util/AbstractCollection" = some m.cls := findClass_of_methodNamed Bd.named
 have hnm := (name_of_methodNamed Bd.named Bd.method).1
 have X0 : Stand p l e ({ frames := 1, cells := 0, slots := 0, locals := 12 } : Room) s m #[(.ref ob)] below meth c s₁ [] 0 0 := Stand.of_body Bd
 have e0 : s₁.heap = h0 := by rw [← hh, Bd.state]; rfl
 have N0 := Fr.nil n0
 suffices hgo : Go p e below s 0 0 (Q17 Z ob h0 n0) (s₁.setTop (mkF m 0 #[.val (.ref ob)] [])) by
  obtain ⟨t, o, h1, h2⟩ := hgo; exact ⟨t, o, castTop (ef_rm17 m ob) h1, h2⟩
 show Go _ _ _ _ _ _ _ (s₁.setTop (mkF m 0 #[.val (.ref ob)] []))
 refine Go.st (fun _ => XS.aloadN X0.here hx rfl (hb hby d17_0) rfl rfl) ?_
 show Go _ _ _ _ _ _ _ (s₁.setTop (mkF m 1 #[.val (.ref ob)] [(.ref ob)]))
 obtain ⟨T1, X1, e1, st1⟩ := initO X0 hx hZ hown (wdx hw 93 rfl) (wdx hw 21 rfl) (wdx hw 22 rfl) e0 (g := (mkF m 1 #[.val (.ref ob)] [(.ref ob)])) rfl (by rw [hml]; rfl) rfl (hb hby d17_1) (by decide) (W := 0) (by show 2 * 0 + _ ≤ _; exact Nat.le_of_eq rfl) (by decide)
 refine Go.st st1 ?_
 show Go _ _ _ _ _ _ _ (T1.setTop (mkF m 4 #[.val (.ref ob)] []))
 refine Go.retV X1 hx hlk Bd.returns (hb hby d17_4) (by decide) (by decide) e1 ?_
 exact ⟨rfl, N0, rfl⟩
theorem d16_0 : decode jdk_91_method_1_code 0 = .ok (.aload_n 0, 1) := by decide +kernel
theorem pd___V : parseMethodDescriptor "()V" = some ⟨[], none⟩ := by decide +kernel
theorem d16_1 : decode jdk_91_method_1_code 1 = .ok (.invokespecial 1, 3) := by decide +kernel
theorem d16_4 : decode jdk_91_method_1_code 4 = .ok (.return_, 1) := by decide +kernel
theorem pn_java_util_AbstractSet : plainName "java/util/AbstractSet" = true := by first | (simp [plainName, overriddenIn]; done) | decide +kernel
theorem ef_rm16 (m : MethodId) (ob : Addr) : entryFrame m #[(.ref ob)] 1 = mkF m 0 #[.val (.ref ob)] [] := by first | (simp [entryFrame, mkF, argsToLocals, Value.category]; done) | rfl
def Q16 (Z : State) (ob : Addr) (h0 : Heap) (n0 : Nat) (v : Option Value) (h : Heap) (L : List Loc) : Prop := v = none ∧ Fr n0 L ∧ h = h0
set_option maxRecDepth 65536 in
set_option maxHeartbeats 40000000 in
theorem rm16 (l : Launch) (Z : State) (a0 : Array Value) (hw : ∀ d ∈ tables_1, d.before a0 Z = true) (ws : List Jvm.Cond) (ob : Addr) (h0 : Heap) (n0 : Nat) (O0 : Old Z n0 h0) :
  MetFree l (⟨"java/util/AbstractSet", "<init>", "()V"⟩ : MethodName) (head1 (Jvm.Cond.code (⟨"java/util/AbstractSet", "<init>", "()V"⟩ : MethodName) jdk_91_method_1_code 1 none :: ws) ({ frames := 2, cells := 0, slots := 0, locals := 24 } : Room)) (fun ay U => ay = #[(.ref ob)] ∧ Z.Warmed39 U.vm ∧ U.heap = h0) (fun _ _ _ _ _ => True) (fun _ U o U' => ∃ v L, o = .returned v ∧ Q16 Z ob h0 n0 v U'.heap L ∧ FrameEnd U o U' L ({ frames := 2, cells := 0, slots := 0, locals := 24 } : Room).cells ({ frames := 2, cells := 0, slots := 0, locals := 24 } : Room).slots) := by
 refine MetFree.of_bodySF (plainFor_of_name pn_java_util_AbstractSet) hisR ?_
 intro p e s m args below meth c s₁ Bd hml0 hP hK
 obtain ⟨rfl, hZ, hh⟩ := hP
 have hx := Bd.exec
 have hby := Bd.bytes
 have hlk : meth.locks = false := BodyLoose.notSynchronized Bd
 have hml : c.maxLocals = 1 := hml0
 have hown : s.vm.findClass "java/util/AbstractSet" = some m.cls := findClass_of_methodNamed Bd.named
 have hnm := (name_of_methodNamed Bd.named Bd.method).1
 have X0 : Stand p l e ({ frames := 2, cells := 0, slots := 0, locals := 24 } : Room) s m #[(.ref ob)] below meth c s₁ [] 0 0 := Stand.of_body Bd
 have e0 : s₁.heap = h0 := by rw [← hh, Bd.state]; rfl
 have N0 := Fr.nil n0
 suffices hgo : Go p e below s 0 0 (Q16 Z ob h0 n0) (s₁.setTop (mkF m 0 #[.val (.ref ob)] [])) by
  obtain ⟨t, o, h1, h2⟩ := hgo; exact ⟨t, o, castTop (ef_rm16 m ob) h1, h2⟩
 show Go _ _ _ _ _ _ _ (s₁.setTop (mkF m 0 #[.val (.ref ob)] []))
 refine Go.st (fun _ => XS.aloadN X0.here hx rfl (hb hby d16_0) rfl rfl) ?_
 show Go _ _ _ _ _ _ _ (s₁.setTop (mkF m 1 #[.val (.ref ob)] [(.ref ob)]))
 obtain ⟨_, _, ⟨T1, L1, k1, n1⟩, -, X1, ⟨Lc1, hQ1, l1, y1, z1⟩, st1⟩ := X0.specialBack hx (y := (⟨"java/util/AbstractCollection", "<init>", "()V"⟩ : MethodName)) rfl hown (mvT hZ (wdx hw 87 rfl)) (mvT hZ (wdx hw 88 rfl)) (mvT hZ (wdx hw 92 rfl)) (by decide) (backOf (W := 0) (rm17 l Z a0 hw [] ob h0 n0 O0 ) hZ (wdx hw 92 rfl) (wdx hw 91 rfl) (by decide) (by decide)) (g := (mkF m 1 #[.val (.ref ob)] [(.ref ob)])) rfl (by rw [hml]; rfl) (Steps.refl _) (a := ob) (argsL := []) (rest := []) (lenOf pd___V rfl) rfl (by show 2 * 0 + _ ≤ _; exact Nat.le_of_eq rfl) (hb hby d16_1) (fun _ _ => ⟨rfl, e0, (by exact lee rfl), (by exact lee rfl)⟩)
 dsimp only [Pt.U, Pt.locs, Pt.cells, Pt.slots] at X1 l1 y1 z1 st1 hQ1
 subst l1 y1 z1
 obtain ⟨rfl, Nq1, eq1⟩ := hQ1
 have N1 := Fr.app N0 Nq1
 refine Go.tr st1 ?_
 show Go _ _ _ _ _ _ _ (T1.setTop (mkF m 4 #[.val (.ref ob)] []))
 refine Go.retV X1 hx hlk Bd.returns (hb hby d16_4) (by decide) (by decide) eq1 ?_
 exact ⟨rfl, N1, rfl⟩
theorem d18_0 : decode jdk_69_method_7_code 0 = .ok (.aload_n 0, 1) := by decide +kernel
theorem d18_1 : decode jdk_69_method_7_code 1 = .ok (.invokespecial 43, 3) := by decide +kernel
theorem d18_4 : decode jdk_69_method_7_code 4 = .ok (.aload_n 0, 1) := by decide +kernel
theorem d18_5 : decode jdk_69_method_7_code 5 = .ok (.ldc 92, 2) := by decide +kernel
theorem d18_7 : decode jdk_69_method_7_code 7 = .ok (.putfield 81, 3) := by decide +kernel
theorem d18_10 : decode jdk_69_method_7_code 10 = .ok (.return_, 1) := by decide +kernel
theorem pn_java_util_HashMap : plainName "java/util/HashMap" = true := by first | (simp [plainName, overriddenIn]; done) | decide +kernel
theorem ef_rm18 (m : MethodId) (ob : Addr) : entryFrame m #[(.ref ob)] 1 = mkF m 0 #[.val (.ref ob)] [] := by first | (simp [entryFrame, mkF, argsToLocals, Value.category]; done) | rfl
def Q18 (Z : State) (ob : Addr) (h0 : Heap) (n0 : Nat) (v : Option Value) (h : Heap) (L : List Loc) : Prop := v = none ∧ Fr n0 L ∧ Keep h0 h [ob]
set_option maxRecDepth 65536 in
set_option maxHeartbeats 40000000 in
theorem rm18 (l : Launch) (Z : State) (a0 : Array Value) (hw : ∀ d ∈ tables_1, d.before a0 Z = true) (ws : List Jvm.Cond) (ob : Addr) (h0 : Heap) (n0 : Nat) (O0 : Old Z n0 h0) (E_o : Exa Z h0 ob "java/util/HashMap") (Fa : Fld Z h0 ob "java/util/HashMap" "loadFactor" "F" (.float (0 : UInt32))) (g_o : n0 ≤ ob) :
  MetFree l (⟨"java/util/HashMap", "<init>", "()V"⟩ : MethodName) (head1 (Jvm.Cond.code (⟨"java/util/HashMap", "<init>", "()V"⟩ : MethodName) jdk_69_method_7_code 1 none :: ws) ({ frames := 2, cells := 0, slots := 0, locals := 24 } : Room)) (fun ay U => ay = #[(.ref ob)] ∧ Z.Warmed39 U.vm ∧ U.heap = h0) (fun _ _ _ _ _ => True) (fun _ U o U' => ∃ v L, o = .returned v ∧ Q18 Z ob h0 n0 v U'.heap L ∧ FrameEnd U o U' L ({ frames := 2, cells := 0, slots := 0, locals := 24 } : Room).cells ({ frames := 2, cells := 0, slots := 0, locals := 24 } : Room).slots) := by
 refine MetFree.of_bodySF (plainFor_of_name pn_java_util_HashMap) hisR ?_
 intro p e s m args below meth c s₁ Bd hml0 hP hK
 obtain ⟨rfl, hZ, hh⟩ := hP
 have hx := Bd.exec
 have hby := Bd.bytes
 have hlk : meth.locks = false := BodyLoose.notSynchronized Bd
 have hml : c.maxLocals = 1 := hml0
 have hown : s.vm.findClass "java/util/HashMap" = some m.cls := findClass_of_methodNamed Bd.named
 have hnm := (name_of_methodNamed Bd.named Bd.method).1
 have X0 : Stand p l e ({ frames := 2, cells := 0, slots := 0, locals := 24 } : Room) s m #[(.ref ob)] below meth c s₁ [] 0 0 := Stand.of_body Bd
 have e0 : s₁.heap = h0 := by rw [← hh, Bd.state]; rfl
 have N0 := Fr.nil n0
 suffices hgo : Go p e below s 0 0 (Q18 Z ob h0 n0) (s₁.setTop (mkF m 0 #[.val (.ref ob)] [])) by
  obtain ⟨t, o, h1, h2⟩ := hgo; exact ⟨t, o, castTop (ef_rm18 m ob) h1, h2⟩
 show Go _ _ _ _ _ _ _ (s₁.setTop (mkF m 0 #[.val (.ref ob)] []))
 refine Go.st (fun _ => XS.aloadN X0.here hx rfl (hb hby d18_0) rfl rfl) ?_
 show Go _ _ _ _ _ _ _ (s₁.setTop (mkF m 1 #[.val (.ref ob)] [(.ref ob)]))
 obtain ⟨_, _, ⟨T1, L1, k1, n1⟩, -, X1, ⟨Lc1, hQ1, l1, y1, z1⟩, st1⟩ := X0.specialBack hx (y := (⟨"java/util/AbstractMap", "<init>", "()V"⟩ : MethodName)) rfl hown (mvT hZ (wdx hw 101 rfl)) (mvT hZ (wdx hw 102 rfl)) (mvT hZ (wdx hw 106 rfl)) (by decide) (backOf (W := 0) (rm19 l Z a0 hw [] ob h0 n0 O0 ) hZ (wdx hw 106 rfl) (wdx hw 105 rfl) (by decide) (by decide)) (g := (mkF m 1 #[.val (.ref ob)] [(.ref ob)])) rfl (by rw [hml]; rfl) (Steps.refl _) (a := ob) (argsL := []) (rest := []) (lenOf pd___V rfl) rfl (by show 2 * 0 + _ ≤ _; exact Nat.le_of_eq rfl) (hb hby d18_1) (fun _ _ => ⟨rfl, e0, (by exact lee rfl), (by exact lee rfl)⟩)
 dsimp only [Pt.U, Pt.locs, Pt.cells, Pt.slots] at X1 l1 y1 z1 st1 hQ1
 subst l1 y1 z1
 obtain ⟨rfl, Nq1, eq1⟩ := hQ1
 have N1 := Fr.app N0 Nq1
 refine Go.tr st1 ?_
 show Go _ _ _ _ _ _ _ (T1.setTop (mkF m 4 #[.val (.ref ob)] []))
 refine Go.st (fun _ => XS.aloadN X1.here hx rfl (hb hby d18_4) rfl rfl) ?_
 refine Go.st (fun _ => X1.ldcFloatC hx hown (mvT hZ (wdx hw 108 rfl)) (g := (mkF m 5 #[.val (.ref ob)] [(.ref ob)])) rfl (hb hby d18_5) _) ?_
 show Go _ _ _ _ _ _ _ (T1.setTop (mkF m 7 #[.val (.ref ob)] [(.float (1061158912 : UInt32)), (.ref ob)]))
 obtain ⟨T2, h2, X2, e2, W2, st2⟩ := putF X1 hx hZ hown (host := "") (Or.inl (wdx hw 109 rfl)) Via.refl eq1 Fa E_o (Or.inr ⟨(wdx hw 110 rfl), rfl, hnm⟩) (wdx hw 95 rfl) (ty := .float) (by decide) rfl rfl (g := (mkF m 7 #[.val (.ref ob)] [(.float (1061158912 : UInt32)), (.ref ob)])) rfl rfl (hb hby d18_7)
 refine Go.st st2 ?_
 have f3 := E_o.wr W2
 have f4 := Fa.same W2
 have O2 := O0.wr W2 g_o
 have N2 := Fr.snoc X2 N1 g_o
 have K2 : Keep h0 h2 [ob] := (Keep.refl h0 [ob]).wr W2 (Or.inl (by simp))
 show Go _ _ _ _ _ _ _ (T2.setTop (mkF m 10 #[.val (.ref ob)] []))
 refine Go.retV X2 hx hlk Bd.returns (hb hby d18_10) (by decide) (by decide) e2 ?_
 exact ⟨rfl, N2, K2⟩
theorem d15_0 : decode jdk_93_method_1_code 0 = .ok (.aload_n 0, 1) := by decide +kernel
theorem d15_1 : decode jdk_93_method_1_code 1 = .ok (.invokespecial 1, 3) := by decide +kernel
theorem d15_4 : decode jdk_93_method_1_code 4 = .ok (.aload_n 0, 1) := by decide +kernel
theorem d15_5 : decode jdk_93_method_1_code 5 = .ok (.new 7, 3) := by decide +kernel
theorem d15_8 : decode jdk_93_method_1_code 8 = .ok (.dup, 1) := by decide +kernel
theorem d15_9 : decode jdk_93_method_1_code 9 = .ok (.invokespecial 9, 3) := by decide +kernel
theorem d15_12 : decode jdk_93_method_1_code 12 = .ok (.putfield 10, 3) := by decide +kernel
theorem d15_15 : decode jdk_93_method_1_code 15 = .ok (.return_, 1) := by decide +kernel
theorem pn_java_util_HashSet : plainName "java/util/HashSet" = true := by first | (simp [plainName, overriddenIn]; done) | decide +kernel
theorem ef_rm15 (m : MethodId) (ob : Addr) : entryFrame m #[(.ref ob)] 1 = mkF m 0 #[.val (.ref ob)] [] := by first | (simp [entryFrame, mkF, argsToLocals, Value.category]; done) | rfl
def Q15 (Z : State) (ob : Addr) (h0 : Heap) (n0 : Nat) (v : Option Value) (h : Heap) (L : List Loc) : Prop := v = none ∧ Fr n0 L ∧ Keep h0 h [ob]
set_option maxRecDepth 65536 in
set_option maxHeartbeats 40000000 in
theorem rm15 (l : Launch) (Z : State) (a0 : Array Value) (hw : ∀ d ∈ tables_1, d.before a0 Z = true) (ws : List Jvm.Cond) (ob : Addr) (h0 : Heap) (n0 : Nat) (O0 : Old Z n0 h0) (E_o : Exa Z h0 ob "java/util/HashSet") (Fa : Fld Z h0 ob "java/util/HashSet" "map" "Ljava/util/HashMap;" .null) (g_o : n0 ≤ ob) :
  MetFree l (⟨"java/util/HashSet", "<init>", "()V"⟩ : MethodName) (head1 (Jvm.Cond.code (⟨"java/util/HashSet", "<init>", "()V"⟩ : MethodName) jdk_93_method_1_code 1 none :: ws) ({ frames := 3, cells := 1, slots := 8, locals := 38 } : Room)) (fun ay U => ay = #[(.ref ob)] ∧ Z.Warmed39 U.vm ∧ U.heap = h0) (fun _ _ _ _ _ => True) (fun _ U o U' => ∃ v L, o = .returned v ∧ Q15 Z ob h0 n0 v U'.heap L ∧ FrameEnd U o U' L ({ frames := 3, cells := 1, slots := 8, locals := 38 } : Room).cells ({ frames := 3, cells := 1, slots := 8, locals := 38 } : Room).slots) := by
 refine MetFree.of_bodySF (plainFor_of_name pn_java_util_HashSet) hisR ?_
 intro p e s m args below meth c s₁ Bd hml0 hP hK
 obtain ⟨rfl, hZ, hh⟩ := hP
 have hx := Bd.exec
 have hby := Bd.bytes
 have hlk : meth.locks = false := BodyLoose.notSynchronized Bd
 have hml : c.maxLocals = 1 := hml0
 have hown : s.vm.findClass "java/util/HashSet" = some m.cls := findClass_of_methodNamed Bd.named
 have hnm := (name_of_methodNamed Bd.named Bd.method).1
 have X0 : Stand p l e ({ frames := 3, cells := 1, slots := 8, locals := 38 } : Room) s m #[(.ref ob)] below meth c s₁ [] 0 0 := Stand.of_body Bd
 have e0 : s₁.heap = h0 := by rw [← hh, Bd.state]; rfl
 have N0 := Fr.nil n0
 suffices hgo : Go p e below s 1 8 (Q15 Z ob h0 n0) (s₁.setTop (mkF m 0 #[.val (.ref ob)] [])) by
  obtain ⟨t, o, h1, h2⟩ := hgo; exact ⟨t, o, castTop (ef_rm15 m ob) h1, h2⟩
 show Go _ _ _ _ _ _ _ (s₁.setTop (mkF m 0 #[.val (.ref ob)] []))
 refine Go.st (fun _ => XS.aloadN X0.here hx rfl (hb hby d15_0) rfl rfl) ?_
 show Go _ _ _ _ _ _ _ (s₁.setTop (mkF m 1 #[.val (.ref ob)] [(.ref ob)]))
 obtain ⟨_, _, ⟨T1, L1, k1, n1⟩, -, X1, ⟨Lc1, hQ1, l1, y1, z1⟩, st1⟩ := X0.specialBack hx (y := (⟨"java/util/AbstractSet", "<init>", "()V"⟩ : MethodName)) rfl hown (mvT hZ (wdx hw 81 rfl)) (mvT hZ (wdx hw 82 rfl)) (mvT hZ (wdx hw 86 rfl)) (by decide) (backOf (W := 0) (rm16 l Z a0 hw [] ob h0 n0 O0 ) hZ (wdx hw 86 rfl) (wdx hw 85 rfl) (by decide) (by decide)) (g := (mkF m 1 #[.val (.ref ob)] [(.ref ob)])) rfl (by rw [hml]; rfl) (Steps.refl _) (a := ob) (argsL := []) (rest := []) (lenOf pd___V rfl) rfl (by show 2 * 0 + _ ≤ _; exact Nat.le_of_eq rfl) (hb hby d15_1) (fun _ _ => ⟨rfl, e0, (by exact lee rfl), (by exact lee rfl)⟩)
 dsimp only [Pt.U, Pt.locs, Pt.cells, Pt.slots] at X1 l1 y1 z1 st1 hQ1
 subst l1 y1 z1
 obtain ⟨rfl, Nq1, eq1⟩ := hQ1
 have N1 := Fr.app N0 Nq1
 refine Go.tr st1 ?_
 show Go _ _ _ _ _ _ _ (T1.setTop (mkF m 4 #[.val (.ref ob)] []))
 refine Go.st (fun _ => XS.aloadN X1.here hx rfl (hb hby d15_4) rfl rfl) ?_
 obtain ⟨T2, h2, X2, e2, E2, A2, D2, -, st2⟩ := newO X1 hx hZ hown (wdx hw 94 rfl) (wdx hw 95 rfl) (wdx hw 96 rfl) eq1 (g := (mkF m 5 #[.val (.ref ob)] [(.ref ob)])) rfl (hb hby d15_5) (by decide) (by decide)
 obtain ⟨b2, g2⟩ : ∃ z, z = h0.size := ⟨_, rfl⟩
 rw [← g2] at A2 D2 st2
 refine Go.st st2 ?_
 have g_b2 : n0 ≤ b2 := Nat.le_trans (own_le O0) (Nat.le_of_eq g2.symm)
 have z_b2 : h0.size ≤ b2 := Nat.le_of_eq g2.symm
 have ne3 : ob ≠ b2 := Nat.ne_of_lt (Nat.lt_of_lt_of_le E_o.lt (Nat.le_of_eq g2.symm))
 have f4 := E_o.ext E2
 have f5 := Fa.ext E2
 have O2 := O0.ext E2
 have K2 : Keep h0 h2 [ob] := (Keep.refl h0 [ob]).ext E2
 have f6 : Fld Z h2 b2 "java/util/HashMap" "loadFactor" "F" (.float (0 : UInt32)) := D2 (Or.inr (wdx hw 110 rfl)) (ty := .float) (by decide)
 show Go _ _ _ _ _ _ _ (T2.setTop (mkF m 8 #[.val (.ref ob)] [(.ref b2), (.ref ob)]))
 refine Go.st (fun _ => XS.dup X2.here hx rfl (hb hby d15_8) rfl rfl) ?_
 show Go _ _ _ _ _ _ _ (T2.setTop (mkF m 9 #[.val (.ref ob)] [(.ref b2), (.ref b2), (.ref ob)]))
 obtain ⟨_, _, ⟨T7, L7, k7, n7⟩, -, X7, ⟨Lc7, hQ7, l7, y7, z7⟩, st7⟩ := X2.specialBack hx (y := (⟨"java/util/HashMap", "<init>", "()V"⟩ : MethodName)) rfl hown (mvT hZ (wdx hw 97 rfl)) (mvT hZ (wdx hw 98 rfl)) (mvT hZ (wdx hw 100 rfl)) (by decide) (backOf (W := 2) (rm18 l Z a0 hw [] b2 h2 n0 O2 A2 f6 g_b2) hZ (wdx hw 100 rfl) (wdx hw 96 rfl) (by decide) (by decide)) (g := (mkF m 9 #[.val (.ref ob)] [(.ref b2), (.ref b2), (.ref ob)])) rfl (by rw [hml]; rfl) (Steps.refl _) (a := b2) (argsL := []) (rest := [(.ref b2), (.ref ob)]) (lenOf pd___V rfl) rfl (by show 2 * 0 + _ ≤ _; exact Nat.le_of_eq rfl) (hb hby d15_9) (fun _ _ => ⟨rfl, e2, (by exact lee rfl), (by exact lee rfl)⟩)
 dsimp only [Pt.U, Pt.locs, Pt.cells, Pt.slots] at X7 l7 y7 z7 st7 hQ7
 subst l7 y7 z7
 obtain ⟨rfl, Nq7, Kq7⟩ := hQ7
 have N7 := Fr.app N1 Nq7
 refine Go.tr st7 ?_
 have f8 := f4.keep Kq7
 have f9 := f5.keep Kq7 (ninS ne3 nin0)
 have f10 := A2.keep Kq7
 have O7 := O2.keep Kq7 (allS g_b2 all0)
 have K7 : Keep h0 T7.heap [ob] := K2.trans Kq7 (allS (Or.inr z_b2) all0)
 show Go _ _ _ _ _ _ _ (T7.setTop (mkF m 12 #[.val (.ref ob)] [(.ref b2), (.ref ob)]))
 obtain ⟨T11, h11, X11, e11, W11, st11⟩ := putF X7 hx hZ hown (host := "") (Or.inl (wdx hw 111 rfl)) Via.refl rfl f9 f8 (Or.inl (wdx hw 112 rfl)) (wdx hw 76 rfl) (ty := (.object "java/util/HashMap")) (by decide) rfl rfl (g := (mkF m 12 #[.val (.ref ob)] [(.ref b2), (.ref ob)])) rfl rfl (hb hby d15_12)
 refine Go.st st11 ?_
 have f12 := f8.wr W11
 have f13 := f9.same W11
 have f14 := f10.wr W11
 have O11 := O7.wr W11 g_o
 have N11 := Fr.snoc X11 N7 g_o
 have K11 : Keep h0 h11 [ob] := K7.wr W11 (Or.inl (by simp))
 show Go _ _ _ _ _ _ _ (T11.setTop (mkF m 15 #[.val (.ref ob)] []))
 refine Go.retV X11 hx hlk Bd.returns (hb hby d15_15) (by decide) (by decide) e11 ?_
 exact ⟨rfl, N11, K11⟩
theorem d14_0 : decode prog_7_method_1_code 0 = .ok (.aload_n 0, 1) := by decide +kernel
theorem d14_1 : decode prog_7_method_1_code 1 = .ok (.invokespecial 1, 3) := by decide +kernel
theorem d14_4 : decode prog_7_method_1_code 4 = .ok (.aload_n 0, 1) := by decide +kernel
theorem d14_5 : decode prog_7_method_1_code 5 = .ok (.new 7, 3) := by decide +kernel
theorem d14_8 : decode prog_7_method_1_code 8 = .ok (.dup, 1) := by decide +kernel
theorem d14_9 : decode prog_7_method_1_code 9 = .ok (.invokespecial 9, 3) := by decide +kernel
theorem d14_12 : decode prog_7_method_1_code 12 = .ok (.putfield 10, 3) := by decide +kernel
theorem d14_15 : decode prog_7_method_1_code 15 = .ok (.aload_n 0, 1) := by decide +kernel
theorem d14_16 : decode prog_7_method_1_code 16 = .ok (.aload_n 1, 1) := by decide +kernel
theorem d14_17 : decode prog_7_method_1_code 17 = .ok (.invokevirtual 16, 3) := by decide +kernel
theorem d14_20 : decode prog_7_method_1_code 20 = .ok (.checkcast 17, 3) := by decide +kernel
theorem d14_23 : decode prog_7_method_1_code 23 = .ok (.putfield 22, 3) := by decide +kernel
theorem d14_26 : decode prog_7_method_1_code 26 = .ok (.return_, 1) := by decide +kernel
theorem pn_com_example_reportwire_reportwire_Arguments : plainName "com/example/reportwire/reportwire/Arguments" = true := by first | (simp [plainName, overriddenIn]; done) | decide +kernel
theorem ef_rm14_3 (m : MethodId) (ob : Addr) (aa : Addr) : entryFrame m #[(.ref ob), (.ref aa)] 2 = mkF m 0 #[.val (.ref ob), .val (.ref aa)] [] := by first | (simp [entryFrame, mkF, argsToLocals, Value.category]; done) | rfl
def Q14_3 (Z : State) (ob : Addr) (aa : Addr) (ka : ClassId) (sa : Addr) (sb : Addr) (sc : Addr) (h0 : Heap) (n0 : Nat) (v : Option Value) (h : Heap) (L : List Loc) : Prop := ∃ (na : Addr) (kn : ClassId), v = none ∧ Fr n0 L ∧ Keep h0 h [ob] ∧ Fld Z h ob "com/example/reportwire/reportwire/Arguments" "args" "[Ljava/lang/String;" (.ref na) ∧ Fld Z h ob "com/example/reportwire/reportwire/Arguments" "next" "I" (.int 0) ∧ Arv Z h na kn (.object "java/lang/String") (3 : Int32) [(.ref sa), (.ref sb), (.ref sc)] .null ∧ h0.size ≤ na
set_option maxRecDepth 65536 in
set_option maxHeartbeats 40000000 in
theorem rm14_3 (l : Launch) (Z : State) (a0 : Array Value) (hw : ∀ d ∈ tables_1, d.before a0 Z = true) (ws : List Jvm.Cond) (ob : Addr) (aa : Addr) (ka : ClassId) (sa : Addr) (sb : Addr) (sc : Addr) (h0 : Heap) (n0 : Nat) (O0 : Old Z n0 h0) (E_o : Exa Z h0 ob "com/example/reportwire/reportwire/Arguments") (Fo : Fld Z h0 ob "com/example/reportwire/reportwire/Arguments" "optionsGiven" "Ljava/util/Set;" .null) (Fa : Fld Z h0 ob "com/example/reportwire/reportwire/Arguments" "args" "[Ljava/lang/String;" .null) (Fn : Fld Z h0 ob "com/example/reportwire/reportwire/Arguments" "next" "I" (.int 0)) (E_a : Exa Z h0 aa "[Ljava/lang/String;") (Va : Arv Z h0 aa ka (.object "java/lang/String") (3 : Int32) [(.ref sa), (.ref sb), (.ref sc)] .null) (g_o : n0 ≤ ob) (ne_oa : ob ≠ aa) :
  MetFree l mn11 (head1 (Jvm.Cond.code mn11 prog_7_method_1_code 2 none :: ws) ({ frames := 4, cells := 3, slots := 12, locals := 52 } : Room)) (fun ay U => ay = #[(.ref ob), (.ref aa)] ∧ Z.Warmed39 U.vm ∧ U.heap = h0) (fun _ _ _ _ _ => True) (fun _ U o U' => ∃ v L, o = .returned v ∧ Q14_3 Z ob aa ka sa sb sc h0 n0 v U'.heap L ∧ FrameEnd U o U' L ({ frames := 4, cells := 3, slots := 12, locals := 52 } : Room).cells ({ frames := 4, cells := 3, slots := 12, locals := 52 } : Room).slots) := by
 refine MetFree.of_bodySF (plainFor_of_name pn_com_example_reportwire_reportwire_Arguments) hisR ?_
 intro p e s m args below meth c s₁ Bd hml0 hP hK
 obtain ⟨rfl, hZ, hh⟩ := hP
 have hx := Bd.exec
 have hby := Bd.bytes
 have hlk : meth.locks = false := BodyLoose.notSynchronized Bd
 have hml : c.maxLocals = 2 := hml0
 have hown : s.vm.findClass "com/example/reportwire/reportwire/Arguments" = some m.cls := findClass_of_methodNamed Bd.named
 have hnm := (name_of_methodNamed Bd.named Bd.method).1
 have X0 : Stand p l e ({ frames := 4, cells := 3, slots := 12, locals := 52 } : Room) s m #[(.ref ob), (.ref aa)] below meth c s₁ [] 0 0 := Stand.of_body Bd
 have e0 : s₁.heap = h0 := by rw [← hh, Bd.state]; rfl
 have N0 := Fr.nil n0
 suffices hgo : Go p e below s 3 12 (Q14_3 Z ob aa ka sa sb sc h0 n0) (s₁.setTop (mkF m 0 #[.val (.ref ob), .val (.ref aa)] [])) by
  obtain ⟨t, o, h1, h2⟩ := hgo; exact ⟨t, o, castTop (ef_rm14_3 m ob aa) h1, h2⟩
 show Go _ _ _ _ _ _ _ (s₁.setTop (mkF m 0 #[.val (.ref ob), .val (.ref aa)] []))
 refine Go.st (fun _ => XS.aloadN X0.here hx rfl (hb hby d14_0) rfl rfl) ?_
 show Go _ _ _ _ _ _ _ (s₁.setTop (mkF m 1 #[.val (.ref ob), .val (.ref aa)] [(.ref ob)]))
 obtain ⟨T1, X1, e1, st1⟩ := initO X0 hx hZ hown (wdx hw 74 rfl) (wdx hw 21 rfl) (wdx hw 22 rfl) e0 (g := (mkF m 1 #[.val (.ref ob), .val (.ref aa)] [(.ref ob)])) rfl (by rw [hml]; rfl) rfl (hb hby d14_1) (by decide) (W := 0) (by show 2 * 0 + _ ≤ _; exact Nat.le_of_eq rfl) (by decide)
 refine Go.st st1 ?_
 show Go _ _ _ _ _ _ _ (T1.setTop (mkF m 4 #[.val (.ref ob), .val (.ref aa)] []))
 refine Go.st (fun _ => XS.aloadN X1.here hx rfl (hb hby d14_4) rfl rfl) ?_
 obtain ⟨T2, h2, X2, e2, E2, A2, D2, -, st2⟩ := newO X1 hx hZ hown (wdx hw 75 rfl) (wdx hw 76 rfl) (wdx hw 77 rfl) e1 (g := (mkF m 5 #[.val (.ref ob), .val (.ref aa)] [(.ref ob)])) rfl (hb hby d14_5) (by decide) (by decide)
 obtain ⟨b2, g2⟩ : ∃ z, z = h0.size := ⟨_, rfl⟩
 rw [← g2] at A2 D2 st2
 refine Go.st st2 ?_
 have g_b2 : n0 ≤ b2 := Nat.le_trans (own_le O0) (Nat.le_of_eq g2.symm)
 have z_b2 : h0.size ≤ b2 := Nat.le_of_eq g2.symm
 have ne3 : ob ≠ b2 := Nat.ne_of_lt (Nat.lt_of_lt_of_le E_o.lt (Nat.le_of_eq g2.symm))
 have ne4 : aa ≠ b2 := Nat.ne_of_lt (Nat.lt_of_lt_of_le E_a.lt (Nat.le_of_eq g2.symm))
 have f5 := E_o.ext E2
 have f6 := Fo.ext E2
 have f7 := Fa.ext E2
 have f8 := Fn.ext E2
 have f9 := E_a.ext E2
 have f10 := Va.ext E2
 have O2 := O0.ext E2
 have K2 : Keep h0 h2 [ob] := (Keep.refl h0 [ob]).ext E2
 have f11 : Fld Z h2 b2 "java/util/HashSet" "map" "Ljava/util/HashMap;" .null := D2 (Or.inl (wdx hw 112 rfl)) (ty := (.object "java/util/HashMap")) (by decide)
 show Go _ _ _ _ _ _ _ (T2.setTop (mkF m 8 #[.val (.ref ob), .val (.ref aa)] [(.ref b2), (.ref ob)]))
 refine Go.st (fun _ => XS.dup X2.here hx rfl (hb hby d14_8) rfl rfl) ?_
 show Go _ _ _ _ _ _ _ (T2.setTop (mkF m 9 #[.val (.ref ob), .val (.ref aa)] [(.ref b2), (.ref b2), (.ref ob)]))
 obtain ⟨_, _, ⟨T12, L12, k12, n12⟩, -, X12, ⟨Lc12, hQ12, l12, y12, z12⟩, st12⟩ := X2.specialBack hx (y := (⟨"java/util/HashSet", "<init>", "()V"⟩ : MethodName)) rfl hown (mvT hZ (wdx hw 78 rfl)) (mvT hZ (wdx hw 79 rfl)) (mvT hZ (wdx hw 80 rfl)) (by decide) (backOf (W := 2) (rm15 l Z a0 hw [] b2 h2 n0 O2 A2 f11 g_b2) hZ (wdx hw 80 rfl) (wdx hw 77 rfl) (by decide) (by decide)) (g := (mkF m 9 #[.val (.ref ob), .val (.ref aa)] [(.ref b2), (.ref b2), (.ref ob)])) rfl (by rw [hml]; rfl) (Steps.refl _) (a := b2) (argsL := []) (rest := [(.ref b2), (.ref ob)]) (lenOf pd___V rfl) rfl (by show 2 * 0 + _ ≤ _; exact Nat.le_of_eq rfl) (hb hby d14_9) (fun _ _ => ⟨rfl, e2, (by exact lee rfl), (by exact lee rfl)⟩)
 dsimp only [Pt.U, Pt.locs, Pt.cells, Pt.slots] at X12 l12 y12 z12 st12 hQ12
 subst l12 y12 z12
 obtain ⟨rfl, Nq12, Kq12⟩ := hQ12
 have N12 := Fr.app N0 Nq12
 refine Go.tr st12 ?_
 have f13 := f5.keep Kq12
 have f14 := f6.keep Kq12 (ninS ne3 nin0)
 have f15 := f7.keep Kq12 (ninS ne3 nin0)
 have f16 := f8.keep Kq12 (ninS ne3 nin0)
 have f17 := f9.keep Kq12
 have f18 := f10.keep Kq12 (ninS ne4 nin0)
 have f19 := A2.keep Kq12
 have O12 := O2.keep Kq12 (allS g_b2 all0)
 have K12 : Keep h0 T12.heap [ob] := K2.trans Kq12 (allS (Or.inr z_b2) all0)
 show Go _ _ _ _ _ _ _ (T12.setTop (mkF m 12 #[.val (.ref ob), .val (.ref aa)] [(.ref b2), (.ref ob)]))
 obtain ⟨T20, h20, X20, e20, W20, st20⟩ := putF X12 hx hZ hown (host := "") (Or.inl (wdx hw 113 rfl)) Via.refl rfl f14 f13 (Or.inr ⟨(wdx hw 114 rfl), rfl, hnm⟩) (wdx hw 69 rfl) (ty := (.object "java/util/Set")) (by decide) rfl rfl (g := (mkF m 12 #[.val (.ref ob), .val (.ref aa)] [(.ref b2), (.ref ob)])) rfl rfl (hb hby d14_12)
 refine Go.st st20 ?_
 have f21 := f13.wr W20
 have f22 := f14.same W20
 have f23 := f15.other W20 (Or.inr (slot_ne (Or.inr (wdx hw 125 rfl)) (Or.inr (wdx hw 114 rfl)) (by decide) (t := (.array (.object "java/lang/String"))) (t' := (.object "java/util/Set")) (by decide) (by decide)))
 have f24 := f16.other W20 (Or.inr (slot_ne (Or.inl (wdx hw 132 rfl)) (Or.inr (wdx hw 114 rfl)) (by decide) (t := .int) (t' := (.object "java/util/Set")) (by decide) (by decide)))
 have f25 := f17.wr W20
 have f26 := f18.other W20 (Ne.symm ne_oa)
 have f27 := f19.wr W20
 have O20 := O12.wr W20 g_o
 have N20 := Fr.snoc X20 N12 g_o
 have K20 : Keep h0 h20 [ob] := K12.wr W20 (Or.inl (by simp))
 refine Go.st (fun _ => XS.aloadN X20.here hx rfl (hb hby d14_15) rfl rfl) ?_
 refine Go.st (fun _ => XS.aloadN X20.here hx rfl (hb hby d14_16) rfl rfl) ?_
 show Go _ _ _ _ _ _ _ (T20.setTop (mkF m 17 #[.val (.ref ob), .val (.ref aa)] [(.ref aa), (.ref ob)]))
 obtain ⟨T28, h28, X28, e28, E28, A28, Ex28, st28⟩ := cloneH X20 hx hZ hown (wdx hw 115 rfl) (wdx hw 116 rfl) (wdx hw 120 rfl) (wdx hw 118 rfl) (wdx hw 119 rfl) (wdx hw 121 rfl) e20 (hs := []) f26 f25 (g := (mkF m 17 #[.val (.ref ob), .val (.ref aa)] [(.ref aa), (.ref ob)])) rfl (by rw [hml]; rfl) rfl (hb hby d14_17) (by decide) (W := 1) (cap := 3) (by show 2 * 0 + _ ≤ _; exact Nat.le_of_eq rfl) (by decide) (by decide) (by decide) (by decide)
 obtain ⟨b28, g28⟩ : ∃ z, z = h20.size := ⟨_, rfl⟩
 rw [← g28] at A28 Ex28 st28
 refine Go.st st28 ?_
 have g_b28 : n0 ≤ b28 := Nat.le_trans (own_le O20) (Nat.le_of_eq g28.symm)
 have z_b28 : h0.size ≤ b28 := Nat.le_trans K20.1 (Nat.le_of_eq g28.symm)
 have ne29 : ob ≠ b28 := Nat.ne_of_lt (Nat.lt_of_lt_of_le f21.lt (Nat.le_of_eq g28.symm))
 have ne30 : aa ≠ b28 := Nat.ne_of_lt (Nat.lt_of_lt_of_le f25.lt (Nat.le_of_eq g28.symm))
 have ne31 : b2 ≠ b28 := Nat.ne_of_lt (Nat.lt_of_lt_of_le f27.lt (Nat.le_of_eq g28.symm))
 have f32 := f21.ext E28
 have f33 := f22.ext E28
 have f34 := f23.ext E28
 have f35 := f24.ext E28
 have f36 := f25.ext E28
 have f37 := f26.ext E28
 have f38 := f27.ext E28
 have O28 := O20.ext E28
 have K28 : Keep h0 h28 [ob] := K20.ext E28
 have f39 : Arv Z h28 b28 ka (.object "java/lang/String") (3 : Int32) [(.ref sa), (.ref sb), (.ref sc)] .null := A28
 show Go _ _ _ _ _ _ _ (T28.setTop (mkF m 20 #[.val (.ref ob), .val (.ref aa)] [(.ref b28), (.ref ob)]))
 obtain ⟨T40, X40, e40, st40⟩ := castY X28 hx hZ hown (wdx hw 122 rfl) e28 (Ins.self Ex28) (g := (mkF m 20 #[.val (.ref ob), .val (.ref aa)] [(.ref b28), (.ref ob)])) rfl rfl (hb hby d14_20)
 refine Go.st st40 ?_
 show Go _ _ _ _ _ _ _ (T40.setTop (mkF m 23 #[.val (.ref ob), .val (.ref aa)] [(.ref b28), (.ref ob)]))
 obtain ⟨T41, h41, X41, e41, W41, st41⟩ := putF X40 hx hZ hown (host := "") (Or.inl (wdx hw 124 rfl)) Via.refl e40 f34 f32 (Or.inr ⟨(wdx hw 125 rfl), rfl, hnm⟩) (wdx hw 69 rfl) (ty := (.array (.object "java/lang/String"))) (by decide) rfl rfl (g := (mkF m 23 #[.val (.ref ob), .val (.ref aa)] [(.ref b28), (.ref ob)])) rfl rfl (hb hby d14_23)
 refine Go.st st41 ?_
 have f42 := f32.wr W41
 have f43 := f33.other W41 (Or.inr (slot_ne (Or.inr (wdx hw 114 rfl)) (Or.inr (wdx hw 125 rfl)) (by decide) (t := (.object "java/util/Set")) (t' := (.array (.object "java/lang/String"))) (by decide) (by decide)))
 have f44 := f34.same W41
 have f45 := f35.other W41 (Or.inr (slot_ne (Or.inl (wdx hw 132 rfl)) (Or.inr (wdx hw 125 rfl)) (by decide) (t := .int) (t' := (.array (.object "java/lang/String"))) (by decide) (by decide)))
 have f46 := f36.wr W41
 have f47 := f37.other W41 (Ne.symm ne_oa)
 have f48 := f38.wr W41
 have f49 := Ex28.wr W41
 have f50 := f39.other W41 (Ne.symm ne29)
 have O41 := O28.wr W41 g_o
 have N41 := Fr.snoc X41 N20 g_o
 have K41 : Keep h0 h41 [ob] := K28.wr W41 (Or.inl (by simp))
 show Go _ _ _ _ _ _ _ (T41.setTop (mkF m 26 #[.val (.ref ob), .val (.ref aa)] []))
 refine Go.retV X41 hx hlk Bd.returns (hb hby d14_26) (by decide) (by decide) e41 ?_
 exact ⟨b28, ka, rfl, N41, K41, f44, f45, f50, z_b28⟩
theorem d25_0 : decode prog_7_method_7_code 0 = .ok (.aload_n 0, 1) := by decide +kernel
theorem d25_1 : decode prog_7_method_7_code 1 = .ok (.getfield 60, 3) := by decide +kernel
theorem d25_4 : decode prog_7_method_7_code 4 = .ok (.aload_n 0, 1) := by decide +kernel
theorem d25_5 : decode prog_7_method_7_code 5 = .ok (.getfield 22, 3) := by decide +kernel
theorem d25_8 : decode prog_7_method_7_code 8 = .ok (.arraylength, 1) := by decide +kernel
theorem d25_9 : decode prog_7_method_7_code 9 = .ok (.if_icmp .ge 7, 3) := by decide +kernel
theorem d25_12 : decode prog_7_method_7_code 12 = .ok (.iconst 1, 1) := by decide +kernel
theorem d25_13 : decode prog_7_method_7_code 13 = .ok (.goto 4, 3) := by decide +kernel
theorem d25_17 : decode prog_7_method_7_code 17 = .ok (.ireturn, 1) := by decide +kernel
theorem ef_rm25_3_0 (m : MethodId) (ob : Addr) : entryFrame m #[(.ref ob)] 1 = mkF m 0 #[.val (.ref ob)] [] := by first | (simp [entryFrame, mkF, argsToLocals, Value.category]; done) | rfl
def Q25_3_0 (Z : State) (ob : Addr) (na : Addr) (kn : ClassId) (sa : Addr) (sb : Addr) (sc : Addr) (h0 : Heap) (n0 : Nat) (v : Option Value) (h : Heap) (L : List Loc) : Prop := v = some (.int 1) ∧ Fr n0 L ∧ h = h0
set_option maxRecDepth 65536 in
set_option maxHeartbeats 40000000 in
theorem rm25_3_0 (l : Launch) (Z : State) (a0 : Array Value) (hw : ∀ d ∈ tables_1, d.before a0 Z = true) (ws : List Jvm.Cond) (ob : Addr) (na : Addr) (kn : ClassId) (sa : Addr) (sb : Addr) (sc : Addr) (h0 : Heap) (n0 : Nat) (O0 : Old Z n0 h0) (Fa : Fld Z h0 ob "com/example/reportwire/reportwire/Arguments" "args" "[Ljava/lang/String;" (.ref na)) (Fn : Fld Z h0 ob "com/example/reportwire/reportwire/Arguments" "next" "I" (.int 0)) (Va : Arv Z h0 na kn (.object "java/lang/String") (3 : Int32) [(.ref sa), (.ref sb), (.ref sc)] .null) :
  MetFree l mn1 (head1 (Jvm.Cond.code mn1 prog_7_method_7_code 1 (some .boolean) :: ws) ({ frames := 0, cells := 0, slots := 0, locals := 0 } : Room)) (fun ay U => ay = #[(.ref ob)] ∧ Z.Warmed39 U.vm ∧ U.heap = h0) (fun _ _ _ _ _ => True) (fun _ U o U' => ∃ v L, o = .returned v ∧ Q25_3_0 Z ob na kn sa sb sc h0 n0 v U'.heap L ∧ FrameEnd U o U' L ({ frames := 0, cells := 0, slots := 0, locals := 0 } : Room).cells ({ frames := 0, cells := 0, slots := 0, locals := 0 } : Room).slots) := by
 refine MetFree.of_bodySF (plainFor_of_name pn_com_example_reportwire_reportwire_Arguments) hisR ?_
 intro p e s m args below meth c s₁ Bd hml0 hP hK
 obtain ⟨rfl, hZ, hh⟩ := hP
 have hx := Bd.exec
 have hby := Bd.bytes
 have hlk : meth.locks = false := BodyLoose.notSynchronized Bd
 have hml : c.maxLocals = 1 := hml0
 have hown : s.vm.findClass "com/example/reportwire/reportwire/Arguments" = some m.cls := findClass_of_methodNamed Bd.named
 have hnm := (name_of_methodNamed Bd.named Bd.method).1
 have X0 : Stand p l e ({ frames := 0, cells := 0, slots := 0, locals := 0 } : Room) s m #[(.ref ob)] below meth c s₁ [] 0 0 := Stand.of_body Bd
 have e0 : s₁.heap = h0 := by rw [← hh, Bd.state]; rfl
 have N0 := Fr.nil n0
 suffices hgo : Go p e below s 0 0 (Q25_3_0 Z ob na kn sa sb sc h0 n0) (s₁.setTop (mkF m 0 #[.val (.ref ob)] [])) by
  obtain ⟨t, o, h1, h2⟩ := hgo; exact ⟨t, o, castTop (ef_rm25_3_0 m ob) h1, h2⟩
 show Go _ _ _ _ _ _ _ (s₁.setTop (mkF m 0 #[.val (.ref ob)] []))
 refine Go.st (fun _ => XS.aloadN X0.here hx rfl (hb hby d25_0) rfl rfl) ?_
 obtain ⟨T1, X1, e1, st1⟩ := getF X0 hx hZ hown (host := "") (Or.inl (wdx hw 131 rfl)) Via.refl e0 Fn (g := (mkF m 1 #[.val (.ref ob)] [(.ref ob)])) rfl rfl (hb hby d25_1)
 refine Go.st st1 ?_
 refine Go.st (fun _ => XS.aloadN X1.here hx rfl (hb hby d25_4) rfl rfl) ?_
 obtain ⟨T2, X2, e2, st2⟩ := getF X1 hx hZ hown (host := "") (Or.inl (wdx hw 124 rfl)) Via.refl e1 Fa (g := (mkF m 5 #[.val (.ref ob)] [(.ref ob), (.int 0)])) rfl rfl (hb hby d25_5)
 refine Go.st st2 ?_
 show Go _ _ _ _ _ _ _ (T2.setTop (mkF m 8 #[.val (.ref ob)] [(.ref na), (.int 0)]))
 obtain ⟨cl3, Ar3, qc3, Sz3, Nn3, Ha3, Gf3⟩ := id Va
 refine Go.st (fun _ => X2.arraylength hx (by rw [e2]; exact Ar3.1) (State.isArrayOf_alike hZ.alike Ar3.2.1) (g := (mkF m 8 #[.val (.ref ob)] [(.ref na), (.int 0)])) rfl rfl (hb hby d25_8) _) ?_
 rw [len_of Sz3 Nn3]
 show Go _ _ _ _ _ _ _ (T2.setTop (mkF m 9 #[.val (.ref ob)] [(.int 3), (.int 0)]))
 refine Go.st (fun _ => XS.icmpNo X2.here hx rfl (hb hby d25_9) rfl (XT.ii_ge_f (by decide))) ?_
 refine Go.st (fun _ => XS.iconst X2.here hx rfl (hb hby d25_12)) ?_
 show Go _ _ _ _ _ _ _ (T2.setTop (mkF m 13 #[.val (.ref ob)] [(.int 1)]))
 refine Go.st (fun _ => XS.goto X2.here hx rfl (pc0 := 13) (pc' := 17) rfl (hb hby d25_13) (by decide) (by decide)) ?_
 show Go _ _ _ _ _ _ _ (T2.setTop (mkF m 17 #[.val (.ref ob)] [(.int 1)]))
 refine Go.retB X2 hx hlk (t := .boolean) Bd.returns (by simp) (hb hby d25_17) (by decide) (by decide) e2 ?_
 exact ⟨rfl, N0, rfl⟩
theorem d24_0 : decode prog_7_method_9_code 0 = .ok (.aload_n 0, 1) := by decide +kernel
theorem pd___Z : parseMethodDescriptor "()Z" = some ⟨[], some .boolean⟩ := by decide +kernel
theorem d24_1 : decode prog_7_method_9_code 1 = .ok (.invokevirtual 70, 3) := by decide +kernel
theorem d24_4 : decode prog_7_method_9_code 4 = .ok (.ifCond .ne 13, 3) := by decide +kernel
theorem d24_17 : decode prog_7_method_9_code 17 = .ok (.aload_n 0, 1) := by decide +kernel
theorem d24_18 : decode prog_7_method_9_code 18 = .ok (.getfield 22, 3) := by decide +kernel
theorem d24_21 : decode prog_7_method_9_code 21 = .ok (.aload_n 0, 1) := by decide +kernel
theorem d24_22 : decode prog_7_method_9_code 22 = .ok (.getfield 60, 3) := by decide +kernel
theorem d24_25 : decode prog_7_method_9_code 25 = .ok (.aaload, 1) := by decide +kernel
theorem d24_26 : decode prog_7_method_9_code 26 = .ok (.areturn, 1) := by decide +kernel
theorem ef_rm24_3_0 (m : MethodId) (ob : Addr) : entryFrame m #[(.ref ob)] 1 = mkF m 0 #[.val (.ref ob)] [] := by first | (simp [entryFrame, mkF, argsToLocals, Value.category]; done) | rfl
def Q24_3_0 (Z : State) (ob : Addr) (na : Addr) (kn : ClassId) (sa : Addr) (sb : Addr) (sc : Addr) (h0 : Heap) (n0 : Nat) (v : Option Value) (h : Heap) (L : List Loc) : Prop := v = some (.ref sa) ∧ Fr n0 L ∧ h = h0
set_option maxRecDepth 65536 in
set_option maxHeartbeats 40000000 in
theorem rm24_3_0 (l : Launch) (Z : State) (a0 : Array Value) (hw : ∀ d ∈ tables_1, d.before a0 Z = true) (ws : List Jvm.Cond) (ob : Addr) (na : Addr) (kn : ClassId) (sa : Addr) (sb : Addr) (sc : Addr) (h0 : Heap) (n0 : Nat) (O0 : Old Z n0 h0) (E_o : Exa Z h0 ob "com/example/reportwire/reportwire/Arguments") (Fa : Fld Z h0 ob "com/example/reportwire/reportwire/Arguments" "args" "[Ljava/lang/String;" (.ref na)) (Fn : Fld Z h0 ob "com/example/reportwire/reportwire/Arguments" "next" "I" (.int 0)) (Va : Arv Z h0 na kn (.object "java/lang/String") (3 : Int32) [(.ref sa), (.ref sb), (.ref sc)] .null) :
  MetFree l mn7 (head1 (Jvm.Cond.code mn7 prog_7_method_9_code 1 (some (.object "java/lang/String")) :: ws) ({ frames := 1, cells := 0, slots := 0, locals := 12 } : Room)) (fun ay U => ay = #[(.ref ob)] ∧ Z.Warmed39 U.vm ∧ U.heap = h0) (fun _ _ _ _ _ => True) (fun _ U o U' => ∃ v L, o = .returned v ∧ Q24_3_0 Z ob na kn sa sb sc h0 n0 v U'.heap L ∧ FrameEnd U o U' L ({ frames := 1, cells := 0, slots := 0, locals := 12 } : Room).cells ({ frames := 1, cells := 0, slots := 0, locals := 12 } : Room).slots) := by
 refine MetFree.of_bodySF (plainFor_of_name pn_com_example_reportwire_reportwire_Arguments) hisR ?_
 intro p e s m args below meth c s₁ Bd hml0 hP hK
 obtain ⟨rfl, hZ, hh⟩ := hP
 have hx := Bd.exec
 have hby := Bd.bytes
 have hlk : meth.locks = false := BodyLoose.notSynchronized Bd
 have hml : c.maxLocals = 1 := hml0
 have hown : s.vm.findClass "com/example/reportwire/reportwire/Arguments" = some m.cls := findClass_of_methodNamed Bd.named
 have hnm := (name_of_methodNamed Bd.named Bd.method).1
 have X0 : Stand p l e ({ frames := 1, cells := 0, slots := 0, locals := 12 } : Room) s m #[(.ref ob)] below meth c s₁ [] 0 0 := Stand.of_body Bd
 have e0 : s₁.heap = h0 := by rw [← hh, Bd.state]; rfl
 have N0 := Fr.nil n0
 suffices hgo : Go p e below s 0 0 (Q24_3_0 Z ob na kn sa sb sc h0 n0) (s₁.setTop (mkF m 0 #[.val (.ref ob)] [])) by
  obtain ⟨t, o, h1, h2⟩ := hgo; exact ⟨t, o, castTop (ef_rm24_3_0 m ob) h1, h2⟩
 show Go _ _ _ _ _ _ _ (s₁.setTop (mkF m 0 #[.val (.ref ob)] []))
 refine Go.st (fun _ => XS.aloadN X0.here hx rfl (hb hby d24_0) rfl rfl) ?_
 show Go _ _ _ _ _ _ _ (s₁.setTop (mkF m 1 #[.val (.ref ob)] [(.ref ob)]))
 obtain ⟨cq1, kq1, q1a, q1b, q1c⟩ := isOf hZ e0 E_o
 obtain ⟨_, _, ⟨T1, L1, k1, n1⟩, -, X1, ⟨Lc1, hQ1, l1, y1, z1⟩, st1⟩ := X0.virtualBack hx (y := mn1) (z := mn1) hown (mvT hZ (wdx hw 153 rfl)) (mvT hZ (wdx hw 154 rfl)) (notFace_of_selects (args := #[]) (mvT hZ (wdx hw 156 rfl))) (mvT hZ (wdx hw 156 rfl)) (mvT hZ (wdx hw 155 rfl)) (by decide) (backOf (W := 0) (rm25_3_0 l Z a0 hw [] ob na kn sa sb sc h0 n0 O0 Fa Fn Va) hZ (wdx hw 157 rfl) (wdx hw 70 rfl) (by decide) (by decide)) q1a q1c (g := (mkF m 1 #[.val (.ref ob)] [(.ref ob)])) rfl (by rw [hml]; rfl) (Steps.refl _) (argsL := []) (rest := []) (lenOf pd___Z rfl) rfl (by show 2 * 0 + _ ≤ _; exact Nat.le_of_eq rfl) (hb hby d24_1) (fun _ _ => ⟨rfl, e0, (by exact lee rfl), (by exact lee rfl)⟩)
 dsimp only [Pt.U, Pt.locs, Pt.cells, Pt.slots] at X1 l1 y1 z1 st1 hQ1
 subst l1 y1 z1
 obtain ⟨rfl, Nq1, eq1⟩ := hQ1
 have N1 := Fr.app N0 Nq1
 refine Go.tr st1 ?_
 show Go _ _ _ _ _ _ _ (T1.setTop (mkF m 4 #[.val (.ref ob)] [(.int 1)]))
 refine Go.st (fun _ => XS.ifYes X1.here hx rfl (pc0 := 4) (pc' := 17) rfl (hb hby d24_4) rfl (XT.i0_ne_t (by decide)) (by decide) (by decide)) ?_
 refine Go.st (fun _ => XS.aloadN X1.here hx rfl (hb hby d24_17) rfl rfl) ?_
 obtain ⟨T2, X2, e2, st2⟩ := getF X1 hx hZ hown (host := "") (Or.inl (wdx hw 124 rfl)) Via.refl eq1 Fa (g := (mkF m 18 #[.val (.ref ob)] [(.ref ob)])) rfl rfl (hb hby d24_18)
 refine Go.st st2 ?_
 refine Go.st (fun _ => XS.aloadN X2.here hx rfl (hb hby d24_21) rfl rfl) ?_
 obtain ⟨T3, X3, e3, st3⟩ := getF X2 hx hZ hown (host := "") (Or.inl (wdx hw 131 rfl)) Via.refl e2 Fn (g := (mkF m 22 #[.val (.ref ob)] [(.ref ob), (.ref na)])) rfl rfl (hb hby d24_22)
 refine Go.st st3 ?_
 show Go _ _ _ _ _ _ _ (T3.setTop (mkF m 25 #[.val (.ref ob)] [(.int 0), (.ref na)]))
 obtain ⟨cl4, Ar4, qc4, Sz4, Nn4, Ha4, Gf4⟩ := id Va
 refine Go.st (fun _ => X3.aaload hx (j := (0 : Int32)) (v := (.ref sa)) (by rw [e3]; exact Ar4.1) (State.isArrayOf_alike hZ.alike Ar4.2.1) rfl Ar4.2.2 (inb_of Sz4 ⟨by decide, by decide⟩) (Ha4.at (inb_of Sz4 ⟨by decide, by decide⟩) rfl) (g := (mkF m 25 #[.val (.ref ob)] [(.int 0), (.ref na)])) rfl rfl (hb hby d24_25) _) ?_
 show Go _ _ _ _ _ _ _ (T3.setTop (mkF m 26 #[.val (.ref ob)] [(.ref sa)]))
 refine Go.ret X3 hx hlk (t := (.object "java/lang/String")) Bd.returns rfl (Or.inr (Or.inr (Or.inr (Or.inr ⟨rfl, rfl, rfl⟩)))) (hb hby d24_26) (by decide) (by decide) e3 ?_
 exact ⟨rfl, N1, rfl⟩
theorem d23_0 : decode prog_7_method_10_code 0 = .ok (.aload_n 0, 1) := by decide +kernel
theorem pd___Ljava_lang_String_ : parseMethodDescriptor "()Ljava/lang/String;" = some ⟨[], some (.object "java/lang/String")⟩ := by decide +kernel
theorem d23_1 : decode prog_7_method_10_code 1 = .ok (.invokevirtual 76, 3) := by decide +kernel
theorem d23_4 : decode prog_7_method_10_code 4 = .ok (.astore_n 1, 1) := by decide +kernel
theorem d23_5 : decode prog_7_method_10_code 5 = .ok (.aload_n 0, 1) := by decide +kernel
theorem d23_6 : decode prog_7_method_10_code 6 = .ok (.dup, 1) := by decide +kernel
theorem d23_7 : decode prog_7_method_10_code 7 = .ok (.getfield 60, 3) := by decide +kernel
theorem d23_10 : decode prog_7_method_10_code 10 = .ok (.iconst 1, 1) := by decide +kernel
theorem d23_11 : decode prog_7_method_10_code 11 = .ok (.iadd, 1) := by decide +kernel
theorem d23_12 : decode prog_7_method_10_code 12 = .ok (.putfield 60, 3) := by decide +kernel
theorem d23_15 : decode prog_7_method_10_code 15 = .ok (.aload_n 1, 1) := by decide +kernel
theorem d23_16 : decode prog_7_method_10_code 16 = .ok (.areturn, 1) := by decide +kernel
theorem ef_rm23_3_0 (m : MethodId) (ob : Addr) : entryFrame m #[(.ref ob)] 2 = mkF m 0 #[.val (.ref ob), .unset] [] := by first | (simp [entryFrame, mkF, argsToLocals, Value.category]; done) | rfl
def Q23_3_0 (Z : State) (ob : Addr) (na : Addr) (kn : ClassId) (sa : Addr) (sb : Addr) (sc : Addr) (h0 : Heap) (n0 : Nat) (v : Option Value) (h : Heap) (L : List Loc) : Prop := v = some (.ref sa) ∧ Fr n0 L ∧ Keep h0 h [ob] ∧ Fld Z h ob "com/example/reportwire/reportwire/Arguments" "args" "[Ljava/lang/String;" (.ref na) ∧ Fld Z h ob "com/example/reportwire/reportwire/Arguments" "next" "I" (.int 1)
set_option maxRecDepth 65536 in
set_option maxHeartbeats 40000000 in
theorem rm23_3_0 (l : Launch) (Z : State) (a0 : Array Value) (hw : ∀ d ∈ tables_1, d.before a0 Z = true) (ws : List Jvm.Cond) (ob : Addr) (na : Addr) (kn : ClassId) (sa : Addr) (sb : Addr) (sc : Addr) (h0 : Heap) (n0 : Nat) (O0 : Old Z n0 h0) (E_o : Exa Z h0 ob "com/example/reportwire/reportwire/Arguments") (Fa : Fld Z h0 ob "com/example/reportwire/reportwire/Arguments" "args" "[Ljava/lang/String;" (.ref na)) (Fn : Fld Z h0 ob "com/example/reportwire/reportwire/Arguments" "next" "I" (.int 0)) (Va : Arv Z h0 na kn (.object "java/lang/String") (3 : Int32) [(.ref sa), (.ref sb), (.ref sc)] .null) (g_o : n0 ≤ ob) (ne_on : ob ≠ na) :
  MetFree l mn2 (head1 (Jvm.Cond.code mn2 prog_7_method_10_code 2 (some (.object "java/lang/String")) :: ws) ({ frames := 2, cells := 0, slots := 0, locals := 24 } : Room)) (fun ay U => ay = #[(.ref ob)] ∧ Z.Warmed39 U.vm ∧ U.heap = h0) (fun _ _ _ _ _ => True) (fun _ U o U' => ∃ v L, o = .returned v ∧ Q23_3_0 Z ob na kn sa sb sc h0 n0 v U'.heap L ∧ FrameEnd U o U' L ({ frames := 2, cells := 0, slots := 0, locals := 24 } : Room).cells ({ frames := 2, cells := 0, slots := 0, locals := 24 } : Room).slots) := by
 refine MetFree.of_bodySF (plainFor_of_name pn_com_example_reportwire_reportwire_Arguments) hisR ?_
 intro p e s m args below meth c s₁ Bd hml0 hP hK
 obtain ⟨rfl, hZ, hh⟩ := hP
 have hx := Bd.exec
 have hby := Bd.bytes
 have hlk : meth.locks = false := BodyLoose.notSynchronized Bd
 have hml : c.maxLocals = 2 := hml0
 have hown : s.vm.findClass "com/example/reportwire/reportwire/Arguments" = some m.cls := findClass_of_methodNamed Bd.named
 have hnm := (name_of_methodNamed Bd.named Bd.method).1
 have X0 : Stand p l e ({ frames := 2, cells := 0, slots := 0, locals := 24 } : Room) s m #[(.ref ob)] below meth c s₁ [] 0 0 := Stand.of_body Bd
 have e0 : s₁.heap = h0 := by rw [← hh, Bd.state]; rfl
 have N0 := Fr.nil n0
 suffices hgo : Go p e below s 0 0 (Q23_3_0 Z ob na kn sa sb sc h0 n0) (s₁.setTop (mkF m 0 #[.val (.ref ob), .unset] [])) by
  obtain ⟨t, o, h1, h2⟩ := hgo; exact ⟨t, o, castTop (ef_rm23_3_0 m ob) h1, h2⟩
 show Go _ _ _ _ _ _ _ (s₁.setTop (mkF m 0 #[.val (.ref ob), .unset] []))
 refine Go.st (fun _ => XS.aloadN X0.here hx rfl (hb hby d23_0) rfl rfl) ?_
 show Go _ _ _ _ _ _ _ (s₁.setTop (mkF m 1 #[.val (.ref ob), .unset] [(.ref ob)]))
 obtain ⟨cq1, kq1, q1a, q1b, q1c⟩ := isOf hZ e0 E_o
 obtain ⟨_, _, ⟨T1, L1, k1, n1⟩, -, X1, ⟨Lc1, hQ1, l1, y1, z1⟩, st1⟩ := X0.virtualBack hx (y := mn7) (z := mn7) hown (mvT hZ (wdx hw 148 rfl)) (mvT hZ (wdx hw 149 rfl)) (notFace_of_selects (args := #[]) (mvT hZ (wdx hw 151 rfl))) (mvT hZ (wdx hw 151 rfl)) (mvT hZ (wdx hw 150 rfl)) (by decide) (backOf (W := 0) (rm24_3_0 l Z a0 hw [] ob na kn sa sb sc h0 n0 O0 E_o Fa Fn Va) hZ (wdx hw 152 rfl) (wdx hw 70 rfl) (by decide) (by decide)) q1a q1c (g := (mkF m 1 #[.val (.ref ob), .unset] [(.ref ob)])) rfl (by rw [hml]; rfl) (Steps.refl _) (argsL := []) (rest := []) (lenOf pd___Ljava_lang_String_ rfl) rfl (by show 2 * 0 + _ ≤ _; exact Nat.le_of_eq rfl) (hb hby d23_1) (fun _ _ => ⟨rfl, e0, (by exact lee rfl), (by exact lee rfl)⟩)
 dsimp only [Pt.U, Pt.locs, Pt.cells, Pt.slots] at X1 l1 y1 z1 st1 hQ1
 subst l1 y1 z1
 obtain ⟨rfl, Nq1, eq1⟩ := hQ1
 have N1 := Fr.app N0 Nq1
 refine Go.tr st1 ?_
 show Go _ _ _ _ _ _ _ (T1.setTop (mkF m 4 #[.val (.ref ob), .unset] [(.ref sa)]))
 refine Go.st (fun _ => XS.astoreN X1.here hx rfl (hb hby d23_4) rfl rfl (l' := #[.val (.ref ob), .val (.ref sa)]) rfl) ?_
 refine Go.st (fun _ => XS.aloadN X1.here hx rfl (hb hby d23_5) rfl rfl) ?_
 refine Go.st (fun _ => XS.dup X1.here hx rfl (hb hby d23_6) rfl rfl) ?_
 obtain ⟨T2, X2, e2, st2⟩ := getF X1 hx hZ hown (host := "") (Or.inl (wdx hw 131 rfl)) Via.refl eq1 Fn (g := (mkF m 7 #[.val (.ref ob), .val (.ref sa)] [(.ref ob), (.ref ob)])) rfl rfl (hb hby d23_7)
 refine Go.st st2 ?_
 refine Go.st (fun _ => XS.iconst X2.here hx rfl (hb hby d23_10)) ?_
 refine Go.st (fun _ => XS.iadd X2.here hx rfl (hb hby d23_11) rfl) ?_
 obtain ⟨T3, h3, X3, e3, W3, st3⟩ := putF X2 hx hZ hown (host := "") (Or.inl (wdx hw 131 rfl)) Via.refl e2 Fn E_o (Or.inl (wdx hw 132 rfl)) (wdx hw 69 rfl) (ty := .int) (by decide) rfl rfl (g := (mkF m 12 #[.val (.ref ob), .val (.ref sa)] [(.int 1), (.ref ob)])) rfl rfl (hb hby d23_12)
 refine Go.st st3 ?_
 have f4 := E_o.wr W3
 have f5 := Fa.other W3 (Or.inr (slot_ne (Or.inr (wdx hw 125 rfl)) (Or.inl (wdx hw 132 rfl)) (by decide) (t := (.array (.object "java/lang/String"))) (t' := .int) (by decide) (by decide)))
 have f6 := Fn.same W3
 have f7 := Va.other W3 (Ne.symm ne_on)
 have O3 := O0.wr W3 g_o
 have N3 := Fr.snoc X3 N1 g_o
 have K3 : Keep h0 h3 [ob] := (Keep.refl h0 [ob]).wr W3 (Or.inl (by simp))
 refine Go.st (fun _ => XS.aloadN X3.here hx rfl (hb hby d23_15) rfl rfl) ?_
 show Go _ _ _ _ _ _ _ (T3.setTop (mkF m 16 #[.val (.ref ob), .val (.ref sa)] [(.ref sa)]))
 refine Go.ret X3 hx hlk (t := (.object "java/lang/String")) Bd.returns rfl (Or.inr (Or.inr (Or.inr (Or.inr ⟨rfl, rfl, rfl⟩)))) (hb hby d23_16) (by decide) (by decide) e3 ?_
 exact ⟨rfl, N3, K3, f5, f6⟩
theorem ef_rm25_3_1 (m : MethodId) (ob : Addr) : entryFrame m #[(.ref ob)] 1 = mkF m 0 #[.val (.ref ob)] [] := by first | (simp [entryFrame, mkF, argsToLocals, Value.category]; done) | rfl
def Q25_3_1 (Z : State) (ob : Addr) (na : Addr) (kn : ClassId) (sa : Addr) (sb : Addr) (sc : Addr) (h0 : Heap) (n0 : Nat) (v : Option Value) (h : Heap) (L : List Loc) : Prop := v = some (.int 1) ∧ Fr n0 L ∧ h = h0
set_option maxRecDepth 65536 in
set_option maxHeartbeats 40000000 in
theorem rm25_3_1 (l : Launch) (Z : State) (a0 : Array Value) (hw : ∀ d ∈ tables_1, d.before a0 Z = true) (ws : List Jvm.Cond) (ob : Addr) (na : Addr) (kn : ClassId) (sa : Addr) (sb : Addr) (sc : Addr) (h0 : Heap) (n0 : Nat) (O0 : Old Z n0 h0) (Fa : Fld Z h0 ob "com/example/reportwire/reportwire/Arguments" "args" "[Ljava/lang/String;" (.ref na)) (Fn : Fld Z h0 ob "com/example/reportwire/reportwire/Arguments" "next" "I" (.int 1)) (Va : Arv Z h0 na kn (.object "java/lang/String") (3 : Int32) [(.ref sa), (.ref sb), (.ref sc)] .null) :
  MetFree l mn1 (head1 (Jvm.Cond.code mn1 prog_7_method_7_code 1 (some .boolean) :: ws) ({ frames := 0, cells := 0, slots := 0, locals := 0 } : Room)) (fun ay U => ay = #[(.ref ob)] ∧ Z.Warmed39 U.vm ∧ U.heap = h0) (fun _ _ _ _ _ => True) (fun _ U o U' => ∃ v L, o = .returned v ∧ Q25_3_1 Z ob na kn sa sb sc h0 n0 v U'.heap L ∧ FrameEnd U o U' L ({ frames := 0, cells := 0, slots := 0, locals := 0 } : Room).cells ({ frames := 0, cells := 0, slots := 0, locals := 0 } : Room).slots) := by
 refine MetFree.of_bodySF (plainFor_of_name pn_com_example_reportwire_reportwire_Arguments) hisR ?_
 intro p e s m args below meth c s₁ Bd hml0 hP hK
 obtain ⟨rfl, hZ, hh⟩ := hP
 have hx := Bd.exec
 have hby := Bd.bytes
 have hlk : meth.locks = false := BodyLoose.notSynchronized Bd
 have hml : c.maxLocals = 1 := hml0
 have hown : s.vm.findClass "com/example/reportwire/reportwire/Arguments" = some m.cls := findClass_of_methodNamed Bd.named
 have hnm := (name_of_methodNamed Bd.named Bd.method).1
 have X0 : Stand p l e ({ frames := 0, cells := 0, slots := 0, locals := 0 } : Room) s m #[(.ref ob)] below meth c s₁ [] 0 0 := Stand.of_body Bd
 have e0 : s₁.heap = h0 := by rw [← hh, Bd.state]; rfl
 have N0 := Fr.nil n0
 suffices hgo : Go p e below s 0 0 (Q25_3_1 Z ob na kn sa sb sc h0 n0) (s₁.setTop (mkF m 0 #[.val (.ref ob)] [])) by
  obtain ⟨t, o, h1, h2⟩ := hgo; exact ⟨t, o, castTop (ef_rm25_3_1 m ob) h1, h2⟩
 show Go _ _ _ _ _ _ _ (s₁.setTop (mkF m 0 #[.val (.ref ob)] []))
 refine Go.st (fun _ => XS.aloadN X0.here hx rfl (hb hby d25_0) rfl rfl) ?_
 obtain ⟨T1, X1, e1, st1⟩ := getF X0 hx hZ hown (host := "") (Or.inl (wdx hw 131 rfl)) Via.refl e0 Fn (g := (mkF m 1 #[.val (.ref ob)] [(.ref ob)])) rfl rfl (hb hby d25_1)
 refine Go.st st1 ?_
 refine Go.st (fun _ => XS.aloadN X1.here hx rfl (hb hby d25_4) rfl rfl) ?_
 obtain ⟨T2, X2, e2, st2⟩ := getF X1 hx hZ hown (host := "") (Or.inl (wdx hw 124 rfl)) Via.refl e1 Fa (g := (mkF m 5 #[.val (.ref ob)] [(.ref ob), (.int 1)])) rfl rfl (hb hby d25_5)
 refine Go.st st2 ?_
 show Go _ _ _ _ _ _ _ (T2.setTop (mkF m 8 #[.val (.ref ob)] [(.ref na), (.int 1)]))
 obtain ⟨cl3, Ar3, qc3, Sz3, Nn3, Ha3, Gf3⟩ := id Va
 refine Go.st (fun _ => X2.arraylength hx (by rw [e2]; exact Ar3.1) (State.isArrayOf_alike hZ.alike Ar3.2.1) (g := (mkF m 8 #[.val (.ref ob)] [(.ref na), (.int 1)])) rfl rfl (hb hby d25_8) _) ?_
 rw [len_of Sz3 Nn3]
 show Go _ _ _ _ _ _ _ (T2.setTop (mkF m 9 #[.val (.ref ob)] [(.int 3), (.int 1)]))
 refine Go.st (fun _ => XS.icmpNo X2.here hx rfl (hb hby d25_9) rfl (XT.ii_ge_f (by decide))) ?_
 refine Go.st (fun _ => XS.iconst X2.here hx rfl (hb hby d25_12)) ?_
 show Go _ _ _ _ _ _ _ (T2.setTop (mkF m 13 #[.val (.ref ob)] [(.int 1)]))
 refine Go.st (fun _ => XS.goto X2.here hx rfl (pc0 := 13) (pc' := 17) rfl (hb hby d25_13) (by decide) (by decide)) ?_
 show Go _ _ _ _ _ _ _ (T2.setTop (mkF m 17 #[.val (.ref ob)] [(.int 1)]))
 refine Go.retB X2 hx hlk (t := .boolean) Bd.returns (by simp) (hb hby d25_17) (by decide) (by decide) e2 ?_
 exact ⟨rfl, N0, rfl⟩
theorem ef_rm24_3_1 (m : MethodId) (ob : Addr) : entryFrame m #[(.ref ob)] 1 = mkF m 0 #[.val (.ref ob)] [] := by first | (simp [entryFrame, mkF, argsToLocals, Value.category]; done) | rfl
def Q24_3_1 (Z : State) (ob : Addr) (na : Addr) (kn : ClassId) (sa : Addr) (sb : Addr) (sc : Addr) (h0 : Heap) (n0 : Nat) (v : Option Value) (h : Heap) (L : List Loc) : Prop := v = some (.ref sb) ∧ Fr n0 L ∧ h = h0
set_option maxRecDepth 65536 in
set_option maxHeartbeats 40000000 in
theorem rm24_3_1 (l : Launch) (Z : State) (a0 : Array Value) (hw : ∀ d ∈ tables_1, d.before a0 Z = true) (ws : List Jvm.Cond) (ob : Addr) (na : Addr) (kn : ClassId) (sa : Addr) (sb : Addr) (sc : Addr) (h0 : Heap) (n0 : Nat) (O0 : Old Z n0 h0) (E_o : Exa Z h0 ob "com/example/reportwire/reportwire/Arguments") (Fa : Fld Z h0 ob "com/example/reportwire/reportwire/Arguments" "args" "[Ljava/lang/String;" (.ref na)) (Fn : Fld Z h0 ob "com/example/reportwire/reportwire/Arguments" "next" "I" (.int 1)) (Va : Arv Z h0 na kn (.object "java/lang/String") (3 : Int32) [(.ref sa), (.ref sb), (.ref sc)] .null) :
  MetFree l mn7 (head1 (Jvm.Cond.code mn7 prog_7_method_9_code 1 (some (.object "java/lang/String")) :: ws) ({ frames := 1, cells := 0, slots := 0, locals := 12 } : Room)) (fun ay U => ay = #[(.ref ob)] ∧ Z.Warmed39 U.vm ∧ U.heap = h0) (fun _ _ _ _ _ => True) (fun _ U o U' => ∃ v L, o = .returned v ∧ Q24_3_1 Z ob na kn sa sb sc h0 n0 v U'.heap L ∧ FrameEnd U o U' L ({ frames := 1, cells := 0, slots := 0, locals := 12 } : Room).cells ({ frames := 1, cells := 0, slots := 0, locals := 12 } : Room).slots) := by
 refine MetFree.of_bodySF (plainFor_of_name pn_com_example_reportwire_reportwire_Arguments) hisR ?_
 intro p e s m args below meth c s₁ Bd hml0 hP hK
 obtain ⟨rfl, hZ, hh⟩ := hP
 have hx := Bd.exec
 have hby := Bd.bytes
 have hlk : meth.locks = false := BodyLoose.notSynchronized Bd
 have hml : c.maxLocals = 1 := hml0
 have hown : s.vm.findClass "com/example/reportwire/reportwire/Arguments" = some m.cls := findClass_of_methodNamed Bd.named
 have hnm := (name_of_methodNamed Bd.named Bd.method).1
 have X0 : Stand p l e ({ frames := 1, cells := 0, slots := 0, locals := 12 } : Room) s m #[(.ref ob)] below meth c s₁ [] 0 0 := Stand.of_body Bd
 have e0 : s₁.heap = h0 := by rw [← hh, Bd.state]; rfl
 have N0 := Fr.nil n0
 suffices hgo : Go p e below s 0 0 (Q24_3_1 Z ob na kn sa sb sc h0 n0) (s₁.setTop (mkF m 0 #[.val (.ref ob)] [])) by
  obtain ⟨t, o, h1, h2⟩ := hgo; exact ⟨t, o, castTop (ef_rm24_3_1 m ob) h1, h2⟩
 show Go _ _ _ _ _ _ _ (s₁.setTop (mkF m 0 #[.val (.ref ob)] []))
 refine Go.st (fun _ => XS.aloadN X0.here hx rfl (hb hby d24_0) rfl rfl) ?_
 show Go _ _ _ _ _ _ _ (s₁.setTop (mkF m 1 #[.val (.ref ob)] [(.ref ob)]))
 obtain ⟨cq1, kq1, q1a, q1b, q1c⟩ := isOf hZ e0 E_o
 obtain ⟨_, _, ⟨T1, L1, k1, n1⟩, -, X1, ⟨Lc1, hQ1, l1, y1, z1⟩, st1⟩ := X0.virtualBack hx (y := mn1) (z := mn1) hown (mvT hZ (wdx hw 153 rfl)) (mvT hZ (wdx hw 154 rfl)) (notFace_of_selects (args := #[]) (mvT hZ (wdx hw 156 rfl))) (mvT hZ (wdx hw 156 rfl)) (mvT hZ (wdx hw 155 rfl)) (by decide) (backOf (W := 0) (rm25_3_1 l Z a0 hw [] ob na kn sa sb sc h0 n0 O0 Fa Fn Va) hZ (wdx hw 157 rfl) (wdx hw 70 rfl) (by decide) (by decide)) q1a q1c (g := (mkF m 1 #[.val (.ref ob)] [(.ref ob)])) rfl (by rw [hml]; rfl) (Steps.refl _) (argsL := []) (rest := []) (lenOf pd___Z rfl) rfl (by show 2 * 0 + _ ≤ _; exact Nat.le_of_eq rfl) (hb hby d24_1) (fun _ _ => ⟨rfl, e0, (by exact lee rfl), (by exact lee rfl)⟩)
 dsimp only [Pt.U, Pt.locs, Pt.cells, Pt.slots] at X1 l1 y1 z1 st1 hQ1
 subst l1 y1 z1
 obtain ⟨rfl, Nq1, eq1⟩ := hQ1
 have N1 := Fr.app N0 Nq1
 refine Go.tr st1 ?_
 show Go _ _ _ _ _ _ _ (T1.setTop (mkF m 4 #[.val (.ref ob)] [(.int 1)]))
 refine Go.st (fun _ => XS.ifYes X1.here hx rfl (pc0 := 4) (pc' := 17) rfl (hb hby d24_4) rfl (XT.i0_ne_t (by decide)) (by decide) (by decide)) ?_
 refine Go.st (fun _ => XS.aloadN X1.here hx rfl (hb hby d24_17) rfl rfl) ?_
 obtain ⟨T2, X2, e2, st2⟩ := getF X1 hx hZ hown (host := "") (Or.inl (wdx hw 124 rfl)) Via.refl eq1 Fa (g := (mkF m 18 #[.val (.ref ob)] [(.ref ob)])) rfl rfl (hb hby d24_18)
 refine Go.st st2 ?_
 refine Go.st (fun _ => XS.aloadN X2.here hx rfl (hb hby d24_21) rfl rfl) ?_
 obtain ⟨T3, X3, e3, st3⟩ := getF X2 hx hZ hown (host := "") (Or.inl (wdx hw 131 rfl)) Via.refl e2 Fn (g := (mkF m 22 #[.val (.ref ob)] [(.ref ob), (.ref na)])) rfl rfl (hb hby d24_22)
 refine Go.st st3 ?_
 show Go _ _ _ _ _ _ _ (T3.setTop (mkF m 25 #[.val (.ref ob)] [(.int 1), (.ref na)]))
 obtain ⟨cl4, Ar4, qc4, Sz4, Nn4, Ha4, Gf4⟩ := id Va
 refine Go.st (fun _ => X3.aaload hx (j := (1 : Int32)) (v := (.ref sb)) (by rw [e3]; exact Ar4.1) (State.isArrayOf_alike hZ.alike Ar4.2.1) rfl Ar4.2.2 (inb_of Sz4 ⟨by decide, by decide⟩) (Ha4.at (inb_of Sz4 ⟨by decide, by decide⟩) rfl) (g := (mkF m 25 #[.val (.ref ob)] [(.int 1), (.ref na)])) rfl rfl (hb hby d24_25) _) ?_
 show Go _ _ _ _ _ _ _ (T3.setTop (mkF m 26 #[.val (.ref ob)] [(.ref sb)]))
 refine Go.ret X3 hx hlk (t := (.object "java/lang/String")) Bd.returns rfl (Or.inr (Or.inr (Or.inr (Or.inr ⟨rfl, rfl, rfl⟩)))) (hb hby d24_26) (by decide) (by decide) e3 ?_
 exact ⟨rfl, N1, rfl⟩
theorem ef_rm23_3_1 (m : MethodId) (ob : Addr) : entryFrame m #[(.ref ob)] 2 = mkF m 0 #[.val (.ref ob), .unset] [] := by first | (simp [entryFrame, mkF, argsToLocals, Value.category]; done) | rfl
def Q23_3_1 (Z : State) (ob : Addr) (na : Addr) (kn : ClassId) (sa : Addr) (sb : Addr) (sc : Addr) (h0 : Heap) (n0 : Nat) (v : Option Value) (h : Heap) (L : List Loc) : Prop := v = some (.ref sb) ∧ Fr n0 L ∧ Keep h0 h [ob] ∧ Fld Z h ob "com/example/reportwire/reportwire/Arguments" "args" "[Ljava/lang/String;" (.ref na) ∧ Fld Z h ob "com/example/reportwire/reportwire/Arguments" "next" "I" (.int 2)
set_option maxRecDepth 65536 in
set_option maxHeartbeats 40000000 in
theorem rm23_3_1 (l : Launch) (Z : State) (a0 : Array Value) (hw : ∀ d ∈ tables_1, d.before a0 Z = true) (ws : List Jvm.Cond) (ob : Addr) (na : Addr) (kn : ClassId) (sa : Addr) (sb : Addr) (sc : Addr) (h0 : Heap) (n0 : Nat) (O0 : Old Z n0 h0) (E_o : Exa Z h0 ob "com/example/reportwire/reportwire/Arguments") (Fa : Fld Z h0 ob "com/example/reportwire/reportwire/Arguments" "args" "[Ljava/lang/String;" (.ref na)) (Fn : Fld Z h0 ob "com/example/reportwire/reportwire/Arguments" "next" "I" (.int 1)) (Va : Arv Z h0 na kn (.object "java/lang/String") (3 : Int32) [(.ref sa), (.ref sb), (.ref sc)] .null) (g_o : n0 ≤ ob) (ne_on : ob ≠ na) :
  MetFree l mn2 (head1 (Jvm.Cond.code mn2 prog_7_method_10_code 2 (some (.object "java/lang/String")) :: ws) ({ frames := 2, cells := 0, slots := 0, locals := 24 } : Room)) (fun ay U => ay = #[(.ref ob)] ∧ Z.Warmed39 U.vm ∧ U.heap = h0) (fun _ _ _ _ _ => True) (fun _ U o U' => ∃ v L, o = .returned v ∧ Q23_3_1 Z ob na kn sa sb sc h0 n0 v U'.heap L ∧ FrameEnd U o U' L ({ frames := 2, cells := 0, slots := 0, locals := 24 } : Room).cells ({ frames := 2, cells := 0, slots := 0, locals := 24 } : Room).slots) := by
 refine MetFree.of_bodySF (plainFor_of_name pn_com_example_reportwire_reportwire_Arguments) hisR ?_
 intro p e s m args below meth c s₁ Bd hml0 hP hK
 obtain ⟨rfl, hZ, hh⟩ := hP
 have hx := Bd.exec
 have hby := Bd.bytes
 have hlk : meth.locks = false := BodyLoose.notSynchronized Bd
 have hml : c.maxLocals = 2 := hml0
 have hown : s.vm.findClass "com/example/reportwire/reportwire/Arguments" = some m.cls := findClass_of_methodNamed Bd.named
 have hnm := (name_of_methodNamed Bd.named Bd.method).1
 have X0 : Stand p l e ({ frames := 2, cells := 0, slots := 0, locals := 24 } : Room) s m #[(.ref ob)] below meth c s₁ [] 0 0 := Stand.of_body Bd
 have e0 : s₁.heap = h0 := by rw [← hh, Bd.state]; rfl
 have N0 := Fr.nil n0
 suffices hgo : Go p e below s 0 0 (Q23_3_1 Z ob na kn sa sb sc h0 n0) (s₁.setTop (mkF m 0 #[.val (.ref ob), .unset] [])) by
  obtain ⟨t, o, h1, h2⟩ := hgo; exact ⟨t, o, castTop (ef_rm23_3_1 m ob) h1, h2⟩
 show Go _ _ _ _ _ _ _ (s₁.setTop (mkF m 0 #[.val (.ref ob), .unset] []))
 refine Go.st (fun _ => XS.aloadN X0.here hx rfl (hb hby d23_0) rfl rfl) ?_
 show Go _ _ _ _ _ _ _ (s₁.setTop (mkF m 1 #[.val (.ref ob), .unset] [(.ref ob)]))
 obtain ⟨cq1, kq1, q1a, q1b, q1c⟩ := isOf hZ e0 E_o
 obtain ⟨_, _, ⟨T1, L1, k1, n1⟩, -, X1, ⟨Lc1, hQ1, l1, y1, z1⟩, st1⟩ := X0.virtualBack hx (y := mn7) (z := mn7) hown (mvT hZ (wdx hw 148 rfl)) (mvT hZ (wdx hw 149 rfl)) (notFace_of_selects (args := #[]) (mvT hZ (wdx hw 151 rfl))) (mvT hZ (wdx hw 151 rfl)) (mvT hZ (wdx hw 150 rfl)) (by decide) (backOf (W := 0) (rm24_3_1 l Z a0 hw [] ob na kn sa sb sc h0 n0 O0 E_o Fa Fn Va) hZ (wdx hw 152 rfl) (wdx hw 70 rfl) (by decide) (by decide)) q1a q1c (g := (mkF m 1 #[.val (.ref ob), .unset] [(.ref ob)])) rfl (by rw [hml]; rfl) (Steps.refl _) (argsL := []) (rest := []) (lenOf pd___Ljava_lang_String_ rfl) rfl (by show 2 * 0 + _ ≤ _; exact Nat.le_of_eq rfl) (hb hby d23_1) (fun _ _ => ⟨rfl, e0, (by exact lee rfl), (by exact lee rfl)⟩)
 dsimp only [Pt.U, Pt.locs, Pt.cells, Pt.slots] at X1 l1 y1 z1 st1 hQ1
 subst l1 y1 z1
 obtain ⟨rfl, Nq1, eq1⟩ := hQ1
 have N1 := Fr.app N0 Nq1
 refine Go.tr st1 ?_
 show Go _ _ _ _ _ _ _ (T1.setTop (mkF m 4 #[.val (.ref ob), .unset] [(.ref sb)]))
 refine Go.st (fun _ => XS.astoreN X1.here hx rfl (hb hby d23_4) rfl rfl (l' := #[.val (.ref ob), .val (.ref sb)]) rfl) ?_
 refine Go.st (fun _ => XS.aloadN X1.here hx rfl (hb hby d23_5) rfl rfl) ?_
 refine Go.st (fun _ => XS.dup X1.here hx rfl (hb hby d23_6) rfl rfl) ?_
 obtain ⟨T2, X2, e2, st2⟩ := getF X1 hx hZ hown (host := "") (Or.inl (wdx hw 131 rfl)) Via.refl eq1 Fn (g := (mkF m 7 #[.val (.ref ob), .val (.ref sb)] [(.ref ob), (.ref ob)])) rfl rfl (hb hby d23_7)
 refine Go.st st2 ?_
 refine Go.st (fun _ => XS.iconst X2.here hx rfl (hb hby d23_10)) ?_
 refine Go.st (fun _ => XS.iadd X2.here hx rfl (hb hby d23_11) rfl) ?_
 obtain ⟨T3, h3, X3, e3, W3, st3⟩ := putF X2 hx hZ hown (host := "") (Or.inl (wdx hw 131 rfl)) Via.refl e2 Fn E_o (Or.inl (wdx hw 132 rfl)) (wdx hw 69 rfl) (ty := .int) (by decide) rfl rfl (g := (mkF m 12 #[.val (.ref ob), .val (.ref sb)] [(.int 2), (.ref ob)])) rfl rfl (hb hby d23_12)
 refine Go.st st3 ?_
 have f4 := E_o.wr W3
 have f5 := Fa.other W3 (Or.inr (slot_ne (Or.inr (wdx hw 125 rfl)) (Or.inl (wdx hw 132 rfl)) (by decide) (t := (.array (.object "java/lang/String"))) (t' := .int) (by decide) (by decide)))
 have f6 := Fn.same W3
 have f7 := Va.other W3 (Ne.symm ne_on)
 have O3 := O0.wr W3 g_o
 have N3 := Fr.snoc X3 N1 g_o
 have K3 : Keep h0 h3 [ob] := (Keep.refl h0 [ob]).wr W3 (Or.inl (by simp))
 refine Go.st (fun _ => XS.aloadN X3.here hx rfl (hb hby d23_15) rfl rfl) ?_
 show Go _ _ _ _ _ _ _ (T3.setTop (mkF m 16 #[.val (.ref ob), .val (.ref sb)] [(.ref sb)]))
 refine Go.ret X3 hx hlk (t := (.object "java/lang/String")) Bd.returns rfl (Or.inr (Or.inr (Or.inr (Or.inr ⟨rfl, rfl, rfl⟩)))) (hb hby d23_16) (by decide) (by decide) e3 ?_
 exact ⟨rfl, N3, K3, f5, f6⟩
theorem ef_rm25_3_2 (m : MethodId) (ob : Addr) : entryFrame m #[(.ref ob)] 1 = mkF m 0 #[.val (.ref ob)] [] := by first | (simp [entryFrame, mkF, argsToLocals, Value.category]; done) | rfl
def Q25_3_2 (Z : State) (ob : Addr) (na : Addr) (kn : ClassId) (sa : Addr) (sb : Addr) (sc : Addr) (h0 : Heap) (n0 : Nat) (v : Option Value) (h : Heap) (L : List Loc) : Prop := v = some (.int 1) ∧ Fr n0 L ∧ h = h0
set_option maxRecDepth 65536 in
set_option maxHeartbeats 40000000 in
theorem rm25_3_2 (l : Launch) (Z : State) (a0 : Array Value) (hw : ∀ d ∈ tables_1, d.before a0 Z = true) (ws : List Jvm.Cond) (ob : Addr) (na : Addr) (kn : ClassId) (sa : Addr) (sb : Addr) (sc : Addr) (h0 : Heap) (n0 : Nat) (O0 : Old Z n0 h0) (Fa : Fld Z h0 ob "com/example/reportwire/reportwire/Arguments" "args" "[Ljava/lang/String;" (.ref na)) (Fn : Fld Z h0 ob "com/example/reportwire/reportwire/Arguments" "next" "I" (.int 2)) (Va : Arv Z h0 na kn (.object "java/lang/String") (3 : Int32) [(.ref sa), (.ref sb), (.ref sc)] .null) :
  MetFree l mn1 (head1 (Jvm.Cond.code mn1 prog_7_method_7_code 1 (some .boolean) :: ws) ({ frames := 0, cells := 0, slots := 0, locals := 0 } : Room)) (fun ay U => ay = #[(.ref ob)] ∧ Z.Warmed39 U.vm ∧ U.heap = h0) (fun _ _ _ _ _ => True) (fun _ U o U' => ∃ v L, o = .returned v ∧ Q25_3_2 Z ob na kn sa sb sc h0 n0 v U'.heap L ∧ FrameEnd U o U' L ({ frames := 0, cells := 0, slots := 0, locals := 0 } : Room).cells ({ frames := 0, cells := 0, slots := 0, locals := 0 } : Room).slots) := by
 refine MetFree.of_bodySF (plainFor_of_name pn_com_example_reportwire_reportwire_Arguments) hisR ?_
 intro p e s m args below meth c s₁ Bd hml0 hP hK
 obtain ⟨rfl, hZ, hh⟩ := hP
 have hx := Bd.exec
 have hby := Bd.bytes
 have hlk : meth.locks = false := BodyLoose.notSynchronized Bd
 have hml : c.maxLocals = 1 := hml0
 have hown : s.vm.findClass "com/example/reportwire/reportwire/Arguments" = some m.cls := findClass_of_methodNamed Bd.named
 have hnm := (name_of_methodNamed Bd.named Bd.method).1
 have X0 : Stand p l e ({ frames := 0, cells := 0, slots := 0, locals := 0 } : Room) s m #[(.ref ob)] below meth c s₁ [] 0 0 := Stand.of_body Bd
 have e0 : s₁.heap = h0 := by rw [← hh, Bd.state]; rfl
 have N0 := Fr.nil n0
 suffices hgo : Go p e below s 0 0 (Q25_3_2 Z ob na kn sa sb sc h0 n0) (s₁.setTop (mkF m 0 #[.val (.ref ob)] [])) by
  obtain ⟨t, o, h1, h2⟩ := hgo; exact ⟨t, o, castTop (ef_rm25_3_2 m ob) h1, h2⟩
 show Go _ _ _ _ _ _ _ (s₁.setTop (mkF m 0 #[.val (.ref ob)] []))
 refine Go.st (fun _ => XS.aloadN X0.here hx rfl (hb hby d25_0) rfl rfl) ?_
 obtain ⟨T1, X1, e1, st1⟩ := getF X0 hx hZ hown (host := "") (Or.inl (wdx hw 131 rfl)) Via.refl e0 Fn (g := (mkF m 1 #[.val (.ref ob)] [(.ref ob)])) rfl rfl (hb hby d25_1)
 refine Go.st st1 ?_
 refine Go.st (fun _ => XS.aloadN X1.here hx rfl (hb hby d25_4) rfl rfl) ?_
 obtain ⟨T2, X2, e2, st2⟩ := getF X1 hx hZ hown (host := "") (Or.inl (wdx hw 124 rfl)) Via.refl e1 Fa (g := (mkF m 5 #[.val (.ref ob)] [(.ref ob), (.int 2)])) rfl rfl (hb hby d25_5)
 refine Go.st st2 ?_
 show Go _ _ _ _ _ _ _ (T2.setTop (mkF m 8 #[.val (.ref ob)] [(.ref na), (.int 2)]))
 obtain ⟨cl3, Ar3, qc3, Sz3, Nn3, Ha3, Gf3⟩ := id Va
 refine Go.st (fun _ => X2.arraylength hx (by rw [e2]; exact Ar3.1) (State.isArrayOf_alike hZ.alike Ar3.2.1) (g := (mkF m 8 #[.val (.ref ob)] [(.ref na), (.int 2)])) rfl rfl (hb hby d25_8) _) ?_
 rw [len_of Sz3 Nn3]
 show Go _ _ _ _ _ _ _ (T2.setTop (mkF m 9 #[.val (.ref ob)] [(.int 3), (.int 2)]))
 refine Go.st (fun _ => XS.icmpNo X2.here hx rfl (hb hby d25_9) rfl (XT.ii_ge_f (by decide))) ?_
 refine Go.st (fun _ => XS.iconst X2.here hx rfl (hb hby d25_12)) ?_
 show Go _ _ _ _ _ _ _ (T2.setTop (mkF m 13 #[.val (.ref ob)] [(.int 1)]))
 refine Go.st (fun _ => XS.goto X2.here hx rfl (pc0 := 13) (pc' := 17) rfl (hb hby d25_13) (by decide) (by decide)) ?_
 show Go _ _ _ _ _ _ _ (T2.setTop (mkF m 17 #[.val (.ref ob)] [(.int 1)]))
 refine Go.retB X2 hx hlk (t := .boolean) Bd.returns (by simp) (hb hby d25_17) (by decide) (by decide) e2 ?_
 exact ⟨rfl, N0, rfl⟩
theorem ef_rm24_3_2 (m : MethodId) (ob : Addr) : entryFrame m #[(.ref ob)] 1 = mkF m 0 #[.val (.ref ob)] [] := by first | (simp [entryFrame, mkF, argsToLocals, Value.category]; done) | rfl
def Q24_3_2 (Z : State) (ob : Addr) (na : Addr) (kn : ClassId) (sa : Addr) (sb : Addr) (sc : Addr) (h0 : Heap) (n0 : Nat) (v : Option Value) (h : Heap) (L : List Loc) : Prop := v = some (.ref sc) ∧ Fr n0 L ∧ h = h0
set_option maxRecDepth 65536 in
set_option maxHeartbeats 40000000 in
theorem rm24_3_2 (l : Launch) (Z : State) (a0 : Array Value) (hw : ∀ d ∈ tables_1, d.before a0 Z = true) (ws : List Jvm.Cond) (ob : Addr) (na : Addr) (kn : ClassId) (sa : Addr) (sb : Addr) (sc : Addr) (h0 : Heap) (n0 : Nat) (O0 : Old Z n0 h0) (E_o : Exa Z h0 ob "com/example/reportwire/reportwire/Arguments") (Fa : Fld Z h0 ob "com/example/reportwire/reportwire/Arguments" "args" "[Ljava/lang/String;" (.ref na)) (Fn : Fld Z h0 ob "com/example/reportwire/reportwire/Arguments" "next" "I" (.int 2)) (Va : Arv Z h0 na kn (.object "java/lang/String") (3 : Int32) [(.ref sa), (.ref sb), (.ref sc)] .null) :
  MetFree l mn7 (head1 (Jvm.Cond.code mn7 prog_7_method_9_code 1 (some (.object "java/lang/String")) :: ws) ({ frames := 1, cells := 0, slots := 0, locals := 12 } : Room)) (fun ay U => ay = #[(.ref ob)] ∧ Z.Warmed39 U.vm ∧ U.heap = h0) (fun _ _ _ _ _ => True) (fun _ U o U' => ∃ v L, o = .returned v ∧ Q24_3_2 Z ob na kn sa sb sc h0 n0 v U'.heap L ∧ FrameEnd U o U' L ({ frames := 1, cells := 0, slots := 0, locals := 12 } : Room).cells ({ frames := 1, cells := 0, slots := 0, locals := 12 } : Room).slots) := by
 refine MetFree.of_bodySF (plainFor_of_name pn_com_example_reportwire_reportwire_Arguments) hisR ?_
 intro p e s m args below meth c s₁ Bd hml0 hP hK
 obtain ⟨rfl, hZ, hh⟩ := hP
 have hx := Bd.exec
 have hby := Bd.bytes
 have hlk : meth.locks = false := BodyLoose.notSynchronized Bd
 have hml : c.maxLocals = 1 := hml0
 have hown : s.vm.findClass "com/example/reportwire/reportwire/Arguments" = some m.cls := findClass_of_methodNamed Bd.named
 have hnm := (name_of_methodNamed Bd.named Bd.method).1
 have X0 : Stand p l e ({ frames := 1, cells := 0, slots := 0, locals := 12 } : Room) s m #[(.ref ob)] below meth c s₁ [] 0 0 := Stand.of_body Bd
 have e0 : s₁.heap = h0 := by rw [← hh, Bd.state]; rfl
 have N0 := Fr.nil n0
 suffices hgo : Go p e below s 0 0 (Q24_3_2 Z ob na kn sa sb sc h0 n0) (s₁.setTop (mkF m 0 #[.val (.ref ob)] [])) by
  obtain ⟨t, o, h1, h2⟩ := hgo; exact ⟨t, o, castTop (ef_rm24_3_2 m ob) h1, h2⟩
 show Go _ _ _ _ _ _ _ (s₁.setTop (mkF m 0 #[.val (.ref ob)] []))
 refine Go.st (fun _ => XS.aloadN X0.here hx rfl (hb hby d24_0) rfl rfl) ?_
 show Go _ _ _ _ _ _ _ (s₁.setTop (mkF m 1 #[.val (.ref ob)] [(.ref ob)]))
 obtain ⟨cq1, kq1, q1a, q1b, q1c⟩ := isOf hZ e0 E_o
 obtain ⟨_, _, ⟨T1, L1, k1, n1⟩, -, X1, ⟨Lc1, hQ1, l1, y1, z1⟩, st1⟩ := X0.virtualBack hx (y := mn1) (z := mn1) hown (mvT hZ (wdx hw 153 rfl)) (mvT hZ (wdx hw 154 rfl)) (notFace_of_selects (args := #[]) (mvT hZ (wdx hw 156 rfl))) (mvT hZ (wdx hw 156 rfl)) (mvT hZ (wdx hw 155 rfl)) (by decide) (backOf (W := 0) (rm25_3_2 l Z a0 hw [] ob na kn sa sb sc h0 n0 O0 Fa Fn Va) hZ (wdx hw 157 rfl) (wdx hw 70 rfl) (by decide) (by decide)) q1a q1c (g := (mkF m 1 #[.val (.ref ob)] [(.ref ob)])) rfl (by rw [hml]; rfl) (Steps.refl _) (argsL := []) (rest := []) (lenOf pd___Z rfl) rfl (by show 2 * 0 + _ ≤ _; exact Nat.le_of_eq rfl) (hb hby d24_1) (fun _ _ => ⟨rfl, e0, (by exact lee rfl), (by exact lee rfl)⟩)
 dsimp only [Pt.U, Pt.locs, Pt.cells, Pt.slots] at X1 l1 y1 z1 st1 hQ1
 subst l1 y1 z1
 obtain ⟨rfl, Nq1, eq1⟩ := hQ1
 have N1 := Fr.app N0 Nq1
 refine Go.tr st1 ?_
 show Go _ _ _ _ _ _ _ (T1.setTop (mkF m 4 #[.val (.ref ob)] [(.int 1)]))
 refine Go.st (fun _ => XS.ifYes X1.here hx rfl (pc0 := 4) (pc' := 17) rfl (hb hby d24_4) rfl (XT.i0_ne_t (by decide)) (by decide) (by decide)) ?_
 refine Go.st (fun _ => XS.aloadN X1.here hx rfl (hb hby d24_17) rfl rfl) ?_
 obtain ⟨T2, X2, e2, st2⟩ := getF X1 hx hZ hown (host := "") (Or.inl (wdx hw 124 rfl)) Via.refl eq1 Fa (g := (mkF m 18 #[.val (.ref ob)] [(.ref ob)])) rfl rfl (hb hby d24_18)
 refine Go.st st2 ?_
 refine Go.st (fun _ => XS.aloadN X2.here hx rfl (hb hby d24_21) rfl rfl) ?_
 obtain ⟨T3, X3, e3, st3⟩ := getF X2 hx hZ hown (host := "") (Or.inl (wdx hw 131 rfl)) Via.refl e2 Fn (g := (mkF m 22 #[.val (.ref ob)] [(.ref ob), (.ref na)])) rfl rfl (hb hby d24_22)
 refine Go.st st3 ?_
 show Go _ _ _ _ _ _ _ (T3.setTop (mkF m 25 #[.val (.ref ob)] [(.int 2), (.ref na)]))
 obtain ⟨cl4, Ar4, qc4, Sz4, Nn4, Ha4, Gf4⟩ := id Va
 refine Go.st (fun _ => X3.aaload hx (j := (2 : Int32)) (v := (.ref sc)) (by rw [e3]; exact Ar4.1) (State.isArrayOf_alike hZ.alike Ar4.2.1) rfl Ar4.2.2 (inb_of Sz4 ⟨by decide, by decide⟩) (Ha4.at (inb_of Sz4 ⟨by decide, by decide⟩) rfl) (g := (mkF m 25 #[.val (.ref ob)] [(.int 2), (.ref na)])) rfl rfl (hb hby d24_25) _) ?_
 show Go _ _ _ _ _ _ _ (T3.setTop (mkF m 26 #[.val (.ref ob)] [(.ref sc)]))
 refine Go.ret X3 hx hlk (t := (.object "java/lang/String")) Bd.returns rfl (Or.inr (Or.inr (Or.inr (Or.inr ⟨rfl, rfl, rfl⟩)))) (hb hby d24_26) (by decide) (by decide) e3 ?_
 exact ⟨rfl, N1, rfl⟩
theorem ef_rm23_3_2 (m : MethodId) (ob : Addr) : entryFrame m #[(.ref ob)] 2 = mkF m 0 #[.val (.ref ob), .unset] [] := by first | (simp [entryFrame, mkF, argsToLocals, Value.category]; done) | rfl
def Q23_3_2 (Z : State) (ob : Addr) (na : Addr) (kn : ClassId) (sa : Addr) (sb : Addr) (sc : Addr) (h0 : Heap) (n0 : Nat) (v : Option Value) (h : Heap) (L : List Loc) : Prop := v = some (.ref sc) ∧ Fr n0 L ∧ Keep h0 h [ob] ∧ Fld Z h ob "com/example/reportwire/reportwire/Arguments" "args" "[Ljava/lang/String;" (.ref na) ∧ Fld Z h ob "com/example/reportwire/reportwire/Arguments" "next" "I" (.int 3)
set_option maxRecDepth 65536 in
set_option maxHeartbeats 40000000 in
theorem rm23_3_2 (l : Launch) (Z : State) (a0 : Array Value) (hw : ∀ d ∈ tables_1, d.before a0 Z = true) (ws : List Jvm.Cond) (ob : Addr) (na : Addr) (kn : ClassId) (sa : Addr) (sb : Addr) (sc : Addr) (h0 : Heap) (n0 : Nat) (O0 : Old Z n0 h0) (E_o : Exa Z h0 ob "com/example/reportwire/reportwire/Arguments") (Fa : Fld Z h0 ob "com/example/reportwire/reportwire/Arguments" "args" "[Ljava/lang/String;" (.ref na)) (Fn : Fld Z h0 ob "com/example/reportwire/reportwire/Arguments" "next" "I" (.int 2)) (Va : Arv Z h0 na kn (.object "java/lang/String") (3 : Int32) [(.ref sa), (.ref sb), (.ref sc)] .null) (g_o : n0 ≤ ob) (ne_on : ob ≠ na) :
  MetFree l mn2 (head1 (Jvm.Cond.code mn2 prog_7_method_10_code 2 (some (.object "java/lang/String")) :: ws) ({ frames := 2, cells := 0, slots := 0, locals := 24 } : Room)) (fun ay U => ay = #[(.ref ob)] ∧ Z.Warmed39 U.vm ∧ U.heap = h0) (fun _ _ _ _ _ => True) (fun _ U o U' => ∃ v L, o = .returned v ∧ Q23_3_2 Z ob na kn sa sb sc h0 n0 v U'.heap L ∧ FrameEnd U o U' L ({ frames := 2, cells := 0, slots := 0, locals := 24 } : Room).cells ({ frames := 2, cells := 0, slots := 0, locals := 24 } : Room).slots) := by
 refine MetFree.of_bodySF (plainFor_of_name pn_com_example_reportwire_reportwire_Arguments) hisR ?_
 intro p e s m args below meth c s₁ Bd hml0 hP hK
 obtain ⟨rfl, hZ, hh⟩ := hP
 have hx := Bd.exec
 have hby := Bd.bytes
 have hlk : meth.locks = false := BodyLoose.notSynchronized Bd
 have hml : c.maxLocals = 2 := hml0
 have hown : s.vm.findClass "com/example/reportwire/reportwire/Arguments" = some m.cls := findClass_of_methodNamed Bd.named
 have hnm := (name_of_methodNamed Bd.named Bd.method).1
 have X0 : Stand p l e ({ frames := 2, cells := 0, slots := 0, locals := 24 } : Room) s m #[(.ref ob)] below meth c s₁ [] 0 0 := Stand.of_body Bd
 have e0 : s₁.heap = h0 := by rw [← hh, Bd.state]; rfl
 have N0 := Fr.nil n0
 suffices hgo : Go p e below s 0 0 (Q23_3_2 Z ob na kn sa sb sc h0 n0) (s₁.setTop (mkF m 0 #[.val (.ref ob), .unset] [])) by
  obtain ⟨t, o, h1, h2⟩ := hgo; exact ⟨t, o, castTop (ef_rm23_3_2 m ob) h1, h2⟩
 show Go _ _ _ _ _ _ _ (s₁.setTop (mkF m 0 #[.val (.ref ob), .unset] []))
 refine Go.st (fun _ => XS.aloadN X0.here hx rfl (hb hby d23_0) rfl rfl) ?_
 show Go _ _ _ _ _ _ _ (s₁.setTop (mkF m 1 #[.val (.ref ob), .unset] [(.ref ob)]))
 obtain ⟨cq1, kq1, q1a, q1b, q1c⟩ := isOf hZ e0 E_o
 obtain ⟨_, _, ⟨T1, L1, k1, n1⟩, -, X1, ⟨Lc1, hQ1, l1, y1, z1⟩, st1⟩ := X0.virtualBack hx (y := mn7) (z := mn7) hown (mvT hZ (wdx hw 148 rfl)) (mvT hZ (wdx hw 149 rfl)) (notFace_of_selects (args := #[]) (mvT hZ (wdx hw 151 rfl))) (mvT hZ (wdx hw 151 rfl)) (mvT hZ (wdx hw 150 rfl)) (by decide) (backOf (W := 0) (rm24_3_2 l Z a0 hw [] ob na kn sa sb sc h0 n0 O0 E_o Fa Fn Va) hZ (wdx hw 152 rfl) (wdx hw 70 rfl) (by decide) (by decide)) q1a q1c (g := (mkF m 1 #[.val (.ref ob), .unset] [(.ref ob)])) rfl (by rw [hml]; rfl) (Steps.refl _) (argsL := []) (rest := []) (lenOf pd___Ljava_lang_String_ rfl) rfl (by show 2 * 0 + _ ≤ _; exact Nat.le_of_eq rfl) (hb hby d23_1) (fun _ _ => ⟨rfl, e0, (by exact lee rfl), (by exact lee rfl)⟩)
 dsimp only [Pt.U, Pt.locs, Pt.cells, Pt.slots] at X1 l1 y1 z1 st1 hQ1
 subst l1 y1 z1
 obtain ⟨rfl, Nq1, eq1⟩ := hQ1
 have N1 := Fr.app N0 Nq1
 refine Go.tr st1 ?_
 show Go _ _ _ _ _ _ _ (T1.setTop (mkF m 4 #[.val (.ref ob), .unset] [(.ref sc)]))
 refine Go.st (fun _ => XS.astoreN X1.here hx rfl (hb hby d23_4) rfl rfl (l' := #[.val (.ref ob), .val (.ref sc)]) rfl) ?_
 refine Go.st (fun _ => XS.aloadN X1.here hx rfl (hb hby d23_5) rfl rfl) ?_
 refine Go.st (fun _ => XS.dup X1.here hx rfl (hb hby d23_6) rfl rfl) ?_
 obtain ⟨T2, X2, e2, st2⟩ := getF X1 hx hZ hown (host := "") (Or.inl (wdx hw 131 rfl)) Via.refl eq1 Fn (g := (mkF m 7 #[.val (.ref ob), .val (.ref sc)] [(.ref ob), (.ref ob)])) rfl rfl (hb hby d23_7)
 refine Go.st st2 ?_
 refine Go.st (fun _ => XS.iconst X2.here hx rfl (hb hby d23_10)) ?_
 refine Go.st (fun _ => XS.iadd X2.here hx rfl (hb hby d23_11) rfl) ?_
 obtain ⟨T3, h3, X3, e3, W3, st3⟩ := putF X2 hx hZ hown (host := "") (Or.inl (wdx hw 131 rfl)) Via.refl e2 Fn E_o (Or.inl (wdx hw 132 rfl)) (wdx hw 69 rfl) (ty := .int) (by decide) rfl rfl (g := (mkF m 12 #[.val (.ref ob), .val (.ref sc)] [(.int 3), (.ref ob)])) rfl rfl (hb hby d23_12)
 refine Go.st st3 ?_
 have f4 := E_o.wr W3
 have f5 := Fa.other W3 (Or.inr (slot_ne (Or.inr (wdx hw 125 rfl)) (Or.inl (wdx hw 132 rfl)) (by decide) (t := (.array (.object "java/lang/String"))) (t' := .int) (by decide) (by decide)))
 have f6 := Fn.same W3
 have f7 := Va.other W3 (Ne.symm ne_on)
 have O3 := O0.wr W3 g_o
 have N3 := Fr.snoc X3 N1 g_o
 have K3 : Keep h0 h3 [ob] := (Keep.refl h0 [ob]).wr W3 (Or.inl (by simp))
 refine Go.st (fun _ => XS.aloadN X3.here hx rfl (hb hby d23_15) rfl rfl) ?_
 show Go _ _ _ _ _ _ _ (T3.setTop (mkF m 16 #[.val (.ref ob), .val (.ref sc)] [(.ref sc)]))
 refine Go.ret X3 hx hlk (t := (.object "java/lang/String")) Bd.returns rfl (Or.inr (Or.inr (Or.inr (Or.inr ⟨rfl, rfl, rfl⟩)))) (hb hby d23_16) (by decide) (by decide) e3 ?_
 exact ⟨rfl, N3, K3, f5, f6⟩
theorem d25_16 : decode prog_7_method_7_code 16 = .ok (.iconst 0, 1) := by decide +kernel
theorem ef_rm25_3_3 (m : MethodId) (ob : Addr) : entryFrame m #[(.ref ob)] 1 = mkF m 0 #[.val (.ref ob)] [] := by first | (simp [entryFrame, mkF, argsToLocals, Value.category]; done) | rfl
def Q25_3_3 (Z : State) (ob : Addr) (na : Addr) (kn : ClassId) (sa : Addr) (sb : Addr) (sc : Addr) (h0 : Heap) (n0 : Nat) (v : Option Value) (h : Heap) (L : List Loc) : Prop := v = some (.int 0) ∧ Fr n0 L ∧ h = h0
set_option maxRecDepth 65536 in
set_option maxHeartbeats 40000000 in
theorem rm25_3_3 (l : Launch) (Z : State) (a0 : Array Value) (hw : ∀ d ∈ tables_1, d.before a0 Z = true) (ws : List Jvm.Cond) (ob : Addr) (na : Addr) (kn : ClassId) (sa : Addr) (sb : Addr) (sc : Addr) (h0 : Heap) (n0 : Nat) (O0 : Old Z n0 h0) (Fa : Fld Z h0 ob "com/example/reportwire/reportwire/Arguments" "args" "[Ljava/lang/String;" (.ref na)) (Fn : Fld Z h0 ob "com/example/reportwire/reportwire/Arguments" "next" "I" (.int 3)) (Va : Arv Z h0 na kn (.object "java/lang/String") (3 : Int32) [(.ref sa), (.ref sb), (.ref sc)] .null) :
  MetFree l mn1 (head1 (Jvm.Cond.code mn1 prog_7_method_7_code 1 (some .boolean) :: ws) ({ frames := 0, cells := 0, slots := 0, locals := 0 } : Room)) (fun ay U => ay = #[(.ref ob)] ∧ Z.Warmed39 U.vm ∧ U.heap = h0) (fun _ _ _ _ _ => True) (fun _ U o U' => ∃ v L, o = .returned v ∧ Q25_3_3 Z ob na kn sa sb sc h0 n0 v U'.heap L ∧ FrameEnd U o U' L ({ frames := 0, cells := 0, slots := 0, locals := 0 } : Room).cells ({ frames := 0, cells := 0, slots := 0, locals := 0 } : Room).slots) := by
 refine MetFree.of_bodySF (plainFor_of_name pn_com_example_reportwire_reportwire_Arguments) hisR ?_
 intro p e s m args below meth c s₁ Bd hml0 hP hK
 obtain ⟨rfl, hZ, hh⟩ := hP
 have hx := Bd.exec
 have hby := Bd.bytes
 have hlk : meth.locks = false := BodyLoose.notSynchronized Bd
 have hml : c.maxLocals = 1 := hml0
 have hown : s.vm.findClass "com/example/reportwire/reportwire/Arguments" = some m.cls := findClass_of_methodNamed Bd.named
 have hnm := (name_of_methodNamed Bd.named Bd.method).1
 have X0 : Stand p l e ({ frames := 0, cells := 0, slots := 0, locals := 0 } : Room) s m #[(.ref ob)] below meth c s₁ [] 0 0 := Stand.of_body Bd
 have e0 : s₁.heap = h0 := by rw [← hh, Bd.state]; rfl
 have N0 := Fr.nil n0
 suffices hgo : Go p e below s 0 0 (Q25_3_3 Z ob na kn sa sb sc h0 n0) (s₁.setTop (mkF m 0 #[.val (.ref ob)] [])) by
  obtain ⟨t, o, h1, h2⟩ := hgo; exact ⟨t, o, castTop (ef_rm25_3_3 m ob) h1, h2⟩
 show Go _ _ _ _ _ _ _ (s₁.setTop (mkF m 0 #[.val (.ref ob)] []))
 refine Go.st (fun _ => XS.aloadN X0.here hx rfl (hb hby d25_0) rfl rfl) ?_
 obtain ⟨T1, X1, e1, st1⟩ := getF X0 hx hZ hown (host := "") (Or.inl (wdx hw 131 rfl)) Via.refl e0 Fn (g := (mkF m 1 #[.val (.ref ob)] [(.ref ob)])) rfl rfl (hb hby d25_1)
 refine Go.st st1 ?_
 refine Go.st (fun _ => XS.aloadN X1.here hx rfl (hb hby d25_4) rfl rfl) ?_
 obtain ⟨T2, X2, e2, st2⟩ := getF X1 hx hZ hown (host := "") (Or.inl (wdx hw 124 rfl)) Via.refl e1 Fa (g := (mkF m 5 #[.val (.ref ob)] [(.ref ob), (.int 3)])) rfl rfl (hb hby d25_5)
 refine Go.st st2 ?_
 show Go _ _ _ _ _ _ _ (T2.setTop (mkF m 8 #[.val (.ref ob)] [(.ref na), (.int 3)]))
 obtain ⟨cl3, Ar3, qc3, Sz3, Nn3, Ha3, Gf3⟩ := id Va
 refine Go.st (fun _ => X2.arraylength hx (by rw [e2]; exact Ar3.1) (State.isArrayOf_alike hZ.alike Ar3.2.1) (g := (mkF m 8 #[.val (.ref ob)] [(.ref na), (.int 3)])) rfl rfl (hb hby d25_8) _) ?_
 rw [len_of Sz3 Nn3]
 show Go _ _ _ _ _ _ _ (T2.setTop (mkF m 9 #[.val (.ref ob)] [(.int 3), (.int 3)]))
 refine Go.st (fun _ => XS.icmpYes X2.here hx rfl (pc0 := 9) (pc' := 16) rfl (hb hby d25_9) rfl (XT.ii_ge_t (by decide)) (by decide) (by decide)) ?_
 refine Go.st (fun _ => XS.iconst X2.here hx rfl (hb hby d25_16)) ?_
 show Go _ _ _ _ _ _ _ (T2.setTop (mkF m 17 #[.val (.ref ob)] [(.int 0)]))
 refine Go.retB X2 hx hlk (t := .boolean) Bd.returns (by simp) (hb hby d25_17) (by decide) (by decide) e2 ?_
 exact ⟨rfl, N0, rfl⟩
theorem ef_rm2_y (m : MethodId) (ob : Addr) (aa : Addr) : entryFrame m #[(.ref ob), (.ref aa)] 2 = mkF m 0 #[.val (.ref ob), .val (.ref aa)] [] := by first | (simp [entryFrame, mkF, argsToLocals, Value.category]; done) | rfl
def Q2_y (Z : State) (ob : Addr) (aa : Addr) (ka : ClassId) (la : List Int32) (cs : Int32) (h0 : Heap) (n0 : Nat) (v : Option Value) (h : Heap) (L : List Loc) : Prop := ∃ (tb : Addr) (kt : ClassId), v = none ∧ Fr n0 L ∧ Keep h0 h [ob] ∧ Fld Z h ob "java/lang/String" "value" "[B" (.ref tb) ∧ Fld Z h ob "java/lang/String" "coder" "B" (.int 0) ∧ Arv Z h tb kt .byte (Int32.ofNat (List.length (fbl la))) (List.map Value.int (fbl la)) (.int 0)
set_option maxRecDepth 65536 in
set_option maxHeartbeats 40000000 in
theorem rm2_y (l : Launch) (Z : State) (a0 : Array Value) (hw : ∀ d ∈ tables_1, d.before a0 Z = true) (ws : List Jvm.Cond) (ob : Addr) (aa : Addr) (ka : ClassId) (la : List Int32) (cs : Int32) (h0 : Heap) (n0 : Nat) (O0 : Old Z n0 h0) (E_o : Exa Z h0 ob "java/lang/String") (Fv : Fld Z h0 ob "java/lang/String" "value" "[B" .null) (Fc : Fld Z h0 ob "java/lang/String" "coder" "B" (.int 0)) (Va : Arv Z h0 aa ka .char (Int32.ofNat (List.length la)) (List.map Value.int la) (.int 0)) (S_cs : Sta Z Z.heap "java/lang/String" "COMPACT_STRINGS" "Z" (.int cs)) (q_cs : ¬ cs = (0 : Int32)) (g_o : n0 ≤ ob) (q_la : la.length = 6) (q_lc : ∀ y ∈ la, ¬ (255 : Int32) < y) :
  MetFree l mn3 (head1 (Jvm.Cond.code mn3 jdk_42_method_3_code 2 none :: ws) ({ frames := 3, cells := 1, slots := 6, locals := 52 } : Room)) (fun ay U => ay = #[(.ref ob), (.ref aa)] ∧ Z.Warmed39 U.vm ∧ U.heap = h0) (fun _ _ _ _ _ => True) (fun _ U o U' => ∃ v L, o = .returned v ∧ Q2_y Z ob aa ka la cs h0 n0 v U'.heap L ∧ FrameEnd U o U' L ({ frames := 3, cells := 1, slots := 6, locals := 52 } : Room).cells ({ frames := 3, cells := 1, slots := 6, locals := 52 } : Room).slots) := by
 refine MetFree.of_bodySF (plainFor_of_name pn_java_lang_String) hisR ?_
 intro p e s m args below meth c s₁ Bd hml0 hP hK
 obtain ⟨rfl, hZ, hh⟩ := hP
 have hx := Bd.exec
 have hby := Bd.bytes
 have hlk : meth.locks = false := BodyLoose.notSynchronized Bd
 have hml : c.maxLocals = 2 := hml0
 have hown : s.vm.findClass "java/lang/String" = some m.cls := findClass_of_methodNamed Bd.named
 have hnm := (name_of_methodNamed Bd.named Bd.method).1
 have X0 : Stand p l e ({ frames := 3, cells := 1, slots := 6, locals := 52 } : Room) s m #[(.ref ob), (.ref aa)] below meth c s₁ [] 0 0 := Stand.of_body Bd
 have e0 : s₁.heap = h0 := by rw [← hh, Bd.state]; rfl
 have N0 := Fr.nil n0
 suffices hgo : Go p e below s 1 6 (Q2_y Z ob aa ka la cs h0 n0) (s₁.setTop (mkF m 0 #[.val (.ref ob), .val (.ref aa)] [])) by
  obtain ⟨t, o, h1, h2⟩ := hgo; exact ⟨t, o, castTop (ef_rm2_y m ob aa) h1, h2⟩
 show Go _ _ _ _ _ _ _ (s₁.setTop (mkF m 0 #[.val (.ref ob), .val (.ref aa)] []))
 obtain ⟨pa, pb, pd, pe, pf, pg, rfl⟩ := own_l6 la q_la
 have v1 : Arv Z h0 aa ka .char (6 : Int32) [(.int pa), (.int pb), (.int pd), (.int pe), (.int pf), (.int pg)] (.int 0) := Va
 refine Go.st (fun _ => XS.aloadN X0.here hx rfl (hb hby d2_0) rfl rfl) ?_
 refine Go.st (fun _ => XS.aloadN X0.here hx rfl (hb hby d2_1) rfl rfl) ?_
 refine Go.st (fun _ => XS.iconst X0.here hx rfl (hb hby d2_2)) ?_
 refine Go.st (fun _ => XS.aloadN X0.here hx rfl (hb hby d2_3) rfl rfl) ?_
 show Go _ _ _ _ _ _ _ (s₁.setTop (mkF m 4 #[.val (.ref ob), .val (.ref aa)] [(.ref aa), (.int 0), (.ref aa), (.ref ob)]))
 obtain ⟨cl2, Ar2, qc2, Sz2, Nn2, Ha2, Gf2⟩ := id v1
 refine Go.st (fun _ => X0.arraylength hx (by rw [e0]; exact Ar2.1) (State.isArrayOf_alike hZ.alike Ar2.2.1) (g := (mkF m 4 #[.val (.ref ob), .val (.ref aa)] [(.ref aa), (.int 0), (.ref aa), (.ref ob)])) rfl rfl (hb hby d2_4) _) ?_
 rw [len_of Sz2 Nn2]
 show Go _ _ _ _ _ _ _ (s₁.setTop (mkF m 5 #[.val (.ref ob), .val (.ref aa)] [(.int 6), (.int 0), (.ref aa), (.ref ob)]))
 refine Go.st (fun _ => XS.aconstNull X0.here hx rfl (hb hby d2_5)) ?_
 show Go _ _ _ _ _ _ _ (s₁.setTop (mkF m 6 #[.val (.ref ob), .val (.ref aa)] [.null, (.int 6), (.int 0), (.ref aa), (.ref ob)]))
 have ne4 : ob ≠ aa := Exa.neArv E_o v1 (wdx hw 10 rfl)
 obtain ⟨_, _, ⟨T3, L3, k3, n3⟩, -, X3, ⟨Lc3, hQ3, l3, y3, z3⟩, st3⟩ := X0.specialBack hx (y := mn6) rfl hown (mvT hZ (wdx hw 16 rfl)) (mvT hZ (wdx hw 17 rfl)) (mvT hZ (wdx hw 19 rfl)) (by decide) (backOf (W := 0) (rm3_6 l Z a0 hw [] ob aa ka cs pa pb pd pe pf pg h0 n0 O0 E_o Fv Fc v1 S_cs q_cs (q_lc _ (by simp)) (q_lc _ (by simp)) (q_lc _ (by simp)) (q_lc _ (by simp)) (q_lc _ (by simp)) (q_lc _ (by simp)) g_o ne4) hZ (wdx hw 19 rfl) (wdx hw 11 rfl) (by decide) (by decide)) (g := (mkF m 6 #[.val (.ref ob), .val (.ref aa)] [.null, (.int 6), (.int 0), (.ref aa), (.ref ob)])) rfl (by rw [hml]; rfl) (Steps.refl _) (a := ob) (argsL := [(.ref aa), (.int 0), (.int 6), .null]) (rest := []) (lenOf pd___CIILjava_lang_Void__V rfl) rfl (by show 2 * 0 + _ ≤ _; exact Nat.le_of_eq rfl) (hb hby d2_6) (fun _ _ => ⟨rfl, e0, (by exact lee rfl), (by exact lee rfl)⟩)
 dsimp only [Pt.U, Pt.locs, Pt.cells, Pt.slots] at X3 l3 y3 z3 st3 hQ3
 subst l3 y3 z3
 obtain ⟨tb_3, kt_3, rfl, Nq3, Kq3, f5, f6, f7, szt_3⟩ := hQ3
 have N3 := Fr.app N0 Nq3
 refine Go.tr st3 ?_
 have f8 := E_o.keep Kq3
 have f9 := v1.keep Kq3 (ninS (Ne.symm ne4) nin0)
 have O3 := O0.keep Kq3 (allS g_o all0)
 have K3 : Keep h0 T3.heap [ob] := (Keep.refl h0 [ob]).trans Kq3 (allS (Or.inl (by simp)) all0)
 have g_tb_3 : n0 ≤ tb_3 := Nat.le_trans (own_le O0) szt_3
 have z_tb_3 : h0.size ≤ tb_3 := szt_3
 have ne10 : ob ≠ tb_3 := Nat.ne_of_lt (Nat.lt_of_lt_of_le E_o.lt szt_3)
 have ne11 : aa ≠ tb_3 := Nat.ne_of_lt (Nat.lt_of_lt_of_le v1.lt szt_3)
 show Go _ _ _ _ _ _ _ (T3.setTop (mkF m 9 #[.val (.ref ob), .val (.ref aa)] []))
 refine Go.retV X3 hx hlk Bd.returns (hb hby d2_9) (by decide) (by decide) rfl ?_
 exact ⟨tb_3, kt_3, rfl, N3, K3, f5, f6, (own_vs (lb := [(nar .byte (pa.toInt8.toInt32)), (nar .byte (pb.toInt8.toInt32)), (nar .byte (pd.toInt8.toInt32)), (nar .byte (pe.toInt8.toInt32)), (nar .byte (pf.toInt8.toInt32)), (nar .byte (pg.toInt8.toInt32))]) (by simp [fbl]) f7)⟩
theorem d28_0 : decode jdk_43_method_3_code 0 = .ok (.iload_n 0, 1) := by decide +kernel
theorem d28_1 : decode jdk_43_method_3_code 1 = .ok (.sipush 255, 3) := by decide +kernel
theorem d28_4 : decode jdk_43_method_3_code 4 = .ok (.if_icmp .gt 7, 3) := by decide +kernel
theorem d28_11 : decode jdk_43_method_3_code 11 = .ok (.iconst 0, 1) := by decide +kernel
theorem d28_12 : decode jdk_43_method_3_code 12 = .ok (.ireturn, 1) := by decide +kernel
theorem d28_7 : decode jdk_43_method_3_code 7 = .ok (.iconst 1, 1) := by decide +kernel
theorem d28_8 : decode jdk_43_method_3_code 8 = .ok (.goto 4, 3) := by decide +kernel
theorem pn_java_lang_StringLatin1 : plainName "java/lang/StringLatin1" = true := by first | (simp [plainName, overriddenIn]; done) | decide +kernel
theorem ef_rm28 (m : MethodId) (cc : Int32) : entryFrame m #[(.int cc)] 1 = mkF m 0 #[.val (.int cc)] [] := by first | (simp [entryFrame, mkF, argsToLocals, Value.category]; done) | rfl
def Q28 (Z : State) (cc : Int32) (h0 : Heap) (n0 : Nat) (v : Option Value) (h : Heap) (L : List Loc) : Prop := v = some (.int (if (255 : Int32) < cc then (0 : Int32) else 1)) ∧ Fr n0 L ∧ h = h0
set_option maxRecDepth 65536 in
set_option maxHeartbeats 40000000 in
theorem rm28 (l : Launch) (Z : State) (a0 : Array Value) (hw : ∀ d ∈ tables_1, d.before a0 Z = true) (ws : List Jvm.Cond) (cc : Int32) (h0 : Heap) (n0 : Nat) (O0 : Old Z n0 h0) :
  MetFree l (⟨"java/lang/StringLatin1", "canEncode", "(C)Z"⟩ : MethodName) (head1 (Jvm.Cond.code (⟨"java/lang/StringLatin1", "canEncode", "(C)Z"⟩ : MethodName) jdk_43_method_3_code 1 (some .boolean) :: ws) ({ frames := 0, cells := 0, slots := 0, locals := 0 } : Room)) (fun ay U => ay = #[(.int cc)] ∧ Z.Warmed39 U.vm ∧ U.heap = h0) (fun _ _ _ _ _ => True) (fun _ U o U' => ∃ v L, o = .returned v ∧ Q28 Z cc h0 n0 v U'.heap L ∧ FrameEnd U o U' L ({ frames := 0, cells := 0, slots := 0, locals := 0 } : Room).cells ({ frames := 0, cells := 0, slots := 0, locals := 0 } : Room).slots) := by
 refine MetFree.of_bodySF (plainFor_of_name pn_java_lang_StringLatin1) hisR ?_
 intro p e s m args below meth c s₁ Bd hml0 hP hK
 obtain ⟨rfl, hZ, hh⟩ := hP
 have hx := Bd.exec
 have hby := Bd.bytes
 have hlk : meth.locks = false := BodyLoose.notSynchronized Bd
 have hml : c.maxLocals = 1 := hml0
 have hown : s.vm.findClass "java/lang/StringLatin1" = some m.cls := findClass_of_methodNamed Bd.named
 have hnm := (name_of_methodNamed Bd.named Bd.method).1
 have X0 : Stand p l e ({ frames := 0, cells := 0, slots := 0, locals := 0 } : Room) s m #[(.int cc)] below meth c s₁ [] 0 0 := Stand.of_body Bd
 have e0 : s₁.heap = h0 := by rw [← hh, Bd.state]; rfl
 have N0 := Fr.nil n0
 suffices hgo : Go p e below s 0 0 (Q28 Z cc h0 n0) (s₁.setTop (mkF m 0 #[.val (.int cc)] [])) by
  obtain ⟨t, o, h1, h2⟩ := hgo; exact ⟨t, o, castTop (ef_rm28 m cc) h1, h2⟩
 show Go _ _ _ _ _ _ _ (s₁.setTop (mkF m 0 #[.val (.int cc)] []))
 refine Go.st (fun _ => XS.iloadN X0.here hx rfl (hb hby d28_0) rfl) ?_
 refine Go.st (fun _ => XS.sipush X0.here hx rfl (hb hby d28_1)) ?_
 show Go _ _ _ _ _ _ _ (s₁.setTop (mkF m 4 #[.val (.int cc)] [(.int 255), (.int cc)]))
 by_cases hc1 : (255 : Int32) < cc
 ·refine Go.st (fun _ => XS.icmpYes X0.here hx rfl (pc0 := 4) (pc' := 11) rfl (hb hby d28_4) rfl (XT.ii_gt_t hc1) (by decide) (by decide)) ?_
  refine Go.st (fun _ => XS.iconst X0.here hx rfl (hb hby d28_11)) ?_
  show Go _ _ _ _ _ _ _ (s₁.setTop (mkF m 12 #[.val (.int cc)] [(.int 0)]))
  refine Go.retB X0 hx hlk (t := .boolean) Bd.returns (by simp) (hb hby d28_12) (by decide) (by decide) e0 ?_
  exact ⟨(by simp [nar, hc1]), N0, rfl⟩
 ·refine Go.st (fun _ => XS.icmpNo X0.here hx rfl (hb hby d28_4) rfl (XT.ii_gt_f hc1)) ?_
  refine Go.st (fun _ => XS.iconst X0.here hx rfl (hb hby d28_7)) ?_
  show Go _ _ _ _ _ _ _ (s₁.setTop (mkF m 8 #[.val (.int cc)] [(.int 1)]))
  refine Go.st (fun _ => XS.goto X0.here hx rfl (pc0 := 8) (pc' := 12) rfl (hb hby d28_8) (by decide) (by decide)) ?_
  show Go _ _ _ _ _ _ _ (s₁.setTop (mkF m 12 #[.val (.int cc)] [(.int 1)]))
  refine Go.retB X0 hx hlk (t := .boolean) Bd.returns (by simp) (hb hby d28_12) (by decide) (by decide) e0 ?_
  exact ⟨(by simp [nar, hc1]), N0, rfl⟩
theorem d29_0 : decode jdk_43_method_46_code 0 = .ok (.iconst 1, 1) := by decide +kernel
theorem d29_1 : decode jdk_43_method_46_code 1 = .ok (.newarray .byte, 2) := by decide +kernel
theorem d29_3 : decode jdk_43_method_46_code 3 = .ok (.dup, 1) := by decide +kernel
theorem d29_4 : decode jdk_43_method_46_code 4 = .ok (.iconst 0, 1) := by decide +kernel
theorem d29_5 : decode jdk_43_method_46_code 5 = .ok (.iload_n 0, 1) := by decide +kernel
theorem d29_6 : decode jdk_43_method_46_code 6 = .ok (.i2b, 1) := by decide +kernel
theorem d29_7 : decode jdk_43_method_46_code 7 = .ok (.bastore, 1) := by decide +kernel
theorem d29_8 : decode jdk_43_method_46_code 8 = .ok (.areturn, 1) := by decide +kernel
theorem ef_rm29 (m : MethodId) (cc : Int32) : entryFrame m #[(.int cc)] 1 = mkF m 0 #[.val (.int cc)] [] := by first | (simp [entryFrame, mkF, argsToLocals, Value.category]; done) | rfl
def Q29 (Z : State) (cc : Int32) (h0 : Heap) (n0 : Nat) (v : Option Value) (h : Heap) (L : List Loc) : Prop := ∃ (rr : Addr) (kr : ClassId), v = some (.ref rr) ∧ Fr n0 L ∧ Keep h0 h [] ∧ Arv Z h rr kr .byte (1 : Int32) [(.int (nar .byte (cc.toInt8.toInt32)))] (.int 0) ∧ h0.size ≤ rr
set_option maxRecDepth 65536 in
set_option maxHeartbeats 40000000 in
theorem rm29 (l : Launch) (Z : State) (a0 : Array Value) (hw : ∀ d ∈ tables_1, d.before a0 Z = true) (ws : List Jvm.Cond) (cc : Int32) (h0 : Heap) (n0 : Nat) (O0 : Old Z n0 h0) :
  MetFree l (⟨"java/lang/StringLatin1", "toBytes", "(C)[B"⟩ : MethodName) (head1 (Jvm.Cond.code (⟨"java/lang/StringLatin1", "toBytes", "(C)[B"⟩ : MethodName) jdk_43_method_46_code 1 (some (.array .byte)) :: ws) ({ frames := 0, cells := 1, slots := 1, locals := 0 } : Room)) (fun ay U => ay = #[(.int cc)] ∧ Z.Warmed39 U.vm ∧ U.heap = h0) (fun _ _ _ _ _ => True) (fun _ U o U' => ∃ v L, o = .returned v ∧ Q29 Z cc h0 n0 v U'.heap L ∧ FrameEnd U o U' L ({ frames := 0, cells := 1, slots := 1, locals := 0 } : Room).cells ({ frames := 0, cells := 1, slots := 1, locals := 0 } : Room).slots) := by
 refine MetFree.of_bodySF (plainFor_of_name pn_java_lang_StringLatin1) hisR ?_
 intro p e s m args below meth c s₁ Bd hml0 hP hK
 obtain ⟨rfl, hZ, hh⟩ := hP
 have hx := Bd.exec
 have hby := Bd.bytes
 have hlk : meth.locks = false := BodyLoose.notSynchronized Bd
 have hml : c.maxLocals = 1 := hml0
 have hown : s.vm.findClass "java/lang/StringLatin1" = some m.cls := findClass_of_methodNamed Bd.named
 have hnm := (name_of_methodNamed Bd.named Bd.method).1
 have X0 : Stand p l e ({ frames := 0, cells := 1, slots := 1, locals := 0 } : Room) s m #[(.int cc)] below meth c s₁ [] 0 0 := Stand.of_body Bd
 have e0 : s₁.heap = h0 := by rw [← hh, Bd.state]; rfl
 have N0 := Fr.nil n0
 suffices hgo : Go p e below s 1 1 (Q29 Z cc h0 n0) (s₁.setTop (mkF m 0 #[.val (.int cc)] [])) by
  obtain ⟨t, o, h1, h2⟩ := hgo; exact ⟨t, o, castTop (ef_rm29 m cc) h1, h2⟩
 show Go _ _ _ _ _ _ _ (s₁.setTop (mkF m 0 #[.val (.int cc)] []))
 refine Go.st (fun _ => XS.iconst X0.here hx rfl (hb hby d29_0)) ?_
 obtain ⟨T1, h1, k1, X1, e1, E1, A1, st1⟩ := newP X0 hx hZ (wdx hw 28 rfl) e0 (g := (mkF m 1 #[.val (.int cc)] [(.int 1)])) rfl (hb hby d29_1) rfl (by decide) (cap := 1) (by decide) (by decide) (by decide) (by decide)
 obtain ⟨b1, g1⟩ : ∃ z, z = h0.size := ⟨_, rfl⟩
 rw [← g1] at A1 st1
 refine Go.st st1 ?_
 have g_b1 : n0 ≤ b1 := Nat.le_trans (own_le O0) (Nat.le_of_eq g1.symm)
 have z_b1 : h0.size ≤ b1 := Nat.le_of_eq g1.symm
 have O1 := O0.ext E1
 have K1 : Keep h0 h1 [] := (Keep.refl h0 []).ext E1
 have f2 : Arv Z h1 b1 k1 .byte (1 : Int32) [(.int 0)] (.int 0) := (Arv.new A1 (by decide)).pad (pad_rep [] (.int 0) 1)
 show Go _ _ _ _ _ _ _ (T1.setTop (mkF m 3 #[.val (.int cc)] [(.ref b1)]))
 refine Go.st (fun _ => XS.dup X1.here hx rfl (hb hby d29_3) rfl rfl) ?_
 refine Go.st (fun _ => XS.iconst X1.here hx rfl (hb hby d29_4)) ?_
 refine Go.st (fun _ => XS.iloadN X1.here hx rfl (hb hby d29_5) rfl) ?_
 refine Go.st (fun _ => XS.i2b X1.here hx rfl (hb hby d29_6) rfl) ?_
 obtain ⟨cl3, Ar3, qc3, Sz3, Nn3, Ha3, Gf3⟩ := id f2
 obtain ⟨T3, h3, X3, e3, W3, st3⟩ := stB X1 hx hZ e1 Ar3 (j := (0 : Int32)) (inb_of Sz3 ⟨by decide, by decide⟩) (g := (mkF m 7 #[.val (.int cc)] [(.int (cc.toInt8.toInt32)), (.int 0), (.ref b1), (.ref b1)])) rfl rfl (hb hby d29_7)
 refine Go.st st3 ?_
 have O3 := O1.wr W3 g_b1
 have N3 := Fr.snoc X3 N0 g_b1
 have K3 : Keep h0 h3 [] := K1.wr W3 (Or.inr z_b1)
 have f4 : Arv Z h3 b1 k1 .byte (1 : Int32) [(.int (nar .byte (cc.toInt8.toInt32)))] (.int 0) := Arv.set Ar3 qc3 Sz3 Nn3 Ha3 Gf3 (fits_nar_byte _) W3 0 rfl (Nat.le_of_ble_eq_true rfl)
 show Go _ _ _ _ _ _ _ (T3.setTop (mkF m 8 #[.val (.int cc)] [(.ref b1)]))
 refine Go.ret X3 hx hlk (t := (.array .byte)) Bd.returns rfl (Or.inr (Or.inr (Or.inr (Or.inr ⟨rfl, rfl, rfl⟩)))) (hb hby d29_8) (by decide) (by decide) e3 ?_
 exact ⟨b1, k1, rfl, N3, K3, f4, z_b1⟩
theorem d30_0 : decode jdk_42_method_151_code 0 = .ok (.aload_n 0, 1) := by decide +kernel
theorem d30_1 : decode jdk_42_method_151_code 1 = .ok (.invokespecial 1, 3) := by decide +kernel
theorem d30_4 : decode jdk_42_method_151_code 4 = .ok (.aload_n 0, 1) := by decide +kernel
theorem d30_5 : decode jdk_42_method_151_code 5 = .ok (.aload_n 1, 1) := by decide +kernel
theorem d30_6 : decode jdk_42_method_151_code 6 = .ok (.putfield 9, 3) := by decide +kernel
theorem d30_9 : decode jdk_42_method_151_code 9 = .ok (.aload_n 0, 1) := by decide +kernel
theorem d30_10 : decode jdk_42_method_151_code 10 = .ok (.iload_n 2, 1) := by decide +kernel
theorem d30_11 : decode jdk_42_method_151_code 11 = .ok (.putfield 15, 3) := by decide +kernel
theorem d30_14 : decode jdk_42_method_151_code 14 = .ok (.return_, 1) := by decide +kernel
theorem ef_rm30 (m : MethodId) (ob : Addr) (bb : Addr) : entryFrame m #[(.ref ob), (.ref bb), (.int 0)] 3 = mkF m 0 #[.val (.ref ob), .val (.ref bb), .val (.int 0)] [] := by first | (simp [entryFrame, mkF, argsToLocals, Value.category]; done) | rfl
def Q30 (Z : State) (ob : Addr) (bb : Addr) (h0 : Heap) (n0 : Nat) (v : Option Value) (h : Heap) (L : List Loc) : Prop := v = none ∧ Fr n0 L ∧ Keep h0 h [ob] ∧ Fld Z h ob "java/lang/String" "value" "[B" (.ref bb) ∧ Fld Z h ob "java/lang/String" "coder" "B" (.int 0)
set_option maxRecDepth 65536 in
set_option maxHeartbeats 40000000 in
theorem rm30 (l : Launch) (Z : State) (a0 : Array Value) (hw : ∀ d ∈ tables_1, d.before a0 Z = true) (ws : List Jvm.Cond) (ob : Addr) (bb : Addr) (h0 : Heap) (n0 : Nat) (O0 : Old Z n0 h0) (E_o : Exa Z h0 ob "java/lang/String") (Fv : Fld Z h0 ob "java/lang/String" "value" "[B" .null) (Fc : Fld Z h0 ob "java/lang/String" "coder" "B" (.int 0)) (g_o : n0 ≤ ob) :
  MetFree l (⟨"java/lang/String", "<init>", "([BB)V"⟩ : MethodName) (head1 (Jvm.Cond.code (⟨"java/lang/String", "<init>", "([BB)V"⟩ : MethodName) jdk_42_method_151_code 3 none :: ws) ({ frames := 1, cells := 0, slots := 0, locals := 12 } : Room)) (fun ay U => ay = #[(.ref ob), (.ref bb), (.int 0)] ∧ Z.Warmed39 U.vm ∧ U.heap = h0) (fun _ _ _ _ _ => True) (fun _ U o U' => ∃ v L, o = .returned v ∧ Q30 Z ob bb h0 n0 v U'.heap L ∧ FrameEnd U o U' L ({ frames := 1, cells := 0, slots := 0, locals := 12 } : Room).cells ({ frames := 1, cells := 0, slots := 0, locals := 12 } : Room).slots) := by
 refine MetFree.of_bodySF (plainFor_of_name pn_java_lang_String) hisR ?_
 intro p e s m args below meth c s₁ Bd hml0 hP hK
 obtain ⟨rfl, hZ, hh⟩ := hP
 have hx := Bd.exec
 have hby := Bd.bytes
 have hlk : meth.locks = false := BodyLoose.notSynchronized Bd
 have hml : c.maxLocals = 3 := hml0
 have hown : s.vm.findClass "java/lang/String" = some m.cls := findClass_of_methodNamed Bd.named
 have hnm := (name_of_methodNamed Bd.named Bd.method).1
 have X0 : Stand p l e ({ frames := 1, cells := 0, slots := 0, locals := 12 } : Room) s m #[(.ref ob), (.ref bb), (.int 0)] below meth c s₁ [] 0 0 := Stand.of_body Bd
 have e0 : s₁.heap = h0 := by rw [← hh, Bd.state]; rfl
 have N0 := Fr.nil n0
 suffices hgo : Go p e below s 0 0 (Q30 Z ob bb h0 n0) (s₁.setTop (mkF m 0 #[.val (.ref ob), .val (.ref bb), .val (.int 0)] [])) by
  obtain ⟨t, o, h1, h2⟩ := hgo; exact ⟨t, o, castTop (ef_rm30 m ob bb) h1, h2⟩
 show Go _ _ _ _ _ _ _ (s₁.setTop (mkF m 0 #[.val (.ref ob), .val (.ref bb), .val (.int 0)] []))
 refine Go.st (fun _ => XS.aloadN X0.here hx rfl (hb hby d30_0) rfl rfl) ?_
 show Go _ _ _ _ _ _ _ (s₁.setTop (mkF m 1 #[.val (.ref ob), .val (.ref bb), .val (.int 0)] [(.ref ob)]))
 obtain ⟨T1, X1, e1, st1⟩ := initO X0 hx hZ hown (wdx hw 20 rfl) (wdx hw 21 rfl) (wdx hw 22 rfl) e0 (g := (mkF m 1 #[.val (.ref ob), .val (.ref bb), .val (.int 0)] [(.ref ob)])) rfl (by rw [hml]; rfl) rfl (hb hby d30_1) (by decide) (W := 0) (by show 2 * 0 + _ ≤ _; exact Nat.le_of_eq rfl) (by decide)
 refine Go.st st1 ?_
 show Go _ _ _ _ _ _ _ (T1.setTop (mkF m 4 #[.val (.ref ob), .val (.ref bb), .val (.int 0)] []))
 refine Go.st (fun _ => XS.aloadN X1.here hx rfl (hb hby d30_4) rfl rfl) ?_
 refine Go.st (fun _ => XS.aloadN X1.here hx rfl (hb hby d30_5) rfl rfl) ?_
 obtain ⟨T2, h2, X2, e2, W2, st2⟩ := putF X1 hx hZ hown (host := "") (Or.inl (wdx hw 37 rfl)) Via.refl e1 Fv E_o (Or.inr ⟨(wdx hw 38 rfl), rfl, hnm⟩) (wdx hw 10 rfl) (ty := (.array .byte)) (by decide) rfl rfl (g := (mkF m 6 #[.val (.ref ob), .val (.ref bb), .val (.int 0)] [(.ref bb), (.ref ob)])) rfl rfl (hb hby d30_6)
 refine Go.st st2 ?_
 have f3 := E_o.wr W2
 have f4 := Fv.same W2
 have f5 := Fc.other W2 (Or.inr (slot_ne (Or.inr (wdx hw 36 rfl)) (Or.inr (wdx hw 38 rfl)) (by decide) (t := .byte) (t' := (.array .byte)) (by decide) (by decide)))
 have O2 := O0.wr W2 g_o
 have N2 := Fr.snoc X2 N0 g_o
 have K2 : Keep h0 h2 [ob] := (Keep.refl h0 [ob]).wr W2 (Or.inl (by simp))
 refine Go.st (fun _ => XS.aloadN X2.here hx rfl (hb hby d30_9) rfl rfl) ?_
 refine Go.st (fun _ => XS.iloadN X2.here hx rfl (hb hby d30_10) rfl) ?_
 obtain ⟨T6, h6, X6, e6, W6, st6⟩ := putFN X2 hx hZ hown (wdx hw 35 rfl) Via.refl e2 f5 f3 (Or.inr ⟨(wdx hw 36 rfl), rfl, hnm⟩) (wdx hw 10 rfl) (ty := .byte) (v' := (.int 0)) (by decide) rfl rfl (g := (mkF m 11 #[.val (.ref ob), .val (.ref bb), .val (.int 0)] [(.int 0), (.ref ob)])) rfl rfl (hb hby d30_11)
 refine Go.st st6 ?_
 have f7 := f3.wr W6
 have f8 := f4.other W6 (Or.inr (slot_ne (Or.inr (wdx hw 38 rfl)) (Or.inr (wdx hw 36 rfl)) (by decide) (t := (.array .byte)) (t' := .byte) (by decide) (by decide)))
 have f9 := f5.same W6
 have O6 := O2.wr W6 g_o
 have N6 := Fr.snoc X6 N2 g_o
 have K6 : Keep h0 h6 [ob] := K2.wr W6 (Or.inl (by simp))
 show Go _ _ _ _ _ _ _ (T6.setTop (mkF m 14 #[.val (.ref ob), .val (.ref bb), .val (.int 0)] []))
 refine Go.retV X6 hx hlk Bd.returns (hb hby d30_14) (by decide) (by decide) e6 ?_
 exact ⟨rfl, N6, K6, f8, f9⟩
theorem d27_0 : decode jdk_42_method_139_code 0 = .ok (.getstatic 38, 3) := by decide +kernel
theorem d27_3 : decode jdk_42_method_139_code 3 = .ok (.ifCond .eq 23, 3) := by decide +kernel
theorem d27_6 : decode jdk_42_method_139_code 6 = .ok (.iload_n 0, 1) := by decide +kernel
theorem pd__C_Z : parseMethodDescriptor "(C)Z" = some ⟨[.char], some .boolean⟩ := by decide +kernel
theorem d27_7 : decode jdk_42_method_139_code 7 = .ok (.invokestatic 1015, 3) := by decide +kernel
theorem d27_10 : decode jdk_42_method_139_code 10 = .ok (.ifCond .eq 16, 3) := by decide +kernel
theorem d27_13 : decode jdk_42_method_139_code 13 = .ok (.new 10, 3) := by decide +kernel
theorem d27_16 : decode jdk_42_method_139_code 16 = .ok (.dup, 1) := by decide +kernel
theorem d27_17 : decode jdk_42_method_139_code 17 = .ok (.iload_n 0, 1) := by decide +kernel
theorem pd__C__B : parseMethodDescriptor "(C)[B" = some ⟨[.char], some (.array .byte)⟩ := by decide +kernel
theorem d27_18 : decode jdk_42_method_139_code 18 = .ok (.invokestatic 1018, 3) := by decide +kernel
theorem d27_21 : decode jdk_42_method_139_code 21 = .ok (.iconst 0, 1) := by decide +kernel
theorem pd___BB_V : parseMethodDescriptor "([BB)V" = some ⟨[(.array .byte), .byte], none⟩ := by decide +kernel
theorem d27_22 : decode jdk_42_method_139_code 22 = .ok (.invokespecial 209, 3) := by decide +kernel
theorem d27_25 : decode jdk_42_method_139_code 25 = .ok (.areturn, 1) := by decide +kernel
theorem ef_rm27 (m : MethodId) (cc : Int32) : entryFrame m #[(.int cc)] 1 = mkF m 0 #[.val (.int cc)] [] := by first | (simp [entryFrame, mkF, argsToLocals, Value.category]; done) | rfl
def Q27 (Z : State) (cc : Int32) (cs : Int32) (h0 : Heap) (n0 : Nat) (v : Option Value) (h : Heap) (L : List Loc) : Prop := ∃ (rr : Addr) (tb : Addr) (kt : ClassId), v = some (.ref rr) ∧ Fr n0 L ∧ Keep h0 h [] ∧ Exa Z h rr "java/lang/String" ∧ Fld Z h rr "java/lang/String" "coder" "B" (.int 0) ∧ Fld Z h rr "java/lang/String" "value" "[B" (.ref tb) ∧ Arv Z h tb kt .byte (1 : Int32) [(.int (nar .byte (cc.toInt8.toInt32)))] (.int 0) ∧ h0.size ≤ rr
set_option maxRecDepth 65536 in
set_option maxHeartbeats 40000000 in
theorem rm27 (l : Launch) (Z : State) (a0 : Array Value) (hw : ∀ d ∈ tables_1, d.before a0 Z = true) (ws : List Jvm.Cond) (cc : Int32) (cs : Int32) (h0 : Heap) (n0 : Nat) (O0 : Old Z n0 h0) (S_cs : Sta Z Z.heap "java/lang/String" "COMPACT_STRINGS" "Z" (.int cs)) (q_cs : ¬ cs = (0 : Int32)) (q_cc : ¬ (255 : Int32) < cc) :
  MetFree l (⟨"java/lang/String", "valueOf", "(C)Ljava/lang/String;"⟩ : MethodName) (head1 (Jvm.Cond.code (⟨"java/lang/String", "valueOf", "(C)Ljava/lang/String;"⟩ : MethodName) jdk_42_method_139_code 1 (some (.object "java/lang/String")) :: ws) ({ frames := 2, cells := 2, slots := 5, locals := 27 } : Room)) (fun ay U => ay = #[(.int cc)] ∧ Z.Warmed39 U.vm ∧ U.heap = h0) (fun _ _ _ _ _ => True) (fun _ U o U' => ∃ v L, o = .returned v ∧ Q27 Z cc cs h0 n0 v U'.heap L ∧ FrameEnd U o U' L ({ frames := 2, cells := 2, slots := 5, locals := 27 } : Room).cells ({ frames := 2, cells := 2, slots := 5, locals := 27 } : Room).slots) := by
 refine MetFree.of_bodySF (plainFor_of_name pn_java_lang_String) hisR ?_
 intro p e s m args below meth c s₁ Bd hml0 hP hK
 obtain ⟨rfl, hZ, hh⟩ := hP
 have hx := Bd.exec
 have hby := Bd.bytes
 have hlk : meth.locks = false := BodyLoose.notSynchronized Bd
 have hml : c.maxLocals = 1 := hml0
 have hown : s.vm.findClass "java/lang/String" = some m.cls := findClass_of_methodNamed Bd.named
 have hnm := (name_of_methodNamed Bd.named Bd.method).1
 have X0 : Stand p l e ({ frames := 2, cells := 2, slots := 5, locals := 27 } : Room) s m #[(.int cc)] below meth c s₁ [] 0 0 := Stand.of_body Bd
 have e0 : s₁.heap = h0 := by rw [← hh, Bd.state]; rfl
 have N0 := Fr.nil n0
 suffices hgo : Go p e below s 2 5 (Q27 Z cc cs h0 n0) (s₁.setTop (mkF m 0 #[.val (.int cc)] [])) by
  obtain ⟨t, o, h1, h2⟩ := hgo; exact ⟨t, o, castTop (ef_rm27 m cc) h1, h2⟩
 show Go _ _ _ _ _ _ _ (s₁.setTop (mkF m 0 #[.val (.int cc)] []))
 obtain ⟨T1, X1, e1, st1⟩ := getS2 X0 hx hZ hown (host := "") (Or.inl (wdx hw 23 rfl)) Via.refl e0 (S_cs.ext O0.2) (g := (mkF m 0 #[.val (.int cc)] [])) rfl (hb hby d27_0)
 refine Go.st st1 ?_
 show Go _ _ _ _ _ _ _ (T1.setTop (mkF m 3 #[.val (.int cc)] [(.int cs)]))
 refine Go.st (fun _ => XS.ifNo X1.here hx rfl (hb hby d27_3) rfl (XT.i0_eq_f q_cs)) ?_
 refine Go.st (fun _ => XS.iloadN X1.here hx rfl (hb hby d27_6) rfl) ?_
 show Go _ _ _ _ _ _ _ (T1.setTop (mkF m 7 #[.val (.int cc)] [(.int cc)]))
 obtain ⟨_, _, ⟨T2, L2, k2, n2⟩, -, X2, ⟨Lc2, hQ2, l2, y2, z2⟩, st2⟩ := Jvm.LawKit.callS X1 hx (y := (⟨"java/lang/StringLatin1", "canEncode", "(C)Z"⟩ : MethodName)) hown (mvT hZ (wdx hw 165 rfl)) (mvT hZ (wdx hw 166 rfl)) (mvT hZ (wdx hw 57 rfl)) (mvT hZ (wdx hw 167 rfl)) (by decide) (backOf (W := 0) (rm28 l Z a0 hw [] cc h0 n0 O0 ) hZ (wdx hw 167 rfl) (wdx hw 57 rfl) (by decide) (by decide)) (g := (mkF m 7 #[.val (.int cc)] [(.int cc)])) rfl (by rw [hml]; rfl) (argsL := [(.int cc)]) (rest := []) (lenOf pd__C_Z rfl) rfl (by show 2 * 0 + _ ≤ _; exact Nat.le_of_eq rfl) (hb hby d27_7) (fun _ _ => ⟨rfl, e1, (by exact lee rfl), (by exact lee rfl)⟩)
 dsimp only [Pt.U, Pt.locs, Pt.cells, Pt.slots] at X2 l2 y2 z2 st2 hQ2
 subst l2 y2 z2
 obtain ⟨rfl, Nq2, eq2⟩ := hQ2
 have N2 := Fr.app N0 Nq2
 refine Go.st st2 ?_
 show Go _ _ _ _ _ _ _ (T2.setTop (mkF m 10 #[.val (.int cc)] [(.int (if (255 : Int32) < cc then (0 : Int32) else 1))]))
 refine Go.st (fun _ => XS.ifNo X2.here hx rfl (hb hby d27_10) rfl (XT.i0_eq_f (by simp [q_cc]))) ?_
 obtain ⟨T3, h3, X3, e3, E3, A3, D3, -, st3⟩ := newO X2 hx hZ hown (wdx hw 139 rfl) (wdx hw 10 rfl) (wdx hw 11 rfl) eq2 (g := (mkF m 13 #[.val (.int cc)] [])) rfl (hb hby d27_13) (by decide) (by decide)
 obtain ⟨b3, g3⟩ : ∃ z, z = h0.size := ⟨_, rfl⟩
 rw [← g3] at A3 D3 st3
 refine Go.st st3 ?_
 have g_b3 : n0 ≤ b3 := Nat.le_trans (own_le O0) (Nat.le_of_eq g3.symm)
 have z_b3 : h0.size ≤ b3 := Nat.le_of_eq g3.symm
 have O3 := O0.ext E3
 have K3 : Keep h0 h3 [] := (Keep.refl h0 []).ext E3
 have f4 : Fld Z h3 b3 "java/lang/String" "coder" "B" (.int 0) := D3 (Or.inr (wdx hw 36 rfl)) (ty := .byte) (by decide)
 have f5 : Fld Z h3 b3 "java/lang/String" "value" "[B" .null := D3 (Or.inr (wdx hw 38 rfl)) (ty := (.array .byte)) (by decide)
 show Go _ _ _ _ _ _ _ (T3.setTop (mkF m 16 #[.val (.int cc)] [(.ref b3)]))
 refine Go.st (fun _ => XS.dup X3.here hx rfl (hb hby d27_16) rfl rfl) ?_
 refine Go.st (fun _ => XS.iloadN X3.here hx rfl (hb hby d27_17) rfl) ?_
 show Go _ _ _ _ _ _ _ (T3.setTop (mkF m 18 #[.val (.int cc)] [(.int cc), (.ref b3), (.ref b3)]))
 obtain ⟨_, _, ⟨T6, L6, k6, n6⟩, -, X6, ⟨Lc6, hQ6, l6, y6, z6⟩, st6⟩ := Jvm.LawKit.callS X3 hx (y := (⟨"java/lang/StringLatin1", "toBytes", "(C)[B"⟩ : MethodName)) hown (mvT hZ (wdx hw 168 rfl)) (mvT hZ (wdx hw 169 rfl)) (mvT hZ (wdx hw 57 rfl)) (mvT hZ (wdx hw 170 rfl)) (by decide) (backOf (W := 2) (rm29 l Z a0 hw [] cc h3 n0 O3 ) hZ (wdx hw 170 rfl) (wdx hw 57 rfl) (by decide) (by decide)) (g := (mkF m 18 #[.val (.int cc)] [(.int cc), (.ref b3), (.ref b3)])) rfl (by rw [hml]; rfl) (argsL := [(.int cc)]) (rest := [(.ref b3), (.ref b3)]) (lenOf pd__C__B rfl) rfl (by show 2 * 0 + _ ≤ _; exact Nat.le_of_eq rfl) (hb hby d27_18) (fun _ _ => ⟨rfl, e3, (by exact lee rfl), (by exact lee rfl)⟩)
 dsimp only [Pt.U, Pt.locs, Pt.cells, Pt.slots] at X6 l6 y6 z6 st6 hQ6
 subst l6 y6 z6
 obtain ⟨rr_6, kr_6, rfl, Nq6, Kq6, f7, szr_6⟩ := hQ6
 have N6 := Fr.app N2 Nq6
 refine Go.st st6 ?_
 have f8 := A3.keep Kq6
 have f9 := f4.keep Kq6 nin0
 have f10 := f5.keep Kq6 nin0
 have O6 := O3.keep Kq6 all0
 have K6 : Keep h0 T6.heap [] := K3.trans Kq6 all0
 have g_rr_6 : n0 ≤ rr_6 := Nat.le_trans (own_le O3) szr_6
 have z_rr_6 : h0.size ≤ rr_6 := Nat.le_trans K3.1 szr_6
 have ne11 : b3 ≠ rr_6 := Nat.ne_of_lt (Nat.lt_of_lt_of_le A3.lt szr_6)
 show Go _ _ _ _ _ _ _ (T6.setTop (mkF m 21 #[.val (.int cc)] [(.ref rr_6), (.ref b3), (.ref b3)]))
 refine Go.st (fun _ => XS.iconst X6.here hx rfl (hb hby d27_21)) ?_
 show Go _ _ _ _ _ _ _ (T6.setTop (mkF m 22 #[.val (.int cc)] [(.int 0), (.ref rr_6), (.ref b3), (.ref b3)]))
 obtain ⟨_, _, ⟨T12, L12, k12, n12⟩, -, X12, ⟨Lc12, hQ12, l12, y12, z12⟩, st12⟩ := X6.specialBack hx (y := (⟨"java/lang/String", "<init>", "([BB)V"⟩ : MethodName)) rfl hown (mvT hZ (wdx hw 171 rfl)) (mvT hZ (wdx hw 172 rfl)) (mvT hZ (wdx hw 173 rfl)) (by decide) (backOf (W := 1) (rm30 l Z a0 hw [] b3 rr_6 T6.heap n0 O6 f8 f10 f9 g_b3) hZ (wdx hw 173 rfl) (wdx hw 11 rfl) (by decide) (by decide)) (g := (mkF m 22 #[.val (.int cc)] [(.int 0), (.ref rr_6), (.ref b3), (.ref b3)])) rfl (by rw [hml]; rfl) (Steps.refl _) (a := b3) (argsL := [(.ref rr_6), (.int 0)]) (rest := [(.ref b3)]) (lenOf pd___BB_V rfl) rfl (by show 2 * 0 + _ ≤ _; exact Nat.le_of_eq rfl) (hb hby d27_22) (fun _ _ => ⟨rfl, rfl, (by exact lee rfl), (by exact lee rfl)⟩)
 dsimp only [Pt.U, Pt.locs, Pt.cells, Pt.slots] at X12 l12 y12 z12 st12 hQ12
 subst l12 y12 z12
 obtain ⟨rfl, Nq12, Kq12, f13, f14⟩ := hQ12
 have N12 := Fr.app N6 Nq12
 refine Go.tr st12 ?_
 have f15 := f8.keep Kq12
 have f16 := f7.keep Kq12 (ninS (Ne.symm ne11) nin0)
 have O12 := O6.keep Kq12 (allS g_b3 all0)
 have K12 : Keep h0 T12.heap [] := K6.trans Kq12 (allS (Or.inr z_b3) all0)
 show Go _ _ _ _ _ _ _ (T12.setTop (mkF m 25 #[.val (.int cc)] [(.ref b3)]))
 refine Go.ret X12 hx hlk (t := (.object "java/lang/String")) Bd.returns rfl (Or.inr (Or.inr (Or.inr (Or.inr ⟨rfl, rfl, rfl⟩)))) (hb hby d27_25) (by decide) (by decide) rfl ?_
 exact ⟨b3, rr_6, kr_6, rfl, N12, K12, f15, f14, f13, f16, z_b3⟩
theorem d26_0 : decode method_2_code 0 = .ok (.lload_n 0, 1) := by decide +kernel
theorem d26_1 : decode method_2_code 1 = .ok (.iconst 3, 1) := by decide +kernel
theorem d26_2 : decode method_2_code 2 = .ok (.bipush 8, 2) := by decide +kernel
theorem d26_4 : decode method_2_code 4 = .ok (.iload_n 2, 1) := by decide +kernel
theorem d26_5 : decode method_2_code 5 = .ok (.imul, 1) := by decide +kernel
theorem d26_6 : decode method_2_code 6 = .ok (.iadd, 1) := by decide +kernel
theorem d26_7 : decode method_2_code 7 = .ok (.lushr, 1) := by decide +kernel
theorem d26_8 : decode method_2_code 8 = .ok (.ldc2_w 7, 3) := by decide +kernel
theorem d26_11 : decode method_2_code 11 = .ok (.land, 1) := by decide +kernel
theorem d26_12 : decode method_2_code 12 = .ok (.l2i, 1) := by decide +kernel
theorem d26_13 : decode method_2_code 13 = .ok (.i2c, 1) := by decide +kernel
theorem d26_14 : decode method_2_code 14 = .ok (.ireturn, 1) := by decide +kernel
theorem pn_com_example_reportwire_reportwire_ArgumentsAsksForHelpPinLaw : plainName "com/example/reportwire/reportwire/ArgumentsAsksForHelpPinLaw" = true := by first | (simp [plainName, overriddenIn]; done) | decide +kernel
theorem ef_rm26 (m : MethodId) (u : Int64) (k : Int32) : entryFrame m #[(.long u), (.int k)] 3 = mkF m 0 #[.val (.long u), .second, .val (.int k)] [] := by first | (simp [entryFrame, mkF, argsToLocals, Value.category]; done) | rfl
def Q26 (Z : State) (u : Int64) (k : Int32) (h0 : Heap) (n0 : Nat) (v : Option Value) (h : Heap) (L : List Loc) : Prop := v = some (.int (fk u k)) ∧ Fr n0 L ∧ h = h0
set_option maxRecDepth 65536 in
set_option maxHeartbeats 40000000 in
theorem rm26 (l : Launch) (Z : State) (a0 : Array Value) (hw : ∀ d ∈ tables_1, d.before a0 Z = true) (ws : List Jvm.Cond) (u : Int64) (k : Int32) (h0 : Heap) (n0 : Nat) (O0 : Old Z n0 h0) :
  MetFree l mn4 (head1 (Jvm.Cond.code mn4 method_2_code 3 (some .char) :: ws) ({ frames := 0, cells := 0, slots := 0, locals := 0 } : Room)) (fun ay U => ay = #[(.long u), (.int k)] ∧ Z.Warmed39 U.vm ∧ U.heap = h0) (fun _ _ _ _ _ => True) (fun _ U o U' => ∃ v L, o = .returned v ∧ Q26 Z u k h0 n0 v U'.heap L ∧ FrameEnd U o U' L ({ frames := 0, cells := 0, slots := 0, locals := 0 } : Room).cells ({ frames := 0, cells := 0, slots := 0, locals := 0 } : Room).slots) := by
 refine MetFree.of_bodySF (plainFor_of_name pn_com_example_reportwire_reportwire_ArgumentsAsksForHelpPinLaw) hisR ?_
 intro p e s m args below meth c s₁ Bd hml0 hP hK
 obtain ⟨rfl, hZ, hh⟩ := hP
 have hx := Bd.exec
 have hby := Bd.bytes
 have hlk : meth.locks = false := BodyLoose.notSynchronized Bd
 have hml : c.maxLocals = 3 := hml0
 have hown : s.vm.findClass "com/example/reportwire/reportwire/ArgumentsAsksForHelpPinLaw" = some m.cls := findClass_of_methodNamed Bd.named
 have hnm := (name_of_methodNamed Bd.named Bd.method).1
 have X0 : Stand p l e ({ frames := 0, cells := 0, slots := 0, locals := 0 } : Room) s m #[(.long u), (.int k)] below meth c s₁ [] 0 0 := Stand.of_body Bd
 have e0 : s₁.heap = h0 := by rw [← hh, Bd.state]; rfl
 have N0 := Fr.nil n0
 suffices hgo : Go p e below s 0 0 (Q26 Z u k h0 n0) (s₁.setTop (mkF m 0 #[.val (.long u), .second, .val (.int k)] [])) by
  obtain ⟨t, o, h1, h2⟩ := hgo; exact ⟨t, o, castTop (ef_rm26 m u k) h1, h2⟩
 show Go _ _ _ _ _ _ _ (s₁.setTop (mkF m 0 #[.val (.long u), .second, .val (.int k)] []))
 refine Go.st (fun _ => XS.lloadN X0.here hx rfl (hb hby d26_0) rfl) ?_
 refine Go.st (fun _ => XS.iconst X0.here hx rfl (hb hby d26_1)) ?_
 refine Go.st (fun _ => XS.bipush X0.here hx rfl (hb hby d26_2)) ?_
 refine Go.st (fun _ => XS.iloadN X0.here hx rfl (hb hby d26_4) rfl) ?_
 refine Go.st (fun _ => XS.imul X0.here hx rfl (hb hby d26_5) rfl) ?_
 refine Go.st (fun _ => XS.iadd X0.here hx rfl (hb hby d26_6) rfl) ?_
 refine Go.st (fun _ => XS.lushr X0.here hx rfl (hb hby d26_7) rfl) ?_
 refine Go.st (fun _ => X0.ldc2J hx hown (mvT hZ (wdx hw 7 rfl)) rfl (hb hby d26_8)) ?_
 show Go _ _ _ _ _ _ _ (s₁.setTop (mkF m 11 #[.val (.long u), .second, .val (.int k)] [(.long 255), (.long ((u.toUInt64 >>> (((3 : Int32) + ((8 : Int32) * k)) &&& 0x3f).toInt64.toUInt64).toInt64))]))
 refine Go.st (fun _ => XS.land X0.here hx rfl (hb hby d26_11) rfl) ?_
 refine Go.st (fun _ => XS.l2i X0.here hx rfl (hb hby d26_12) rfl) ?_
 refine Go.st (fun _ => XS.i2c X0.here hx rfl (hb hby d26_13) rfl) ?_
 show Go _ _ _ _ _ _ _ (s₁.setTop (mkF m 14 #[.val (.long u), .second, .val (.int k)] [(.int (((((u.toUInt64 >>> (((3 : Int32) + ((8 : Int32) * k)) &&& 0x3f).toInt64.toUInt64).toInt64) &&& (255 : Int64)).toInt32).toUInt32.toUInt16.toUInt32.toInt32))]))
 refine Go.retB X0 hx hlk (t := .char) Bd.returns (by simp) (hb hby d26_14) (by decide) (by decide) e0 ?_
 exact ⟨rfl, N0, rfl⟩
theorem d1_0 : decode method_3_code 0 = .ok (.lload_n 0, 1) := by decide +kernel
theorem d1_1 : decode method_3_code 1 = .ok (.ldc2_w 9, 3) := by decide +kernel
theorem d1_4 : decode method_3_code 4 = .ok (.land, 1) := by decide +kernel
theorem d1_5 : decode method_3_code 5 = .ok (.l2i, 1) := by decide +kernel
theorem d1_6 : decode method_3_code 6 = .ok (.istore_n 2, 1) := by decide +kernel
theorem d1_7 : decode method_3_code 7 = .ok (.lload_n 0, 1) := by decide +kernel
theorem d1_8 : decode method_3_code 8 = .ok (.iconst 3, 1) := by decide +kernel
theorem d1_9 : decode method_3_code 9 = .ok (.lushr, 1) := by decide +kernel
theorem d1_10 : decode method_3_code 10 = .ok (.ldc2_w 7, 3) := by decide +kernel
theorem d1_13 : decode method_3_code 13 = .ok (.land, 1) := by decide +kernel
theorem d1_14 : decode method_3_code 14 = .ok (.l2i, 1) := by decide +kernel
theorem d1_15 : decode method_3_code 15 = .ok (.i2c, 1) := by decide +kernel
theorem d1_16 : decode method_3_code 16 = .ok (.istore_n 3, 1) := by decide +kernel
theorem d1_17 : decode method_3_code 17 = .ok (.lload_n 0, 1) := by decide +kernel
theorem d1_18 : decode method_3_code 18 = .ok (.bipush 11, 2) := by decide +kernel
theorem d1_20 : decode method_3_code 20 = .ok (.lushr, 1) := by decide +kernel
theorem d1_21 : decode method_3_code 21 = .ok (.ldc2_w 11, 3) := by decide +kernel
theorem d1_24 : decode method_3_code 24 = .ok (.land, 1) := by decide +kernel
theorem d1_25 : decode method_3_code 25 = .ok (.ldc2_w 13, 3) := by decide +kernel
theorem d1_28 : decode method_3_code 28 = .ok (.lrem, 1) := by decide +kernel
theorem d1_29 : decode method_3_code 29 = .ok (.l2i, 1) := by decide +kernel
theorem d1_30 : decode method_3_code 30 = .ok (.istore 4, 2) := by decide +kernel
theorem d1_32 : decode method_3_code 32 = .ok (.iload_n 2, 1) := by decide +kernel
theorem d1_33 : decode method_3_code 33 = .ok (.ifCond .ne 45, 3) := by decide +kernel
theorem d1_36 : decode method_3_code 36 = .ok (.new 15, 3) := by decide +kernel
theorem d1_39 : decode method_3_code 39 = .ok (.dup, 1) := by decide +kernel
theorem d1_40 : decode method_3_code 40 = .ok (.bipush 6, 2) := by decide +kernel
theorem d1_42 : decode method_3_code 42 = .ok (.newarray .char, 2) := by decide +kernel
theorem d1_44 : decode method_3_code 44 = .ok (.dup, 1) := by decide +kernel
theorem d1_45 : decode method_3_code 45 = .ok (.iconst 0, 1) := by decide +kernel
theorem d1_46 : decode method_3_code 46 = .ok (.bipush 45, 2) := by decide +kernel
theorem d1_48 : decode method_3_code 48 = .ok (.castore, 1) := by decide +kernel
theorem d1_49 : decode method_3_code 49 = .ok (.dup, 1) := by decide +kernel
theorem d1_50 : decode method_3_code 50 = .ok (.iconst 1, 1) := by decide +kernel
theorem d1_51 : decode method_3_code 51 = .ok (.bipush 45, 2) := by decide +kernel
theorem d1_53 : decode method_3_code 53 = .ok (.castore, 1) := by decide +kernel
theorem d1_54 : decode method_3_code 54 = .ok (.dup, 1) := by decide +kernel
theorem d1_55 : decode method_3_code 55 = .ok (.iconst 2, 1) := by decide +kernel
theorem d1_56 : decode method_3_code 56 = .ok (.bipush 104, 2) := by decide +kernel
theorem d1_58 : decode method_3_code 58 = .ok (.castore, 1) := by decide +kernel
theorem d1_59 : decode method_3_code 59 = .ok (.dup, 1) := by decide +kernel
theorem d1_60 : decode method_3_code 60 = .ok (.iconst 3, 1) := by decide +kernel
theorem d1_61 : decode method_3_code 61 = .ok (.bipush 101, 2) := by decide +kernel
theorem d1_63 : decode method_3_code 63 = .ok (.castore, 1) := by decide +kernel
theorem d1_64 : decode method_3_code 64 = .ok (.dup, 1) := by decide +kernel
theorem d1_65 : decode method_3_code 65 = .ok (.iconst 4, 1) := by decide +kernel
theorem d1_66 : decode method_3_code 66 = .ok (.bipush 108, 2) := by decide +kernel
theorem d1_68 : decode method_3_code 68 = .ok (.castore, 1) := by decide +kernel
theorem d1_69 : decode method_3_code 69 = .ok (.dup, 1) := by decide +kernel
theorem d1_70 : decode method_3_code 70 = .ok (.iconst 5, 1) := by decide +kernel
theorem d1_71 : decode method_3_code 71 = .ok (.bipush 112, 2) := by decide +kernel
theorem d1_73 : decode method_3_code 73 = .ok (.castore, 1) := by decide +kernel
theorem pd___C_V : parseMethodDescriptor "([C)V" = some ⟨[(.array .char)], none⟩ := by decide +kernel
theorem d1_74 : decode method_3_code 74 = .ok (.invokespecial 17, 3) := by decide +kernel
theorem d1_77 : decode method_3_code 77 = .ok (.areturn, 1) := by decide +kernel
theorem d1_78 : decode method_3_code 78 = .ok (.iload_n 2, 1) := by decide +kernel
theorem d1_79 : decode method_3_code 79 = .ok (.iconst 1, 1) := by decide +kernel
theorem d1_80 : decode method_3_code 80 = .ok (.if_icmp .ne 55, 3) := by decide +kernel
theorem d1_83 : decode method_3_code 83 = .ok (.bipush 6, 2) := by decide +kernel
theorem d1_85 : decode method_3_code 85 = .ok (.newarray .char, 2) := by decide +kernel
theorem d1_87 : decode method_3_code 87 = .ok (.dup, 1) := by decide +kernel
theorem d1_88 : decode method_3_code 88 = .ok (.iconst 0, 1) := by decide +kernel
theorem d1_89 : decode method_3_code 89 = .ok (.bipush 45, 2) := by decide +kernel
theorem d1_91 : decode method_3_code 91 = .ok (.castore, 1) := by decide +kernel
theorem d1_92 : decode method_3_code 92 = .ok (.dup, 1) := by decide +kernel
theorem d1_93 : decode method_3_code 93 = .ok (.iconst 1, 1) := by decide +kernel
theorem d1_94 : decode method_3_code 94 = .ok (.bipush 45, 2) := by decide +kernel
theorem d1_96 : decode method_3_code 96 = .ok (.castore, 1) := by decide +kernel
theorem d1_97 : decode method_3_code 97 = .ok (.dup, 1) := by decide +kernel
theorem d1_98 : decode method_3_code 98 = .ok (.iconst 2, 1) := by decide +kernel
theorem d1_99 : decode method_3_code 99 = .ok (.bipush 104, 2) := by decide +kernel
theorem d1_101 : decode method_3_code 101 = .ok (.castore, 1) := by decide +kernel
theorem d1_102 : decode method_3_code 102 = .ok (.dup, 1) := by decide +kernel
theorem d1_103 : decode method_3_code 103 = .ok (.iconst 3, 1) := by decide +kernel
theorem d1_104 : decode method_3_code 104 = .ok (.bipush 101, 2) := by decide +kernel
theorem d1_106 : decode method_3_code 106 = .ok (.castore, 1) := by decide +kernel
theorem d1_107 : decode method_3_code 107 = .ok (.dup, 1) := by decide +kernel
theorem d1_108 : decode method_3_code 108 = .ok (.iconst 4, 1) := by decide +kernel
theorem d1_109 : decode method_3_code 109 = .ok (.bipush 108, 2) := by decide +kernel
theorem d1_111 : decode method_3_code 111 = .ok (.castore, 1) := by decide +kernel
theorem d1_112 : decode method_3_code 112 = .ok (.dup, 1) := by decide +kernel
theorem d1_113 : decode method_3_code 113 = .ok (.iconst 5, 1) := by decide +kernel
theorem d1_114 : decode method_3_code 114 = .ok (.bipush 112, 2) := by decide +kernel
theorem d1_116 : decode method_3_code 116 = .ok (.castore, 1) := by decide +kernel
theorem d1_117 : decode method_3_code 117 = .ok (.astore 5, 2) := by decide +kernel
theorem d1_119 : decode method_3_code 119 = .ok (.aload 5, 2) := by decide +kernel
theorem d1_121 : decode method_3_code 121 = .ok (.iload 4, 2) := by decide +kernel
theorem d1_123 : decode method_3_code 123 = .ok (.iload_n 3, 1) := by decide +kernel
theorem d1_124 : decode method_3_code 124 = .ok (.castore, 1) := by decide +kernel
theorem d1_125 : decode method_3_code 125 = .ok (.new 15, 3) := by decide +kernel
theorem d1_128 : decode method_3_code 128 = .ok (.dup, 1) := by decide +kernel
theorem d1_129 : decode method_3_code 129 = .ok (.aload 5, 2) := by decide +kernel
theorem d1_131 : decode method_3_code 131 = .ok (.invokespecial 17, 3) := by decide +kernel
theorem d1_134 : decode method_3_code 134 = .ok (.areturn, 1) := by decide +kernel
theorem d1_135 : decode method_3_code 135 = .ok (.iload_n 2, 1) := by decide +kernel
theorem d1_136 : decode method_3_code 136 = .ok (.iconst 2, 1) := by decide +kernel
theorem d1_137 : decode method_3_code 137 = .ok (.if_icmp .ne 39, 3) := by decide +kernel
theorem d1_140 : decode method_3_code 140 = .ok (.new 15, 3) := by decide +kernel
theorem d1_143 : decode method_3_code 143 = .ok (.dup, 1) := by decide +kernel
theorem d1_144 : decode method_3_code 144 = .ok (.iconst 5, 1) := by decide +kernel
theorem d1_145 : decode method_3_code 145 = .ok (.newarray .char, 2) := by decide +kernel
theorem d1_147 : decode method_3_code 147 = .ok (.dup, 1) := by decide +kernel
theorem d1_148 : decode method_3_code 148 = .ok (.iconst 0, 1) := by decide +kernel
theorem d1_149 : decode method_3_code 149 = .ok (.bipush 45, 2) := by decide +kernel
theorem d1_151 : decode method_3_code 151 = .ok (.castore, 1) := by decide +kernel
theorem d1_152 : decode method_3_code 152 = .ok (.dup, 1) := by decide +kernel
theorem d1_153 : decode method_3_code 153 = .ok (.iconst 1, 1) := by decide +kernel
theorem d1_154 : decode method_3_code 154 = .ok (.bipush 45, 2) := by decide +kernel
theorem d1_156 : decode method_3_code 156 = .ok (.castore, 1) := by decide +kernel
theorem d1_157 : decode method_3_code 157 = .ok (.dup, 1) := by decide +kernel
theorem d1_158 : decode method_3_code 158 = .ok (.iconst 2, 1) := by decide +kernel
theorem d1_159 : decode method_3_code 159 = .ok (.bipush 104, 2) := by decide +kernel
theorem d1_161 : decode method_3_code 161 = .ok (.castore, 1) := by decide +kernel
theorem d1_162 : decode method_3_code 162 = .ok (.dup, 1) := by decide +kernel
theorem d1_163 : decode method_3_code 163 = .ok (.iconst 3, 1) := by decide +kernel
theorem d1_164 : decode method_3_code 164 = .ok (.bipush 101, 2) := by decide +kernel
theorem d1_166 : decode method_3_code 166 = .ok (.castore, 1) := by decide +kernel
theorem d1_167 : decode method_3_code 167 = .ok (.dup, 1) := by decide +kernel
theorem d1_168 : decode method_3_code 168 = .ok (.iconst 4, 1) := by decide +kernel
theorem d1_169 : decode method_3_code 169 = .ok (.bipush 108, 2) := by decide +kernel
theorem d1_171 : decode method_3_code 171 = .ok (.castore, 1) := by decide +kernel
theorem d1_172 : decode method_3_code 172 = .ok (.invokespecial 17, 3) := by decide +kernel
theorem d1_175 : decode method_3_code 175 = .ok (.areturn, 1) := by decide +kernel
theorem d1_176 : decode method_3_code 176 = .ok (.iload_n 2, 1) := by decide +kernel
theorem d1_177 : decode method_3_code 177 = .ok (.iconst 3, 1) := by decide +kernel
theorem d1_178 : decode method_3_code 178 = .ok (.if_icmp .ne 50, 3) := by decide +kernel
theorem d1_181 : decode method_3_code 181 = .ok (.new 15, 3) := by decide +kernel
theorem d1_184 : decode method_3_code 184 = .ok (.dup, 1) := by decide +kernel
theorem d1_185 : decode method_3_code 185 = .ok (.bipush 7, 2) := by decide +kernel
theorem d1_187 : decode method_3_code 187 = .ok (.newarray .char, 2) := by decide +kernel
theorem d1_189 : decode method_3_code 189 = .ok (.dup, 1) := by decide +kernel
theorem d1_190 : decode method_3_code 190 = .ok (.iconst 0, 1) := by decide +kernel
theorem d1_191 : decode method_3_code 191 = .ok (.bipush 45, 2) := by decide +kernel
theorem d1_193 : decode method_3_code 193 = .ok (.castore, 1) := by decide +kernel
theorem d1_194 : decode method_3_code 194 = .ok (.dup, 1) := by decide +kernel
theorem d1_195 : decode method_3_code 195 = .ok (.iconst 1, 1) := by decide +kernel
theorem d1_196 : decode method_3_code 196 = .ok (.bipush 45, 2) := by decide +kernel
theorem d1_198 : decode method_3_code 198 = .ok (.castore, 1) := by decide +kernel
theorem d1_199 : decode method_3_code 199 = .ok (.dup, 1) := by decide +kernel
theorem d1_200 : decode method_3_code 200 = .ok (.iconst 2, 1) := by decide +kernel
theorem d1_201 : decode method_3_code 201 = .ok (.bipush 104, 2) := by decide +kernel
theorem d1_203 : decode method_3_code 203 = .ok (.castore, 1) := by decide +kernel
theorem d1_204 : decode method_3_code 204 = .ok (.dup, 1) := by decide +kernel
theorem d1_205 : decode method_3_code 205 = .ok (.iconst 3, 1) := by decide +kernel
theorem d1_206 : decode method_3_code 206 = .ok (.bipush 101, 2) := by decide +kernel
theorem d1_208 : decode method_3_code 208 = .ok (.castore, 1) := by decide +kernel
theorem d1_209 : decode method_3_code 209 = .ok (.dup, 1) := by decide +kernel
theorem d1_210 : decode method_3_code 210 = .ok (.iconst 4, 1) := by decide +kernel
theorem d1_211 : decode method_3_code 211 = .ok (.bipush 108, 2) := by decide +kernel
theorem d1_213 : decode method_3_code 213 = .ok (.castore, 1) := by decide +kernel
theorem d1_214 : decode method_3_code 214 = .ok (.dup, 1) := by decide +kernel
theorem d1_215 : decode method_3_code 215 = .ok (.iconst 5, 1) := by decide +kernel
theorem d1_216 : decode method_3_code 216 = .ok (.bipush 112, 2) := by decide +kernel
theorem d1_218 : decode method_3_code 218 = .ok (.castore, 1) := by decide +kernel
theorem d1_219 : decode method_3_code 219 = .ok (.dup, 1) := by decide +kernel
theorem d1_220 : decode method_3_code 220 = .ok (.bipush 6, 2) := by decide +kernel
theorem d1_222 : decode method_3_code 222 = .ok (.iload_n 3, 1) := by decide +kernel
theorem d1_223 : decode method_3_code 223 = .ok (.castore, 1) := by decide +kernel
theorem d1_224 : decode method_3_code 224 = .ok (.invokespecial 17, 3) := by decide +kernel
theorem d1_227 : decode method_3_code 227 = .ok (.areturn, 1) := by decide +kernel
theorem d1_228 : decode method_3_code 228 = .ok (.iload_n 2, 1) := by decide +kernel
theorem d1_229 : decode method_3_code 229 = .ok (.iconst 4, 1) := by decide +kernel
theorem d1_230 : decode method_3_code 230 = .ok (.if_icmp .ne 14, 3) := by decide +kernel
theorem d1_233 : decode method_3_code 233 = .ok (.new 15, 3) := by decide +kernel
theorem d1_236 : decode method_3_code 236 = .ok (.dup, 1) := by decide +kernel
theorem d1_237 : decode method_3_code 237 = .ok (.iconst 0, 1) := by decide +kernel
theorem d1_238 : decode method_3_code 238 = .ok (.newarray .char, 2) := by decide +kernel
theorem d1_240 : decode method_3_code 240 = .ok (.invokespecial 17, 3) := by decide +kernel
theorem d1_243 : decode method_3_code 243 = .ok (.areturn, 1) := by decide +kernel
theorem d1_244 : decode method_3_code 244 = .ok (.iload_n 2, 1) := by decide +kernel
theorem d1_245 : decode method_3_code 245 = .ok (.iconst 5, 1) := by decide +kernel
theorem d1_246 : decode method_3_code 246 = .ok (.if_icmp .ne 8, 3) := by decide +kernel
theorem d1_249 : decode method_3_code 249 = .ok (.iload_n 3, 1) := by decide +kernel
theorem pd__C_Ljava_lang_String_ : parseMethodDescriptor "(C)Ljava/lang/String;" = some ⟨[.char], some (.object "java/lang/String")⟩ := by decide +kernel
theorem d1_250 : decode method_3_code 250 = .ok (.invokestatic 20, 3) := by decide +kernel
theorem d1_253 : decode method_3_code 253 = .ok (.areturn, 1) := by decide +kernel
theorem d1_254 : decode method_3_code 254 = .ok (.iload_n 2, 1) := by decide +kernel
theorem d1_255 : decode method_3_code 255 = .ok (.bipush 6, 2) := by decide +kernel
theorem d1_257 : decode method_3_code 257 = .ok (.if_icmp .ne 45, 3) := by decide +kernel
theorem d1_260 : decode method_3_code 260 = .ok (.new 15, 3) := by decide +kernel
theorem d1_263 : decode method_3_code 263 = .ok (.dup, 1) := by decide +kernel
theorem d1_264 : decode method_3_code 264 = .ok (.bipush 6, 2) := by decide +kernel
theorem d1_266 : decode method_3_code 266 = .ok (.newarray .char, 2) := by decide +kernel
theorem d1_268 : decode method_3_code 268 = .ok (.dup, 1) := by decide +kernel
theorem d1_269 : decode method_3_code 269 = .ok (.iconst 0, 1) := by decide +kernel
theorem d1_270 : decode method_3_code 270 = .ok (.bipush 45, 2) := by decide +kernel
theorem d1_272 : decode method_3_code 272 = .ok (.castore, 1) := by decide +kernel
theorem d1_273 : decode method_3_code 273 = .ok (.dup, 1) := by decide +kernel
theorem d1_274 : decode method_3_code 274 = .ok (.iconst 1, 1) := by decide +kernel
theorem d1_275 : decode method_3_code 275 = .ok (.bipush 45, 2) := by decide +kernel
theorem d1_277 : decode method_3_code 277 = .ok (.castore, 1) := by decide +kernel
theorem d1_278 : decode method_3_code 278 = .ok (.dup, 1) := by decide +kernel
theorem d1_279 : decode method_3_code 279 = .ok (.iconst 2, 1) := by decide +kernel
theorem d1_280 : decode method_3_code 280 = .ok (.bipush 72, 2) := by decide +kernel
theorem d1_282 : decode method_3_code 282 = .ok (.castore, 1) := by decide +kernel
theorem d1_283 : decode method_3_code 283 = .ok (.dup, 1) := by decide +kernel
theorem d1_284 : decode method_3_code 284 = .ok (.iconst 3, 1) := by decide +kernel
theorem d1_285 : decode method_3_code 285 = .ok (.bipush 69, 2) := by decide +kernel
theorem d1_287 : decode method_3_code 287 = .ok (.castore, 1) := by decide +kernel
theorem d1_288 : decode method_3_code 288 = .ok (.dup, 1) := by decide +kernel
theorem d1_289 : decode method_3_code 289 = .ok (.iconst 4, 1) := by decide +kernel
theorem d1_290 : decode method_3_code 290 = .ok (.bipush 76, 2) := by decide +kernel
theorem d1_292 : decode method_3_code 292 = .ok (.castore, 1) := by decide +kernel
theorem d1_293 : decode method_3_code 293 = .ok (.dup, 1) := by decide +kernel
theorem d1_294 : decode method_3_code 294 = .ok (.iconst 5, 1) := by decide +kernel
theorem d1_295 : decode method_3_code 295 = .ok (.bipush 80, 2) := by decide +kernel
theorem d1_297 : decode method_3_code 297 = .ok (.castore, 1) := by decide +kernel
theorem d1_298 : decode method_3_code 298 = .ok (.invokespecial 17, 3) := by decide +kernel
theorem d1_301 : decode method_3_code 301 = .ok (.areturn, 1) := by decide +kernel
theorem d1_302 : decode method_3_code 302 = .ok (.new 15, 3) := by decide +kernel
theorem d1_305 : decode method_3_code 305 = .ok (.dup, 1) := by decide +kernel
theorem d1_306 : decode method_3_code 306 = .ok (.bipush 6, 2) := by decide +kernel
theorem d1_308 : decode method_3_code 308 = .ok (.newarray .char, 2) := by decide +kernel
theorem d1_310 : decode method_3_code 310 = .ok (.dup, 1) := by decide +kernel
theorem d1_311 : decode method_3_code 311 = .ok (.iconst 0, 1) := by decide +kernel
theorem d1_312 : decode method_3_code 312 = .ok (.lload_n 0, 1) := by decide +kernel
theorem d1_313 : decode method_3_code 313 = .ok (.iconst 0, 1) := by decide +kernel
theorem pd__JI_C : parseMethodDescriptor "(JI)C" = some ⟨[.long, .int], some .char⟩ := by decide +kernel
theorem d1_314 : decode method_3_code 314 = .ok (.invokestatic 24, 3) := by decide +kernel
theorem d1_317 : decode method_3_code 317 = .ok (.castore, 1) := by decide +kernel
theorem d1_318 : decode method_3_code 318 = .ok (.dup, 1) := by decide +kernel
theorem d1_319 : decode method_3_code 319 = .ok (.iconst 1, 1) := by decide +kernel
theorem d1_320 : decode method_3_code 320 = .ok (.lload_n 0, 1) := by decide +kernel
theorem d1_321 : decode method_3_code 321 = .ok (.iconst 1, 1) := by decide +kernel
theorem d1_322 : decode method_3_code 322 = .ok (.invokestatic 24, 3) := by decide +kernel
theorem d1_325 : decode method_3_code 325 = .ok (.castore, 1) := by decide +kernel
theorem d1_326 : decode method_3_code 326 = .ok (.dup, 1) := by decide +kernel
theorem d1_327 : decode method_3_code 327 = .ok (.iconst 2, 1) := by decide +kernel
theorem d1_328 : decode method_3_code 328 = .ok (.lload_n 0, 1) := by decide +kernel
theorem d1_329 : decode method_3_code 329 = .ok (.iconst 2, 1) := by decide +kernel
theorem d1_330 : decode method_3_code 330 = .ok (.invokestatic 24, 3) := by decide +kernel
theorem d1_333 : decode method_3_code 333 = .ok (.castore, 1) := by decide +kernel
theorem d1_334 : decode method_3_code 334 = .ok (.dup, 1) := by decide +kernel
theorem d1_335 : decode method_3_code 335 = .ok (.iconst 3, 1) := by decide +kernel
theorem d1_336 : decode method_3_code 336 = .ok (.lload_n 0, 1) := by decide +kernel
theorem d1_337 : decode method_3_code 337 = .ok (.iconst 3, 1) := by decide +kernel
theorem d1_338 : decode method_3_code 338 = .ok (.invokestatic 24, 3) := by decide +kernel
theorem d1_341 : decode method_3_code 341 = .ok (.castore, 1) := by decide +kernel
theorem d1_342 : decode method_3_code 342 = .ok (.dup, 1) := by decide +kernel
theorem d1_343 : decode method_3_code 343 = .ok (.iconst 4, 1) := by decide +kernel
theorem d1_344 : decode method_3_code 344 = .ok (.lload_n 0, 1) := by decide +kernel
theorem d1_345 : decode method_3_code 345 = .ok (.iconst 4, 1) := by decide +kernel
theorem d1_346 : decode method_3_code 346 = .ok (.invokestatic 24, 3) := by decide +kernel
theorem d1_349 : decode method_3_code 349 = .ok (.castore, 1) := by decide +kernel
theorem d1_350 : decode method_3_code 350 = .ok (.dup, 1) := by decide +kernel
theorem d1_351 : decode method_3_code 351 = .ok (.iconst 5, 1) := by decide +kernel
theorem d1_352 : decode method_3_code 352 = .ok (.lload_n 0, 1) := by decide +kernel
theorem d1_353 : decode method_3_code 353 = .ok (.iconst 5, 1) := by decide +kernel
theorem d1_354 : decode method_3_code 354 = .ok (.invokestatic 24, 3) := by decide +kernel
theorem d1_357 : decode method_3_code 357 = .ok (.castore, 1) := by decide +kernel
theorem d1_358 : decode method_3_code 358 = .ok (.invokespecial 17, 3) := by decide +kernel
theorem d1_361 : decode method_3_code 361 = .ok (.areturn, 1) := by decide +kernel
theorem ef_rm1 (m : MethodId) (u : Int64) : entryFrame m #[(.long u)] 6 = mkF m 0 #[.val (.long u), .second, .unset, .unset, .unset, .unset] [] := by first | (simp [entryFrame, mkF, argsToLocals, Value.category]; done) | rfl
def Q1 (Z : State) (u : Int64) (cs : Int32) (h0 : Heap) (n0 : Nat) (v : Option Value) (h : Heap) (L : List Loc) : Prop := ∃ (rr : Addr) (tb : Addr) (kt : ClassId), v = some (.ref rr) ∧ Fr n0 L ∧ Keep h0 h [] ∧ Exa Z h rr "java/lang/String" ∧ Fld Z h rr "java/lang/String" "coder" "B" (.int 0) ∧ Fld Z h rr "java/lang/String" "value" "[B" (.ref tb) ∧ Arv Z h tb kt .byte (Int32.ofNat (List.length (fbl (fch u)))) (List.map Value.int (fbl (fch u))) (.int 0) ∧ h0.size ≤ rr
set_option maxRecDepth 65536 in
set_option maxHeartbeats 40000000 in
theorem rm1 (l : Launch) (Z : State) (a0 : Array Value) (hw : ∀ d ∈ tables_1, d.before a0 Z = true) (ws : List Jvm.Cond) (u : Int64) (cs : Int32) (h0 : Heap) (n0 : Nat) (O0 : Old Z n0 h0) (S_cs : Sta Z Z.heap "java/lang/String" "COMPACT_STRINGS" "Z" (.int cs)) (q_cs : ¬ cs = (0 : Int32)) :
  MetFree l mn13 (head1 (Jvm.Cond.code mn13 method_3_code 6 (some (.object "java/lang/String")) :: ws) ({ frames := 4, cells := 6, slots := 18, locals := 66 } : Room)) (fun ay U => ay = #[(.long u)] ∧ Z.Warmed39 U.vm ∧ U.heap = h0 ∧ CHv Z EL U.vm h0 ∧ ∀ y ∈ ([] : List Addr), Safe Z EL U.vm h0 y) (fun _ _ _ _ _ => True) (fun _ U o U' => ∃ v L, o = .returned v ∧ Q1 Z u cs h0 n0 v U'.heap L ∧ CHr Z EL U.vm U.heap U'.vm U'.heap ∧ ReturnedEndW U o U' L ({ frames := 4, cells := 6, slots := 18, locals := 66 } : Room).cells ({ frames := 4, cells := 6, slots := 18, locals := 66 } : Room).slots) := by
 refine MetFree.of_bodySF (plainFor_of_name pn_com_example_reportwire_reportwire_ArgumentsAsksForHelpPinLaw) hisR ?_
 intro p e s m args below meth c s₁ Bd hml0 hP hK
 obtain ⟨rfl, hZ, hh, hCH, hSf⟩ := hP
 have hx := Bd.exec
 have hby := Bd.bytes
 have hlk : meth.locks = false := BodyLoose.notSynchronized Bd
 have hml : c.maxLocals = 6 := hml0
 have hown : s.vm.findClass "com/example/reportwire/reportwire/ArgumentsAsksForHelpPinLaw" = some m.cls := findClass_of_methodNamed Bd.named
 have hnm := (name_of_methodNamed Bd.named Bd.method).1
 have X0 : Stand p l e ({ frames := 4, cells := 6, slots := 18, locals := 66 } : Room) (s.setVm s.vm) m #[(.long u)] below meth c s₁ [] 0 0 := Stand.of_body Bd
 have e0 : s₁.heap = h0 := by rw [← hh, Bd.state]; rfl
 have N0 := Fr.nil n0
 have hS0 : s.Since s.vm 0 := (State.WarmedH.refl s).since 0
 have hk0 : 0 ≤ h0.size := Nat.zero_le _
 have CH0 : CHr Z EL s.vm s.heap s.vm h0 := by rw [hh]; exact CHr.refl hCH
 have hEL : EW Z a0 EL := own_EW hw
 have hwS := own_wS hw
 suffices hgo : GoW p e below s 6 18 Z EL (Q1 Z u cs h0 n0) (s₁.setTop (mkF m 0 #[.val (.long u), .second, .unset, .unset, .unset, .unset] [])) by
  obtain ⟨t, o, h1, h2⟩ := hgo; exact ⟨t, o, castTop (ef_rm1 m u) h1, h2⟩
 show GoW _ _ _ _ _ _ _ _ _ (s₁.setTop (mkF m 0 #[.val (.long u), .second, .unset, .unset, .unset, .unset] []))
 refine GoW.st (fun _ => XS.lloadN X0.here hx rfl (hb hby d1_0) rfl) ?_
 refine GoW.st (fun _ => X0.ldc2J hx hown (mvT hZ (wdx hw 6 rfl)) rfl (hb hby d1_1)) ?_
 show GoW _ _ _ _ _ _ _ _ _ (s₁.setTop (mkF m 4 #[.val (.long u), .second, .unset, .unset, .unset, .unset] [(.long 7), (.long u)]))
 refine GoW.st (fun _ => XS.land X0.here hx rfl (hb hby d1_4) rfl) ?_
 refine GoW.st (fun _ => XS.l2i X0.here hx rfl (hb hby d1_5) rfl) ?_
 refine GoW.st (fun _ => XS.istoreN X0.here hx rfl (hb hby d1_6) rfl (l' := #[.val (.long u), .second, .val (.int ((u &&& (7 : Int64)).toInt32)), .unset, .unset, .unset]) rfl) ?_
 refine GoW.st (fun _ => XS.lloadN X0.here hx rfl (hb hby d1_7) rfl) ?_
 refine GoW.st (fun _ => XS.iconst X0.here hx rfl (hb hby d1_8)) ?_
 refine GoW.st (fun _ => XS.lushr X0.here hx rfl (hb hby d1_9) rfl) ?_
 refine GoW.st (fun _ => X0.ldc2J hx hown (mvT hZ (wdx hw 7 rfl)) rfl (hb hby d1_10)) ?_
 show GoW _ _ _ _ _ _ _ _ _ (s₁.setTop (mkF m 13 #[.val (.long u), .second, .val (.int ((u &&& (7 : Int64)).toInt32)), .unset, .unset, .unset] [(.long 255), (.long ((u.toUInt64 >>> ((3 : Int32) &&& 0x3f).toInt64.toUInt64).toInt64))]))
 refine GoW.st (fun _ => XS.land X0.here hx rfl (hb hby d1_13) rfl) ?_
 refine GoW.st (fun _ => XS.l2i X0.here hx rfl (hb hby d1_14) rfl) ?_
 refine GoW.st (fun _ => XS.i2c X0.here hx rfl (hb hby d1_15) rfl) ?_
 refine GoW.st (fun _ => XS.istoreN X0.here hx rfl (hb hby d1_16) rfl (l' := #[.val (.long u), .second, .val (.int ((u &&& (7 : Int64)).toInt32)), .val (.int (((((u.toUInt64 >>> ((3 : Int32) &&& 0x3f).toInt64.toUInt64).toInt64) &&& (255 : Int64)).toInt32).toUInt32.toUInt16.toUInt32.toInt32)), .unset, .unset]) rfl) ?_
 refine GoW.st (fun _ => XS.lloadN X0.here hx rfl (hb hby d1_17) rfl) ?_
 refine GoW.st (fun _ => XS.bipush X0.here hx rfl (hb hby d1_18)) ?_
 refine GoW.st (fun _ => XS.lushr X0.here hx rfl (hb hby d1_20) rfl) ?_
 refine GoW.st (fun _ => X0.ldc2J hx hown (mvT hZ (wdx hw 8 rfl)) rfl (hb hby d1_21)) ?_
 show GoW _ _ _ _ _ _ _ _ _ (s₁.setTop (mkF m 24 #[.val (.long u), .second, .val (.int ((u &&& (7 : Int64)).toInt32)), .val (.int (((((u.toUInt64 >>> ((3 : Int32) &&& 0x3f).toInt64.toUInt64).toInt64) &&& (255 : Int64)).toInt32).toUInt32.toUInt16.toUInt32.toInt32)), .unset, .unset] [(.long 2147483647), (.long ((u.toUInt64 >>> ((11 : Int32) &&& 0x3f).toInt64.toUInt64).toInt64))]))
 refine GoW.st (fun _ => XS.land X0.here hx rfl (hb hby d1_24) rfl) ?_
 refine GoW.st (fun _ => X0.ldc2J hx hown (mvT hZ (wdx hw 9 rfl)) rfl (hb hby d1_25)) ?_
 show GoW _ _ _ _ _ _ _ _ _ (s₁.setTop (mkF m 28 #[.val (.long u), .second, .val (.int ((u &&& (7 : Int64)).toInt32)), .val (.int (((((u.toUInt64 >>> ((3 : Int32) &&& 0x3f).toInt64.toUInt64).toInt64) &&& (255 : Int64)).toInt32).toUInt32.toUInt16.toUInt32.toInt32)), .unset, .unset] [(.long 6), (.long (((u.toUInt64 >>> ((11 : Int32) &&& 0x3f).toInt64.toUInt64).toInt64) &&& (2147483647 : Int64)))]))
 refine GoW.st (fun _ => XS.lrem X0.here hx rfl (hb hby d1_28) rfl (by decide)) ?_
 show GoW _ _ _ _ _ _ _ _ _ (s₁.setTop (mkF m 29 #[.val (.long u), .second, .val (.int ((u &&& (7 : Int64)).toInt32)), .val (.int (((((u.toUInt64 >>> ((3 : Int32) &&& 0x3f).toInt64.toUInt64).toInt64) &&& (255 : Int64)).toInt32).toUInt32.toUInt16.toUInt32.toInt32)), .unset, .unset] [(.long ((((u.toUInt64 >>> ((11 : Int32) &&& 0x3f).toInt64.toUInt64).toInt64) &&& (2147483647 : Int64)) - ((((u.toUInt64 >>> ((11 : Int32) &&& 0x3f).toInt64.toUInt64).toInt64) &&& (2147483647 : Int64)) / (6 : Int64)) * (6 : Int64)))]))
 refine GoW.st (fun _ => XS.l2i X0.here hx rfl (hb hby d1_29) rfl) ?_
 refine GoW.st (fun _ => XS.istore X0.here hx rfl (hb hby d1_30) rfl (l' := #[.val (.long u), .second, .val (.int ((u &&& (7 : Int64)).toInt32)), .val (.int (((((u.toUInt64 >>> ((3 : Int32) &&& 0x3f).toInt64.toUInt64).toInt64) &&& (255 : Int64)).toInt32).toUInt32.toUInt16.toUInt32.toInt32)), .val (.int (((((u.toUInt64 >>> ((11 : Int32) &&& 0x3f).toInt64.toUInt64).toInt64) &&& (2147483647 : Int64)) - ((((u.toUInt64 >>> ((11 : Int32) &&& 0x3f).toInt64.toUInt64).toInt64) &&& (2147483647 : Int64)) / (6 : Int64)) * (6 : Int64)).toInt32)), .unset]) rfl) ?_
 show GoW _ _ _ _ _ _ _ _ _ (s₁.setTop (mkF m 32 #[.val (.long u), .second, .val (.int ((u &&& (7 : Int64)).toInt32)), .val (.int (((((u.toUInt64 >>> ((3 : Int32) &&& 0x3f).toInt64.toUInt64).toInt64) &&& (255 : Int64)).toInt32).toUInt32.toUInt16.toUInt32.toInt32)), .val (.int (((((u.toUInt64 >>> ((11 : Int32) &&& 0x3f).toInt64.toUInt64).toInt64) &&& (2147483647 : Int64)) - ((((u.toUInt64 >>> ((11 : Int32) &&& 0x3f).toInt64.toUInt64).toInt64) &&& (2147483647 : Int64)) / (6 : Int64)) * (6 : Int64)).toInt32)), .unset] []))
 obtain ⟨cx, hd_cx⟩ : ∃ z, z = (((((u.toUInt64 >>> ((3 : Int32) &&& 0x3f).toInt64.toUInt64).toInt64) &&& (255 : Int64)).toInt32).toUInt32.toUInt16.toUInt32.toInt32) := ⟨_, rfl⟩
 rw [← hd_cx]
 have r_cx := own_cxr u cx hd_cx
 have n_cx := r_cx.2
 obtain ⟨po, hd_po⟩ : ∃ z, z = (((((u.toUInt64 >>> ((11 : Int32) &&& 0x3f).toInt64.toUInt64).toInt64) &&& (2147483647 : Int64)) - ((((u.toUInt64 >>> ((11 : Int32) &&& 0x3f).toInt64.toUInt64).toInt64) &&& (2147483647 : Int64)) / (6 : Int64)) * (6 : Int64)).toInt32) := ⟨_, rfl⟩
 rw [← hd_po]
 have r_po := own_po u po hd_po
 obtain ⟨mo, hd_mo⟩ : ∃ z, z = ((u &&& (7 : Int64)).toInt32) := ⟨_, rfl⟩
 rw [← hd_mo]
 have r_mo := own_mo u mo hd_mo
 show GoW _ _ _ _ _ _ _ _ _ (s₁.setTop (mkF m 32 #[.val (.long u), .second, .val (.int mo), .val (.int cx), .val (.int po), .unset] []))
 refine GoW.st (fun _ => XS.iloadN X0.here hx rfl (hb hby d1_32) rfl) ?_
 show GoW _ _ _ _ _ _ _ _ _ (s₁.setTop (mkF m 33 #[.val (.long u), .second, .val (.int mo), .val (.int cx), .val (.int po), .unset] [(.int mo)]))
 by_cases hc1 : mo = (0 : Int32)
 ·refine GoW.st (fun _ => XS.ifNo X0.here hx rfl (hb hby d1_33) rfl (XT.i0_ne_f hc1)) ?_
  obtain ⟨T2, h2, X2, e2, E2, A2, D2, -, st2⟩ := newO X0 hx hZ hown (wdx hw 0 rfl) (wdx hw 10 rfl) (wdx hw 11 rfl) e0 (g := (mkF m 36 #[.val (.long u), .second, .val (.int mo), .val (.int cx), .val (.int po), .unset] [])) rfl (hb hby d1_36) (by decide) (by decide)
  obtain ⟨b2, g2⟩ : ∃ z, z = h0.size := ⟨_, rfl⟩
  rw [← g2] at A2 D2 st2
  refine GoW.st st2 ?_
  have g_b2 : n0 ≤ b2 := Nat.le_trans (own_le O0) (Nat.le_of_eq g2.symm)
  have z_b2 : h0.size ≤ b2 := Nat.le_of_eq g2.symm
  have sf_b2 : Safe Z EL s.vm h0 b2 := Safe.new (Nat.le_of_eq g2.symm)
  have f3 := Safe.ext E2 CH0.1 sf_b2
  have CH2 := CH0.trans (CHr.ext E2 CH0.1)
  have hk2 : 0 ≤ Array.size h2 := Nat.le_trans hk0 E2.1
  have O2 := O0.ext E2
  have K2 : Keep h0 h2 [] := (Keep.refl h0 []).ext E2
  have f4 : Fld Z h2 b2 "java/lang/String" "coder" "B" (.int 0) := D2 (Or.inr (wdx hw 36 rfl)) (ty := .byte) (by decide)
  have f5 : Fld Z h2 b2 "java/lang/String" "value" "[B" .null := D2 (Or.inr (wdx hw 38 rfl)) (ty := (.array .byte)) (by decide)
  show GoW _ _ _ _ _ _ _ _ _ (T2.setTop (mkF m 39 #[.val (.long u), .second, .val (.int mo), .val (.int cx), .val (.int po), .unset] [(.ref b2)]))
  refine GoW.st (fun _ => XS.dup X2.here hx rfl (hb hby d1_39) rfl rfl) ?_
  refine GoW.st (fun _ => XS.bipush X2.here hx rfl (hb hby d1_40)) ?_
  obtain ⟨T6, h6, k6, X6, e6, E6, A6, st6⟩ := newP X2 hx hZ (wdx hw 12 rfl) e2 (g := (mkF m 42 #[.val (.long u), .second, .val (.int mo), .val (.int cx), .val (.int po), .unset] [(.int 6), (.ref b2), (.ref b2)])) rfl (hb hby d1_42) rfl (by decide) (cap := 6) (by decide) (by decide) (by decide) (by decide)
  obtain ⟨b6, g6⟩ : ∃ z, z = h2.size := ⟨_, rfl⟩
  rw [← g6] at A6 st6
  refine GoW.st st6 ?_
  have g_b6 : n0 ≤ b6 := Nat.le_trans (own_le O2) (Nat.le_of_eq g6.symm)
  have z_b6 : h0.size ≤ b6 := Nat.le_trans K2.1 (Nat.le_of_eq g6.symm)
  have sf_b6 : Safe Z EL s.vm h2 b6 := Safe.new (Nat.le_of_eq g6.symm)
  have ne7 : b2 ≠ b6 := Nat.ne_of_lt (Nat.lt_of_lt_of_le A2.lt (Nat.le_of_eq g6.symm))
  have f8 := Safe.ext E6 CH2.1 f3
  have f9 := A2.ext E6
  have f10 := f4.ext E6
  have f11 := f5.ext E6
  have f12 := Safe.ext E6 CH2.1 sf_b6
  have CH6 := CH2.trans (CHr.ext E6 CH2.1)
  have hk6 : 0 ≤ Array.size h6 := Nat.le_trans hk2 E6.1
  have O6 := O2.ext E6
  have K6 : Keep h0 h6 [] := K2.ext E6
  have f13 : Arv Z h6 b6 k6 .char (6 : Int32) [(.int 0), (.int 0), (.int 0), (.int 0), (.int 0), (.int 0)] (.int 0) := (Arv.new A6 (by decide)).pad (pad_rep [] (.int 0) 6)
  show GoW _ _ _ _ _ _ _ _ _ (T6.setTop (mkF m 44 #[.val (.long u), .second, .val (.int mo), .val (.int cx), .val (.int po), .unset] [(.ref b6), (.ref b2), (.ref b2)]))
  refine GoW.st (fun _ => XS.dup X6.here hx rfl (hb hby d1_44) rfl rfl) ?_
  refine GoW.st (fun _ => XS.iconst X6.here hx rfl (hb hby d1_45)) ?_
  refine GoW.st (fun _ => XS.bipush X6.here hx rfl (hb hby d1_46)) ?_
  obtain ⟨cl14, Ar14, qc14, Sz14, Nn14, Ha14, Gf14⟩ := id f13
  obtain ⟨T14, h14, X14, e14, W14, st14⟩ := stC X6 hx hZ e6 Ar14 (j := (0 : Int32)) (inb_of Sz14 ⟨by decide, by decide⟩) (g := (mkF m 48 #[.val (.long u), .second, .val (.int mo), .val (.int cx), .val (.int po), .unset] [(.int 45), (.int 0), (.ref b6), (.ref b6), (.ref b2), (.ref b2)])) rfl rfl (hb hby d1_48)
  refine GoW.st st14 ?_
  have f16 := Safe.wr W14 f12 CH6.1 f8
  have f17 := f9.wr W14
  have f18 := f10.other W14 (Or.inl ne7)
  have f19 := f11.other W14 (Or.inl ne7)
  have f20 := Safe.wr W14 f12 CH6.1 f12
  have CH14 := CH6.trans (CHr.wr W14 f12 CH6.1)
  have hk14 : 0 ≤ Array.size h14 := Nat.le_trans hk6 (Keep.of_wr W14).1
  have O14 := O6.wr W14 g_b6
  have N14 := Fr.snoc X14 N0 g_b6
  have K14 : Keep h0 h14 [] := K6.wr W14 (Or.inr z_b6)
  have f15 : Arv Z h14 b6 k6 .char (6 : Int32) [(.int (nar .char (45 : Int32))), (.int 0), (.int 0), (.int 0), (.int 0), (.int 0)] (.int 0) := Arv.set Ar14 qc14 Sz14 Nn14 Ha14 Gf14 (fits_nar_char _) W14 0 rfl (Nat.le_of_ble_eq_true rfl)
  refine GoW.st (fun _ => XS.dup X14.here hx rfl (hb hby d1_49) rfl rfl) ?_
  refine GoW.st (fun _ => XS.iconst X14.here hx rfl (hb hby d1_50)) ?_
  refine GoW.st (fun _ => XS.bipush X14.here hx rfl (hb hby d1_51)) ?_
  obtain ⟨cl21, Ar21, qc21, Sz21, Nn21, Ha21, Gf21⟩ := id f15
  obtain ⟨T21, h21, X21, e21, W21, st21⟩ := stC X14 hx hZ e14 Ar21 (j := (1 : Int32)) (inb_of Sz21 ⟨by decide, by decide⟩) (g := (mkF m 53 #[.val (.long u), .second, .val (.int mo), .val (.int cx), .val (.int po), .unset] [(.int 45), (.int 1), (.ref b6), (.ref b6), (.ref b2), (.ref b2)])) rfl rfl (hb hby d1_53)
  refine GoW.st st21 ?_
  have f23 := Safe.wr W21 f20 CH14.1 f16
  have f24 := f17.wr W21
  have f25 := f18.other W21 (Or.inl ne7)
  have f26 := f19.other W21 (Or.inl ne7)
  have f27 := Safe.wr W21 f20 CH14.1 f20
  have CH21 := CH14.trans (CHr.wr W21 f20 CH14.1)
  have hk21 : 0 ≤ Array.size h21 := Nat.le_trans hk14 (Keep.of_wr W21).1
  have O21 := O14.wr W21 g_b6
  have N21 := Fr.snoc X21 N14 g_b6
  have K21 : Keep h0 h21 [] := K14.wr W21 (Or.inr z_b6)
  have f22 : Arv Z h21 b6 k6 .char (6 : Int32) [(.int (nar .char (45 : Int32))), (.int (nar .char (45 : Int32))), (.int 0), (.int 0), (.int 0), (.int 0)] (.int 0) := Arv.set Ar21 qc21 Sz21 Nn21 Ha21 Gf21 (fits_nar_char _) W21 1 rfl (Nat.le_of_ble_eq_true rfl)
  refine GoW.st (fun _ => XS.dup X21.here hx rfl (hb hby d1_54) rfl rfl) ?_
  refine GoW.st (fun _ => XS.iconst X21.here hx rfl (hb hby d1_55)) ?_
  refine GoW.st (fun _ => XS.bipush X21.here hx rfl (hb hby d1_56)) ?_
  obtain ⟨cl28, Ar28, qc28, Sz28, Nn28, Ha28, Gf28⟩ := id f22
  obtain ⟨T28, h28, X28, e28, W28, st28⟩ := stC X21 hx hZ e21 Ar28 (j := (2 : Int32)) (inb_of Sz28 ⟨by decide, by decide⟩) (g := (mkF m 58 #[.val (.long u), .second, .val (.int mo), .val (.int cx), .val (.int po), .unset] [(.int 104), (.int 2), (.ref b6), (.ref b6), (.ref b2), (.ref b2)])) rfl rfl (hb hby d1_58)
  refine GoW.st st28 ?_
  have f30 := Safe.wr W28 f27 CH21.1 f23
  have f31 := f24.wr W28
  have f32 := f25.other W28 (Or.inl ne7)
  have f33 := f26.other W28 (Or.inl ne7)
  have f34 := Safe.wr W28 f27 CH21.1 f27
  have CH28 := CH21.trans (CHr.wr W28 f27 CH21.1)
  have hk28 : 0 ≤ Array.size h28 := Nat.le_trans hk21 (Keep.of_wr W28).1
  have O28 := O21.wr W28 g_b6
  have N28 := Fr.snoc X28 N21 g_b6
  have K28 : Keep h0 h28 [] := K21.wr W28 (Or.inr z_b6)
  have f29 : Arv Z h28 b6 k6 .char (6 : Int32) [(.int (nar .char (45 : Int32))), (.int (nar .char (45 : Int32))), (.int (nar .char (104 : Int32))), (.int 0), (.int 0), (.int 0)] (.int 0) := Arv.set Ar28 qc28 Sz28 Nn28 Ha28 Gf28 (fits_nar_char _) W28 2 rfl (Nat.le_of_ble_eq_true rfl)
  refine GoW.st (fun _ => XS.dup X28.here hx rfl (hb hby d1_59) rfl rfl) ?_
  refine GoW.st (fun _ => XS.iconst X28.here hx rfl (hb hby d1_60)) ?_
  refine GoW.st (fun _ => XS.bipush X28.here hx rfl (hb hby d1_61)) ?_
  obtain ⟨cl35, Ar35, qc35, Sz35, Nn35, Ha35, Gf35⟩ := id f29
  obtain ⟨T35, h35, X35, e35, W35, st35⟩ := stC X28 hx hZ e28 Ar35 (j := (3 : Int32)) (inb_of Sz35 ⟨by decide, by decide⟩) (g := (mkF m 63 #[.val (.long u), .second, .val (.int mo), .val (.int cx), .val (.int po), .unset] [(.int 101), (.int 3), (.ref b6), (.ref b6), (.ref b2), (.ref b2)])) rfl rfl (hb hby d1_63)
  refine GoW.st st35 ?_
  have f37 := Safe.wr W35 f34 CH28.1 f30
  have f38 := f31.wr W35
  have f39 := f32.other W35 (Or.inl ne7)
  have f40 := f33.other W35 (Or.inl ne7)
  have f41 := Safe.wr W35 f34 CH28.1 f34
  have CH35 := CH28.trans (CHr.wr W35 f34 CH28.1)
  have hk35 : 0 ≤ Array.size h35 := Nat.le_trans hk28 (Keep.of_wr W35).1
  have O35 := O28.wr W35 g_b6
  have N35 := Fr.snoc X35 N28 g_b6
  have K35 : Keep h0 h35 [] := K28.wr W35 (Or.inr z_b6)
  have f36 : Arv Z h35 b6 k6 .char (6 : Int32) [(.int (nar .char (45 : Int32))), (.int (nar .char (45 : Int32))), (.int (nar .char (104 : Int32))), (.int (nar .char (101 : Int32))), (.int 0), (.int 0)] (.int 0) := Arv.set Ar35 qc35 Sz35 Nn35 Ha35 Gf35 (fits_nar_char _) W35 3 rfl (Nat.le_of_ble_eq_true rfl)
  refine GoW.st (fun _ => XS.dup X35.here hx rfl (hb hby d1_64) rfl rfl) ?_
  show GoW _ _ _ _ _ _ _ _ _ (T35.setTop (mkF m 65 #[.val (.long u), .second, .val (.int mo), .val (.int cx), .val (.int po), .unset] [(.ref b6), (.ref b6), (.ref b2), (.ref b2)]))
  refine GoW.st (fun _ => XS.iconst X35.here hx rfl (hb hby d1_65)) ?_
  refine GoW.st (fun _ => XS.bipush X35.here hx rfl (hb hby d1_66)) ?_
  obtain ⟨cl42, Ar42, qc42, Sz42, Nn42, Ha42, Gf42⟩ := id f36
  obtain ⟨T42, h42, X42, e42, W42, st42⟩ := stC X35 hx hZ e35 Ar42 (j := (4 : Int32)) (inb_of Sz42 ⟨by decide, by decide⟩) (g := (mkF m 68 #[.val (.long u), .second, .val (.int mo), .val (.int cx), .val (.int po), .unset] [(.int 108), (.int 4), (.ref b6), (.ref b6), (.ref b2), (.ref b2)])) rfl rfl (hb hby d1_68)
  refine GoW.st st42 ?_
  have f44 := Safe.wr W42 f41 CH35.1 f37
  have f45 := f38.wr W42
  have f46 := f39.other W42 (Or.inl ne7)
  have f47 := f40.other W42 (Or.inl ne7)
  have f48 := Safe.wr W42 f41 CH35.1 f41
  have CH42 := CH35.trans (CHr.wr W42 f41 CH35.1)
  have hk42 : 0 ≤ Array.size h42 := Nat.le_trans hk35 (Keep.of_wr W42).1
  have O42 := O35.wr W42 g_b6
  have N42 := Fr.snoc X42 N35 g_b6
  have K42 : Keep h0 h42 [] := K35.wr W42 (Or.inr z_b6)
  have f43 : Arv Z h42 b6 k6 .char (6 : Int32) [(.int (nar .char (45 : Int32))), (.int (nar .char (45 : Int32))), (.int (nar .char (104 : Int32))), (.int (nar .char (101 : Int32))), (.int (nar .char (108 : Int32))), (.int 0)] (.int 0) := Arv.set Ar42 qc42 Sz42 Nn42 Ha42 Gf42 (fits_nar_char _) W42 4 rfl (Nat.le_of_ble_eq_true rfl)
  refine GoW.st (fun _ => XS.dup X42.here hx rfl (hb hby d1_69) rfl rfl) ?_
  refine GoW.st (fun _ => XS.iconst X42.here hx rfl (hb hby d1_70)) ?_
  refine GoW.st (fun _ => XS.bipush X42.here hx rfl (hb hby d1_71)) ?_
  obtain ⟨cl49, Ar49, qc49, Sz49, Nn49, Ha49, Gf49⟩ := id f43
  obtain ⟨T49, h49, X49, e49, W49, st49⟩ := stC X42 hx hZ e42 Ar49 (j := (5 : Int32)) (inb_of Sz49 ⟨by decide, by decide⟩) (g := (mkF m 73 #[.val (.long u), .second, .val (.int mo), .val (.int cx), .val (.int po), .unset] [(.int 112), (.int 5), (.ref b6), (.ref b6), (.ref b2), (.ref b2)])) rfl rfl (hb hby d1_73)
  refine GoW.st st49 ?_
  have f51 := Safe.wr W49 f48 CH42.1 f44
  have f52 := f45.wr W49
  have f53 := f46.other W49 (Or.inl ne7)
  have f54 := f47.other W49 (Or.inl ne7)
  have f55 := Safe.wr W49 f48 CH42.1 f48
  have CH49 := CH42.trans (CHr.wr W49 f48 CH42.1)
  have hk49 : 0 ≤ Array.size h49 := Nat.le_trans hk42 (Keep.of_wr W49).1
  have O49 := O42.wr W49 g_b6
  have N49 := Fr.snoc X49 N42 g_b6
  have K49 : Keep h0 h49 [] := K42.wr W49 (Or.inr z_b6)
  have f50 : Arv Z h49 b6 k6 .char (6 : Int32) [(.int (nar .char (45 : Int32))), (.int (nar .char (45 : Int32))), (.int (nar .char (104 : Int32))), (.int (nar .char (101 : Int32))), (.int (nar .char (108 : Int32))), (.int (nar .char (112 : Int32)))] (.int 0) := Arv.set Ar49 qc49 Sz49 Nn49 Ha49 Gf49 (fits_nar_char _) W49 5 rfl (Nat.le_of_ble_eq_true rfl)
  show GoW _ _ _ _ _ _ _ _ _ (T49.setTop (mkF m 74 #[.val (.long u), .second, .val (.int mo), .val (.int cx), .val (.int po), .unset] [(.ref b6), (.ref b2), (.ref b2)]))
  obtain ⟨_, _, ⟨T56, L56, k56, n56⟩, -, X56, ⟨Lc56, hQ56, l56, y56, z56⟩, st56⟩ := X49.specialBack hx (y := mn3) rfl hown (mvT hZ (wdx hw 13 rfl)) (mvT hZ (wdx hw 14 rfl)) (mvT hZ (wdx hw 15 rfl)) (by decide) (backOf (W := 1) (rm2_6 l Z a0 hw [] b2 b6 k6 cs (nar .char (45 : Int32)) (nar .char (45 : Int32)) (nar .char (104 : Int32)) (nar .char (101 : Int32)) (nar .char (108 : Int32)) (nar .char (112 : Int32)) h49 n0 O49 f52 f54 f53 f50 S_cs q_cs (by decide) (by decide) (by decide) (by decide) (by decide) (by decide) g_b2 ne7) hZ (wdx hw 15 rfl) (wdx hw 11 rfl) (by decide) (by decide)) (g := (mkF m 74 #[.val (.long u), .second, .val (.int mo), .val (.int cx), .val (.int po), .unset] [(.ref b6), (.ref b2), (.ref b2)])) rfl (by rw [hml]; rfl) (Steps.refl _) (a := b2) (argsL := [(.ref b6)]) (rest := [(.ref b2)]) (lenOf pd___C_V rfl) rfl (by show 2 * 0 + _ ≤ _; exact Nat.le_of_eq rfl) (hb hby d1_74) (fun _ _ => ⟨rfl, e49, (by exact lee rfl), (by exact lee rfl)⟩)
  dsimp only [Pt.U, Pt.locs, Pt.cells, Pt.slots] at X56 l56 y56 z56 st56 hQ56
  subst l56 y56 z56
  obtain ⟨tb_56, kt_56, rfl, Nq56, Kq56, f57, f58, f59, szt_56⟩ := hQ56
  have N56 := Fr.app N49 Nq56
  refine GoW.tr st56 ?_
  have f60 := Safe.keep Kq56 (allS f51 all0) CH49.1 f51
  have f61 := f52.keep Kq56
  have f62 := Safe.keep Kq56 (allS f51 all0) CH49.1 f55
  have f63 := f50.keep Kq56 (ninS (Ne.symm ne7) nin0)
  have CH56 := CH49.trans (CHr.keep Kq56 (allS f51 all0) CH49.1)
  have hk56 : 0 ≤ Array.size T56.heap := Nat.le_trans hk49 Kq56.1
  have O56 := O49.keep Kq56 (allS g_b2 all0)
  have K56 : Keep h0 T56.heap [] := K49.trans Kq56 (allS (Or.inr z_b2) all0)
  have g_tb_56 : n0 ≤ tb_56 := Nat.le_trans (own_le O49) szt_56
  have sf_tb_56 : Safe Z EL s.vm T56.heap tb_56 := Safe.keep Kq56 (allS f51 all0) CH49.1 (Safe.new szt_56)
  have z_tb_56 : h0.size ≤ tb_56 := Nat.le_trans K49.1 szt_56
  have ne64 : b2 ≠ tb_56 := Nat.ne_of_lt (Nat.lt_of_lt_of_le f52.lt szt_56)
  have ne65 : b6 ≠ tb_56 := Nat.ne_of_lt (Nat.lt_of_lt_of_le f50.lt szt_56)
  show GoW _ _ _ _ _ _ _ _ _ (T56.setTop (mkF m 77 #[.val (.long u), .second, .val (.int mo), .val (.int cx), .val (.int po), .unset] [(.ref b2)]))
  refine GoW.ret X56 hx hlk hS0 hk56 hZ hEL CH56 (t := (.object "java/lang/String")) Bd.returns rfl (Or.inr (Or.inr (Or.inr (Or.inr ⟨rfl, rfl, rfl⟩)))) (hb hby d1_77) (by decide) (by decide) rfl ?_
  exact ⟨b2, tb_56, kt_56, rfl, N56, K56, f61, f58, f57, (own_vs (lb := [(nar .byte ((nar .char (45 : Int32)).toInt8.toInt32)), (nar .byte ((nar .char (45 : Int32)).toInt8.toInt32)), (nar .byte ((nar .char (104 : Int32)).toInt8.toInt32)), (nar .byte ((nar .char (101 : Int32)).toInt8.toInt32)), (nar .byte ((nar .char (108 : Int32)).toInt8.toInt32)), (nar .byte ((nar .char (112 : Int32)).toInt8.toInt32))]) (by rw [own_fch, ← hd_cx, ← hd_po, ← hd_mo]; simp [fchx, fbl, n_cx, own_nk, own_n45, own_n69, own_n72, own_n76, own_n80, own_n101, own_n104, own_n108, own_n112, hc1]) f59), z_b2⟩
 ·refine GoW.st (fun _ => XS.ifYes X0.here hx rfl (pc0 := 33) (pc' := 78) rfl (hb hby d1_33) rfl (XT.i0_ne_t hc1) (by decide) (by decide)) ?_
  refine GoW.st (fun _ => XS.iloadN X0.here hx rfl (hb hby d1_78) rfl) ?_
  refine GoW.st (fun _ => XS.iconst X0.here hx rfl (hb hby d1_79)) ?_
  show GoW _ _ _ _ _ _ _ _ _ (s₁.setTop (mkF m 80 #[.val (.long u), .second, .val (.int mo), .val (.int cx), .val (.int po), .unset] [(.int 1), (.int mo)]))
  by_cases hc66 : mo = (1 : Int32)
  ·refine GoW.st (fun _ => XS.icmpNo X0.here hx rfl (hb hby d1_80) rfl (XT.ii_ne_f hc66)) ?_
   refine GoW.st (fun _ => XS.bipush X0.here hx rfl (hb hby d1_83)) ?_
   obtain ⟨T67, h67, k67, X67, e67, E67, A67, st67⟩ := newP X0 hx hZ (wdx hw 12 rfl) e0 (g := (mkF m 85 #[.val (.long u), .second, .val (.int mo), .val (.int cx), .val (.int po), .unset] [(.int 6)])) rfl (hb hby d1_85) rfl (by decide) (cap := 6) (by decide) (by decide) (by decide) (by decide)
   obtain ⟨b67, g67⟩ : ∃ z, z = h0.size := ⟨_, rfl⟩
   rw [← g67] at A67 st67
   refine GoW.st st67 ?_
   have g_b67 : n0 ≤ b67 := Nat.le_trans (own_le O0) (Nat.le_of_eq g67.symm)
   have z_b67 : h0.size ≤ b67 := Nat.le_of_eq g67.symm
   have sf_b67 : Safe Z EL s.vm h0 b67 := Safe.new (Nat.le_of_eq g67.symm)
   have f68 := Safe.ext E67 CH0.1 sf_b67
   have CH67 := CH0.trans (CHr.ext E67 CH0.1)
   have hk67 : 0 ≤ Array.size h67 := Nat.le_trans hk0 E67.1
   have O67 := O0.ext E67
   have K67 : Keep h0 h67 [] := (Keep.refl h0 []).ext E67
   have f69 : Arv Z h67 b67 k67 .char (6 : Int32) [(.int 0), (.int 0), (.int 0), (.int 0), (.int 0), (.int 0)] (.int 0) := (Arv.new A67 (by decide)).pad (pad_rep [] (.int 0) 6)
   show GoW _ _ _ _ _ _ _ _ _ (T67.setTop (mkF m 87 #[.val (.long u), .second, .val (.int mo), .val (.int cx), .val (.int po), .unset] [(.ref b67)]))
   refine GoW.st (fun _ => XS.dup X67.here hx rfl (hb hby d1_87) rfl rfl) ?_
   refine GoW.st (fun _ => XS.iconst X67.here hx rfl (hb hby d1_88)) ?_
   refine GoW.st (fun _ => XS.bipush X67.here hx rfl (hb hby d1_89)) ?_
   obtain ⟨cl70, Ar70, qc70, Sz70, Nn70, Ha70, Gf70⟩ := id f69
   obtain ⟨T70, h70, X70, e70, W70, st70⟩ := stC X67 hx hZ e67 Ar70 (j := (0 : Int32)) (inb_of Sz70 ⟨by decide, by decide⟩) (g := (mkF m 91 #[.val (.long u), .second, .val (.int mo), .val (.int cx), .val (.int po), .unset] [(.int 45), (.int 0), (.ref b67), (.ref b67)])) rfl rfl (hb hby d1_91)
   refine GoW.st st70 ?_
   have f72 := Safe.wr W70 f68 CH67.1 f68
   have CH70 := CH67.trans (CHr.wr W70 f68 CH67.1)
   have hk70 : 0 ≤ Array.size h70 := Nat.le_trans hk67 (Keep.of_wr W70).1
   have O70 := O67.wr W70 g_b67
   have N70 := Fr.snoc X70 N0 g_b67
   have K70 : Keep h0 h70 [] := K67.wr W70 (Or.inr z_b67)
   have f71 : Arv Z h70 b67 k67 .char (6 : Int32) [(.int (nar .char (45 : Int32))), (.int 0), (.int 0), (.int 0), (.int 0), (.int 0)] (.int 0) := Arv.set Ar70 qc70 Sz70 Nn70 Ha70 Gf70 (fits_nar_char _) W70 0 rfl (Nat.le_of_ble_eq_true rfl)
   refine GoW.st (fun _ => XS.dup X70.here hx rfl (hb hby d1_92) rfl rfl) ?_
   refine GoW.st (fun _ => XS.iconst X70.here hx rfl (hb hby d1_93)) ?_
   refine GoW.st (fun _ => XS.bipush X70.here hx rfl (hb hby d1_94)) ?_
   obtain ⟨cl73, Ar73, qc73, Sz73, Nn73, Ha73, Gf73⟩ := id f71
   obtain ⟨T73, h73, X73, e73, W73, st73⟩ := stC X70 hx hZ e70 Ar73 (j := (1 : Int32)) (inb_of Sz73 ⟨by decide, by decide⟩) (g := (mkF m 96 #[.val (.long u), .second, .val (.int mo), .val (.int cx), .val (.int po), .unset] [(.int 45), (.int 1), (.ref b67), (.ref b67)])) rfl rfl (hb hby d1_96)
   refine GoW.st st73 ?_
   have f75 := Safe.wr W73 f72 CH70.1 f72
   have CH73 := CH70.trans (CHr.wr W73 f72 CH70.1)
   have hk73 : 0 ≤ Array.size h73 := Nat.le_trans hk70 (Keep.of_wr W73).1
   have O73 := O70.wr W73 g_b67
   have N73 := Fr.snoc X73 N70 g_b67
   have K73 : Keep h0 h73 [] := K70.wr W73 (Or.inr z_b67)
   have f74 : Arv Z h73 b67 k67 .char (6 : Int32) [(.int (nar .char (45 : Int32))), (.int (nar .char (45 : Int32))), (.int 0), (.int 0), (.int 0), (.int 0)] (.int 0) := Arv.set Ar73 qc73 Sz73 Nn73 Ha73 Gf73 (fits_nar_char _) W73 1 rfl (Nat.le_of_ble_eq_true rfl)
   refine GoW.st (fun _ => XS.dup X73.here hx rfl (hb hby d1_97) rfl rfl) ?_
   refine GoW.st (fun _ => XS.iconst X73.here hx rfl (hb hby d1_98)) ?_
   refine GoW.st (fun _ => XS.bipush X73.here hx rfl (hb hby d1_99)) ?_
   obtain ⟨cl76, Ar76, qc76, Sz76, Nn76, Ha76, Gf76⟩ := id f74
   obtain ⟨T76, h76, X76, e76, W76, st76⟩ := stC X73 hx hZ e73 Ar76 (j := (2 : Int32)) (inb_of Sz76 ⟨by decide, by decide⟩) (g := (mkF m 101 #[.val (.long u), .second, .val (.int mo), .val (.int cx), .val (.int po), .unset] [(.int 104), (.int 2), (.ref b67), (.ref b67)])) rfl rfl (hb hby d1_101)
   refine GoW.st st76 ?_
   have f78 := Safe.wr W76 f75 CH73.1 f75
   have CH76 := CH73.trans (CHr.wr W76 f75 CH73.1)
   have hk76 : 0 ≤ Array.size h76 := Nat.le_trans hk73 (Keep.of_wr W76).1
   have O76 := O73.wr W76 g_b67
   have N76 := Fr.snoc X76 N73 g_b67
   have K76 : Keep h0 h76 [] := K73.wr W76 (Or.inr z_b67)
   have f77 : Arv Z h76 b67 k67 .char (6 : Int32) [(.int (nar .char (45 : Int32))), (.int (nar .char (45 : Int32))), (.int (nar .char (104 : Int32))), (.int 0), (.int 0), (.int 0)] (.int 0) := Arv.set Ar76 qc76 Sz76 Nn76 Ha76 Gf76 (fits_nar_char _) W76 2 rfl (Nat.le_of_ble_eq_true rfl)
   refine GoW.st (fun _ => XS.dup X76.here hx rfl (hb hby d1_102) rfl rfl) ?_
   refine GoW.st (fun _ => XS.iconst X76.here hx rfl (hb hby d1_103)) ?_
   refine GoW.st (fun _ => XS.bipush X76.here hx rfl (hb hby d1_104)) ?_
   obtain ⟨cl79, Ar79, qc79, Sz79, Nn79, Ha79, Gf79⟩ := id f77
   obtain ⟨T79, h79, X79, e79, W79, st79⟩ := stC X76 hx hZ e76 Ar79 (j := (3 : Int32)) (inb_of Sz79 ⟨by decide, by decide⟩) (g := (mkF m 106 #[.val (.long u), .second, .val (.int mo), .val (.int cx), .val (.int po), .unset] [(.int 101), (.int 3), (.ref b67), (.ref b67)])) rfl rfl (hb hby d1_106)
   refine GoW.st st79 ?_
   have f81 := Safe.wr W79 f78 CH76.1 f78
   have CH79 := CH76.trans (CHr.wr W79 f78 CH76.1)
   have hk79 : 0 ≤ Array.size h79 := Nat.le_trans hk76 (Keep.of_wr W79).1
   have O79 := O76.wr W79 g_b67
   have N79 := Fr.snoc X79 N76 g_b67
   have K79 : Keep h0 h79 [] := K76.wr W79 (Or.inr z_b67)
   have f80 : Arv Z h79 b67 k67 .char (6 : Int32) [(.int (nar .char (45 : Int32))), (.int (nar .char (45 : Int32))), (.int (nar .char (104 : Int32))), (.int (nar .char (101 : Int32))), (.int 0), (.int 0)] (.int 0) := Arv.set Ar79 qc79 Sz79 Nn79 Ha79 Gf79 (fits_nar_char _) W79 3 rfl (Nat.le_of_ble_eq_true rfl)
   refine GoW.st (fun _ => XS.dup X79.here hx rfl (hb hby d1_107) rfl rfl) ?_
   show GoW _ _ _ _ _ _ _ _ _ (T79.setTop (mkF m 108 #[.val (.long u), .second, .val (.int mo), .val (.int cx), .val (.int po), .unset] [(.ref b67), (.ref b67)]))
   refine GoW.st (fun _ => XS.iconst X79.here hx rfl (hb hby d1_108)) ?_
   refine GoW.st (fun _ => XS.bipush X79.here hx rfl (hb hby d1_109)) ?_
   obtain ⟨cl82, Ar82, qc82, Sz82, Nn82, Ha82, Gf82⟩ := id f80
   obtain ⟨T82, h82, X82, e82, W82, st82⟩ := stC X79 hx hZ e79 Ar82 (j := (4 : Int32)) (inb_of Sz82 ⟨by decide, by decide⟩) (g := (mkF m 111 #[.val (.long u), .second, .val (.int mo), .val (.int cx), .val (.int po), .unset] [(.int 108), (.int 4), (.ref b67), (.ref b67)])) rfl rfl (hb hby d1_111)
   refine GoW.st st82 ?_
   have f84 := Safe.wr W82 f81 CH79.1 f81
   have CH82 := CH79.trans (CHr.wr W82 f81 CH79.1)
   have hk82 : 0 ≤ Array.size h82 := Nat.le_trans hk79 (Keep.of_wr W82).1
   have O82 := O79.wr W82 g_b67
   have N82 := Fr.snoc X82 N79 g_b67
   have K82 : Keep h0 h82 [] := K79.wr W82 (Or.inr z_b67)
   have f83 : Arv Z h82 b67 k67 .char (6 : Int32) [(.int (nar .char (45 : Int32))), (.int (nar .char (45 : Int32))), (.int (nar .char (104 : Int32))), (.int (nar .char (101 : Int32))), (.int (nar .char (108 : Int32))), (.int 0)] (.int 0) := Arv.set Ar82 qc82 Sz82 Nn82 Ha82 Gf82 (fits_nar_char _) W82 4 rfl (Nat.le_of_ble_eq_true rfl)
   refine GoW.st (fun _ => XS.dup X82.here hx rfl (hb hby d1_112) rfl rfl) ?_
   refine GoW.st (fun _ => XS.iconst X82.here hx rfl (hb hby d1_113)) ?_
   refine GoW.st (fun _ => XS.bipush X82.here hx rfl (hb hby d1_114)) ?_
   obtain ⟨cl85, Ar85, qc85, Sz85, Nn85, Ha85, Gf85⟩ := id f83
   obtain ⟨T85, h85, X85, e85, W85, st85⟩ := stC X82 hx hZ e82 Ar85 (j := (5 : Int32)) (inb_of Sz85 ⟨by decide, by decide⟩) (g := (mkF m 116 #[.val (.long u), .second, .val (.int mo), .val (.int cx), .val (.int po), .unset] [(.int 112), (.int 5), (.ref b67), (.ref b67)])) rfl rfl (hb hby d1_116)
   refine GoW.st st85 ?_
   have f87 := Safe.wr W85 f84 CH82.1 f84
   have CH85 := CH82.trans (CHr.wr W85 f84 CH82.1)
   have hk85 : 0 ≤ Array.size h85 := Nat.le_trans hk82 (Keep.of_wr W85).1
   have O85 := O82.wr W85 g_b67
   have N85 := Fr.snoc X85 N82 g_b67
   have K85 : Keep h0 h85 [] := K82.wr W85 (Or.inr z_b67)
   have f86 : Arv Z h85 b67 k67 .char (6 : Int32) [(.int (nar .char (45 : Int32))), (.int (nar .char (45 : Int32))), (.int (nar .char (104 : Int32))), (.int (nar .char (101 : Int32))), (.int (nar .char (108 : Int32))), (.int (nar .char (112 : Int32)))] (.int 0) := Arv.set Ar85 qc85 Sz85 Nn85 Ha85 Gf85 (fits_nar_char _) W85 5 rfl (Nat.le_of_ble_eq_true rfl)
   refine GoW.st (fun _ => XS.astore X85.here hx rfl (hb hby d1_117) rfl rfl (l' := #[.val (.long u), .second, .val (.int mo), .val (.int cx), .val (.int po), .val (.ref b67)]) rfl) ?_
   refine GoW.st (fun _ => XS.aload X85.here hx rfl (hb hby d1_119) rfl rfl) ?_
   refine GoW.st (fun _ => XS.iload X85.here hx rfl (hb hby d1_121) rfl) ?_
   refine GoW.st (fun _ => XS.iloadN X85.here hx rfl (hb hby d1_123) rfl) ?_
   show GoW _ _ _ _ _ _ _ _ _ (T85.setTop (mkF m 124 #[.val (.long u), .second, .val (.int mo), .val (.int cx), .val (.int po), .val (.ref b67)] [(.int cx), (.int po), (.ref b67)]))
   obtain ⟨cl88, Ar88, qc88, Sz88, Nn88, Ha88, Gf88⟩ := id f86
   obtain ⟨T88, h88, X88, e88, W88, st88⟩ := stC X85 hx hZ e85 Ar88 (j := po) (inb_of Sz88 (own_pin po r_po)) (g := (mkF m 124 #[.val (.long u), .second, .val (.int mo), .val (.int cx), .val (.int po), .val (.ref b67)] [(.int cx), (.int po), (.ref b67)])) rfl rfl (hb hby d1_124)
   refine GoW.st st88 ?_
   have f90 := Safe.wr W88 f87 CH85.1 f87
   have CH88 := CH85.trans (CHr.wr W88 f87 CH85.1)
   have hk88 : 0 ≤ Array.size h88 := Nat.le_trans hk85 (Keep.of_wr W88).1
   have O88 := O85.wr W88 g_b67
   have N88 := Fr.snoc X88 N85 g_b67
   have K88 : Keep h0 h88 [] := K85.wr W88 (Or.inr z_b67)
   have f89 : Arv Z h88 b67 k67 .char (Int32.ofNat (List.length (fset po (nar .char cx)))) (List.map Value.int (fset po (nar .char cx))) (.int 0) := own_vset r_po (Arv.set Ar88 qc88 Sz88 Nn88 Ha88 Gf88 (fits_nar_char _) W88 po.toNatClampNeg rfl (own_ptn po r_po))
   show GoW _ _ _ _ _ _ _ _ _ (T88.setTop (mkF m 125 #[.val (.long u), .second, .val (.int mo), .val (.int cx), .val (.int po), .val (.ref b67)] []))
   obtain ⟨T91, h91, X91, e91, E91, A91, D91, -, st91⟩ := newO X88 hx hZ hown (wdx hw 0 rfl) (wdx hw 10 rfl) (wdx hw 11 rfl) e88 (g := (mkF m 125 #[.val (.long u), .second, .val (.int mo), .val (.int cx), .val (.int po), .val (.ref b67)] [])) rfl (hb hby d1_125) (by decide) (by decide)
   obtain ⟨b91, g91⟩ : ∃ z, z = h88.size := ⟨_, rfl⟩
   rw [← g91] at A91 D91 st91
   refine GoW.st st91 ?_
   have g_b91 : n0 ≤ b91 := Nat.le_trans (own_le O88) (Nat.le_of_eq g91.symm)
   have z_b91 : h0.size ≤ b91 := Nat.le_trans K88.1 (Nat.le_of_eq g91.symm)
   have sf_b91 : Safe Z EL s.vm h88 b91 := Safe.new (Nat.le_of_eq g91.symm)
   have ne92 : b67 ≠ b91 := Nat.ne_of_lt (Nat.lt_of_lt_of_le f89.lt (Nat.le_of_eq g91.symm))
   have f93 := Safe.ext E91 CH88.1 f90
   have f94 := f89.ext E91
   have f95 := Safe.ext E91 CH88.1 sf_b91
   have CH91 := CH88.trans (CHr.ext E91 CH88.1)
   have hk91 : 0 ≤ Array.size h91 := Nat.le_trans hk88 E91.1
   have O91 := O88.ext E91
   have K91 : Keep h0 h91 [] := K88.ext E91
   have f96 : Fld Z h91 b91 "java/lang/String" "coder" "B" (.int 0) := D91 (Or.inr (wdx hw 36 rfl)) (ty := .byte) (by decide)
   have f97 : Fld Z h91 b91 "java/lang/String" "value" "[B" .null := D91 (Or.inr (wdx hw 38 rfl)) (ty := (.array .byte)) (by decide)
   show GoW _ _ _ _ _ _ _ _ _ (T91.setTop (mkF m 128 #[.val (.long u), .second, .val (.int mo), .val (.int cx), .val (.int po), .val (.ref b67)] [(.ref b91)]))
   refine GoW.st (fun _ => XS.dup X91.here hx rfl (hb hby d1_128) rfl rfl) ?_
   refine GoW.st (fun _ => XS.aload X91.here hx rfl (hb hby d1_129) rfl rfl) ?_
   show GoW _ _ _ _ _ _ _ _ _ (T91.setTop (mkF m 131 #[.val (.long u), .second, .val (.int mo), .val (.int cx), .val (.int po), .val (.ref b67)] [(.ref b67), (.ref b91), (.ref b91)]))
   obtain ⟨_, _, ⟨T98, L98, k98, n98⟩, -, X98, ⟨Lc98, hQ98, l98, y98, z98⟩, st98⟩ := X91.specialBack hx (y := mn3) rfl hown (mvT hZ (wdx hw 13 rfl)) (mvT hZ (wdx hw 14 rfl)) (mvT hZ (wdx hw 15 rfl)) (by decide) (backOf (W := 1) (rm2_y l Z a0 hw [] b91 b67 k67 (fset po (nar .char cx)) cs h91 n0 O91 A91 f97 f96 f94 S_cs q_cs g_b91 (own_fsl _ _) (own_fsr _ _ (fun y => ¬ (255 : Int32) < y) (n_cx.symm ▸ own_lq _ r_cx.1) (by decide) (by decide) (by decide) (by decide) (by decide))) hZ (wdx hw 15 rfl) (wdx hw 11 rfl) (by decide) (by decide)) (g := (mkF m 131 #[.val (.long u), .second, .val (.int mo), .val (.int cx), .val (.int po), .val (.ref b67)] [(.ref b67), (.ref b91), (.ref b91)])) rfl (by rw [hml]; rfl) (Steps.refl _) (a := b91) (argsL := [(.ref b67)]) (rest := [(.ref b91)]) (lenOf pd___C_V rfl) rfl (by show 2 * 0 + _ ≤ _; exact Nat.le_of_eq rfl) (hb hby d1_131) (fun _ _ => ⟨rfl, e91, (by exact lee rfl), (by exact lee rfl)⟩)
   dsimp only [Pt.U, Pt.locs, Pt.cells, Pt.slots] at X98 l98 y98 z98 st98 hQ98
   subst l98 y98 z98
   obtain ⟨tb_98, kt_98, rfl, Nq98, Kq98, f99, f100, f101⟩ := hQ98
   have N98 := Fr.app N88 Nq98
   refine GoW.tr st98 ?_
   have f102 := Safe.keep Kq98 (allS f95 all0) CH91.1 f93
   have f103 := f94.keep Kq98 (ninS ne92 nin0)
   have f104 := Safe.keep Kq98 (allS f95 all0) CH91.1 f95
   have f105 := A91.keep Kq98
   have CH98 := CH91.trans (CHr.keep Kq98 (allS f95 all0) CH91.1)
   have hk98 : 0 ≤ Array.size T98.heap := Nat.le_trans hk91 Kq98.1
   have O98 := O91.keep Kq98 (allS g_b91 all0)
   have K98 : Keep h0 T98.heap [] := K91.trans Kq98 (allS (Or.inr z_b91) all0)
   show GoW _ _ _ _ _ _ _ _ _ (T98.setTop (mkF m 134 #[.val (.long u), .second, .val (.int mo), .val (.int cx), .val (.int po), .val (.ref b67)] [(.ref b91)]))
   refine GoW.ret X98 hx hlk hS0 hk98 hZ hEL CH98 (t := (.object "java/lang/String")) Bd.returns rfl (Or.inr (Or.inr (Or.inr (Or.inr ⟨rfl, rfl, rfl⟩)))) (hb hby d1_134) (by decide) (by decide) rfl ?_
   exact ⟨b91, tb_98, kt_98, rfl, N98, K98, f105, f100, f99, (own_vs (lb := (fbl (fset po (nar .char cx)))) (by rw [own_fch, ← hd_cx, ← hd_po, ← hd_mo]; simp [fchx, fbl, n_cx, own_nk, own_n45, own_n69, own_n72, own_n76, own_n80, own_n101, own_n104, own_n108, own_n112, hc1, hc66]) f101), z_b91⟩
  ·refine GoW.st (fun _ => XS.icmpYes X0.here hx rfl (pc0 := 80) (pc' := 135) rfl (hb hby d1_80) rfl (XT.ii_ne_t hc66) (by decide) (by decide)) ?_
   refine GoW.st (fun _ => XS.iloadN X0.here hx rfl (hb hby d1_135) rfl) ?_
   refine GoW.st (fun _ => XS.iconst X0.here hx rfl (hb hby d1_136)) ?_
   show GoW _ _ _ _ _ _ _ _ _ (s₁.setTop (mkF m 137 #[.val (.long u), .second, .val (.int mo), .val (.int cx), .val (.int po), .unset] [(.int 2), (.int mo)]))
   by_cases hc106 : mo = (2 : Int32)
   ·refine GoW.st (fun _ => XS.icmpNo X0.here hx rfl (hb hby d1_137) rfl (XT.ii_ne_f hc106)) ?_
    obtain ⟨T107, h107, X107, e107, E107, A107, D107, -, st107⟩ := newO X0 hx hZ hown (wdx hw 0 rfl) (wdx hw 10 rfl) (wdx hw 11 rfl) e0 (g := (mkF m 140 #[.val (.long u), .second, .val (.int mo), .val (.int cx), .val (.int po), .unset] [])) rfl (hb hby d1_140) (by decide) (by decide)
    obtain ⟨b107, g107⟩ : ∃ z, z = h0.size := ⟨_, rfl⟩
    rw [← g107] at A107 D107 st107
    refine GoW.st st107 ?_
    have g_b107 : n0 ≤ b107 := Nat.le_trans (own_le O0) (Nat.le_of_eq g107.symm)
    have z_b107 : h0.size ≤ b107 := Nat.le_of_eq g107.symm
    have sf_b107 : Safe Z EL s.vm h0 b107 := Safe.new (Nat.le_of_eq g107.symm)
    have f108 := Safe.ext E107 CH0.1 sf_b107
    have CH107 := CH0.trans (CHr.ext E107 CH0.1)
    have hk107 : 0 ≤ Array.size h107 := Nat.le_trans hk0 E107.1
    have O107 := O0.ext E107
    have K107 : Keep h0 h107 [] := (Keep.refl h0 []).ext E107
    have f109 : Fld Z h107 b107 "java/lang/String" "coder" "B" (.int 0) := D107 (Or.inr (wdx hw 36 rfl)) (ty := .byte) (by decide)
    have f110 : Fld Z h107 b107 "java/lang/String" "value" "[B" .null := D107 (Or.inr (wdx hw 38 rfl)) (ty := (.array .byte)) (by decide)
    show GoW _ _ _ _ _ _ _ _ _ (T107.setTop (mkF m 143 #[.val (.long u), .second, .val (.int mo), .val (.int cx), .val (.int po), .unset] [(.ref b107)]))
    refine GoW.st (fun _ => XS.dup X107.here hx rfl (hb hby d1_143) rfl rfl) ?_
    refine GoW.st (fun _ => XS.iconst X107.here hx rfl (hb hby d1_144)) ?_
    obtain ⟨T111, h111, k111, X111, e111, E111, A111, st111⟩ := newP X107 hx hZ (wdx hw 12 rfl) e107 (g := (mkF m 145 #[.val (.long u), .second, .val (.int mo), .val (.int cx), .val (.int po), .unset] [(.int 5), (.ref b107), (.ref b107)])) rfl (hb hby d1_145) rfl (by decide) (cap := 5) (by decide) (by decide) (by decide) (by decide)
    obtain ⟨b111, g111⟩ : ∃ z, z = h107.size := ⟨_, rfl⟩
    rw [← g111] at A111 st111
    refine GoW.st st111 ?_
    have g_b111 : n0 ≤ b111 := Nat.le_trans (own_le O107) (Nat.le_of_eq g111.symm)
    have z_b111 : h0.size ≤ b111 := Nat.le_trans K107.1 (Nat.le_of_eq g111.symm)
    have sf_b111 : Safe Z EL s.vm h107 b111 := Safe.new (Nat.le_of_eq g111.symm)
    have ne112 : b107 ≠ b111 := Nat.ne_of_lt (Nat.lt_of_lt_of_le A107.lt (Nat.le_of_eq g111.symm))
    have f113 := Safe.ext E111 CH107.1 f108
    have f114 := A107.ext E111
    have f115 := f109.ext E111
    have f116 := f110.ext E111
    have f117 := Safe.ext E111 CH107.1 sf_b111
    have CH111 := CH107.trans (CHr.ext E111 CH107.1)
    have hk111 : 0 ≤ Array.size h111 := Nat.le_trans hk107 E111.1
    have O111 := O107.ext E111
    have K111 : Keep h0 h111 [] := K107.ext E111
    have f118 : Arv Z h111 b111 k111 .char (5 : Int32) [(.int 0), (.int 0), (.int 0), (.int 0), (.int 0)] (.int 0) := (Arv.new A111 (by decide)).pad (pad_rep [] (.int 0) 5)
    show GoW _ _ _ _ _ _ _ _ _ (T111.setTop (mkF m 147 #[.val (.long u), .second, .val (.int mo), .val (.int cx), .val (.int po), .unset] [(.ref b111), (.ref b107), (.ref b107)]))
    refine GoW.st (fun _ => XS.dup X111.here hx rfl (hb hby d1_147) rfl rfl) ?_
    refine GoW.st (fun _ => XS.iconst X111.here hx rfl (hb hby d1_148)) ?_
    refine GoW.st (fun _ => XS.bipush X111.here hx rfl (hb hby d1_149)) ?_
    obtain ⟨cl119, Ar119, qc119, Sz119, Nn119, Ha119, Gf119⟩ := id f118
    obtain ⟨T119, h119, X119, e119, W119, st119⟩ := stC X111 hx hZ e111 Ar119 (j := (0 : Int32)) (inb_of Sz119 ⟨by decide, by decide⟩) (g := (mkF m 151 #[.val (.long u), .second, .val (.int mo), .val (.int cx), .val (.int po), .unset] [(.int 45), (.int 0), (.ref b111), (.ref b111), (.ref b107), (.ref b107)])) rfl rfl (hb hby d1_151)
    refine GoW.st st119 ?_
    have f121 := Safe.wr W119 f117 CH111.1 f113
    have f122 := f114.wr W119
    have f123 := f115.other W119 (Or.inl ne112)
    have f124 := f116.other W119 (Or.inl ne112)
    have f125 := Safe.wr W119 f117 CH111.1 f117
    have CH119 := CH111.trans (CHr.wr W119 f117 CH111.1)
    have hk119 : 0 ≤ Array.size h119 := Nat.le_trans hk111 (Keep.of_wr W119).1
    have O119 := O111.wr W119 g_b111
    have N119 := Fr.snoc X119 N0 g_b111
    have K119 : Keep h0 h119 [] := K111.wr W119 (Or.inr z_b111)
    have f120 : Arv Z h119 b111 k111 .char (5 : Int32) [(.int (nar .char (45 : Int32))), (.int 0), (.int 0), (.int 0), (.int 0)] (.int 0) := Arv.set Ar119 qc119 Sz119 Nn119 Ha119 Gf119 (fits_nar_char _) W119 0 rfl (Nat.le_of_ble_eq_true rfl)
    refine GoW.st (fun _ => XS.dup X119.here hx rfl (hb hby d1_152) rfl rfl) ?_
    refine GoW.st (fun _ => XS.iconst X119.here hx rfl (hb hby d1_153)) ?_
    refine GoW.st (fun _ => XS.bipush X119.here hx rfl (hb hby d1_154)) ?_
    obtain ⟨cl126, Ar126, qc126, Sz126, Nn126, Ha126, Gf126⟩ := id f120
    obtain ⟨T126, h126, X126, e126, W126, st126⟩ := stC X119 hx hZ e119 Ar126 (j := (1 : Int32)) (inb_of Sz126 ⟨by decide, by decide⟩) (g := (mkF m 156 #[.val (.long u), .second, .val (.int mo), .val (.int cx), .val (.int po), .unset] [(.int 45), (.int 1), (.ref b111), (.ref b111), (.ref b107), (.ref b107)])) rfl rfl (hb hby d1_156)
    refine GoW.st st126 ?_
    have f128 := Safe.wr W126 f125 CH119.1 f121
    have f129 := f122.wr W126
    have f130 := f123.other W126 (Or.inl ne112)
    have f131 := f124.other W126 (Or.inl ne112)
    have f132 := Safe.wr W126 f125 CH119.1 f125
    have CH126 := CH119.trans (CHr.wr W126 f125 CH119.1)
    have hk126 : 0 ≤ Array.size h126 := Nat.le_trans hk119 (Keep.of_wr W126).1
    have O126 := O119.wr W126 g_b111
    have N126 := Fr.snoc X126 N119 g_b111
    have K126 : Keep h0 h126 [] := K119.wr W126 (Or.inr z_b111)
    have f127 : Arv Z h126 b111 k111 .char (5 : Int32) [(.int (nar .char (45 : Int32))), (.int (nar .char (45 : Int32))), (.int 0), (.int 0), (.int 0)] (.int 0) := Arv.set Ar126 qc126 Sz126 Nn126 Ha126 Gf126 (fits_nar_char _) W126 1 rfl (Nat.le_of_ble_eq_true rfl)
    refine GoW.st (fun _ => XS.dup X126.here hx rfl (hb hby d1_157) rfl rfl) ?_
    refine GoW.st (fun _ => XS.iconst X126.here hx rfl (hb hby d1_158)) ?_
    refine GoW.st (fun _ => XS.bipush X126.here hx rfl (hb hby d1_159)) ?_
    obtain ⟨cl133, Ar133, qc133, Sz133, Nn133, Ha133, Gf133⟩ := id f127
    obtain ⟨T133, h133, X133, e133, W133, st133⟩ := stC X126 hx hZ e126 Ar133 (j := (2 : Int32)) (inb_of Sz133 ⟨by decide, by decide⟩) (g := (mkF m 161 #[.val (.long u), .second, .val (.int mo), .val (.int cx), .val (.int po), .unset] [(.int 104), (.int 2), (.ref b111), (.ref b111), (.ref b107), (.ref b107)])) rfl rfl (hb hby d1_161)
    refine GoW.st st133 ?_
    have f135 := Safe.wr W133 f132 CH126.1 f128
    have f136 := f129.wr W133
    have f137 := f130.other W133 (Or.inl ne112)
    have f138 := f131.other W133 (Or.inl ne112)
    have f139 := Safe.wr W133 f132 CH126.1 f132
    have CH133 := CH126.trans (CHr.wr W133 f132 CH126.1)
    have hk133 : 0 ≤ Array.size h133 := Nat.le_trans hk126 (Keep.of_wr W133).1
    have O133 := O126.wr W133 g_b111
    have N133 := Fr.snoc X133 N126 g_b111
    have K133 : Keep h0 h133 [] := K126.wr W133 (Or.inr z_b111)
    have f134 : Arv Z h133 b111 k111 .char (5 : Int32) [(.int (nar .char (45 : Int32))), (.int (nar .char (45 : Int32))), (.int (nar .char (104 : Int32))), (.int 0), (.int 0)] (.int 0) := Arv.set Ar133 qc133 Sz133 Nn133 Ha133 Gf133 (fits_nar_char _) W133 2 rfl (Nat.le_of_ble_eq_true rfl)
    refine GoW.st (fun _ => XS.dup X133.here hx rfl (hb hby d1_162) rfl rfl) ?_
    refine GoW.st (fun _ => XS.iconst X133.here hx rfl (hb hby d1_163)) ?_
    refine GoW.st (fun _ => XS.bipush X133.here hx rfl (hb hby d1_164)) ?_
    obtain ⟨cl140, Ar140, qc140, Sz140, Nn140, Ha140, Gf140⟩ := id f134
    obtain ⟨T140, h140, X140, e140, W140, st140⟩ := stC X133 hx hZ e133 Ar140 (j := (3 : Int32)) (inb_of Sz140 ⟨by decide, by decide⟩) (g := (mkF m 166 #[.val (.long u), .second, .val (.int mo), .val (.int cx), .val (.int po), .unset] [(.int 101), (.int 3), (.ref b111), (.ref b111), (.ref b107), (.ref b107)])) rfl rfl (hb hby d1_166)
    refine GoW.st st140 ?_
    have f142 := Safe.wr W140 f139 CH133.1 f135
    have f143 := f136.wr W140
    have f144 := f137.other W140 (Or.inl ne112)
    have f145 := f138.other W140 (Or.inl ne112)
    have f146 := Safe.wr W140 f139 CH133.1 f139
    have CH140 := CH133.trans (CHr.wr W140 f139 CH133.1)
    have hk140 : 0 ≤ Array.size h140 := Nat.le_trans hk133 (Keep.of_wr W140).1
    have O140 := O133.wr W140 g_b111
    have N140 := Fr.snoc X140 N133 g_b111
    have K140 : Keep h0 h140 [] := K133.wr W140 (Or.inr z_b111)
    have f141 : Arv Z h140 b111 k111 .char (5 : Int32) [(.int (nar .char (45 : Int32))), (.int (nar .char (45 : Int32))), (.int (nar .char (104 : Int32))), (.int (nar .char (101 : Int32))), (.int 0)] (.int 0) := Arv.set Ar140 qc140 Sz140 Nn140 Ha140 Gf140 (fits_nar_char _) W140 3 rfl (Nat.le_of_ble_eq_true rfl)
    refine GoW.st (fun _ => XS.dup X140.here hx rfl (hb hby d1_167) rfl rfl) ?_
    show GoW _ _ _ _ _ _ _ _ _ (T140.setTop (mkF m 168 #[.val (.long u), .second, .val (.int mo), .val (.int cx), .val (.int po), .unset] [(.ref b111), (.ref b111), (.ref b107), (.ref b107)]))
    refine GoW.st (fun _ => XS.iconst X140.here hx rfl (hb hby d1_168)) ?_
    refine GoW.st (fun _ => XS.bipush X140.here hx rfl (hb hby d1_169)) ?_
    obtain ⟨cl147, Ar147, qc147, Sz147, Nn147, Ha147, Gf147⟩ := id f141
    obtain ⟨T147, h147, X147, e147, W147, st147⟩ := stC X140 hx hZ e140 Ar147 (j := (4 : Int32)) (inb_of Sz147 ⟨by decide, by decide⟩) (g := (mkF m 171 #[.val (.long u), .second, .val (.int mo), .val (.int cx), .val (.int po), .unset] [(.int 108), (.int 4), (.ref b111), (.ref b111), (.ref b107), (.ref b107)])) rfl rfl (hb hby d1_171)
    refine GoW.st st147 ?_
    have f149 := Safe.wr W147 f146 CH140.1 f142
    have f150 := f143.wr W147
    have f151 := f144.other W147 (Or.inl ne112)
    have f152 := f145.other W147 (Or.inl ne112)
    have f153 := Safe.wr W147 f146 CH140.1 f146
    have CH147 := CH140.trans (CHr.wr W147 f146 CH140.1)
    have hk147 : 0 ≤ Array.size h147 := Nat.le_trans hk140 (Keep.of_wr W147).1
    have O147 := O140.wr W147 g_b111
    have N147 := Fr.snoc X147 N140 g_b111
    have K147 : Keep h0 h147 [] := K140.wr W147 (Or.inr z_b111)
    have f148 : Arv Z h147 b111 k111 .char (5 : Int32) [(.int (nar .char (45 : Int32))), (.int (nar .char (45 : Int32))), (.int (nar .char (104 : Int32))), (.int (nar .char (101 : Int32))), (.int (nar .char (108 : Int32)))] (.int 0) := Arv.set Ar147 qc147 Sz147 Nn147 Ha147 Gf147 (fits_nar_char _) W147 4 rfl (Nat.le_of_ble_eq_true rfl)
    show GoW _ _ _ _ _ _ _ _ _ (T147.setTop (mkF m 172 #[.val (.long u), .second, .val (.int mo), .val (.int cx), .val (.int po), .unset] [(.ref b111), (.ref b107), (.ref b107)]))
    obtain ⟨_, _, ⟨T154, L154, k154, n154⟩, -, X154, ⟨Lc154, hQ154, l154, y154, z154⟩, st154⟩ := X147.specialBack hx (y := mn3) rfl hown (mvT hZ (wdx hw 13 rfl)) (mvT hZ (wdx hw 14 rfl)) (mvT hZ (wdx hw 15 rfl)) (by decide) (backOf (W := 1) (rm2_5 l Z a0 hw [] b107 b111 k111 cs (nar .char (45 : Int32)) (nar .char (45 : Int32)) (nar .char (104 : Int32)) (nar .char (101 : Int32)) (nar .char (108 : Int32)) h147 n0 O147 f150 f152 f151 f148 S_cs q_cs (by decide) (by decide) (by decide) (by decide) (by decide) g_b107 ne112) hZ (wdx hw 15 rfl) (wdx hw 11 rfl) (by decide) (by decide)) (g := (mkF m 172 #[.val (.long u), .second, .val (.int mo), .val (.int cx), .val (.int po), .unset] [(.ref b111), (.ref b107), (.ref b107)])) rfl (by rw [hml]; rfl) (Steps.refl _) (a := b107) (argsL := [(.ref b111)]) (rest := [(.ref b107)]) (lenOf pd___C_V rfl) rfl (by show 2 * 0 + _ ≤ _; exact Nat.le_of_eq rfl) (hb hby d1_172) (fun _ _ => ⟨rfl, e147, (by exact lee rfl), (by exact lee rfl)⟩)
    dsimp only [Pt.U, Pt.locs, Pt.cells, Pt.slots] at X154 l154 y154 z154 st154 hQ154
    subst l154 y154 z154
    obtain ⟨tb_154, kt_154, rfl, Nq154, Kq154, f155, f156, f157, szt_154⟩ := hQ154
    have N154 := Fr.app N147 Nq154
    refine GoW.tr st154 ?_
    have f158 := Safe.keep Kq154 (allS f149 all0) CH147.1 f149
    have f159 := f150.keep Kq154
    have f160 := Safe.keep Kq154 (allS f149 all0) CH147.1 f153
    have f161 := f148.keep Kq154 (ninS (Ne.symm ne112) nin0)
    have CH154 := CH147.trans (CHr.keep Kq154 (allS f149 all0) CH147.1)
    have hk154 : 0 ≤ Array.size T154.heap := Nat.le_trans hk147 Kq154.1
    have O154 := O147.keep Kq154 (allS g_b107 all0)
    have K154 : Keep h0 T154.heap [] := K147.trans Kq154 (allS (Or.inr z_b107) all0)
    have g_tb_154 : n0 ≤ tb_154 := Nat.le_trans (own_le O147) szt_154
    have sf_tb_154 : Safe Z EL s.vm T154.heap tb_154 := Safe.keep Kq154 (allS f149 all0) CH147.1 (Safe.new szt_154)
    have z_tb_154 : h0.size ≤ tb_154 := Nat.le_trans K147.1 szt_154
    have ne162 : b107 ≠ tb_154 := Nat.ne_of_lt (Nat.lt_of_lt_of_le f150.lt szt_154)
    have ne163 : b111 ≠ tb_154 := Nat.ne_of_lt (Nat.lt_of_lt_of_le f148.lt szt_154)
    show GoW _ _ _ _ _ _ _ _ _ (T154.setTop (mkF m 175 #[.val (.long u), .second, .val (.int mo), .val (.int cx), .val (.int po), .unset] [(.ref b107)]))
    refine GoW.ret X154 hx hlk hS0 hk154 hZ hEL CH154 (t := (.object "java/lang/String")) Bd.returns rfl (Or.inr (Or.inr (Or.inr (Or.inr ⟨rfl, rfl, rfl⟩)))) (hb hby d1_175) (by decide) (by decide) rfl ?_
    exact ⟨b107, tb_154, kt_154, rfl, N154, K154, f159, f156, f155, (own_vs (lb := [(nar .byte ((nar .char (45 : Int32)).toInt8.toInt32)), (nar .byte ((nar .char (45 : Int32)).toInt8.toInt32)), (nar .byte ((nar .char (104 : Int32)).toInt8.toInt32)), (nar .byte ((nar .char (101 : Int32)).toInt8.toInt32)), (nar .byte ((nar .char (108 : Int32)).toInt8.toInt32))]) (by rw [own_fch, ← hd_cx, ← hd_po, ← hd_mo]; simp [fchx, fbl, n_cx, own_nk, own_n45, own_n69, own_n72, own_n76, own_n80, own_n101, own_n104, own_n108, own_n112, hc1, hc66, hc106]) f157), z_b107⟩
   ·refine GoW.st (fun _ => XS.icmpYes X0.here hx rfl (pc0 := 137) (pc' := 176) rfl (hb hby d1_137) rfl (XT.ii_ne_t hc106) (by decide) (by decide)) ?_
    refine GoW.st (fun _ => XS.iloadN X0.here hx rfl (hb hby d1_176) rfl) ?_
    refine GoW.st (fun _ => XS.iconst X0.here hx rfl (hb hby d1_177)) ?_
    show GoW _ _ _ _ _ _ _ _ _ (s₁.setTop (mkF m 178 #[.val (.long u), .second, .val (.int mo), .val (.int cx), .val (.int po), .unset] [(.int 3), (.int mo)]))
    by_cases hc164 : mo = (3 : Int32)
    ·refine GoW.st (fun _ => XS.icmpNo X0.here hx rfl (hb hby d1_178) rfl (XT.ii_ne_f hc164)) ?_
     obtain ⟨T165, h165, X165, e165, E165, A165, D165, -, st165⟩ := newO X0 hx hZ hown (wdx hw 0 rfl) (wdx hw 10 rfl) (wdx hw 11 rfl) e0 (g := (mkF m 181 #[.val (.long u), .second, .val (.int mo), .val (.int cx), .val (.int po), .unset] [])) rfl (hb hby d1_181) (by decide) (by decide)
     obtain ⟨b165, g165⟩ : ∃ z, z = h0.size := ⟨_, rfl⟩
     rw [← g165] at A165 D165 st165
     refine GoW.st st165 ?_
     have g_b165 : n0 ≤ b165 := Nat.le_trans (own_le O0) (Nat.le_of_eq g165.symm)
     have z_b165 : h0.size ≤ b165 := Nat.le_of_eq g165.symm
     have sf_b165 : Safe Z EL s.vm h0 b165 := Safe.new (Nat.le_of_eq g165.symm)
     have f166 := Safe.ext E165 CH0.1 sf_b165
     have CH165 := CH0.trans (CHr.ext E165 CH0.1)
     have hk165 : 0 ≤ Array.size h165 := Nat.le_trans hk0 E165.1
     have O165 := O0.ext E165
     have K165 : Keep h0 h165 [] := (Keep.refl h0 []).ext E165
     have f167 : Fld Z h165 b165 "java/lang/String" "coder" "B" (.int 0) := D165 (Or.inr (wdx hw 36 rfl)) (ty := .byte) (by decide)
     have f168 : Fld Z h165 b165 "java/lang/String" "value" "[B" .null := D165 (Or.inr (wdx hw 38 rfl)) (ty := (.array .byte)) (by decide)
     show GoW _ _ _ _ _ _ _ _ _ (T165.setTop (mkF m 184 #[.val (.long u), .second, .val (.int mo), .val (.int cx), .val (.int po), .unset] [(.ref b165)]))
     refine GoW.st (fun _ => XS.dup X165.here hx rfl (hb hby d1_184) rfl rfl) ?_
     refine GoW.st (fun _ => XS.bipush X165.here hx rfl (hb hby d1_185)) ?_
     obtain ⟨T169, h169, k169, X169, e169, E169, A169, st169⟩ := newP X165 hx hZ (wdx hw 12 rfl) e165 (g := (mkF m 187 #[.val (.long u), .second, .val (.int mo), .val (.int cx), .val (.int po), .unset] [(.int 7), (.ref b165), (.ref b165)])) rfl (hb hby d1_187) rfl (by decide) (cap := 7) (by decide) (by decide) (by decide) (by decide)
     obtain ⟨b169, g169⟩ : ∃ z, z = h165.size := ⟨_, rfl⟩
     rw [← g169] at A169 st169
     refine GoW.st st169 ?_
     have g_b169 : n0 ≤ b169 := Nat.le_trans (own_le O165) (Nat.le_of_eq g169.symm)
     have z_b169 : h0.size ≤ b169 := Nat.le_trans K165.1 (Nat.le_of_eq g169.symm)
     have sf_b169 : Safe Z EL s.vm h165 b169 := Safe.new (Nat.le_of_eq g169.symm)
     have ne170 : b165 ≠ b169 := Nat.ne_of_lt (Nat.lt_of_lt_of_le A165.lt (Nat.le_of_eq g169.symm))
     have f171 := Safe.ext E169 CH165.1 f166
     have f172 := A165.ext E169
     have f173 := f167.ext E169
     have f174 := f168.ext E169
     have f175 := Safe.ext E169 CH165.1 sf_b169
     have CH169 := CH165.trans (CHr.ext E169 CH165.1)
     have hk169 : 0 ≤ Array.size h169 := Nat.le_trans hk165 E169.1
     have O169 := O165.ext E169
     have K169 : Keep h0 h169 [] := K165.ext E169
     have f176 : Arv Z h169 b169 k169 .char (7 : Int32) [(.int 0), (.int 0), (.int 0), (.int 0), (.int 0), (.int 0), (.int 0)] (.int 0) := (Arv.new A169 (by decide)).pad (pad_rep [] (.int 0) 7)
     show GoW _ _ _ _ _ _ _ _ _ (T169.setTop (mkF m 189 #[.val (.long u), .second, .val (.int mo), .val (.int cx), .val (.int po), .unset] [(.ref b169), (.ref b165), (.ref b165)]))
     refine GoW.st (fun _ => XS.dup X169.here hx rfl (hb hby d1_189) rfl rfl) ?_
     refine GoW.st (fun _ => XS.iconst X169.here hx rfl (hb hby d1_190)) ?_
     refine GoW.st (fun _ => XS.bipush X169.here hx rfl (hb hby d1_191)) ?_
     obtain ⟨cl177, Ar177, qc177, Sz177, Nn177, Ha177, Gf177⟩ := id f176
     obtain ⟨T177, h177, X177, e177, W177, st177⟩ := stC X169 hx hZ e169 Ar177 (j := (0 : Int32)) (inb_of Sz177 ⟨by decide, by decide⟩) (g := (mkF m 193 #[.val (.long u), .second, .val (.int mo), .val (.int cx), .val (.int po), .unset] [(.int 45), (.int 0), (.ref b169), (.ref b169), (.ref b165), (.ref b165)])) rfl rfl (hb hby d1_193)
     refine GoW.st st177 ?_
     have f179 := Safe.wr W177 f175 CH169.1 f171
     have f180 := f172.wr W177
     have f181 := f173.other W177 (Or.inl ne170)
     have f182 := f174.other W177 (Or.inl ne170)
     have f183 := Safe.wr W177 f175 CH169.1 f175
     have CH177 := CH169.trans (CHr.wr W177 f175 CH169.1)
     have hk177 : 0 ≤ Array.size h177 := Nat.le_trans hk169 (Keep.of_wr W177).1
     have O177 := O169.wr W177 g_b169
     have N177 := Fr.snoc X177 N0 g_b169
     have K177 : Keep h0 h177 [] := K169.wr W177 (Or.inr z_b169)
     have f178 : Arv Z h177 b169 k169 .char (7 : Int32) [(.int (nar .char (45 : Int32))), (.int 0), (.int 0), (.int 0), (.int 0), (.int 0), (.int 0)] (.int 0) := Arv.set Ar177 qc177 Sz177 Nn177 Ha177 Gf177 (fits_nar_char _) W177 0 rfl (Nat.le_of_ble_eq_true rfl)
     refine GoW.st (fun _ => XS.dup X177.here hx rfl (hb hby d1_194) rfl rfl) ?_
     refine GoW.st (fun _ => XS.iconst X177.here hx rfl (hb hby d1_195)) ?_
     refine GoW.st (fun _ => XS.bipush X177.here hx rfl (hb hby d1_196)) ?_
     obtain ⟨cl184, Ar184, qc184, Sz184, Nn184, Ha184, Gf184⟩ := id f178
     obtain ⟨T184, h184, X184, e184, W184, st184⟩ := stC X177 hx hZ e177 Ar184 (j := (1 : Int32)) (inb_of Sz184 ⟨by decide, by decide⟩) (g := (mkF m 198 #[.val (.long u), .second, .val (.int mo), .val (.int cx), .val (.int po), .unset] [(.int 45), (.int 1), (.ref b169), (.ref b169), (.ref b165), (.ref b165)])) rfl rfl (hb hby d1_198)
     refine GoW.st st184 ?_
     have f186 := Safe.wr W184 f183 CH177.1 f179
     have f187 := f180.wr W184
     have f188 := f181.other W184 (Or.inl ne170)
     have f189 := f182.other W184 (Or.inl ne170)
     have f190 := Safe.wr W184 f183 CH177.1 f183
     have CH184 := CH177.trans (CHr.wr W184 f183 CH177.1)
     have hk184 : 0 ≤ Array.size h184 := Nat.le_trans hk177 (Keep.of_wr W184).1
     have O184 := O177.wr W184 g_b169
     have N184 := Fr.snoc X184 N177 g_b169
     have K184 : Keep h0 h184 [] := K177.wr W184 (Or.inr z_b169)
     have f185 : Arv Z h184 b169 k169 .char (7 : Int32) [(.int (nar .char (45 : Int32))), (.int (nar .char (45 : Int32))), (.int 0), (.int 0), (.int 0), (.int 0), (.int 0)] (.int 0) := Arv.set Ar184 qc184 Sz184 Nn184 Ha184 Gf184 (fits_nar_char _) W184 1 rfl (Nat.le_of_ble_eq_true rfl)
     refine GoW.st (fun _ => XS.dup X184.here hx rfl (hb hby d1_199) rfl rfl) ?_
     refine GoW.st (fun _ => XS.iconst X184.here hx rfl (hb hby d1_200)) ?_
     refine GoW.st (fun _ => XS.bipush X184.here hx rfl (hb hby d1_201)) ?_
     obtain ⟨cl191, Ar191, qc191, Sz191, Nn191, Ha191, Gf191⟩ := id f185
     obtain ⟨T191, h191, X191, e191, W191, st191⟩ := stC X184 hx hZ e184 Ar191 (j := (2 : Int32)) (inb_of Sz191 ⟨by decide, by decide⟩) (g := (mkF m 203 #[.val (.long u), .second, .val (.int mo), .val (.int cx), .val (.int po), .unset] [(.int 104), (.int 2), (.ref b169), (.ref b169), (.ref b165), (.ref b165)])) rfl rfl (hb hby d1_203)
     refine GoW.st st191 ?_
     have f193 := Safe.wr W191 f190 CH184.1 f186
     have f194 := f187.wr W191
     have f195 := f188.other W191 (Or.inl ne170)
     have f196 := f189.other W191 (Or.inl ne170)
     have f197 := Safe.wr W191 f190 CH184.1 f190
     have CH191 := CH184.trans (CHr.wr W191 f190 CH184.1)
     have hk191 : 0 ≤ Array.size h191 := Nat.le_trans hk184 (Keep.of_wr W191).1
     have O191 := O184.wr W191 g_b169
     have N191 := Fr.snoc X191 N184 g_b169
     have K191 : Keep h0 h191 [] := K184.wr W191 (Or.inr z_b169)
     have f192 : Arv Z h191 b169 k169 .char (7 : Int32) [(.int (nar .char (45 : Int32))), (.int (nar .char (45 : Int32))), (.int (nar .char (104 : Int32))), (.int 0), (.int 0), (.int 0), (.int 0)] (.int 0) := Arv.set Ar191 qc191 Sz191 Nn191 Ha191 Gf191 (fits_nar_char _) W191 2 rfl (Nat.le_of_ble_eq_true rfl)
     refine GoW.st (fun _ => XS.dup X191.here hx rfl (hb hby d1_204) rfl rfl) ?_
     refine GoW.st (fun _ => XS.iconst X191.here hx rfl (hb hby d1_205)) ?_
     refine GoW.st (fun _ => XS.bipush X191.here hx rfl (hb hby d1_206)) ?_
     obtain ⟨cl198, Ar198, qc198, Sz198, Nn198, Ha198, Gf198⟩ := id f192
     obtain ⟨T198, h198, X198, e198, W198, st198⟩ := stC X191 hx hZ e191 Ar198 (j := (3 : Int32)) (inb_of Sz198 ⟨by decide, by decide⟩) (g := (mkF m 208 #[.val (.long u), .second, .val (.int mo), .val (.int cx), .val (.int po), .unset] [(.int 101), (.int 3), (.ref b169), (.ref b169), (.ref b165), (.ref b165)])) rfl rfl (hb hby d1_208)
     refine GoW.st st198 ?_
     have f200 := Safe.wr W198 f197 CH191.1 f193
     have f201 := f194.wr W198
     have f202 := f195.other W198 (Or.inl ne170)
     have f203 := f196.other W198 (Or.inl ne170)
     have f204 := Safe.wr W198 f197 CH191.1 f197
     have CH198 := CH191.trans (CHr.wr W198 f197 CH191.1)
     have hk198 : 0 ≤ Array.size h198 := Nat.le_trans hk191 (Keep.of_wr W198).1
     have O198 := O191.wr W198 g_b169
     have N198 := Fr.snoc X198 N191 g_b169
     have K198 : Keep h0 h198 [] := K191.wr W198 (Or.inr z_b169)
     have f199 : Arv Z h198 b169 k169 .char (7 : Int32) [(.int (nar .char (45 : Int32))), (.int (nar .char (45 : Int32))), (.int (nar .char (104 : Int32))), (.int (nar .char (101 : Int32))), (.int 0), (.int 0), (.int 0)] (.int 0) := Arv.set Ar198 qc198 Sz198 Nn198 Ha198 Gf198 (fits_nar_char _) W198 3 rfl (Nat.le_of_ble_eq_true rfl)
     refine GoW.st (fun _ => XS.dup X198.here hx rfl (hb hby d1_209) rfl rfl) ?_
     show GoW _ _ _ _ _ _ _ _ _ (T198.setTop (mkF m 210 #[.val (.long u), .second, .val (.int mo), .val (.int cx), .val (.int po), .unset] [(.ref b169), (.ref b169), (.ref b165), (.ref b165)]))
     refine GoW.st (fun _ => XS.iconst X198.here hx rfl (hb hby d1_210)) ?_
     refine GoW.st (fun _ => XS.bipush X198.here hx rfl (hb hby d1_211)) ?_
     obtain ⟨cl205, Ar205, qc205, Sz205, Nn205, Ha205, Gf205⟩ := id f199
     obtain ⟨T205, h205, X205, e205, W205, st205⟩ := stC X198 hx hZ e198 Ar205 (j := (4 : Int32)) (inb_of Sz205 ⟨by decide, by decide⟩) (g := (mkF m 213 #[.val (.long u), .second, .val (.int mo), .val (.int cx), .val (.int po), .unset] [(.int 108), (.int 4), (.ref b169), (.ref b169), (.ref b165), (.ref b165)])) rfl rfl (hb hby d1_213)
     refine GoW.st st205 ?_
     have f207 := Safe.wr W205 f204 CH198.1 f200
     have f208 := f201.wr W205
     have f209 := f202.other W205 (Or.inl ne170)
     have f210 := f203.other W205 (Or.inl ne170)
     have f211 := Safe.wr W205 f204 CH198.1 f204
     have CH205 := CH198.trans (CHr.wr W205 f204 CH198.1)
     have hk205 : 0 ≤ Array.size h205 := Nat.le_trans hk198 (Keep.of_wr W205).1
     have O205 := O198.wr W205 g_b169
     have N205 := Fr.snoc X205 N198 g_b169
     have K205 : Keep h0 h205 [] := K198.wr W205 (Or.inr z_b169)
     have f206 : Arv Z h205 b169 k169 .char (7 : Int32) [(.int (nar .char (45 : Int32))), (.int (nar .char (45 : Int32))), (.int (nar .char (104 : Int32))), (.int (nar .char (101 : Int32))), (.int (nar .char (108 : Int32))), (.int 0), (.int 0)] (.int 0) := Arv.set Ar205 qc205 Sz205 Nn205 Ha205 Gf205 (fits_nar_char _) W205 4 rfl (Nat.le_of_ble_eq_true rfl)
     refine GoW.st (fun _ => XS.dup X205.here hx rfl (hb hby d1_214) rfl rfl) ?_
     refine GoW.st (fun _ => XS.iconst X205.here hx rfl (hb hby d1_215)) ?_
     refine GoW.st (fun _ => XS.bipush X205.here hx rfl (hb hby d1_216)) ?_
     obtain ⟨cl212, Ar212, qc212, Sz212, Nn212, Ha212, Gf212⟩ := id f206
     obtain ⟨T212, h212, X212, e212, W212, st212⟩ := stC X205 hx hZ e205 Ar212 (j := (5 : Int32)) (inb_of Sz212 ⟨by decide, by decide⟩) (g := (mkF m 218 #[.val (.long u), .second, .val (.int mo), .val (.int cx), .val (.int po), .unset] [(.int 112), (.int 5), (.ref b169), (.ref b169), (.ref b165), (.ref b165)])) rfl rfl (hb hby d1_218)
     refine GoW.st st212 ?_
     have f214 := Safe.wr W212 f211 CH205.1 f207
     have f215 := f208.wr W212
     have f216 := f209.other W212 (Or.inl ne170)
     have f217 := f210.other W212 (Or.inl ne170)
     have f218 := Safe.wr W212 f211 CH205.1 f211
     have CH212 := CH205.trans (CHr.wr W212 f211 CH205.1)
     have hk212 : 0 ≤ Array.size h212 := Nat.le_trans hk205 (Keep.of_wr W212).1
     have O212 := O205.wr W212 g_b169
     have N212 := Fr.snoc X212 N205 g_b169
     have K212 : Keep h0 h212 [] := K205.wr W212 (Or.inr z_b169)
     have f213 : Arv Z h212 b169 k169 .char (7 : Int32) [(.int (nar .char (45 : Int32))), (.int (nar .char (45 : Int32))), (.int (nar .char (104 : Int32))), (.int (nar .char (101 : Int32))), (.int (nar .char (108 : Int32))), (.int (nar .char (112 : Int32))), (.int 0)] (.int 0) := Arv.set Ar212 qc212 Sz212 Nn212 Ha212 Gf212 (fits_nar_char _) W212 5 rfl (Nat.le_of_ble_eq_true rfl)
     refine GoW.st (fun _ => XS.dup X212.here hx rfl (hb hby d1_219) rfl rfl) ?_
     refine GoW.st (fun _ => XS.bipush X212.here hx rfl (hb hby d1_220)) ?_
     refine GoW.st (fun _ => XS.iloadN X212.here hx rfl (hb hby d1_222) rfl) ?_
     obtain ⟨cl219, Ar219, qc219, Sz219, Nn219, Ha219, Gf219⟩ := id f213
     obtain ⟨T219, h219, X219, e219, W219, st219⟩ := stC X212 hx hZ e212 Ar219 (j := (6 : Int32)) (inb_of Sz219 ⟨by decide, by decide⟩) (g := (mkF m 223 #[.val (.long u), .second, .val (.int mo), .val (.int cx), .val (.int po), .unset] [(.int cx), (.int 6), (.ref b169), (.ref b169), (.ref b165), (.ref b165)])) rfl rfl (hb hby d1_223)
     refine GoW.st st219 ?_
     have f221 := Safe.wr W219 f218 CH212.1 f214
     have f222 := f215.wr W219
     have f223 := f216.other W219 (Or.inl ne170)
     have f224 := f217.other W219 (Or.inl ne170)
     have f225 := Safe.wr W219 f218 CH212.1 f218
     have CH219 := CH212.trans (CHr.wr W219 f218 CH212.1)
     have hk219 : 0 ≤ Array.size h219 := Nat.le_trans hk212 (Keep.of_wr W219).1
     have O219 := O212.wr W219 g_b169
     have N219 := Fr.snoc X219 N212 g_b169
     have K219 : Keep h0 h219 [] := K212.wr W219 (Or.inr z_b169)
     have f220 : Arv Z h219 b169 k169 .char (7 : Int32) [(.int (nar .char (45 : Int32))), (.int (nar .char (45 : Int32))), (.int (nar .char (104 : Int32))), (.int (nar .char (101 : Int32))), (.int (nar .char (108 : Int32))), (.int (nar .char (112 : Int32))), (.int (nar .char cx))] (.int 0) := Arv.set Ar219 qc219 Sz219 Nn219 Ha219 Gf219 (fits_nar_char _) W219 6 rfl (Nat.le_of_ble_eq_true rfl)
     show GoW _ _ _ _ _ _ _ _ _ (T219.setTop (mkF m 224 #[.val (.long u), .second, .val (.int mo), .val (.int cx), .val (.int po), .unset] [(.ref b169), (.ref b165), (.ref b165)]))
     obtain ⟨_, _, ⟨T226, L226, k226, n226⟩, -, X226, ⟨Lc226, hQ226, l226, y226, z226⟩, st226⟩ := X219.specialBack hx (y := mn3) rfl hown (mvT hZ (wdx hw 13 rfl)) (mvT hZ (wdx hw 14 rfl)) (mvT hZ (wdx hw 15 rfl)) (by decide) (backOf (W := 1) (rm2_7 l Z a0 hw [] b165 b169 k169 cs (nar .char (45 : Int32)) (nar .char (45 : Int32)) (nar .char (104 : Int32)) (nar .char (101 : Int32)) (nar .char (108 : Int32)) (nar .char (112 : Int32)) (nar .char cx) h219 n0 O219 f222 f224 f223 f220 S_cs q_cs (by decide) (by decide) (by decide) (by decide) (by decide) (by decide) (n_cx.symm ▸ own_lq _ r_cx.1) g_b165 ne170) hZ (wdx hw 15 rfl) (wdx hw 11 rfl) (by decide) (by decide)) (g := (mkF m 224 #[.val (.long u), .second, .val (.int mo), .val (.int cx), .val (.int po), .unset] [(.ref b169), (.ref b165), (.ref b165)])) rfl (by rw [hml]; rfl) (Steps.refl _) (a := b165) (argsL := [(.ref b169)]) (rest := [(.ref b165)]) (lenOf pd___C_V rfl) rfl (by show 2 * 0 + _ ≤ _; exact Nat.le_of_eq rfl) (hb hby d1_224) (fun _ _ => ⟨rfl, e219, (by exact lee rfl), (by exact lee rfl)⟩)
     dsimp only [Pt.U, Pt.locs, Pt.cells, Pt.slots] at X226 l226 y226 z226 st226 hQ226
     subst l226 y226 z226
     obtain ⟨tb_226, kt_226, rfl, Nq226, Kq226, f227, f228, f229, szt_226⟩ := hQ226
     have N226 := Fr.app N219 Nq226
     refine GoW.tr st226 ?_
     have f230 := Safe.keep Kq226 (allS f221 all0) CH219.1 f221
     have f231 := f222.keep Kq226
     have f232 := Safe.keep Kq226 (allS f221 all0) CH219.1 f225
     have f233 := f220.keep Kq226 (ninS (Ne.symm ne170) nin0)
     have CH226 := CH219.trans (CHr.keep Kq226 (allS f221 all0) CH219.1)
     have hk226 : 0 ≤ Array.size T226.heap := Nat.le_trans hk219 Kq226.1
     have O226 := O219.keep Kq226 (allS g_b165 all0)
     have K226 : Keep h0 T226.heap [] := K219.trans Kq226 (allS (Or.inr z_b165) all0)
     have g_tb_226 : n0 ≤ tb_226 := Nat.le_trans (own_le O219) szt_226
     have sf_tb_226 : Safe Z EL s.vm T226.heap tb_226 := Safe.keep Kq226 (allS f221 all0) CH219.1 (Safe.new szt_226)
     have z_tb_226 : h0.size ≤ tb_226 := Nat.le_trans K219.1 szt_226
     have ne234 : b165 ≠ tb_226 := Nat.ne_of_lt (Nat.lt_of_lt_of_le f222.lt szt_226)
     have ne235 : b169 ≠ tb_226 := Nat.ne_of_lt (Nat.lt_of_lt_of_le f220.lt szt_226)
     show GoW _ _ _ _ _ _ _ _ _ (T226.setTop (mkF m 227 #[.val (.long u), .second, .val (.int mo), .val (.int cx), .val (.int po), .unset] [(.ref b165)]))
     refine GoW.ret X226 hx hlk hS0 hk226 hZ hEL CH226 (t := (.object "java/lang/String")) Bd.returns rfl (Or.inr (Or.inr (Or.inr (Or.inr ⟨rfl, rfl, rfl⟩)))) (hb hby d1_227) (by decide) (by decide) rfl ?_
     exact ⟨b165, tb_226, kt_226, rfl, N226, K226, f231, f228, f227, (own_vs (lb := [(nar .byte ((nar .char (45 : Int32)).toInt8.toInt32)), (nar .byte ((nar .char (45 : Int32)).toInt8.toInt32)), (nar .byte ((nar .char (104 : Int32)).toInt8.toInt32)), (nar .byte ((nar .char (101 : Int32)).toInt8.toInt32)), (nar .byte ((nar .char (108 : Int32)).toInt8.toInt32)), (nar .byte ((nar .char (112 : Int32)).toInt8.toInt32)), (nar .byte ((nar .char cx).toInt8.toInt32))]) (by rw [own_fch, ← hd_cx, ← hd_po, ← hd_mo]; simp [fchx, fbl, n_cx, own_nk, own_n45, own_n69, own_n72, own_n76, own_n80, own_n101, own_n104, own_n108, own_n112, hc1, hc66, hc106, hc164]) f229), z_b165⟩
    ·refine GoW.st (fun _ => XS.icmpYes X0.here hx rfl (pc0 := 178) (pc' := 228) rfl (hb hby d1_178) rfl (XT.ii_ne_t hc164) (by decide) (by decide)) ?_
     refine GoW.st (fun _ => XS.iloadN X0.here hx rfl (hb hby d1_228) rfl) ?_
     refine GoW.st (fun _ => XS.iconst X0.here hx rfl (hb hby d1_229)) ?_
     show GoW _ _ _ _ _ _ _ _ _ (s₁.setTop (mkF m 230 #[.val (.long u), .second, .val (.int mo), .val (.int cx), .val (.int po), .unset] [(.int 4), (.int mo)]))
     by_cases hc236 : mo = (4 : Int32)
     ·refine GoW.st (fun _ => XS.icmpNo X0.here hx rfl (hb hby d1_230) rfl (XT.ii_ne_f hc236)) ?_
      obtain ⟨T237, h237, X237, e237, E237, A237, D237, -, st237⟩ := newO X0 hx hZ hown (wdx hw 0 rfl) (wdx hw 10 rfl) (wdx hw 11 rfl) e0 (g := (mkF m 233 #[.val (.long u), .second, .val (.int mo), .val (.int cx), .val (.int po), .unset] [])) rfl (hb hby d1_233) (by decide) (by decide)
      obtain ⟨b237, g237⟩ : ∃ z, z = h0.size := ⟨_, rfl⟩
      rw [← g237] at A237 D237 st237
      refine GoW.st st237 ?_
      have g_b237 : n0 ≤ b237 := Nat.le_trans (own_le O0) (Nat.le_of_eq g237.symm)
      have z_b237 : h0.size ≤ b237 := Nat.le_of_eq g237.symm
      have sf_b237 : Safe Z EL s.vm h0 b237 := Safe.new (Nat.le_of_eq g237.symm)
      have f238 := Safe.ext E237 CH0.1 sf_b237
      have CH237 := CH0.trans (CHr.ext E237 CH0.1)
      have hk237 : 0 ≤ Array.size h237 := Nat.le_trans hk0 E237.1
      have O237 := O0.ext E237
      have K237 : Keep h0 h237 [] := (Keep.refl h0 []).ext E237
      have f239 : Fld Z h237 b237 "java/lang/String" "coder" "B" (.int 0) := D237 (Or.inr (wdx hw 36 rfl)) (ty := .byte) (by decide)
      have f240 : Fld Z h237 b237 "java/lang/String" "value" "[B" .null := D237 (Or.inr (wdx hw 38 rfl)) (ty := (.array .byte)) (by decide)
      show GoW _ _ _ _ _ _ _ _ _ (T237.setTop (mkF m 236 #[.val (.long u), .second, .val (.int mo), .val (.int cx), .val (.int po), .unset] [(.ref b237)]))
      refine GoW.st (fun _ => XS.dup X237.here hx rfl (hb hby d1_236) rfl rfl) ?_
      refine GoW.st (fun _ => XS.iconst X237.here hx rfl (hb hby d1_237)) ?_
      obtain ⟨T241, h241, k241, X241, e241, E241, A241, st241⟩ := newP X237 hx hZ (wdx hw 12 rfl) e237 (g := (mkF m 238 #[.val (.long u), .second, .val (.int mo), .val (.int cx), .val (.int po), .unset] [(.int 0), (.ref b237), (.ref b237)])) rfl (hb hby d1_238) rfl (by decide) (cap := 0) (by decide) (by decide) (by decide) (by decide)
      obtain ⟨b241, g241⟩ : ∃ z, z = h237.size := ⟨_, rfl⟩
      rw [← g241] at A241 st241
      refine GoW.st st241 ?_
      have g_b241 : n0 ≤ b241 := Nat.le_trans (own_le O237) (Nat.le_of_eq g241.symm)
      have z_b241 : h0.size ≤ b241 := Nat.le_trans K237.1 (Nat.le_of_eq g241.symm)
      have sf_b241 : Safe Z EL s.vm h237 b241 := Safe.new (Nat.le_of_eq g241.symm)
      have ne242 : b237 ≠ b241 := Nat.ne_of_lt (Nat.lt_of_lt_of_le A237.lt (Nat.le_of_eq g241.symm))
      have f243 := Safe.ext E241 CH237.1 f238
      have f244 := A237.ext E241
      have f245 := f239.ext E241
      have f246 := f240.ext E241
      have f247 := Safe.ext E241 CH237.1 sf_b241
      have CH241 := CH237.trans (CHr.ext E241 CH237.1)
      have hk241 : 0 ≤ Array.size h241 := Nat.le_trans hk237 E241.1
      have O241 := O237.ext E241
      have K241 : Keep h0 h241 [] := K237.ext E241
      have f248 : Arv Z h241 b241 k241 .char (0 : Int32) [] (.int 0) := (Arv.new A241 (by decide)).pad (pad_rep [] (.int 0) 0)
      show GoW _ _ _ _ _ _ _ _ _ (T241.setTop (mkF m 240 #[.val (.long u), .second, .val (.int mo), .val (.int cx), .val (.int po), .unset] [(.ref b241), (.ref b237), (.ref b237)]))
      obtain ⟨_, _, ⟨T249, L249, k249, n249⟩, -, Xr249, hSr249, hgr249, ⟨Lc249, hQ249, l249, y249, z249, C249⟩, st249⟩ := X241.specialBackS hx (y := mn3) rfl hown (mvT hZ (wdx hw 13 rfl)) (mvT hZ (wdx hw 14 rfl)) (mvT hZ (wdx hw 15 rfl)) (by decide) (own_back (W := 1) (rm2_0 l Z a0 hw [] b237 b241 k241 h241 n0 O241 f244 f246 f245 f248 g_b237) hZ (wdx hw 15 rfl) (wdx hw 11 rfl) (by decide) (by decide) hEL CH241.1 (allS ⟨f244.lt, f243⟩ all0)) (g := (mkF m 240 #[.val (.long u), .second, .val (.int mo), .val (.int cx), .val (.int po), .unset] [(.ref b241), (.ref b237), (.ref b237)])) rfl (by rw [hml]; rfl) (Steps.refl _) (a := b237) (argsL := [(.ref b241)]) (rest := [(.ref b237)]) (lenOf pd___C_V rfl) rfl (by show 2 * 0 + _ ≤ _; exact Nat.le_of_eq rfl) (hb hby d1_240) (fun _ _ => ⟨rfl, e241, (by exact lee rfl), (by exact lee rfl)⟩)
      dsimp only [Pt.U, Pt.locs, Pt.cells, Pt.slots] at Xr249 hSr249 hgr249 l249 y249 z249 C249 st249 hQ249
      subst l249 y249 z249
      obtain ⟨X249, hS249, hZ249, hown249⟩ := rebS hS0 (by rw [e241]; exact hk241) Xr249 hSr249 hgr249 hZ hown
      obtain ⟨tb_249, kt_249, rfl, Nq249, Kq249, f250, f251, f252⟩ := hQ249
      have N249 := Fr.app N0 Nq249
      refine GoW.tr st249 ?_
      have f253 : Safe Z EL T249.vm T249.heap b237 := C249.safe f244.lt f243
      have f254 := f244.keep Kq249
      have f255 : Safe Z EL T249.vm T249.heap b241 := C249.safe f248.lt f247
      have f256 := f248.keep Kq249 (ninS (Ne.symm ne242) nin0)
      have CH249 := CH241.trans C249
      have O249 := O241.keep Kq249 (allS g_b237 all0)
      have K249 : Keep h0 T249.heap [] := K241.trans Kq249 (allS (Or.inr z_b237) all0)
      show GoW _ _ _ _ _ _ _ _ _ (T249.setTop (mkF m 243 #[.val (.long u), .second, .val (.int mo), .val (.int cx), .val (.int po), .unset] [(.ref b237)]))
      refine GoW.ret X249 hx hlk hS249 (Nat.le_refl _) hZ249 hEL CH249 (t := (.object "java/lang/String")) Bd.returns rfl (Or.inr (Or.inr (Or.inr (Or.inr ⟨rfl, rfl, rfl⟩)))) (hb hby d1_243) (by decide) (by decide) rfl ?_
      exact ⟨b237, tb_249, kt_249, rfl, N249, K249, f254, f251, f250, (own_vs (lb := []) (by rw [own_fch, ← hd_cx, ← hd_po, ← hd_mo]; simp [fchx, fbl, n_cx, own_nk, own_n45, own_n69, own_n72, own_n76, own_n80, own_n101, own_n104, own_n108, own_n112, hc1, hc66, hc106, hc164, hc236]) f252), z_b237⟩
     ·refine GoW.st (fun _ => XS.icmpYes X0.here hx rfl (pc0 := 230) (pc' := 244) rfl (hb hby d1_230) rfl (XT.ii_ne_t hc236) (by decide) (by decide)) ?_
      refine GoW.st (fun _ => XS.iloadN X0.here hx rfl (hb hby d1_244) rfl) ?_
      refine GoW.st (fun _ => XS.iconst X0.here hx rfl (hb hby d1_245)) ?_
      show GoW _ _ _ _ _ _ _ _ _ (s₁.setTop (mkF m 246 #[.val (.long u), .second, .val (.int mo), .val (.int cx), .val (.int po), .unset] [(.int 5), (.int mo)]))
      by_cases hc257 : mo = (5 : Int32)
      ·refine GoW.st (fun _ => XS.icmpNo X0.here hx rfl (hb hby d1_246) rfl (XT.ii_ne_f hc257)) ?_
       refine GoW.st (fun _ => XS.iloadN X0.here hx rfl (hb hby d1_249) rfl) ?_
       show GoW _ _ _ _ _ _ _ _ _ (s₁.setTop (mkF m 250 #[.val (.long u), .second, .val (.int mo), .val (.int cx), .val (.int po), .unset] [(.int cx)]))
       obtain ⟨_, _, ⟨T258, L258, k258, n258⟩, -, X258, ⟨Lc258, hQ258, l258, y258, z258⟩, st258⟩ := Jvm.LawKit.callS X0 hx (y := (⟨"java/lang/String", "valueOf", "(C)Ljava/lang/String;"⟩ : MethodName)) hown (mvT hZ (wdx hw 162 rfl)) (mvT hZ (wdx hw 163 rfl)) (mvT hZ (wdx hw 11 rfl)) (mvT hZ (wdx hw 164 rfl)) (by decide) (backOf (W := 0) (rm27 l Z a0 hw [] cx cs h0 n0 O0 S_cs q_cs (own_lq _ r_cx.1)) hZ (wdx hw 164 rfl) (wdx hw 11 rfl) (by decide) (by decide)) (g := (mkF m 250 #[.val (.long u), .second, .val (.int mo), .val (.int cx), .val (.int po), .unset] [(.int cx)])) rfl (by rw [hml]; rfl) (argsL := [(.int cx)]) (rest := []) (lenOf pd__C_Ljava_lang_String_ rfl) rfl (by show 2 * 0 + _ ≤ _; exact Nat.le_of_eq rfl) (hb hby d1_250) (fun _ _ => ⟨rfl, e0, (by exact lee rfl), (by exact lee rfl)⟩)
       dsimp only [Pt.U, Pt.locs, Pt.cells, Pt.slots] at X258 l258 y258 z258 st258 hQ258
       subst l258 y258 z258
       obtain ⟨rr_258, tb_258, kt_258, rfl, Nq258, Kq258, f259, f260, f261, f262, szr_258⟩ := hQ258
       have N258 := Fr.app N0 Nq258
       refine GoW.st st258 ?_
       have CH258 := CH0.trans (CHr.keep Kq258 all0 CH0.1)
       have hk258 : 0 ≤ Array.size T258.heap := Nat.le_trans hk0 Kq258.1
       have O258 := O0.keep Kq258 all0
       have K258 : Keep h0 T258.heap [] := (Keep.refl h0 []).trans Kq258 all0
       have g_rr_258 : n0 ≤ rr_258 := Nat.le_trans (own_le O0) szr_258
       have sf_rr_258 : Safe Z EL s.vm T258.heap rr_258 := Safe.keep Kq258 all0 CH0.1 (Safe.new szr_258)
       have z_rr_258 : h0.size ≤ rr_258 := szr_258
       show GoW _ _ _ _ _ _ _ _ _ (T258.setTop (mkF m 253 #[.val (.long u), .second, .val (.int mo), .val (.int cx), .val (.int po), .unset] [(.ref rr_258)]))
       refine GoW.ret X258 hx hlk hS0 hk258 hZ hEL CH258 (t := (.object "java/lang/String")) Bd.returns rfl (Or.inr (Or.inr (Or.inr (Or.inr ⟨rfl, rfl, rfl⟩)))) (hb hby d1_253) (by decide) (by decide) rfl ?_
       exact ⟨rr_258, tb_258, kt_258, rfl, N258, K258, f259, f260, f261, (own_vs (lb := [(nar .byte (cx.toInt8.toInt32))]) (by rw [own_fch, ← hd_cx, ← hd_po, ← hd_mo]; simp [fchx, fbl, n_cx, own_nk, own_n45, own_n69, own_n72, own_n76, own_n80, own_n101, own_n104, own_n108, own_n112, hc1, hc66, hc106, hc164, hc236, hc257]) f262), z_rr_258⟩
      ·refine GoW.st (fun _ => XS.icmpYes X0.here hx rfl (pc0 := 246) (pc' := 254) rfl (hb hby d1_246) rfl (XT.ii_ne_t hc257) (by decide) (by decide)) ?_
       refine GoW.st (fun _ => XS.iloadN X0.here hx rfl (hb hby d1_254) rfl) ?_
       refine GoW.st (fun _ => XS.bipush X0.here hx rfl (hb hby d1_255)) ?_
       show GoW _ _ _ _ _ _ _ _ _ (s₁.setTop (mkF m 257 #[.val (.long u), .second, .val (.int mo), .val (.int cx), .val (.int po), .unset] [(.int 6), (.int mo)]))
       by_cases hc263 : mo = (6 : Int32)
       ·refine GoW.st (fun _ => XS.icmpNo X0.here hx rfl (hb hby d1_257) rfl (XT.ii_ne_f hc263)) ?_
        obtain ⟨T264, h264, X264, e264, E264, A264, D264, -, st264⟩ := newO X0 hx hZ hown (wdx hw 0 rfl) (wdx hw 10 rfl) (wdx hw 11 rfl) e0 (g := (mkF m 260 #[.val (.long u), .second, .val (.int mo), .val (.int cx), .val (.int po), .unset] [])) rfl (hb hby d1_260) (by decide) (by decide)
        obtain ⟨b264, g264⟩ : ∃ z, z = h0.size := ⟨_, rfl⟩
        rw [← g264] at A264 D264 st264
        refine GoW.st st264 ?_
        have g_b264 : n0 ≤ b264 := Nat.le_trans (own_le O0) (Nat.le_of_eq g264.symm)
        have z_b264 : h0.size ≤ b264 := Nat.le_of_eq g264.symm
        have sf_b264 : Safe Z EL s.vm h0 b264 := Safe.new (Nat.le_of_eq g264.symm)
        have f265 := Safe.ext E264 CH0.1 sf_b264
        have CH264 := CH0.trans (CHr.ext E264 CH0.1)
        have hk264 : 0 ≤ Array.size h264 := Nat.le_trans hk0 E264.1
        have O264 := O0.ext E264
        have K264 : Keep h0 h264 [] := (Keep.refl h0 []).ext E264
        have f266 : Fld Z h264 b264 "java/lang/String" "coder" "B" (.int 0) := D264 (Or.inr (wdx hw 36 rfl)) (ty := .byte) (by decide)
        have f267 : Fld Z h264 b264 "java/lang/String" "value" "[B" .null := D264 (Or.inr (wdx hw 38 rfl)) (ty := (.array .byte)) (by decide)
        show GoW _ _ _ _ _ _ _ _ _ (T264.setTop (mkF m 263 #[.val (.long u), .second, .val (.int mo), .val (.int cx), .val (.int po), .unset] [(.ref b264)]))
        refine GoW.st (fun _ => XS.dup X264.here hx rfl (hb hby d1_263) rfl rfl) ?_
        refine GoW.st (fun _ => XS.bipush X264.here hx rfl (hb hby d1_264)) ?_
        obtain ⟨T268, h268, k268, X268, e268, E268, A268, st268⟩ := newP X264 hx hZ (wdx hw 12 rfl) e264 (g := (mkF m 266 #[.val (.long u), .second, .val (.int mo), .val (.int cx), .val (.int po), .unset] [(.int 6), (.ref b264), (.ref b264)])) rfl (hb hby d1_266) rfl (by decide) (cap := 6) (by decide) (by decide) (by decide) (by decide)
        obtain ⟨b268, g268⟩ : ∃ z, z = h264.size := ⟨_, rfl⟩
        rw [← g268] at A268 st268
        refine GoW.st st268 ?_
        have g_b268 : n0 ≤ b268 := Nat.le_trans (own_le O264) (Nat.le_of_eq g268.symm)
        have z_b268 : h0.size ≤ b268 := Nat.le_trans K264.1 (Nat.le_of_eq g268.symm)
        have sf_b268 : Safe Z EL s.vm h264 b268 := Safe.new (Nat.le_of_eq g268.symm)
        have ne269 : b264 ≠ b268 := Nat.ne_of_lt (Nat.lt_of_lt_of_le A264.lt (Nat.le_of_eq g268.symm))
        have f270 := Safe.ext E268 CH264.1 f265
        have f271 := A264.ext E268
        have f272 := f266.ext E268
        have f273 := f267.ext E268
        have f274 := Safe.ext E268 CH264.1 sf_b268
        have CH268 := CH264.trans (CHr.ext E268 CH264.1)
        have hk268 : 0 ≤ Array.size h268 := Nat.le_trans hk264 E268.1
        have O268 := O264.ext E268
        have K268 : Keep h0 h268 [] := K264.ext E268
        have f275 : Arv Z h268 b268 k268 .char (6 : Int32) [(.int 0), (.int 0), (.int 0), (.int 0), (.int 0), (.int 0)] (.int 0) := (Arv.new A268 (by decide)).pad (pad_rep [] (.int 0) 6)
        show GoW _ _ _ _ _ _ _ _ _ (T268.setTop (mkF m 268 #[.val (.long u), .second, .val (.int mo), .val (.int cx), .val (.int po), .unset] [(.ref b268), (.ref b264), (.ref b264)]))
        refine GoW.st (fun _ => XS.dup X268.here hx rfl (hb hby d1_268) rfl rfl) ?_
        refine GoW.st (fun _ => XS.iconst X268.here hx rfl (hb hby d1_269)) ?_
        refine GoW.st (fun _ => XS.bipush X268.here hx rfl (hb hby d1_270)) ?_
        obtain ⟨cl276, Ar276, qc276, Sz276, Nn276, Ha276, Gf276⟩ := id f275
        obtain ⟨T276, h276, X276, e276, W276, st276⟩ := stC X268 hx hZ e268 Ar276 (j := (0 : Int32)) (inb_of Sz276 ⟨by decide, by decide⟩) (g := (mkF m 272 #[.val (.long u), .second, .val (.int mo), .val (.int cx), .val (.int po), .unset] [(.int 45), (.int 0), (.ref b268), (.ref b268), (.ref b264), (.ref b264)])) rfl rfl (hb hby d1_272)
        refine GoW.st st276 ?_
        have f278 := Safe.wr W276 f274 CH268.1 f270
        have f279 := f271.wr W276
        have f280 := f272.other W276 (Or.inl ne269)
        have f281 := f273.other W276 (Or.inl ne269)
        have f282 := Safe.wr W276 f274 CH268.1 f274
        have CH276 := CH268.trans (CHr.wr W276 f274 CH268.1)
        have hk276 : 0 ≤ Array.size h276 := Nat.le_trans hk268 (Keep.of_wr W276).1
        have O276 := O268.wr W276 g_b268
        have N276 := Fr.snoc X276 N0 g_b268
        have K276 : Keep h0 h276 [] := K268.wr W276 (Or.inr z_b268)
        have f277 : Arv Z h276 b268 k268 .char (6 : Int32) [(.int (nar .char (45 : Int32))), (.int 0), (.int 0), (.int 0), (.int 0), (.int 0)] (.int 0) := Arv.set Ar276 qc276 Sz276 Nn276 Ha276 Gf276 (fits_nar_char _) W276 0 rfl (Nat.le_of_ble_eq_true rfl)
        refine GoW.st (fun _ => XS.dup X276.here hx rfl (hb hby d1_273) rfl rfl) ?_
        refine GoW.st (fun _ => XS.iconst X276.here hx rfl (hb hby d1_274)) ?_
        refine GoW.st (fun _ => XS.bipush X276.here hx rfl (hb hby d1_275)) ?_
        obtain ⟨cl283, Ar283, qc283, Sz283, Nn283, Ha283, Gf283⟩ := id f277
        obtain ⟨T283, h283, X283, e283, W283, st283⟩ := stC X276 hx hZ e276 Ar283 (j := (1 : Int32)) (inb_of Sz283 ⟨by decide, by decide⟩) (g := (mkF m 277 #[.val (.long u), .second, .val (.int mo), .val (.int cx), .val (.int po), .unset] [(.int 45), (.int 1), (.ref b268), (.ref b268), (.ref b264), (.ref b264)])) rfl rfl (hb hby d1_277)
        refine GoW.st st283 ?_
        have f285 := Safe.wr W283 f282 CH276.1 f278
        have f286 := f279.wr W283
        have f287 := f280.other W283 (Or.inl ne269)
        have f288 := f281.other W283 (Or.inl ne269)
        have f289 := Safe.wr W283 f282 CH276.1 f282
        have CH283 := CH276.trans (CHr.wr W283 f282 CH276.1)
        have hk283 : 0 ≤ Array.size h283 := Nat.le_trans hk276 (Keep.of_wr W283).1
        have O283 := O276.wr W283 g_b268
        have N283 := Fr.snoc X283 N276 g_b268
        have K283 : Keep h0 h283 [] := K276.wr W283 (Or.inr z_b268)
        have f284 : Arv Z h283 b268 k268 .char (6 : Int32) [(.int (nar .char (45 : Int32))), (.int (nar .char (45 : Int32))), (.int 0), (.int 0), (.int 0), (.int 0)] (.int 0) := Arv.set Ar283 qc283 Sz283 Nn283 Ha283 Gf283 (fits_nar_char _) W283 1 rfl (Nat.le_of_ble_eq_true rfl)
        refine GoW.st (fun _ => XS.dup X283.here hx rfl (hb hby d1_278) rfl rfl) ?_
        refine GoW.st (fun _ => XS.iconst X283.here hx rfl (hb hby d1_279)) ?_
        refine GoW.st (fun _ => XS.bipush X283.here hx rfl (hb hby d1_280)) ?_
        obtain ⟨cl290, Ar290, qc290, Sz290, Nn290, Ha290, Gf290⟩ := id f284
        obtain ⟨T290, h290, X290, e290, W290, st290⟩ := stC X283 hx hZ e283 Ar290 (j := (2 : Int32)) (inb_of Sz290 ⟨by decide, by decide⟩) (g := (mkF m 282 #[.val (.long u), .second, .val (.int mo), .val (.int cx), .val (.int po), .unset] [(.int 72), (.int 2), (.ref b268), (.ref b268), (.ref b264), (.ref b264)])) rfl rfl (hb hby d1_282)
        refine GoW.st st290 ?_
        have f292 := Safe.wr W290 f289 CH283.1 f285
        have f293 := f286.wr W290
        have f294 := f287.other W290 (Or.inl ne269)
        have f295 := f288.other W290 (Or.inl ne269)
        have f296 := Safe.wr W290 f289 CH283.1 f289
        have CH290 := CH283.trans (CHr.wr W290 f289 CH283.1)
        have hk290 : 0 ≤ Array.size h290 := Nat.le_trans hk283 (Keep.of_wr W290).1
        have O290 := O283.wr W290 g_b268
        have N290 := Fr.snoc X290 N283 g_b268
        have K290 : Keep h0 h290 [] := K283.wr W290 (Or.inr z_b268)
        have f291 : Arv Z h290 b268 k268 .char (6 : Int32) [(.int (nar .char (45 : Int32))), (.int (nar .char (45 : Int32))), (.int (nar .char (72 : Int32))), (.int 0), (.int 0), (.int 0)] (.int 0) := Arv.set Ar290 qc290 Sz290 Nn290 Ha290 Gf290 (fits_nar_char _) W290 2 rfl (Nat.le_of_ble_eq_true rfl)
        refine GoW.st (fun _ => XS.dup X290.here hx rfl (hb hby d1_283) rfl rfl) ?_
        refine GoW.st (fun _ => XS.iconst X290.here hx rfl (hb hby d1_284)) ?_
        refine GoW.st (fun _ => XS.bipush X290.here hx rfl (hb hby d1_285)) ?_
        obtain ⟨cl297, Ar297, qc297, Sz297, Nn297, Ha297, Gf297⟩ := id f291
        obtain ⟨T297, h297, X297, e297, W297, st297⟩ := stC X290 hx hZ e290 Ar297 (j := (3 : Int32)) (inb_of Sz297 ⟨by decide, by decide⟩) (g := (mkF m 287 #[.val (.long u), .second, .val (.int mo), .val (.int cx), .val (.int po), .unset] [(.int 69), (.int 3), (.ref b268), (.ref b268), (.ref b264), (.ref b264)])) rfl rfl (hb hby d1_287)
        refine GoW.st st297 ?_
        have f299 := Safe.wr W297 f296 CH290.1 f292
        have f300 := f293.wr W297
        have f301 := f294.other W297 (Or.inl ne269)
        have f302 := f295.other W297 (Or.inl ne269)
        have f303 := Safe.wr W297 f296 CH290.1 f296
        have CH297 := CH290.trans (CHr.wr W297 f296 CH290.1)
        have hk297 : 0 ≤ Array.size h297 := Nat.le_trans hk290 (Keep.of_wr W297).1
        have O297 := O290.wr W297 g_b268
        have N297 := Fr.snoc X297 N290 g_b268
        have K297 : Keep h0 h297 [] := K290.wr W297 (Or.inr z_b268)
        have f298 : Arv Z h297 b268 k268 .char (6 : Int32) [(.int (nar .char (45 : Int32))), (.int (nar .char (45 : Int32))), (.int (nar .char (72 : Int32))), (.int (nar .char (69 : Int32))), (.int 0), (.int 0)] (.int 0) := Arv.set Ar297 qc297 Sz297 Nn297 Ha297 Gf297 (fits_nar_char _) W297 3 rfl (Nat.le_of_ble_eq_true rfl)
        refine GoW.st (fun _ => XS.dup X297.here hx rfl (hb hby d1_288) rfl rfl) ?_
        show GoW _ _ _ _ _ _ _ _ _ (T297.setTop (mkF m 289 #[.val (.long u), .second, .val (.int mo), .val (.int cx), .val (.int po), .unset] [(.ref b268), (.ref b268), (.ref b264), (.ref b264)]))
        refine GoW.st (fun _ => XS.iconst X297.here hx rfl (hb hby d1_289)) ?_
        refine GoW.st (fun _ => XS.bipush X297.here hx rfl (hb hby d1_290)) ?_
        obtain ⟨cl304, Ar304, qc304, Sz304, Nn304, Ha304, Gf304⟩ := id f298
        obtain ⟨T304, h304, X304, e304, W304, st304⟩ := stC X297 hx hZ e297 Ar304 (j := (4 : Int32)) (inb_of Sz304 ⟨by decide, by decide⟩) (g := (mkF m 292 #[.val (.long u), .second, .val (.int mo), .val (.int cx), .val (.int po), .unset] [(.int 76), (.int 4), (.ref b268), (.ref b268), (.ref b264), (.ref b264)])) rfl rfl (hb hby d1_292)
        refine GoW.st st304 ?_
        have f306 := Safe.wr W304 f303 CH297.1 f299
        have f307 := f300.wr W304
        have f308 := f301.other W304 (Or.inl ne269)
        have f309 := f302.other W304 (Or.inl ne269)
        have f310 := Safe.wr W304 f303 CH297.1 f303
        have CH304 := CH297.trans (CHr.wr W304 f303 CH297.1)
        have hk304 : 0 ≤ Array.size h304 := Nat.le_trans hk297 (Keep.of_wr W304).1
        have O304 := O297.wr W304 g_b268
        have N304 := Fr.snoc X304 N297 g_b268
        have K304 : Keep h0 h304 [] := K297.wr W304 (Or.inr z_b268)
        have f305 : Arv Z h304 b268 k268 .char (6 : Int32) [(.int (nar .char (45 : Int32))), (.int (nar .char (45 : Int32))), (.int (nar .char (72 : Int32))), (.int (nar .char (69 : Int32))), (.int (nar .char (76 : Int32))), (.int 0)] (.int 0) := Arv.set Ar304 qc304 Sz304 Nn304 Ha304 Gf304 (fits_nar_char _) W304 4 rfl (Nat.le_of_ble_eq_true rfl)
        refine GoW.st (fun _ => XS.dup X304.here hx rfl (hb hby d1_293) rfl rfl) ?_
        refine GoW.st (fun _ => XS.iconst X304.here hx rfl (hb hby d1_294)) ?_
        refine GoW.st (fun _ => XS.bipush X304.here hx rfl (hb hby d1_295)) ?_
        obtain ⟨cl311, Ar311, qc311, Sz311, Nn311, Ha311, Gf311⟩ := id f305
        obtain ⟨T311, h311, X311, e311, W311, st311⟩ := stC X304 hx hZ e304 Ar311 (j := (5 : Int32)) (inb_of Sz311 ⟨by decide, by decide⟩) (g := (mkF m 297 #[.val (.long u), .second, .val (.int mo), .val (.int cx), .val (.int po), .unset] [(.int 80), (.int 5), (.ref b268), (.ref b268), (.ref b264), (.ref b264)])) rfl rfl (hb hby d1_297)
        refine GoW.st st311 ?_
        have f313 := Safe.wr W311 f310 CH304.1 f306
        have f314 := f307.wr W311
        have f315 := f308.other W311 (Or.inl ne269)
        have f316 := f309.other W311 (Or.inl ne269)
        have f317 := Safe.wr W311 f310 CH304.1 f310
        have CH311 := CH304.trans (CHr.wr W311 f310 CH304.1)
        have hk311 : 0 ≤ Array.size h311 := Nat.le_trans hk304 (Keep.of_wr W311).1
        have O311 := O304.wr W311 g_b268
        have N311 := Fr.snoc X311 N304 g_b268
        have K311 : Keep h0 h311 [] := K304.wr W311 (Or.inr z_b268)
        have f312 : Arv Z h311 b268 k268 .char (6 : Int32) [(.int (nar .char (45 : Int32))), (.int (nar .char (45 : Int32))), (.int (nar .char (72 : Int32))), (.int (nar .char (69 : Int32))), (.int (nar .char (76 : Int32))), (.int (nar .char (80 : Int32)))] (.int 0) := Arv.set Ar311 qc311 Sz311 Nn311 Ha311 Gf311 (fits_nar_char _) W311 5 rfl (Nat.le_of_ble_eq_true rfl)
        show GoW _ _ _ _ _ _ _ _ _ (T311.setTop (mkF m 298 #[.val (.long u), .second, .val (.int mo), .val (.int cx), .val (.int po), .unset] [(.ref b268), (.ref b264), (.ref b264)]))
        obtain ⟨_, _, ⟨T318, L318, k318, n318⟩, -, X318, ⟨Lc318, hQ318, l318, y318, z318⟩, st318⟩ := X311.specialBack hx (y := mn3) rfl hown (mvT hZ (wdx hw 13 rfl)) (mvT hZ (wdx hw 14 rfl)) (mvT hZ (wdx hw 15 rfl)) (by decide) (backOf (W := 1) (rm2_6 l Z a0 hw [] b264 b268 k268 cs (nar .char (45 : Int32)) (nar .char (45 : Int32)) (nar .char (72 : Int32)) (nar .char (69 : Int32)) (nar .char (76 : Int32)) (nar .char (80 : Int32)) h311 n0 O311 f314 f316 f315 f312 S_cs q_cs (by decide) (by decide) (by decide) (by decide) (by decide) (by decide) g_b264 ne269) hZ (wdx hw 15 rfl) (wdx hw 11 rfl) (by decide) (by decide)) (g := (mkF m 298 #[.val (.long u), .second, .val (.int mo), .val (.int cx), .val (.int po), .unset] [(.ref b268), (.ref b264), (.ref b264)])) rfl (by rw [hml]; rfl) (Steps.refl _) (a := b264) (argsL := [(.ref b268)]) (rest := [(.ref b264)]) (lenOf pd___C_V rfl) rfl (by show 2 * 0 + _ ≤ _; exact Nat.le_of_eq rfl) (hb hby d1_298) (fun _ _ => ⟨rfl, e311, (by exact lee rfl), (by exact lee rfl)⟩)
        dsimp only [Pt.U, Pt.locs, Pt.cells, Pt.slots] at X318 l318 y318 z318 st318 hQ318
        subst l318 y318 z318
        obtain ⟨tb_318, kt_318, rfl, Nq318, Kq318, f319, f320, f321, szt_318⟩ := hQ318
        have N318 := Fr.app N311 Nq318
        refine GoW.tr st318 ?_
        have f322 := Safe.keep Kq318 (allS f313 all0) CH311.1 f313
        have f323 := f314.keep Kq318
        have f324 := Safe.keep Kq318 (allS f313 all0) CH311.1 f317
        have f325 := f312.keep Kq318 (ninS (Ne.symm ne269) nin0)
        have CH318 := CH311.trans (CHr.keep Kq318 (allS f313 all0) CH311.1)
        have hk318 : 0 ≤ Array.size T318.heap := Nat.le_trans hk311 Kq318.1
        have O318 := O311.keep Kq318 (allS g_b264 all0)
        have K318 : Keep h0 T318.heap [] := K311.trans Kq318 (allS (Or.inr z_b264) all0)
        have g_tb_318 : n0 ≤ tb_318 := Nat.le_trans (own_le O311) szt_318
        have sf_tb_318 : Safe Z EL s.vm T318.heap tb_318 := Safe.keep Kq318 (allS f313 all0) CH311.1 (Safe.new szt_318)
        have z_tb_318 : h0.size ≤ tb_318 := Nat.le_trans K311.1 szt_318
        have ne326 : b264 ≠ tb_318 := Nat.ne_of_lt (Nat.lt_of_lt_of_le f314.lt szt_318)
        have ne327 : b268 ≠ tb_318 := Nat.ne_of_lt (Nat.lt_of_lt_of_le f312.lt szt_318)
        show GoW _ _ _ _ _ _ _ _ _ (T318.setTop (mkF m 301 #[.val (.long u), .second, .val (.int mo), .val (.int cx), .val (.int po), .unset] [(.ref b264)]))
        refine GoW.ret X318 hx hlk hS0 hk318 hZ hEL CH318 (t := (.object "java/lang/String")) Bd.returns rfl (Or.inr (Or.inr (Or.inr (Or.inr ⟨rfl, rfl, rfl⟩)))) (hb hby d1_301) (by decide) (by decide) rfl ?_
        exact ⟨b264, tb_318, kt_318, rfl, N318, K318, f323, f320, f319, (own_vs (lb := [(nar .byte ((nar .char (45 : Int32)).toInt8.toInt32)), (nar .byte ((nar .char (45 : Int32)).toInt8.toInt32)), (nar .byte ((nar .char (72 : Int32)).toInt8.toInt32)), (nar .byte ((nar .char (69 : Int32)).toInt8.toInt32)), (nar .byte ((nar .char (76 : Int32)).toInt8.toInt32)), (nar .byte ((nar .char (80 : Int32)).toInt8.toInt32))]) (by rw [own_fch, ← hd_cx, ← hd_po, ← hd_mo]; simp [fchx, fbl, n_cx, own_nk, own_n45, own_n69, own_n72, own_n76, own_n80, own_n101, own_n104, own_n108, own_n112, hc1, hc66, hc106, hc164, hc236, hc257, hc263]) f321), z_b264⟩
       ·refine GoW.st (fun _ => XS.icmpYes X0.here hx rfl (pc0 := 257) (pc' := 302) rfl (hb hby d1_257) rfl (XT.ii_ne_t hc263) (by decide) (by decide)) ?_
        obtain ⟨T328, h328, X328, e328, E328, A328, D328, -, st328⟩ := newO X0 hx hZ hown (wdx hw 0 rfl) (wdx hw 10 rfl) (wdx hw 11 rfl) e0 (g := (mkF m 302 #[.val (.long u), .second, .val (.int mo), .val (.int cx), .val (.int po), .unset] [])) rfl (hb hby d1_302) (by decide) (by decide)
        obtain ⟨b328, g328⟩ : ∃ z, z = h0.size := ⟨_, rfl⟩
        rw [← g328] at A328 D328 st328
        refine GoW.st st328 ?_
        have g_b328 : n0 ≤ b328 := Nat.le_trans (own_le O0) (Nat.le_of_eq g328.symm)
        have z_b328 : h0.size ≤ b328 := Nat.le_of_eq g328.symm
        have sf_b328 : Safe Z EL s.vm h0 b328 := Safe.new (Nat.le_of_eq g328.symm)
        have f329 := Safe.ext E328 CH0.1 sf_b328
        have CH328 := CH0.trans (CHr.ext E328 CH0.1)
        have hk328 : 0 ≤ Array.size h328 := Nat.le_trans hk0 E328.1
        have O328 := O0.ext E328
        have K328 : Keep h0 h328 [] := (Keep.refl h0 []).ext E328
        have f330 : Fld Z h328 b328 "java/lang/String" "coder" "B" (.int 0) := D328 (Or.inr (wdx hw 36 rfl)) (ty := .byte) (by decide)
        have f331 : Fld Z h328 b328 "java/lang/String" "value" "[B" .null := D328 (Or.inr (wdx hw 38 rfl)) (ty := (.array .byte)) (by decide)
        show GoW _ _ _ _ _ _ _ _ _ (T328.setTop (mkF m 305 #[.val (.long u), .second, .val (.int mo), .val (.int cx), .val (.int po), .unset] [(.ref b328)]))
        refine GoW.st (fun _ => XS.dup X328.here hx rfl (hb hby d1_305) rfl rfl) ?_
        refine GoW.st (fun _ => XS.bipush X328.here hx rfl (hb hby d1_306)) ?_
        obtain ⟨T332, h332, k332, X332, e332, E332, A332, st332⟩ := newP X328 hx hZ (wdx hw 12 rfl) e328 (g := (mkF m 308 #[.val (.long u), .second, .val (.int mo), .val (.int cx), .val (.int po), .unset] [(.int 6), (.ref b328), (.ref b328)])) rfl (hb hby d1_308) rfl (by decide) (cap := 6) (by decide) (by decide) (by decide) (by decide)
        obtain ⟨b332, g332⟩ : ∃ z, z = h328.size := ⟨_, rfl⟩
        rw [← g332] at A332 st332
        refine GoW.st st332 ?_
        have g_b332 : n0 ≤ b332 := Nat.le_trans (own_le O328) (Nat.le_of_eq g332.symm)
        have z_b332 : h0.size ≤ b332 := Nat.le_trans K328.1 (Nat.le_of_eq g332.symm)
        have sf_b332 : Safe Z EL s.vm h328 b332 := Safe.new (Nat.le_of_eq g332.symm)
        have ne333 : b328 ≠ b332 := Nat.ne_of_lt (Nat.lt_of_lt_of_le A328.lt (Nat.le_of_eq g332.symm))
        have f334 := Safe.ext E332 CH328.1 f329
        have f335 := A328.ext E332
        have f336 := f330.ext E332
        have f337 := f331.ext E332
        have f338 := Safe.ext E332 CH328.1 sf_b332
        have CH332 := CH328.trans (CHr.ext E332 CH328.1)
        have hk332 : 0 ≤ Array.size h332 := Nat.le_trans hk328 E332.1
        have O332 := O328.ext E332
        have K332 : Keep h0 h332 [] := K328.ext E332
        have f339 : Arv Z h332 b332 k332 .char (6 : Int32) [(.int 0), (.int 0), (.int 0), (.int 0), (.int 0), (.int 0)] (.int 0) := (Arv.new A332 (by decide)).pad (pad_rep [] (.int 0) 6)
        show GoW _ _ _ _ _ _ _ _ _ (T332.setTop (mkF m 310 #[.val (.long u), .second, .val (.int mo), .val (.int cx), .val (.int po), .unset] [(.ref b332), (.ref b328), (.ref b328)]))
        refine GoW.st (fun _ => XS.dup X332.here hx rfl (hb hby d1_310) rfl rfl) ?_
        refine GoW.st (fun _ => XS.iconst X332.here hx rfl (hb hby d1_311)) ?_
        refine GoW.st (fun _ => XS.lloadN X332.here hx rfl (hb hby d1_312) rfl) ?_
        refine GoW.st (fun _ => XS.iconst X332.here hx rfl (hb hby d1_313)) ?_
        show GoW _ _ _ _ _ _ _ _ _ (T332.setTop (mkF m 314 #[.val (.long u), .second, .val (.int mo), .val (.int cx), .val (.int po), .unset] [(.int 0), (.long u), (.int 0), (.ref b332), (.ref b332), (.ref b328), (.ref b328)]))
        obtain ⟨_, _, ⟨T340, L340, k340, n340⟩, -, X340, ⟨Lc340, hQ340, l340, y340, z340⟩, st340⟩ := Jvm.LawKit.callS X332 hx (y := mn4) hown (mvT hZ (wdx hw 159 rfl)) (mvT hZ (wdx hw 160 rfl)) (mvT hZ (wdx hw 4 rfl)) (mvT hZ (wdx hw 161 rfl)) (by decide) (backOf (W := 5) (rm26 l Z a0 hw [] u (0 : Int32) h332 n0 O332 ) hZ (wdx hw 161 rfl) (wdx hw 4 rfl) (by decide) (by decide)) (g := (mkF m 314 #[.val (.long u), .second, .val (.int mo), .val (.int cx), .val (.int po), .unset] [(.int 0), (.long u), (.int 0), (.ref b332), (.ref b332), (.ref b328), (.ref b328)])) rfl (by rw [hml]; rfl) (argsL := [(.long u), (.int 0)]) (rest := [(.int 0), (.ref b332), (.ref b332), (.ref b328), (.ref b328)]) (lenOf pd__JI_C rfl) rfl (by show 2 * 0 + _ ≤ _; exact Nat.le_of_eq rfl) (hb hby d1_314) (fun _ _ => ⟨rfl, e332, (by exact lee rfl), (by exact lee rfl)⟩)
        dsimp only [Pt.U, Pt.locs, Pt.cells, Pt.slots] at X340 l340 y340 z340 st340 hQ340
        subst l340 y340 z340
        obtain ⟨rfl, Nq340, eq340⟩ := hQ340
        have N340 := Fr.app N0 Nq340
        refine GoW.st st340 ?_
        show GoW _ _ _ _ _ _ _ _ _ (T340.setTop (mkF m 317 #[.val (.long u), .second, .val (.int mo), .val (.int cx), .val (.int po), .unset] [(.int (fk u (0 : Int32))), (.int 0), (.ref b332), (.ref b332), (.ref b328), (.ref b328)]))
        obtain ⟨cl341, Ar341, qc341, Sz341, Nn341, Ha341, Gf341⟩ := id f339
        obtain ⟨T341, h341, X341, e341, W341, st341⟩ := stC X340 hx hZ eq340 Ar341 (j := (0 : Int32)) (inb_of Sz341 ⟨by decide, by decide⟩) (g := (mkF m 317 #[.val (.long u), .second, .val (.int mo), .val (.int cx), .val (.int po), .unset] [(.int (fk u (0 : Int32))), (.int 0), (.ref b332), (.ref b332), (.ref b328), (.ref b328)])) rfl rfl (hb hby d1_317)
        refine GoW.st st341 ?_
        have f343 := Safe.wr W341 f338 CH332.1 f334
        have f344 := f335.wr W341
        have f345 := f336.other W341 (Or.inl ne333)
        have f346 := f337.other W341 (Or.inl ne333)
        have f347 := Safe.wr W341 f338 CH332.1 f338
        have CH341 := CH332.trans (CHr.wr W341 f338 CH332.1)
        have hk341 : 0 ≤ Array.size h341 := Nat.le_trans hk332 (Keep.of_wr W341).1
        have O341 := O332.wr W341 g_b332
        have N341 := Fr.snoc X341 N340 g_b332
        have K341 : Keep h0 h341 [] := K332.wr W341 (Or.inr z_b332)
        have f342 : Arv Z h341 b332 k332 .char (6 : Int32) [(.int (nar .char (fk u (0 : Int32)))), (.int 0), (.int 0), (.int 0), (.int 0), (.int 0)] (.int 0) := Arv.set Ar341 qc341 Sz341 Nn341 Ha341 Gf341 (fits_nar_char _) W341 0 rfl (Nat.le_of_ble_eq_true rfl)
        refine GoW.st (fun _ => XS.dup X341.here hx rfl (hb hby d1_318) rfl rfl) ?_
        refine GoW.st (fun _ => XS.iconst X341.here hx rfl (hb hby d1_319)) ?_
        refine GoW.st (fun _ => XS.lloadN X341.here hx rfl (hb hby d1_320) rfl) ?_
        refine GoW.st (fun _ => XS.iconst X341.here hx rfl (hb hby d1_321)) ?_
        show GoW _ _ _ _ _ _ _ _ _ (T341.setTop (mkF m 322 #[.val (.long u), .second, .val (.int mo), .val (.int cx), .val (.int po), .unset] [(.int 1), (.long u), (.int 1), (.ref b332), (.ref b332), (.ref b328), (.ref b328)]))
        obtain ⟨_, _, ⟨T348, L348, k348, n348⟩, -, X348, ⟨Lc348, hQ348, l348, y348, z348⟩, st348⟩ := Jvm.LawKit.callS X341 hx (y := mn4) hown (mvT hZ (wdx hw 159 rfl)) (mvT hZ (wdx hw 160 rfl)) (mvT hZ (wdx hw 4 rfl)) (mvT hZ (wdx hw 161 rfl)) (by decide) (backOf (W := 5) (rm26 l Z a0 hw [] u (1 : Int32) h341 n0 O341 ) hZ (wdx hw 161 rfl) (wdx hw 4 rfl) (by decide) (by decide)) (g := (mkF m 322 #[.val (.long u), .second, .val (.int mo), .val (.int cx), .val (.int po), .unset] [(.int 1), (.long u), (.int 1), (.ref b332), (.ref b332), (.ref b328), (.ref b328)])) rfl (by rw [hml]; rfl) (argsL := [(.long u), (.int 1)]) (rest := [(.int 1), (.ref b332), (.ref b332), (.ref b328), (.ref b328)]) (lenOf pd__JI_C rfl) rfl (by show 2 * 0 + _ ≤ _; exact Nat.le_of_eq rfl) (hb hby d1_322) (fun _ _ => ⟨rfl, e341, (by exact lee rfl), (by exact lee rfl)⟩)
        dsimp only [Pt.U, Pt.locs, Pt.cells, Pt.slots] at X348 l348 y348 z348 st348 hQ348
        subst l348 y348 z348
        obtain ⟨rfl, Nq348, eq348⟩ := hQ348
        have N348 := Fr.app N341 Nq348
        refine GoW.st st348 ?_
        show GoW _ _ _ _ _ _ _ _ _ (T348.setTop (mkF m 325 #[.val (.long u), .second, .val (.int mo), .val (.int cx), .val (.int po), .unset] [(.int (fk u (1 : Int32))), (.int 1), (.ref b332), (.ref b332), (.ref b328), (.ref b328)]))
        obtain ⟨cl349, Ar349, qc349, Sz349, Nn349, Ha349, Gf349⟩ := id f342
        obtain ⟨T349, h349, X349, e349, W349, st349⟩ := stC X348 hx hZ eq348 Ar349 (j := (1 : Int32)) (inb_of Sz349 ⟨by decide, by decide⟩) (g := (mkF m 325 #[.val (.long u), .second, .val (.int mo), .val (.int cx), .val (.int po), .unset] [(.int (fk u (1 : Int32))), (.int 1), (.ref b332), (.ref b332), (.ref b328), (.ref b328)])) rfl rfl (hb hby d1_325)
        refine GoW.st st349 ?_
        have f351 := Safe.wr W349 f347 CH341.1 f343
        have f352 := f344.wr W349
        have f353 := f345.other W349 (Or.inl ne333)
        have f354 := f346.other W349 (Or.inl ne333)
        have f355 := Safe.wr W349 f347 CH341.1 f347
        have CH349 := CH341.trans (CHr.wr W349 f347 CH341.1)
        have hk349 : 0 ≤ Array.size h349 := Nat.le_trans hk341 (Keep.of_wr W349).1
        have O349 := O341.wr W349 g_b332
        have N349 := Fr.snoc X349 N348 g_b332
        have K349 : Keep h0 h349 [] := K341.wr W349 (Or.inr z_b332)
        have f350 : Arv Z h349 b332 k332 .char (6 : Int32) [(.int (nar .char (fk u (0 : Int32)))), (.int (nar .char (fk u (1 : Int32)))), (.int 0), (.int 0), (.int 0), (.int 0)] (.int 0) := Arv.set Ar349 qc349 Sz349 Nn349 Ha349 Gf349 (fits_nar_char _) W349 1 rfl (Nat.le_of_ble_eq_true rfl)
        refine GoW.st (fun _ => XS.dup X349.here hx rfl (hb hby d1_326) rfl rfl) ?_
        refine GoW.st (fun _ => XS.iconst X349.here hx rfl (hb hby d1_327)) ?_
        refine GoW.st (fun _ => XS.lloadN X349.here hx rfl (hb hby d1_328) rfl) ?_
        refine GoW.st (fun _ => XS.iconst X349.here hx rfl (hb hby d1_329)) ?_
        show GoW _ _ _ _ _ _ _ _ _ (T349.setTop (mkF m 330 #[.val (.long u), .second, .val (.int mo), .val (.int cx), .val (.int po), .unset] [(.int 2), (.long u), (.int 2), (.ref b332), (.ref b332), (.ref b328), (.ref b328)]))
        obtain ⟨_, _, ⟨T356, L356, k356, n356⟩, -, X356, ⟨Lc356, hQ356, l356, y356, z356⟩, st356⟩ := Jvm.LawKit.callS X349 hx (y := mn4) hown (mvT hZ (wdx hw 159 rfl)) (mvT hZ (wdx hw 160 rfl)) (mvT hZ (wdx hw 4 rfl)) (mvT hZ (wdx hw 161 rfl)) (by decide) (backOf (W := 5) (rm26 l Z a0 hw [] u (2 : Int32) h349 n0 O349 ) hZ (wdx hw 161 rfl) (wdx hw 4 rfl) (by decide) (by decide)) (g := (mkF m 330 #[.val (.long u), .second, .val (.int mo), .val (.int cx), .val (.int po), .unset] [(.int 2), (.long u), (.int 2), (.ref b332), (.ref b332), (.ref b328), (.ref b328)])) rfl (by rw [hml]; rfl) (argsL := [(.long u), (.int 2)]) (rest := [(.int 2), (.ref b332), (.ref b332), (.ref b328), (.ref b328)]) (lenOf pd__JI_C rfl) rfl (by show 2 * 0 + _ ≤ _; exact Nat.le_of_eq rfl) (hb hby d1_330) (fun _ _ => ⟨rfl, e349, (by exact lee rfl), (by exact lee rfl)⟩)
        dsimp only [Pt.U, Pt.locs, Pt.cells, Pt.slots] at X356 l356 y356 z356 st356 hQ356
        subst l356 y356 z356
        obtain ⟨rfl, Nq356, eq356⟩ := hQ356
        have N356 := Fr.app N349 Nq356
        refine GoW.st st356 ?_
        show GoW _ _ _ _ _ _ _ _ _ (T356.setTop (mkF m 333 #[.val (.long u), .second, .val (.int mo), .val (.int cx), .val (.int po), .unset] [(.int (fk u (2 : Int32))), (.int 2), (.ref b332), (.ref b332), (.ref b328), (.ref b328)]))
        obtain ⟨cl357, Ar357, qc357, Sz357, Nn357, Ha357, Gf357⟩ := id f350
        obtain ⟨T357, h357, X357, e357, W357, st357⟩ := stC X356 hx hZ eq356 Ar357 (j := (2 : Int32)) (inb_of Sz357 ⟨by decide, by decide⟩) (g := (mkF m 333 #[.val (.long u), .second, .val (.int mo), .val (.int cx), .val (.int po), .unset] [(.int (fk u (2 : Int32))), (.int 2), (.ref b332), (.ref b332), (.ref b328), (.ref b328)])) rfl rfl (hb hby d1_333)
        refine GoW.st st357 ?_
        have f359 := Safe.wr W357 f355 CH349.1 f351
        have f360 := f352.wr W357
        have f361 := f353.other W357 (Or.inl ne333)
        have f362 := f354.other W357 (Or.inl ne333)
        have f363 := Safe.wr W357 f355 CH349.1 f355
        have CH357 := CH349.trans (CHr.wr W357 f355 CH349.1)
        have hk357 : 0 ≤ Array.size h357 := Nat.le_trans hk349 (Keep.of_wr W357).1
        have O357 := O349.wr W357 g_b332
        have N357 := Fr.snoc X357 N356 g_b332
        have K357 : Keep h0 h357 [] := K349.wr W357 (Or.inr z_b332)
        have f358 : Arv Z h357 b332 k332 .char (6 : Int32) [(.int (nar .char (fk u (0 : Int32)))), (.int (nar .char (fk u (1 : Int32)))), (.int (nar .char (fk u (2 : Int32)))), (.int 0), (.int 0), (.int 0)] (.int 0) := Arv.set Ar357 qc357 Sz357 Nn357 Ha357 Gf357 (fits_nar_char _) W357 2 rfl (Nat.le_of_ble_eq_true rfl)
        refine GoW.st (fun _ => XS.dup X357.here hx rfl (hb hby d1_334) rfl rfl) ?_
        refine GoW.st (fun _ => XS.iconst X357.here hx rfl (hb hby d1_335)) ?_
        refine GoW.st (fun _ => XS.lloadN X357.here hx rfl (hb hby d1_336) rfl) ?_
        refine GoW.st (fun _ => XS.iconst X357.here hx rfl (hb hby d1_337)) ?_
        show GoW _ _ _ _ _ _ _ _ _ (T357.setTop (mkF m 338 #[.val (.long u), .second, .val (.int mo), .val (.int cx), .val (.int po), .unset] [(.int 3), (.long u), (.int 3), (.ref b332), (.ref b332), (.ref b328), (.ref b328)]))
        obtain ⟨_, _, ⟨T364, L364, k364, n364⟩, -, X364, ⟨Lc364, hQ364, l364, y364, z364⟩, st364⟩ := Jvm.LawKit.callS X357 hx (y := mn4) hown (mvT hZ (wdx hw 159 rfl)) (mvT hZ (wdx hw 160 rfl)) (mvT hZ (wdx hw 4 rfl)) (mvT hZ (wdx hw 161 rfl)) (by decide) (backOf (W := 5) (rm26 l Z a0 hw [] u (3 : Int32) h357 n0 O357 ) hZ (wdx hw 161 rfl) (wdx hw 4 rfl) (by decide) (by decide)) (g := (mkF m 338 #[.val (.long u), .second, .val (.int mo), .val (.int cx), .val (.int po), .unset] [(.int 3), (.long u), (.int 3), (.ref b332), (.ref b332), (.ref b328), (.ref b328)])) rfl (by rw [hml]; rfl) (argsL := [(.long u), (.int 3)]) (rest := [(.int 3), (.ref b332), (.ref b332), (.ref b328), (.ref b328)]) (lenOf pd__JI_C rfl) rfl (by show 2 * 0 + _ ≤ _; exact Nat.le_of_eq rfl) (hb hby d1_338) (fun _ _ => ⟨rfl, e357, (by exact lee rfl), (by exact lee rfl)⟩)
        dsimp only [Pt.U, Pt.locs, Pt.cells, Pt.slots] at X364 l364 y364 z364 st364 hQ364
        subst l364 y364 z364
        obtain ⟨rfl, Nq364, eq364⟩ := hQ364
        have N364 := Fr.app N357 Nq364
        refine GoW.st st364 ?_
        show GoW _ _ _ _ _ _ _ _ _ (T364.setTop (mkF m 341 #[.val (.long u), .second, .val (.int mo), .val (.int cx), .val (.int po), .unset] [(.int (fk u (3 : Int32))), (.int 3), (.ref b332), (.ref b332), (.ref b328), (.ref b328)]))
        obtain ⟨cl365, Ar365, qc365, Sz365, Nn365, Ha365, Gf365⟩ := id f358
        obtain ⟨T365, h365, X365, e365, W365, st365⟩ := stC X364 hx hZ eq364 Ar365 (j := (3 : Int32)) (inb_of Sz365 ⟨by decide, by decide⟩) (g := (mkF m 341 #[.val (.long u), .second, .val (.int mo), .val (.int cx), .val (.int po), .unset] [(.int (fk u (3 : Int32))), (.int 3), (.ref b332), (.ref b332), (.ref b328), (.ref b328)])) rfl rfl (hb hby d1_341)
        refine GoW.st st365 ?_
        have f367 := Safe.wr W365 f363 CH357.1 f359
        have f368 := f360.wr W365
        have f369 := f361.other W365 (Or.inl ne333)
        have f370 := f362.other W365 (Or.inl ne333)
        have f371 := Safe.wr W365 f363 CH357.1 f363
        have CH365 := CH357.trans (CHr.wr W365 f363 CH357.1)
        have hk365 : 0 ≤ Array.size h365 := Nat.le_trans hk357 (Keep.of_wr W365).1
        have O365 := O357.wr W365 g_b332
        have N365 := Fr.snoc X365 N364 g_b332
        have K365 : Keep h0 h365 [] := K357.wr W365 (Or.inr z_b332)
        have f366 : Arv Z h365 b332 k332 .char (6 : Int32) [(.int (nar .char (fk u (0 : Int32)))), (.int (nar .char (fk u (1 : Int32)))), (.int (nar .char (fk u (2 : Int32)))), (.int (nar .char (fk u (3 : Int32)))), (.int 0), (.int 0)] (.int 0) := Arv.set Ar365 qc365 Sz365 Nn365 Ha365 Gf365 (fits_nar_char _) W365 3 rfl (Nat.le_of_ble_eq_true rfl)
        refine GoW.st (fun _ => XS.dup X365.here hx rfl (hb hby d1_342) rfl rfl) ?_
        refine GoW.st (fun _ => XS.iconst X365.here hx rfl (hb hby d1_343)) ?_
        refine GoW.st (fun _ => XS.lloadN X365.here hx rfl (hb hby d1_344) rfl) ?_
        refine GoW.st (fun _ => XS.iconst X365.here hx rfl (hb hby d1_345)) ?_
        show GoW _ _ _ _ _ _ _ _ _ (T365.setTop (mkF m 346 #[.val (.long u), .second, .val (.int mo), .val (.int cx), .val (.int po), .unset] [(.int 4), (.long u), (.int 4), (.ref b332), (.ref b332), (.ref b328), (.ref b328)]))
        obtain ⟨_, _, ⟨T372, L372, k372, n372⟩, -, X372, ⟨Lc372, hQ372, l372, y372, z372⟩, st372⟩ := Jvm.LawKit.callS X365 hx (y := mn4) hown (mvT hZ (wdx hw 159 rfl)) (mvT hZ (wdx hw 160 rfl)) (mvT hZ (wdx hw 4 rfl)) (mvT hZ (wdx hw 161 rfl)) (by decide) (backOf (W := 5) (rm26 l Z a0 hw [] u (4 : Int32) h365 n0 O365 ) hZ (wdx hw 161 rfl) (wdx hw 4 rfl) (by decide) (by decide)) (g := (mkF m 346 #[.val (.long u), .second, .val (.int mo), .val (.int cx), .val (.int po), .unset] [(.int 4), (.long u), (.int 4), (.ref b332), (.ref b332), (.ref b328), (.ref b328)])) rfl (by rw [hml]; rfl) (argsL := [(.long u), (.int 4)]) (rest := [(.int 4), (.ref b332), (.ref b332), (.ref b328), (.ref b328)]) (lenOf pd__JI_C rfl) rfl (by show 2 * 0 + _ ≤ _; exact Nat.le_of_eq rfl) (hb hby d1_346) (fun _ _ => ⟨rfl, e365, (by exact lee rfl), (by exact lee rfl)⟩)
        dsimp only [Pt.U, Pt.locs, Pt.cells, Pt.slots] at X372 l372 y372 z372 st372 hQ372
        subst l372 y372 z372
        obtain ⟨rfl, Nq372, eq372⟩ := hQ372
        have N372 := Fr.app N365 Nq372
        refine GoW.st st372 ?_
        show GoW _ _ _ _ _ _ _ _ _ (T372.setTop (mkF m 349 #[.val (.long u), .second, .val (.int mo), .val (.int cx), .val (.int po), .unset] [(.int (fk u (4 : Int32))), (.int 4), (.ref b332), (.ref b332), (.ref b328), (.ref b328)]))
        obtain ⟨cl373, Ar373, qc373, Sz373, Nn373, Ha373, Gf373⟩ := id f366
        obtain ⟨T373, h373, X373, e373, W373, st373⟩ := stC X372 hx hZ eq372 Ar373 (j := (4 : Int32)) (inb_of Sz373 ⟨by decide, by decide⟩) (g := (mkF m 349 #[.val (.long u), .second, .val (.int mo), .val (.int cx), .val (.int po), .unset] [(.int (fk u (4 : Int32))), (.int 4), (.ref b332), (.ref b332), (.ref b328), (.ref b328)])) rfl rfl (hb hby d1_349)
        refine GoW.st st373 ?_
        have f375 := Safe.wr W373 f371 CH365.1 f367
        have f376 := f368.wr W373
        have f377 := f369.other W373 (Or.inl ne333)
        have f378 := f370.other W373 (Or.inl ne333)
        have f379 := Safe.wr W373 f371 CH365.1 f371
        have CH373 := CH365.trans (CHr.wr W373 f371 CH365.1)
        have hk373 : 0 ≤ Array.size h373 := Nat.le_trans hk365 (Keep.of_wr W373).1
        have O373 := O365.wr W373 g_b332
        have N373 := Fr.snoc X373 N372 g_b332
        have K373 : Keep h0 h373 [] := K365.wr W373 (Or.inr z_b332)
        have f374 : Arv Z h373 b332 k332 .char (6 : Int32) [(.int (nar .char (fk u (0 : Int32)))), (.int (nar .char (fk u (1 : Int32)))), (.int (nar .char (fk u (2 : Int32)))), (.int (nar .char (fk u (3 : Int32)))), (.int (nar .char (fk u (4 : Int32)))), (.int 0)] (.int 0) := Arv.set Ar373 qc373 Sz373 Nn373 Ha373 Gf373 (fits_nar_char _) W373 4 rfl (Nat.le_of_ble_eq_true rfl)
        refine GoW.st (fun _ => XS.dup X373.here hx rfl (hb hby d1_350) rfl rfl) ?_
        refine GoW.st (fun _ => XS.iconst X373.here hx rfl (hb hby d1_351)) ?_
        refine GoW.st (fun _ => XS.lloadN X373.here hx rfl (hb hby d1_352) rfl) ?_
        refine GoW.st (fun _ => XS.iconst X373.here hx rfl (hb hby d1_353)) ?_
        show GoW _ _ _ _ _ _ _ _ _ (T373.setTop (mkF m 354 #[.val (.long u), .second, .val (.int mo), .val (.int cx), .val (.int po), .unset] [(.int 5), (.long u), (.int 5), (.ref b332), (.ref b332), (.ref b328), (.ref b328)]))
        obtain ⟨_, _, ⟨T380, L380, k380, n380⟩, -, X380, ⟨Lc380, hQ380, l380, y380, z380⟩, st380⟩ := Jvm.LawKit.callS X373 hx (y := mn4) hown (mvT hZ (wdx hw 159 rfl)) (mvT hZ (wdx hw 160 rfl)) (mvT hZ (wdx hw 4 rfl)) (mvT hZ (wdx hw 161 rfl)) (by decide) (backOf (W := 5) (rm26 l Z a0 hw [] u (5 : Int32) h373 n0 O373 ) hZ (wdx hw 161 rfl) (wdx hw 4 rfl) (by decide) (by decide)) (g := (mkF m 354 #[.val (.long u), .second, .val (.int mo), .val (.int cx), .val (.int po), .unset] [(.int 5), (.long u), (.int 5), (.ref b332), (.ref b332), (.ref b328), (.ref b328)])) rfl (by rw [hml]; rfl) (argsL := [(.long u), (.int 5)]) (rest := [(.int 5), (.ref b332), (.ref b332), (.ref b328), (.ref b328)]) (lenOf pd__JI_C rfl) rfl (by show 2 * 0 + _ ≤ _; exact Nat.le_of_eq rfl) (hb hby d1_354) (fun _ _ => ⟨rfl, e373, (by exact lee rfl), (by exact lee rfl)⟩)
        dsimp only [Pt.U, Pt.locs, Pt.cells, Pt.slots] at X380 l380 y380 z380 st380 hQ380
        subst l380 y380 z380
        obtain ⟨rfl, Nq380, eq380⟩ := hQ380
        have N380 := Fr.app N373 Nq380
        refine GoW.st st380 ?_
        show GoW _ _ _ _ _ _ _ _ _ (T380.setTop (mkF m 357 #[.val (.long u), .second, .val (.int mo), .val (.int cx), .val (.int po), .unset] [(.int (fk u (5 : Int32))), (.int 5), (.ref b332), (.ref b332), (.ref b328), (.ref b328)]))
        obtain ⟨cl381, Ar381, qc381, Sz381, Nn381, Ha381, Gf381⟩ := id f374
        obtain ⟨T381, h381, X381, e381, W381, st381⟩ := stC X380 hx hZ eq380 Ar381 (j := (5 : Int32)) (inb_of Sz381 ⟨by decide, by decide⟩) (g := (mkF m 357 #[.val (.long u), .second, .val (.int mo), .val (.int cx), .val (.int po), .unset] [(.int (fk u (5 : Int32))), (.int 5), (.ref b332), (.ref b332), (.ref b328), (.ref b328)])) rfl rfl (hb hby d1_357)
        refine GoW.st st381 ?_
        have f383 := Safe.wr W381 f379 CH373.1 f375
        have f384 := f376.wr W381
        have f385 := f377.other W381 (Or.inl ne333)
        have f386 := f378.other W381 (Or.inl ne333)
        have f387 := Safe.wr W381 f379 CH373.1 f379
        have CH381 := CH373.trans (CHr.wr W381 f379 CH373.1)
        have hk381 : 0 ≤ Array.size h381 := Nat.le_trans hk373 (Keep.of_wr W381).1
        have O381 := O373.wr W381 g_b332
        have N381 := Fr.snoc X381 N380 g_b332
        have K381 : Keep h0 h381 [] := K373.wr W381 (Or.inr z_b332)
        have f382 : Arv Z h381 b332 k332 .char (6 : Int32) [(.int (nar .char (fk u (0 : Int32)))), (.int (nar .char (fk u (1 : Int32)))), (.int (nar .char (fk u (2 : Int32)))), (.int (nar .char (fk u (3 : Int32)))), (.int (nar .char (fk u (4 : Int32)))), (.int (nar .char (fk u (5 : Int32))))] (.int 0) := Arv.set Ar381 qc381 Sz381 Nn381 Ha381 Gf381 (fits_nar_char _) W381 5 rfl (Nat.le_of_ble_eq_true rfl)
        show GoW _ _ _ _ _ _ _ _ _ (T381.setTop (mkF m 358 #[.val (.long u), .second, .val (.int mo), .val (.int cx), .val (.int po), .unset] [(.ref b332), (.ref b328), (.ref b328)]))
        obtain ⟨_, _, ⟨T388, L388, k388, n388⟩, -, X388, ⟨Lc388, hQ388, l388, y388, z388⟩, st388⟩ := X381.specialBack hx (y := mn3) rfl hown (mvT hZ (wdx hw 13 rfl)) (mvT hZ (wdx hw 14 rfl)) (mvT hZ (wdx hw 15 rfl)) (by decide) (backOf (W := 1) (rm2_6 l Z a0 hw [] b328 b332 k332 cs (nar .char (fk u (0 : Int32))) (nar .char (fk u (1 : Int32))) (nar .char (fk u (2 : Int32))) (nar .char (fk u (3 : Int32))) (nar .char (fk u (4 : Int32))) (nar .char (fk u (5 : Int32))) h381 n0 O381 f384 f386 f385 f382 S_cs q_cs ((own_nk u _).symm ▸ own_lq _ (own_kr u _)) ((own_nk u _).symm ▸ own_lq _ (own_kr u _)) ((own_nk u _).symm ▸ own_lq _ (own_kr u _)) ((own_nk u _).symm ▸ own_lq _ (own_kr u _)) ((own_nk u _).symm ▸ own_lq _ (own_kr u _)) ((own_nk u _).symm ▸ own_lq _ (own_kr u _)) g_b328 ne333) hZ (wdx hw 15 rfl) (wdx hw 11 rfl) (by decide) (by decide)) (g := (mkF m 358 #[.val (.long u), .second, .val (.int mo), .val (.int cx), .val (.int po), .unset] [(.ref b332), (.ref b328), (.ref b328)])) rfl (by rw [hml]; rfl) (Steps.refl _) (a := b328) (argsL := [(.ref b332)]) (rest := [(.ref b328)]) (lenOf pd___C_V rfl) rfl (by show 2 * 0 + _ ≤ _; exact Nat.le_of_eq rfl) (hb hby d1_358) (fun _ _ => ⟨rfl, e381, (by exact lee rfl), (by exact lee rfl)⟩)
        dsimp only [Pt.U, Pt.locs, Pt.cells, Pt.slots] at X388 l388 y388 z388 st388 hQ388
        subst l388 y388 z388
        obtain ⟨tb_388, kt_388, rfl, Nq388, Kq388, f389, f390, f391, szt_388⟩ := hQ388
        have N388 := Fr.app N381 Nq388
        refine GoW.tr st388 ?_
        have f392 := Safe.keep Kq388 (allS f383 all0) CH381.1 f383
        have f393 := f384.keep Kq388
        have f394 := Safe.keep Kq388 (allS f383 all0) CH381.1 f387
        have f395 := f382.keep Kq388 (ninS (Ne.symm ne333) nin0)
        have CH388 := CH381.trans (CHr.keep Kq388 (allS f383 all0) CH381.1)
        have hk388 : 0 ≤ Array.size T388.heap := Nat.le_trans hk381 Kq388.1
        have O388 := O381.keep Kq388 (allS g_b328 all0)
        have K388 : Keep h0 T388.heap [] := K381.trans Kq388 (allS (Or.inr z_b328) all0)
        have g_tb_388 : n0 ≤ tb_388 := Nat.le_trans (own_le O381) szt_388
        have sf_tb_388 : Safe Z EL s.vm T388.heap tb_388 := Safe.keep Kq388 (allS f383 all0) CH381.1 (Safe.new szt_388)
        have z_tb_388 : h0.size ≤ tb_388 := Nat.le_trans K381.1 szt_388
        have ne396 : b328 ≠ tb_388 := Nat.ne_of_lt (Nat.lt_of_lt_of_le f384.lt szt_388)
        have ne397 : b332 ≠ tb_388 := Nat.ne_of_lt (Nat.lt_of_lt_of_le f382.lt szt_388)
        show GoW _ _ _ _ _ _ _ _ _ (T388.setTop (mkF m 361 #[.val (.long u), .second, .val (.int mo), .val (.int cx), .val (.int po), .unset] [(.ref b328)]))
        refine GoW.ret X388 hx hlk hS0 hk388 hZ hEL CH388 (t := (.object "java/lang/String")) Bd.returns rfl (Or.inr (Or.inr (Or.inr (Or.inr ⟨rfl, rfl, rfl⟩)))) (hb hby d1_361) (by decide) (by decide) rfl ?_
        exact ⟨b328, tb_388, kt_388, rfl, N388, K388, f393, f390, f389, (own_vs (lb := [(nar .byte ((nar .char (fk u (0 : Int32))).toInt8.toInt32)), (nar .byte ((nar .char (fk u (1 : Int32))).toInt8.toInt32)), (nar .byte ((nar .char (fk u (2 : Int32))).toInt8.toInt32)), (nar .byte ((nar .char (fk u (3 : Int32))).toInt8.toInt32)), (nar .byte ((nar .char (fk u (4 : Int32))).toInt8.toInt32)), (nar .byte ((nar .char (fk u (5 : Int32))).toInt8.toInt32))]) (by rw [own_fch, ← hd_cx, ← hd_po, ← hd_mo]; simp [fchx, fbl, n_cx, own_nk, own_n45, own_n69, own_n72, own_n76, own_n80, own_n101, own_n104, own_n108, own_n112, hc1, hc66, hc106, hc164, hc236, hc257, hc263]) f391), z_b328⟩
theorem d13_0 : decode jdk_41_method_11_code 0 = .ok (.iload_n 0, 1) := by decide +kernel
theorem d13_1 : decode jdk_41_method_11_code 1 = .ok (.ifCond .lt 8, 3) := by decide +kernel
theorem d13_4 : decode jdk_41_method_11_code 4 = .ok (.iload_n 0, 1) := by decide +kernel
theorem d13_5 : decode jdk_41_method_11_code 5 = .ok (.iload_n 1, 1) := by decide +kernel
theorem d13_6 : decode jdk_41_method_11_code 6 = .ok (.if_icmp .lt 10, 3) := by decide +kernel
theorem d13_16 : decode jdk_41_method_11_code 16 = .ok (.iload_n 0, 1) := by decide +kernel
theorem d13_17 : decode jdk_41_method_11_code 17 = .ok (.ireturn, 1) := by decide +kernel
theorem pn_jdk_internal_util_Preconditions : plainName "jdk/internal/util/Preconditions" = true := by first | (simp [plainName, overriddenIn]; done) | decide +kernel
theorem ef_rm13_n (m : MethodId) (ia : Int32) : entryFrame m #[(.int ia), (.int 6), .null] 3 = mkF m 0 #[.val (.int ia), .val (.int 6), .val .null] [] := by first | (simp [entryFrame, mkF, argsToLocals, Value.category]; done) | rfl
def Q13_n (Z : State) (ia : Int32) (h0 : Heap) (n0 : Nat) (v : Option Value) (h : Heap) (L : List Loc) : Prop := v = some (.int ia) ∧ Fr n0 L ∧ h = h0
set_option maxRecDepth 65536 in
set_option maxHeartbeats 40000000 in
theorem rm13_n (l : Launch) (Z : State) (a0 : Array Value) (hw : ∀ d ∈ tables_1, d.before a0 Z = true) (ws : List Jvm.Cond) (ia : Int32) (h0 : Heap) (n0 : Nat) (O0 : Old Z n0 h0) (q_ia : ia = 0 ∨ ia = 1 ∨ ia = 2 ∨ ia = 3 ∨ ia = 4 ∨ ia = 5) :
  MetFree l mn12 (head1 (Jvm.Cond.code mn12 jdk_41_method_11_code 3 (some .int) :: ws) ({ frames := 0, cells := 0, slots := 0, locals := 0 } : Room)) (fun ay U => ay = #[(.int ia), (.int 6), .null] ∧ Z.Warmed39 U.vm ∧ U.heap = h0) (fun _ _ _ _ _ => True) (fun _ U o U' => ∃ v L, o = .returned v ∧ Q13_n Z ia h0 n0 v U'.heap L ∧ FrameEnd U o U' L ({ frames := 0, cells := 0, slots := 0, locals := 0 } : Room).cells ({ frames := 0, cells := 0, slots := 0, locals := 0 } : Room).slots) := by
 refine MetFree.of_bodySF (plainFor_of_name pn_jdk_internal_util_Preconditions) hisR ?_
 intro p e s m args below meth c s₁ Bd hml0 hP hK
 obtain ⟨rfl, hZ, hh⟩ := hP
 have hx := Bd.exec
 have hby := Bd.bytes
 have hlk : meth.locks = false := BodyLoose.notSynchronized Bd
 have hml : c.maxLocals = 3 := hml0
 have hown : s.vm.findClass "jdk/internal/util/Preconditions" = some m.cls := findClass_of_methodNamed Bd.named
 have hnm := (name_of_methodNamed Bd.named Bd.method).1
 have X0 : Stand p l e ({ frames := 0, cells := 0, slots := 0, locals := 0 } : Room) s m #[(.int ia), (.int 6), .null] below meth c s₁ [] 0 0 := Stand.of_body Bd
 have e0 : s₁.heap = h0 := by rw [← hh, Bd.state]; rfl
 have N0 := Fr.nil n0
 suffices hgo : Go p e below s 0 0 (Q13_n Z ia h0 n0) (s₁.setTop (mkF m 0 #[.val (.int ia), .val (.int 6), .val .null] [])) by
  obtain ⟨t, o, h1, h2⟩ := hgo; exact ⟨t, o, castTop (ef_rm13_n m ia) h1, h2⟩
 show Go _ _ _ _ _ _ _ (s₁.setTop (mkF m 0 #[.val (.int ia), .val (.int 6), .val .null] []))
 refine Go.st (fun _ => XS.iloadN X0.here hx rfl (hb hby d13_0) rfl) ?_
 show Go _ _ _ _ _ _ _ (s₁.setTop (mkF m 1 #[.val (.int ia), .val (.int 6), .val .null] [(.int ia)]))
 refine Go.st (fun _ => XS.ifNo X0.here hx rfl (hb hby d13_1) rfl (XT.i0_lt_f (own_pin ia q_ia).1)) ?_
 refine Go.st (fun _ => XS.iloadN X0.here hx rfl (hb hby d13_4) rfl) ?_
 refine Go.st (fun _ => XS.iloadN X0.here hx rfl (hb hby d13_5) rfl) ?_
 show Go _ _ _ _ _ _ _ (s₁.setTop (mkF m 6 #[.val (.int ia), .val (.int 6), .val .null] [(.int 6), (.int ia)]))
 refine Go.st (fun _ => XS.icmpYes X0.here hx rfl (pc0 := 6) (pc' := 16) rfl (hb hby d13_6) rfl (XT.ii_lt_t (own_pin ia q_ia).2) (by decide) (by decide)) ?_
 refine Go.st (fun _ => XS.iloadN X0.here hx rfl (hb hby d13_16) rfl) ?_
 show Go _ _ _ _ _ _ _ (s₁.setTop (mkF m 17 #[.val (.int ia), .val (.int 6), .val .null] [(.int ia)]))
 refine Go.ret X0 hx hlk (t := .int) Bd.returns rfl (Or.inl ⟨rfl, Or.inl rfl, _, rfl⟩) (hb hby d13_17) (by decide) (by decide) e0 ?_
 exact ⟨rfl, N0, rfl⟩
theorem ef_rm13_z (m : MethodId) (ia : Int32) (zf : Addr) : entryFrame m #[(.int ia), (.int 6), (.ref zf)] 3 = mkF m 0 #[.val (.int ia), .val (.int 6), .val (.ref zf)] [] := by first | (simp [entryFrame, mkF, argsToLocals, Value.category]; done) | rfl
def Q13_z (Z : State) (ia : Int32) (zf : Addr) (h0 : Heap) (n0 : Nat) (v : Option Value) (h : Heap) (L : List Loc) : Prop := v = some (.int ia) ∧ Fr n0 L ∧ h = h0
set_option maxRecDepth 65536 in
set_option maxHeartbeats 40000000 in
theorem rm13_z (l : Launch) (Z : State) (a0 : Array Value) (hw : ∀ d ∈ tables_1, d.before a0 Z = true) (ws : List Jvm.Cond) (ia : Int32) (zf : Addr) (h0 : Heap) (n0 : Nat) (O0 : Old Z n0 h0) (q_ia : ia = 0 ∨ ia = 1 ∨ ia = 2 ∨ ia = 3 ∨ ia = 4 ∨ ia = 5) :
  MetFree l mn12 (head1 (Jvm.Cond.code mn12 jdk_41_method_11_code 3 (some .int) :: ws) ({ frames := 0, cells := 0, slots := 0, locals := 0 } : Room)) (fun ay U => ay = #[(.int ia), (.int 6), (.ref zf)] ∧ Z.Warmed39 U.vm ∧ U.heap = h0) (fun _ _ _ _ _ => True) (fun _ U o U' => ∃ v L, o = .returned v ∧ Q13_z Z ia zf h0 n0 v U'.heap L ∧ FrameEnd U o U' L ({ frames := 0, cells := 0, slots := 0, locals := 0 } : Room).cells ({ frames := 0, cells := 0, slots := 0, locals := 0 } : Room).slots) := by
 refine MetFree.of_bodySF (plainFor_of_name pn_jdk_internal_util_Preconditions) hisR ?_
 intro p e s m args below meth c s₁ Bd hml0 hP hK
 obtain ⟨rfl, hZ, hh⟩ := hP
 have hx := Bd.exec
 have hby := Bd.bytes
 have hlk : meth.locks = false := BodyLoose.notSynchronized Bd
 have hml : c.maxLocals = 3 := hml0
 have hown : s.vm.findClass "jdk/internal/util/Preconditions" = some m.cls := findClass_of_methodNamed Bd.named
 have hnm := (name_of_methodNamed Bd.named Bd.method).1
 have X0 : Stand p l e ({ frames := 0, cells := 0, slots := 0, locals := 0 } : Room) s m #[(.int ia), (.int 6), (.ref zf)] below meth c s₁ [] 0 0 := Stand.of_body Bd
 have e0 : s₁.heap = h0 := by rw [← hh, Bd.state]; rfl
 have N0 := Fr.nil n0
 suffices hgo : Go p e below s 0 0 (Q13_z Z ia zf h0 n0) (s₁.setTop (mkF m 0 #[.val (.int ia), .val (.int 6), .val (.ref zf)] [])) by
  obtain ⟨t, o, h1, h2⟩ := hgo; exact ⟨t, o, castTop (ef_rm13_z m ia zf) h1, h2⟩
 show Go _ _ _ _ _ _ _ (s₁.setTop (mkF m 0 #[.val (.int ia), .val (.int 6), .val (.ref zf)] []))
 refine Go.st (fun _ => XS.iloadN X0.here hx rfl (hb hby d13_0) rfl) ?_
 show Go _ _ _ _ _ _ _ (s₁.setTop (mkF m 1 #[.val (.int ia), .val (.int 6), .val (.ref zf)] [(.int ia)]))
 refine Go.st (fun _ => XS.ifNo X0.here hx rfl (hb hby d13_1) rfl (XT.i0_lt_f (own_pin ia q_ia).1)) ?_
 refine Go.st (fun _ => XS.iloadN X0.here hx rfl (hb hby d13_4) rfl) ?_
 refine Go.st (fun _ => XS.iloadN X0.here hx rfl (hb hby d13_5) rfl) ?_
 show Go _ _ _ _ _ _ _ (s₁.setTop (mkF m 6 #[.val (.int ia), .val (.int 6), .val (.ref zf)] [(.int 6), (.int ia)]))
 refine Go.st (fun _ => XS.icmpYes X0.here hx rfl (pc0 := 6) (pc' := 16) rfl (hb hby d13_6) rfl (XT.ii_lt_t (own_pin ia q_ia).2) (by decide) (by decide)) ?_
 refine Go.st (fun _ => XS.iloadN X0.here hx rfl (hb hby d13_16) rfl) ?_
 show Go _ _ _ _ _ _ _ (s₁.setTop (mkF m 17 #[.val (.int ia), .val (.int 6), .val (.ref zf)] [(.int ia)]))
 refine Go.ret X0 hx hlk (t := .int) Bd.returns rfl (Or.inl ⟨rfl, Or.inl rfl, _, rfl⟩) (hb hby d13_17) (by decide) (by decide) e0 ?_
 exact ⟨rfl, N0, rfl⟩
theorem d12_0 : decode jdk_42_method_155_code 0 = .ok (.iload_n 0, 1) := by decide +kernel
theorem d12_1 : decode jdk_42_method_155_code 1 = .ok (.iload_n 1, 1) := by decide +kernel
theorem d12_2 : decode jdk_42_method_155_code 2 = .ok (.getstatic 1053, 3) := by decide +kernel
theorem pd__IILjava_util_function_BiFunction__I : parseMethodDescriptor "(IILjava/util/function/BiFunction;)I" = some ⟨[.int, .int, (.object "java/util/function/BiFunction")], some .int⟩ := by decide +kernel
theorem d12_5 : decode jdk_42_method_155_code 5 = .ok (.invokestatic 1059, 3) := by decide +kernel
theorem d12_8 : decode jdk_42_method_155_code 8 = .ok (.pop, 1) := by decide +kernel
theorem d12_9 : decode jdk_42_method_155_code 9 = .ok (.return_, 1) := by decide +kernel
theorem ef_rm12 (m : MethodId) (ia : Int32) : entryFrame m #[(.int ia), (.int 6)] 2 = mkF m 0 #[.val (.int ia), .val (.int 6)] [] := by first | (simp [entryFrame, mkF, argsToLocals, Value.category]; done) | rfl
def Q12 (Z : State) (ia : Int32) (vf : Value) (h0 : Heap) (n0 : Nat) (v : Option Value) (h : Heap) (L : List Loc) : Prop := v = none ∧ Fr n0 L ∧ h = h0
set_option maxRecDepth 65536 in
set_option maxHeartbeats 40000000 in
theorem rm12 (l : Launch) (Z : State) (a0 : Array Value) (hw : ∀ d ∈ tables_1, d.before a0 Z = true) (ws : List Jvm.Cond) (ia : Int32) (vf : Value) (h0 : Heap) (n0 : Nat) (O0 : Old Z n0 h0) (S_sf : Sta Z Z.heap "jdk/internal/util/Preconditions" "SIOOBE_FORMATTER" "Ljava/util/function/BiFunction;" vf) (q_sf : vf = .null ∨ ∃ z, vf = .ref z) (q_ia : ia = 0 ∨ ia = 1 ∨ ia = 2 ∨ ia = 3 ∨ ia = 4 ∨ ia = 5) :
  MetFree l (⟨"java/lang/String", "checkIndex", "(II)V"⟩ : MethodName) (head1 (Jvm.Cond.code (⟨"java/lang/String", "checkIndex", "(II)V"⟩ : MethodName) jdk_42_method_155_code 2 none :: ws) ({ frames := 1, cells := 0, slots := 0, locals := 14 } : Room)) (fun ay U => ay = #[(.int ia), (.int 6)] ∧ Z.Warmed39 U.vm ∧ U.heap = h0) (fun _ _ _ _ _ => True) (fun _ U o U' => ∃ v L, o = .returned v ∧ Q12 Z ia vf h0 n0 v U'.heap L ∧ FrameEnd U o U' L ({ frames := 1, cells := 0, slots := 0, locals := 14 } : Room).cells ({ frames := 1, cells := 0, slots := 0, locals := 14 } : Room).slots) := by
 refine MetFree.of_bodySF (plainFor_of_name pn_java_lang_String) hisR ?_
 intro p e s m args below meth c s₁ Bd hml0 hP hK
 obtain ⟨rfl, hZ, hh⟩ := hP
 have hx := Bd.exec
 have hby := Bd.bytes
 have hlk : meth.locks = false := BodyLoose.notSynchronized Bd
 have hml : c.maxLocals = 2 := hml0
 have hown : s.vm.findClass "java/lang/String" = some m.cls := findClass_of_methodNamed Bd.named
 have hnm := (name_of_methodNamed Bd.named Bd.method).1
 have X0 : Stand p l e ({ frames := 1, cells := 0, slots := 0, locals := 14 } : Room) s m #[(.int ia), (.int 6)] below meth c s₁ [] 0 0 := Stand.of_body Bd
 have e0 : s₁.heap = h0 := by rw [← hh, Bd.state]; rfl
 have N0 := Fr.nil n0
 suffices hgo : Go p e below s 0 0 (Q12 Z ia vf h0 n0) (s₁.setTop (mkF m 0 #[.val (.int ia), .val (.int 6)] [])) by
  obtain ⟨t, o, h1, h2⟩ := hgo; exact ⟨t, o, castTop (ef_rm12 m ia) h1, h2⟩
 show Go _ _ _ _ _ _ _ (s₁.setTop (mkF m 0 #[.val (.int ia), .val (.int 6)] []))
 refine Go.st (fun _ => XS.iloadN X0.here hx rfl (hb hby d12_0) rfl) ?_
 refine Go.st (fun _ => XS.iloadN X0.here hx rfl (hb hby d12_1) rfl) ?_
 show Go _ _ _ _ _ _ _ (s₁.setTop (mkF m 2 #[.val (.int ia), .val (.int 6)] [(.int 6), (.int ia)]))
 rcases q_sf with rfl | ⟨zf, rfl⟩
 ·show Go _ _ _ _ _ _ _ (s₁.setTop (mkF m 2 #[.val (.int ia), .val (.int 6)] [(.int 6), (.int ia)]))
  obtain ⟨T1, X1, e1, st1⟩ := getS2 X0 hx hZ hown (host := "") (Or.inl (wdx hw 62 rfl)) Via.refl e0 (S_sf.ext O0.2) (g := (mkF m 2 #[.val (.int ia), .val (.int 6)] [(.int 6), (.int ia)])) rfl (hb hby d12_2)
  refine Go.st st1 ?_
  show Go _ _ _ _ _ _ _ (T1.setTop (mkF m 5 #[.val (.int ia), .val (.int 6)] [.null, (.int 6), (.int ia)]))
  obtain ⟨_, _, ⟨T2, L2, k2, n2⟩, -, X2, ⟨Lc2, hQ2, l2, y2, z2⟩, st2⟩ := Jvm.LawKit.callS X1 hx (y := mn12) hown (mvT hZ (wdx hw 64 rfl)) (mvT hZ (wdx hw 65 rfl)) (mvT hZ (wdx hw 63 rfl)) (mvT hZ (wdx hw 66 rfl)) (by decide) (backOf (W := 0) (rm13_n l Z a0 hw [] ia h0 n0 O0 q_ia) hZ (wdx hw 66 rfl) (wdx hw 63 rfl) (by decide) (by decide)) (g := (mkF m 5 #[.val (.int ia), .val (.int 6)] [.null, (.int 6), (.int ia)])) rfl (by rw [hml]; rfl) (argsL := [(.int ia), (.int 6), .null]) (rest := []) (lenOf pd__IILjava_util_function_BiFunction__I rfl) rfl (by show 2 * 0 + _ ≤ _; exact Nat.le_of_eq rfl) (hb hby d12_5) (fun _ _ => ⟨rfl, e1, (by exact lee rfl), (by exact lee rfl)⟩)
  dsimp only [Pt.U, Pt.locs, Pt.cells, Pt.slots] at X2 l2 y2 z2 st2 hQ2
  subst l2 y2 z2
  obtain ⟨rfl, Nq2, eq2⟩ := hQ2
  have N2 := Fr.app N0 Nq2
  refine Go.st st2 ?_
  show Go _ _ _ _ _ _ _ (T2.setTop (mkF m 8 #[.val (.int ia), .val (.int 6)] [(.int ia)]))
  refine Go.st (fun _ => XS.pop X2.here hx rfl (hb hby d12_8) rfl rfl) ?_
  show Go _ _ _ _ _ _ _ (T2.setTop (mkF m 9 #[.val (.int ia), .val (.int 6)] []))
  refine Go.retV X2 hx hlk Bd.returns (hb hby d12_9) (by decide) (by decide) eq2 ?_
  exact ⟨rfl, N2, rfl⟩
 ·show Go _ _ _ _ _ _ _ (s₁.setTop (mkF m 2 #[.val (.int ia), .val (.int 6)] [(.int 6), (.int ia)]))
  obtain ⟨T3, X3, e3, st3⟩ := getS2 X0 hx hZ hown (host := "") (Or.inl (wdx hw 62 rfl)) Via.refl e0 (S_sf.ext O0.2) (g := (mkF m 2 #[.val (.int ia), .val (.int 6)] [(.int 6), (.int ia)])) rfl (hb hby d12_2)
  refine Go.st st3 ?_
  show Go _ _ _ _ _ _ _ (T3.setTop (mkF m 5 #[.val (.int ia), .val (.int 6)] [(.ref zf), (.int 6), (.int ia)]))
  obtain ⟨_, _, ⟨T4, L4, k4, n4⟩, -, X4, ⟨Lc4, hQ4, l4, y4, z4⟩, st4⟩ := Jvm.LawKit.callS X3 hx (y := mn12) hown (mvT hZ (wdx hw 64 rfl)) (mvT hZ (wdx hw 65 rfl)) (mvT hZ (wdx hw 63 rfl)) (mvT hZ (wdx hw 66 rfl)) (by decide) (backOf (W := 0) (rm13_z l Z a0 hw [] ia zf h0 n0 O0 q_ia) hZ (wdx hw 66 rfl) (wdx hw 63 rfl) (by decide) (by decide)) (g := (mkF m 5 #[.val (.int ia), .val (.int 6)] [(.ref zf), (.int 6), (.int ia)])) rfl (by rw [hml]; rfl) (argsL := [(.int ia), (.int 6), (.ref zf)]) (rest := []) (lenOf pd__IILjava_util_function_BiFunction__I rfl) rfl (by show 2 * 0 + _ ≤ _; exact Nat.le_of_eq rfl) (hb hby d12_5) (fun _ _ => ⟨rfl, e3, (by exact lee rfl), (by exact lee rfl)⟩)
  dsimp only [Pt.U, Pt.locs, Pt.cells, Pt.slots] at X4 l4 y4 z4 st4 hQ4
  subst l4 y4 z4
  obtain ⟨rfl, Nq4, eq4⟩ := hQ4
  have N4 := Fr.app N0 Nq4
  refine Go.st st4 ?_
  show Go _ _ _ _ _ _ _ (T4.setTop (mkF m 8 #[.val (.int ia), .val (.int 6)] [(.int ia)]))
  refine Go.st (fun _ => XS.pop X4.here hx rfl (hb hby d12_8) rfl rfl) ?_
  show Go _ _ _ _ _ _ _ (T4.setTop (mkF m 9 #[.val (.int ia), .val (.int 6)] []))
  refine Go.retV X4 hx hlk Bd.returns (hb hby d12_9) (by decide) (by decide) eq4 ?_
  exact ⟨rfl, N4, rfl⟩
theorem d11_0 : decode jdk_43_method_2_code 0 = .ok (.iload_n 1, 1) := by decide +kernel
theorem d11_1 : decode jdk_43_method_2_code 1 = .ok (.aload_n 0, 1) := by decide +kernel
theorem d11_2 : decode jdk_43_method_2_code 2 = .ok (.arraylength, 1) := by decide +kernel
theorem pd__II_V : parseMethodDescriptor "(II)V" = some ⟨[.int, .int], none⟩ := by decide +kernel
theorem d11_3 : decode jdk_43_method_2_code 3 = .ok (.invokestatic 9, 3) := by decide +kernel
theorem d11_6 : decode jdk_43_method_2_code 6 = .ok (.aload_n 0, 1) := by decide +kernel
theorem d11_7 : decode jdk_43_method_2_code 7 = .ok (.iload_n 1, 1) := by decide +kernel
theorem d11_8 : decode jdk_43_method_2_code 8 = .ok (.baload, 1) := by decide +kernel
theorem d11_9 : decode jdk_43_method_2_code 9 = .ok (.sipush 255, 3) := by decide +kernel
theorem d11_12 : decode jdk_43_method_2_code 12 = .ok (.iand, 1) := by decide +kernel
theorem d11_13 : decode jdk_43_method_2_code 13 = .ok (.i2c, 1) := by decide +kernel
theorem d11_14 : decode jdk_43_method_2_code 14 = .ok (.ireturn, 1) := by decide +kernel
theorem ef_rm11 (m : MethodId) (tb : Addr) (ia : Int32) : entryFrame m #[(.ref tb), (.int ia)] 2 = mkF m 0 #[.val (.ref tb), .val (.int ia)] [] := by first | (simp [entryFrame, mkF, argsToLocals, Value.category]; done) | rfl
def Q11 (Z : State) (tb : Addr) (ia : Int32) (kt : ClassId) (vf : Value) (h0 : Heap) (n0 : Nat) (v : Option Value) (h : Heap) (L : List Loc) : Prop := v = some (.int (fat ia)) ∧ Fr n0 L ∧ h = h0
set_option maxRecDepth 65536 in
set_option maxHeartbeats 40000000 in
theorem rm11 (l : Launch) (Z : State) (a0 : Array Value) (hw : ∀ d ∈ tables_1, d.before a0 Z = true) (ws : List Jvm.Cond) (tb : Addr) (ia : Int32) (kt : ClassId) (vf : Value) (h0 : Heap) (n0 : Nat) (O0 : Old Z n0 h0) (Vb : Arv Z h0 tb kt .byte (6 : Int32) [(.int 45), (.int 45), (.int 104), (.int 101), (.int 108), (.int 112)] (.int 0)) (S_sf : Sta Z Z.heap "jdk/internal/util/Preconditions" "SIOOBE_FORMATTER" "Ljava/util/function/BiFunction;" vf) (q_sf : vf = .null ∨ ∃ z, vf = .ref z) (q_ia : ia = 0 ∨ ia = 1 ∨ ia = 2 ∨ ia = 3 ∨ ia = 4 ∨ ia = 5) :
  MetFree l (⟨"java/lang/StringLatin1", "charAt", "([BI)C"⟩ : MethodName) (head1 (Jvm.Cond.code (⟨"java/lang/StringLatin1", "charAt", "([BI)C"⟩ : MethodName) jdk_43_method_2_code 2 (some .char) :: ws) ({ frames := 2, cells := 0, slots := 0, locals := 27 } : Room)) (fun ay U => ay = #[(.ref tb), (.int ia)] ∧ Z.Warmed39 U.vm ∧ U.heap = h0) (fun _ _ _ _ _ => True) (fun _ U o U' => ∃ v L, o = .returned v ∧ Q11 Z tb ia kt vf h0 n0 v U'.heap L ∧ FrameEnd U o U' L ({ frames := 2, cells := 0, slots := 0, locals := 27 } : Room).cells ({ frames := 2, cells := 0, slots := 0, locals := 27 } : Room).slots) := by
 refine MetFree.of_bodySF (plainFor_of_name pn_java_lang_StringLatin1) hisR ?_
 intro p e s m args below meth c s₁ Bd hml0 hP hK
 obtain ⟨rfl, hZ, hh⟩ := hP
 have hx := Bd.exec
 have hby := Bd.bytes
 have hlk : meth.locks = false := BodyLoose.notSynchronized Bd
 have hml : c.maxLocals = 2 := hml0
 have hown : s.vm.findClass "java/lang/StringLatin1" = some m.cls := findClass_of_methodNamed Bd.named
 have hnm := (name_of_methodNamed Bd.named Bd.method).1
 have X0 : Stand p l e ({ frames := 2, cells := 0, slots := 0, locals := 27 } : Room) s m #[(.ref tb), (.int ia)] below meth c s₁ [] 0 0 := Stand.of_body Bd
 have e0 : s₁.heap = h0 := by rw [← hh, Bd.state]; rfl
 have N0 := Fr.nil n0
 suffices hgo : Go p e below s 0 0 (Q11 Z tb ia kt vf h0 n0) (s₁.setTop (mkF m 0 #[.val (.ref tb), .val (.int ia)] [])) by
  obtain ⟨t, o, h1, h2⟩ := hgo; exact ⟨t, o, castTop (ef_rm11 m tb ia) h1, h2⟩
 show Go _ _ _ _ _ _ _ (s₁.setTop (mkF m 0 #[.val (.ref tb), .val (.int ia)] []))
 refine Go.st (fun _ => XS.iloadN X0.here hx rfl (hb hby d11_0) rfl) ?_
 refine Go.st (fun _ => XS.aloadN X0.here hx rfl (hb hby d11_1) rfl rfl) ?_
 show Go _ _ _ _ _ _ _ (s₁.setTop (mkF m 2 #[.val (.ref tb), .val (.int ia)] [(.ref tb), (.int ia)]))
 obtain ⟨cl1, Ar1, qc1, Sz1, Nn1, Ha1, Gf1⟩ := id Vb
 refine Go.st (fun _ => X0.arraylength hx (by rw [e0]; exact Ar1.1) (State.isArrayOf_alike hZ.alike Ar1.2.1) (g := (mkF m 2 #[.val (.ref tb), .val (.int ia)] [(.ref tb), (.int ia)])) rfl rfl (hb hby d11_2) _) ?_
 rw [len_of Sz1 Nn1]
 show Go _ _ _ _ _ _ _ (s₁.setTop (mkF m 3 #[.val (.ref tb), .val (.int ia)] [(.int 6), (.int ia)]))
 obtain ⟨_, _, ⟨T2, L2, k2, n2⟩, -, X2, ⟨Lc2, hQ2, l2, y2, z2⟩, st2⟩ := Jvm.LawKit.callS X0 hx (y := (⟨"java/lang/String", "checkIndex", "(II)V"⟩ : MethodName)) hown (mvT hZ (wdx hw 59 rfl)) (mvT hZ (wdx hw 60 rfl)) (mvT hZ (wdx hw 11 rfl)) (mvT hZ (wdx hw 61 rfl)) (by decide) (backOf (W := 0) (rm12 l Z a0 hw [] ia vf h0 n0 O0 S_sf q_sf q_ia) hZ (wdx hw 61 rfl) (wdx hw 11 rfl) (by decide) (by decide)) (g := (mkF m 3 #[.val (.ref tb), .val (.int ia)] [(.int 6), (.int ia)])) rfl (by rw [hml]; rfl) (argsL := [(.int ia), (.int 6)]) (rest := []) (lenOf pd__II_V rfl) rfl (by show 2 * 0 + _ ≤ _; exact Nat.le_of_eq rfl) (hb hby d11_3) (fun _ _ => ⟨rfl, e0, (by exact lee rfl), (by exact lee rfl)⟩)
 dsimp only [Pt.U, Pt.locs, Pt.cells, Pt.slots] at X2 l2 y2 z2 st2 hQ2
 subst l2 y2 z2
 obtain ⟨rfl, Nq2, eq2⟩ := hQ2
 have N2 := Fr.app N0 Nq2
 refine Go.st st2 ?_
 show Go _ _ _ _ _ _ _ (T2.setTop (mkF m 6 #[.val (.ref tb), .val (.int ia)] []))
 rcases q_ia with rfl | rfl | rfl | rfl | rfl | rfl
 ·show Go _ _ _ _ _ _ _ (T2.setTop (mkF m 6 #[.val (.ref tb), .val (.int 0)] []))
  refine Go.st (fun _ => XS.aloadN X2.here hx rfl (hb hby d11_6) rfl rfl) ?_
  refine Go.st (fun _ => XS.iloadN X2.here hx rfl (hb hby d11_7) rfl) ?_
  show Go _ _ _ _ _ _ _ (T2.setTop (mkF m 8 #[.val (.ref tb), .val (.int 0)] [(.int 0), (.ref tb)]))
  obtain ⟨cl3, Ar3, qc3, Sz3, Nn3, Ha3, Gf3⟩ := id Vb
  refine Go.st (fun _ => X2.baloadBytes hx (j := (0 : Int32)) (v := (.int 45)) (by rw [eq2]; exact Ar3.1) (State.isArrayOf_alike hZ.alike Ar3.2.1) Ar3.2.2 (inb_of Sz3 ⟨by decide, by decide⟩) (Ha3.at (inb_of Sz3 ⟨by decide, by decide⟩) rfl) (g := (mkF m 8 #[.val (.ref tb), .val (.int 0)] [(.int 0), (.ref tb)])) rfl rfl (hb hby d11_8) _) ?_
  show Go _ _ _ _ _ _ _ (T2.setTop (mkF m 9 #[.val (.ref tb), .val (.int 0)] [(.int 45)]))
  refine Go.st (fun _ => XS.sipush X2.here hx rfl (hb hby d11_9)) ?_
  refine Go.st (fun _ => XS.iand X2.here hx rfl (hb hby d11_12) rfl) ?_
  refine Go.st (fun _ => XS.i2c X2.here hx rfl (hb hby d11_13) rfl) ?_
  show Go _ _ _ _ _ _ _ (T2.setTop (mkF m 14 #[.val (.ref tb), .val (.int 0)] [(.int (((45 : Int32) &&& (255 : Int32)).toUInt32.toUInt16.toUInt32.toInt32))]))
  refine Go.retB X2 hx hlk (t := .char) Bd.returns (by simp) (hb hby d11_14) (by decide) (by decide) eq2 ?_
  exact ⟨rfl, N2, rfl⟩
 ·show Go _ _ _ _ _ _ _ (T2.setTop (mkF m 6 #[.val (.ref tb), .val (.int 1)] []))
  refine Go.st (fun _ => XS.aloadN X2.here hx rfl (hb hby d11_6) rfl rfl) ?_
  refine Go.st (fun _ => XS.iloadN X2.here hx rfl (hb hby d11_7) rfl) ?_
  show Go _ _ _ _ _ _ _ (T2.setTop (mkF m 8 #[.val (.ref tb), .val (.int 1)] [(.int 1), (.ref tb)]))
  obtain ⟨cl4, Ar4, qc4, Sz4, Nn4, Ha4, Gf4⟩ := id Vb
  refine Go.st (fun _ => X2.baloadBytes hx (j := (1 : Int32)) (v := (.int 45)) (by rw [eq2]; exact Ar4.1) (State.isArrayOf_alike hZ.alike Ar4.2.1) Ar4.2.2 (inb_of Sz4 ⟨by decide, by decide⟩) (Ha4.at (inb_of Sz4 ⟨by decide, by decide⟩) rfl) (g := (mkF m 8 #[.val (.ref tb), .val (.int 1)] [(.int 1), (.ref tb)])) rfl rfl (hb hby d11_8) _) ?_
  show Go _ _ _ _ _ _ _ (T2.setTop (mkF m 9 #[.val (.ref tb), .val (.int 1)] [(.int 45)]))
  refine Go.st (fun _ => XS.sipush X2.here hx rfl (hb hby d11_9)) ?_
  refine Go.st (fun _ => XS.iand X2.here hx rfl (hb hby d11_12) rfl) ?_
  refine Go.st (fun _ => XS.i2c X2.here hx rfl (hb hby d11_13) rfl) ?_
  show Go _ _ _ _ _ _ _ (T2.setTop (mkF m 14 #[.val (.ref tb), .val (.int 1)] [(.int (((45 : Int32) &&& (255 : Int32)).toUInt32.toUInt16.toUInt32.toInt32))]))
  refine Go.retB X2 hx hlk (t := .char) Bd.returns (by simp) (hb hby d11_14) (by decide) (by decide) eq2 ?_
  exact ⟨rfl, N2, rfl⟩
 ·show Go _ _ _ _ _ _ _ (T2.setTop (mkF m 6 #[.val (.ref tb), .val (.int 2)] []))
  refine Go.st (fun _ => XS.aloadN X2.here hx rfl (hb hby d11_6) rfl rfl) ?_
  refine Go.st (fun _ => XS.iloadN X2.here hx rfl (hb hby d11_7) rfl) ?_
  show Go _ _ _ _ _ _ _ (T2.setTop (mkF m 8 #[.val (.ref tb), .val (.int 2)] [(.int 2), (.ref tb)]))
  obtain ⟨cl5, Ar5, qc5, Sz5, Nn5, Ha5, Gf5⟩ := id Vb
  refine Go.st (fun _ => X2.baloadBytes hx (j := (2 : Int32)) (v := (.int 104)) (by rw [eq2]; exact Ar5.1) (State.isArrayOf_alike hZ.alike Ar5.2.1) Ar5.2.2 (inb_of Sz5 ⟨by decide, by decide⟩) (Ha5.at (inb_of Sz5 ⟨by decide, by decide⟩) rfl) (g := (mkF m 8 #[.val (.ref tb), .val (.int 2)] [(.int 2), (.ref tb)])) rfl rfl (hb hby d11_8) _) ?_
  show Go _ _ _ _ _ _ _ (T2.setTop (mkF m 9 #[.val (.ref tb), .val (.int 2)] [(.int 104)]))
  refine Go.st (fun _ => XS.sipush X2.here hx rfl (hb hby d11_9)) ?_
  refine Go.st (fun _ => XS.iand X2.here hx rfl (hb hby d11_12) rfl) ?_
  refine Go.st (fun _ => XS.i2c X2.here hx rfl (hb hby d11_13) rfl) ?_
  show Go _ _ _ _ _ _ _ (T2.setTop (mkF m 14 #[.val (.ref tb), .val (.int 2)] [(.int (((104 : Int32) &&& (255 : Int32)).toUInt32.toUInt16.toUInt32.toInt32))]))
  refine Go.retB X2 hx hlk (t := .char) Bd.returns (by simp) (hb hby d11_14) (by decide) (by decide) eq2 ?_
  exact ⟨rfl, N2, rfl⟩
 ·show Go _ _ _ _ _ _ _ (T2.setTop (mkF m 6 #[.val (.ref tb), .val (.int 3)] []))
  refine Go.st (fun _ => XS.aloadN X2.here hx rfl (hb hby d11_6) rfl rfl) ?_
  refine Go.st (fun _ => XS.iloadN X2.here hx rfl (hb hby d11_7) rfl) ?_
  show Go _ _ _ _ _ _ _ (T2.setTop (mkF m 8 #[.val (.ref tb), .val (.int 3)] [(.int 3), (.ref tb)]))
  obtain ⟨cl6, Ar6, qc6, Sz6, Nn6, Ha6, Gf6⟩ := id Vb
  refine Go.st (fun _ => X2.baloadBytes hx (j := (3 : Int32)) (v := (.int 101)) (by rw [eq2]; exact Ar6.1) (State.isArrayOf_alike hZ.alike Ar6.2.1) Ar6.2.2 (inb_of Sz6 ⟨by decide, by decide⟩) (Ha6.at (inb_of Sz6 ⟨by decide, by decide⟩) rfl) (g := (mkF m 8 #[.val (.ref tb), .val (.int 3)] [(.int 3), (.ref tb)])) rfl rfl (hb hby d11_8) _) ?_
  show Go _ _ _ _ _ _ _ (T2.setTop (mkF m 9 #[.val (.ref tb), .val (.int 3)] [(.int 101)]))
  refine Go.st (fun _ => XS.sipush X2.here hx rfl (hb hby d11_9)) ?_
  refine Go.st (fun _ => XS.iand X2.here hx rfl (hb hby d11_12) rfl) ?_
  refine Go.st (fun _ => XS.i2c X2.here hx rfl (hb hby d11_13) rfl) ?_
  show Go _ _ _ _ _ _ _ (T2.setTop (mkF m 14 #[.val (.ref tb), .val (.int 3)] [(.int (((101 : Int32) &&& (255 : Int32)).toUInt32.toUInt16.toUInt32.toInt32))]))
  refine Go.retB X2 hx hlk (t := .char) Bd.returns (by simp) (hb hby d11_14) (by decide) (by decide) eq2 ?_
  exact ⟨rfl, N2, rfl⟩
 ·show Go _ _ _ _ _ _ _ (T2.setTop (mkF m 6 #[.val (.ref tb), .val (.int 4)] []))
  refine Go.st (fun _ => XS.aloadN X2.here hx rfl (hb hby d11_6) rfl rfl) ?_
  refine Go.st (fun _ => XS.iloadN X2.here hx rfl (hb hby d11_7) rfl) ?_
  show Go _ _ _ _ _ _ _ (T2.setTop (mkF m 8 #[.val (.ref tb), .val (.int 4)] [(.int 4), (.ref tb)]))
  obtain ⟨cl7, Ar7, qc7, Sz7, Nn7, Ha7, Gf7⟩ := id Vb
  refine Go.st (fun _ => X2.baloadBytes hx (j := (4 : Int32)) (v := (.int 108)) (by rw [eq2]; exact Ar7.1) (State.isArrayOf_alike hZ.alike Ar7.2.1) Ar7.2.2 (inb_of Sz7 ⟨by decide, by decide⟩) (Ha7.at (inb_of Sz7 ⟨by decide, by decide⟩) rfl) (g := (mkF m 8 #[.val (.ref tb), .val (.int 4)] [(.int 4), (.ref tb)])) rfl rfl (hb hby d11_8) _) ?_
  show Go _ _ _ _ _ _ _ (T2.setTop (mkF m 9 #[.val (.ref tb), .val (.int 4)] [(.int 108)]))
  refine Go.st (fun _ => XS.sipush X2.here hx rfl (hb hby d11_9)) ?_
  refine Go.st (fun _ => XS.iand X2.here hx rfl (hb hby d11_12) rfl) ?_
  refine Go.st (fun _ => XS.i2c X2.here hx rfl (hb hby d11_13) rfl) ?_
  show Go _ _ _ _ _ _ _ (T2.setTop (mkF m 14 #[.val (.ref tb), .val (.int 4)] [(.int (((108 : Int32) &&& (255 : Int32)).toUInt32.toUInt16.toUInt32.toInt32))]))
  refine Go.retB X2 hx hlk (t := .char) Bd.returns (by simp) (hb hby d11_14) (by decide) (by decide) eq2 ?_
  exact ⟨rfl, N2, rfl⟩
 ·show Go _ _ _ _ _ _ _ (T2.setTop (mkF m 6 #[.val (.ref tb), .val (.int 5)] []))
  refine Go.st (fun _ => XS.aloadN X2.here hx rfl (hb hby d11_6) rfl rfl) ?_
  refine Go.st (fun _ => XS.iloadN X2.here hx rfl (hb hby d11_7) rfl) ?_
  show Go _ _ _ _ _ _ _ (T2.setTop (mkF m 8 #[.val (.ref tb), .val (.int 5)] [(.int 5), (.ref tb)]))
  obtain ⟨cl8, Ar8, qc8, Sz8, Nn8, Ha8, Gf8⟩ := id Vb
  refine Go.st (fun _ => X2.baloadBytes hx (j := (5 : Int32)) (v := (.int 112)) (by rw [eq2]; exact Ar8.1) (State.isArrayOf_alike hZ.alike Ar8.2.1) Ar8.2.2 (inb_of Sz8 ⟨by decide, by decide⟩) (Ha8.at (inb_of Sz8 ⟨by decide, by decide⟩) rfl) (g := (mkF m 8 #[.val (.ref tb), .val (.int 5)] [(.int 5), (.ref tb)])) rfl rfl (hb hby d11_8) _) ?_
  show Go _ _ _ _ _ _ _ (T2.setTop (mkF m 9 #[.val (.ref tb), .val (.int 5)] [(.int 112)]))
  refine Go.st (fun _ => XS.sipush X2.here hx rfl (hb hby d11_9)) ?_
  refine Go.st (fun _ => XS.iand X2.here hx rfl (hb hby d11_12) rfl) ?_
  refine Go.st (fun _ => XS.i2c X2.here hx rfl (hb hby d11_13) rfl) ?_
  show Go _ _ _ _ _ _ _ (T2.setTop (mkF m 14 #[.val (.ref tb), .val (.int 5)] [(.int (((112 : Int32) &&& (255 : Int32)).toUInt32.toUInt16.toUInt32.toInt32))]))
  refine Go.retB X2 hx hlk (t := .char) Bd.returns (by simp) (hb hby d11_14) (by decide) (by decide) eq2 ?_
  exact ⟨rfl, N2, rfl⟩
theorem d10_0 : decode jdk_42_method_154_code 0 = .ok (.getstatic 38, 3) := by decide +kernel
theorem d10_3 : decode jdk_42_method_154_code 3 = .ok (.ifCond .eq 14, 3) := by decide +kernel
theorem d10_6 : decode jdk_42_method_154_code 6 = .ok (.aload_n 0, 1) := by decide +kernel
theorem d10_7 : decode jdk_42_method_154_code 7 = .ok (.getfield 15, 3) := by decide +kernel
theorem d10_10 : decode jdk_42_method_154_code 10 = .ok (.ifCond .ne 7, 3) := by decide +kernel
theorem d10_13 : decode jdk_42_method_154_code 13 = .ok (.iconst 1, 1) := by decide +kernel
theorem d10_14 : decode jdk_42_method_154_code 14 = .ok (.goto 4, 3) := by decide +kernel
theorem d10_18 : decode jdk_42_method_154_code 18 = .ok (.ireturn, 1) := by decide +kernel
theorem ef_rm10 (m : MethodId) (ob : Addr) : entryFrame m #[(.ref ob)] 1 = mkF m 0 #[.val (.ref ob)] [] := by first | (simp [entryFrame, mkF, argsToLocals, Value.category]; done) | rfl
def Q10 (Z : State) (ob : Addr) (cs : Int32) (h0 : Heap) (n0 : Nat) (v : Option Value) (h : Heap) (L : List Loc) : Prop := v = some (.int 1) ∧ Fr n0 L ∧ h = h0
set_option maxRecDepth 65536 in
set_option maxHeartbeats 40000000 in
theorem rm10 (l : Launch) (Z : State) (a0 : Array Value) (hw : ∀ d ∈ tables_1, d.before a0 Z = true) (ws : List Jvm.Cond) (ob : Addr) (cs : Int32) (h0 : Heap) (n0 : Nat) (O0 : Old Z n0 h0) (Fc : Fld Z h0 ob "java/lang/String" "coder" "B" (.int 0)) (S_cs : Sta Z Z.heap "java/lang/String" "COMPACT_STRINGS" "Z" (.int cs)) (q_cs : ¬ cs = (0 : Int32)) :
  MetFree l mn15 (head1 (Jvm.Cond.code mn15 jdk_42_method_154_code 1 (some .boolean) :: ws) ({ frames := 0, cells := 0, slots := 0, locals := 0 } : Room)) (fun ay U => ay = #[(.ref ob)] ∧ Z.Warmed39 U.vm ∧ U.heap = h0) (fun _ _ _ _ _ => True) (fun _ U o U' => ∃ v L, o = .returned v ∧ Q10 Z ob cs h0 n0 v U'.heap L ∧ FrameEnd U o U' L ({ frames := 0, cells := 0, slots := 0, locals := 0 } : Room).cells ({ frames := 0, cells := 0, slots := 0, locals := 0 } : Room).slots) := by
 refine MetFree.of_bodySF (plainFor_of_name pn_java_lang_String) hisR ?_
 intro p e s m args below meth c s₁ Bd hml0 hP hK
 obtain ⟨rfl, hZ, hh⟩ := hP
 have hx := Bd.exec
 have hby := Bd.bytes
 have hlk : meth.locks = false := BodyLoose.notSynchronized Bd
 have hml : c.maxLocals = 1 := hml0
 have hown : s.vm.findClass "java/lang/String" = some m.cls := findClass_of_methodNamed Bd.named
 have hnm := (name_of_methodNamed Bd.named Bd.method).1
 have X0 : Stand p l e ({ frames := 0, cells := 0, slots := 0, locals := 0 } : Room) s m #[(.ref ob)] below meth c s₁ [] 0 0 := Stand.of_body Bd
 have e0 : s₁.heap = h0 := by rw [← hh, Bd.state]; rfl
 have N0 := Fr.nil n0
 suffices hgo : Go p e below s 0 0 (Q10 Z ob cs h0 n0) (s₁.setTop (mkF m 0 #[.val (.ref ob)] [])) by
  obtain ⟨t, o, h1, h2⟩ := hgo; exact ⟨t, o, castTop (ef_rm10 m ob) h1, h2⟩
 show Go _ _ _ _ _ _ _ (s₁.setTop (mkF m 0 #[.val (.ref ob)] []))
 obtain ⟨T1, X1, e1, st1⟩ := getS2 X0 hx hZ hown (host := "") (Or.inl (wdx hw 23 rfl)) Via.refl e0 (S_cs.ext O0.2) (g := (mkF m 0 #[.val (.ref ob)] [])) rfl (hb hby d10_0)
 refine Go.st st1 ?_
 show Go _ _ _ _ _ _ _ (T1.setTop (mkF m 3 #[.val (.ref ob)] [(.int cs)]))
 refine Go.st (fun _ => XS.ifNo X1.here hx rfl (hb hby d10_3) rfl (XT.i0_eq_f q_cs)) ?_
 refine Go.st (fun _ => XS.aloadN X1.here hx rfl (hb hby d10_6) rfl rfl) ?_
 obtain ⟨T2, X2, e2, st2⟩ := getF X1 hx hZ hown (host := "") (Or.inl (wdx hw 35 rfl)) Via.refl e1 Fc (g := (mkF m 7 #[.val (.ref ob)] [(.ref ob)])) rfl rfl (hb hby d10_7)
 refine Go.st st2 ?_
 show Go _ _ _ _ _ _ _ (T2.setTop (mkF m 10 #[.val (.ref ob)] [(.int 0)]))
 refine Go.st (fun _ => XS.ifNo X2.here hx rfl (hb hby d10_10) rfl (XT.i0_ne_f (by decide))) ?_
 refine Go.st (fun _ => XS.iconst X2.here hx rfl (hb hby d10_13)) ?_
 show Go _ _ _ _ _ _ _ (T2.setTop (mkF m 14 #[.val (.ref ob)] [(.int 1)]))
 refine Go.st (fun _ => XS.goto X2.here hx rfl (pc0 := 14) (pc' := 18) rfl (hb hby d10_14) (by decide) (by decide)) ?_
 show Go _ _ _ _ _ _ _ (T2.setTop (mkF m 18 #[.val (.ref ob)] [(.int 1)]))
 refine Go.retB X2 hx hlk (t := .boolean) Bd.returns (by simp) (hb hby d10_18) (by decide) (by decide) e2 ?_
 exact ⟨rfl, N0, rfl⟩
theorem d9_0 : decode jdk_42_method_56_code 0 = .ok (.aload_n 0, 1) := by decide +kernel
theorem d9_1 : decode jdk_42_method_56_code 1 = .ok (.invokevirtual 492, 3) := by decide +kernel
theorem d9_4 : decode jdk_42_method_56_code 4 = .ok (.ifCond .eq 12, 3) := by decide +kernel
theorem d9_7 : decode jdk_42_method_56_code 7 = .ok (.aload_n 0, 1) := by decide +kernel
theorem d9_8 : decode jdk_42_method_56_code 8 = .ok (.getfield 9, 3) := by decide +kernel
theorem d9_11 : decode jdk_42_method_56_code 11 = .ok (.iload_n 1, 1) := by decide +kernel
theorem pd___BI_C : parseMethodDescriptor "([BI)C" = some ⟨[(.array .byte), .int], some .char⟩ := by decide +kernel
theorem d9_12 : decode jdk_42_method_56_code 12 = .ok (.invokestatic 495, 3) := by decide +kernel
theorem d9_15 : decode jdk_42_method_56_code 15 = .ok (.ireturn, 1) := by decide +kernel
theorem ef_rm9 (m : MethodId) (ob : Addr) (ia : Int32) : entryFrame m #[(.ref ob), (.int ia)] 2 = mkF m 0 #[.val (.ref ob), .val (.int ia)] [] := by first | (simp [entryFrame, mkF, argsToLocals, Value.category]; done) | rfl
def Q9 (Z : State) (ob : Addr) (ia : Int32) (tb : Addr) (kt : ClassId) (cs : Int32) (vf : Value) (h0 : Heap) (n0 : Nat) (v : Option Value) (h : Heap) (L : List Loc) : Prop := v = some (.int (fat ia)) ∧ Fr n0 L ∧ h = h0
set_option maxRecDepth 65536 in
set_option maxHeartbeats 40000000 in
theorem rm9 (l : Launch) (Z : State) (a0 : Array Value) (hw : ∀ d ∈ tables_1, d.before a0 Z = true) (ws : List Jvm.Cond) (ob : Addr) (ia : Int32) (tb : Addr) (kt : ClassId) (cs : Int32) (vf : Value) (h0 : Heap) (n0 : Nat) (O0 : Old Z n0 h0) (E_o : Exa Z h0 ob "java/lang/String") (Fv : Fld Z h0 ob "java/lang/String" "value" "[B" (.ref tb)) (Fc : Fld Z h0 ob "java/lang/String" "coder" "B" (.int 0)) (Vb : Arv Z h0 tb kt .byte (6 : Int32) [(.int 45), (.int 45), (.int 104), (.int 101), (.int 108), (.int 112)] (.int 0)) (S_cs : Sta Z Z.heap "java/lang/String" "COMPACT_STRINGS" "Z" (.int cs)) (q_cs : ¬ cs = (0 : Int32)) (S_sf : Sta Z Z.heap "jdk/internal/util/Preconditions" "SIOOBE_FORMATTER" "Ljava/util/function/BiFunction;" vf) (q_sf : vf = .null ∨ ∃ z, vf = .ref z) (q_ia : ia = 0 ∨ ia = 1 ∨ ia = 2 ∨ ia = 3 ∨ ia = 4 ∨ ia = 5) :
  MetFree l mn16 (head1 (Jvm.Cond.code mn16 jdk_42_method_56_code 2 (some .char) :: ws) ({ frames := 3, cells := 0, slots := 0, locals := 40 } : Room)) (fun ay U => ay = #[(.ref ob), (.int ia)] ∧ Z.Warmed39 U.vm ∧ U.heap = h0) (fun _ _ _ _ _ => True) (fun _ U o U' => ∃ v L, o = .returned v ∧ Q9 Z ob ia tb kt cs vf h0 n0 v U'.heap L ∧ FrameEnd U o U' L ({ frames := 3, cells := 0, slots := 0, locals := 40 } : Room).cells ({ frames := 3, cells := 0, slots := 0, locals := 40 } : Room).slots) := by
 refine MetFree.of_bodySF (plainFor_of_name pn_java_lang_String) hisR ?_
 intro p e s m args below meth c s₁ Bd hml0 hP hK
 obtain ⟨rfl, hZ, hh⟩ := hP
 have hx := Bd.exec
 have hby := Bd.bytes
 have hlk : meth.locks = false := BodyLoose.notSynchronized Bd
 have hml : c.maxLocals = 2 := hml0
 have hown : s.vm.findClass "java/lang/String" = some m.cls := findClass_of_methodNamed Bd.named
 have hnm := (name_of_methodNamed Bd.named Bd.method).1
 have X0 : Stand p l e ({ frames := 3, cells := 0, slots := 0, locals := 40 } : Room) s m #[(.ref ob), (.int ia)] below meth c s₁ [] 0 0 := Stand.of_body Bd
 have e0 : s₁.heap = h0 := by rw [← hh, Bd.state]; rfl
 have N0 := Fr.nil n0
 suffices hgo : Go p e below s 0 0 (Q9 Z ob ia tb kt cs vf h0 n0) (s₁.setTop (mkF m 0 #[.val (.ref ob), .val (.int ia)] [])) by
  obtain ⟨t, o, h1, h2⟩ := hgo; exact ⟨t, o, castTop (ef_rm9 m ob ia) h1, h2⟩
 show Go _ _ _ _ _ _ _ (s₁.setTop (mkF m 0 #[.val (.ref ob), .val (.int ia)] []))
 refine Go.st (fun _ => XS.aloadN X0.here hx rfl (hb hby d9_0) rfl rfl) ?_
 show Go _ _ _ _ _ _ _ (s₁.setTop (mkF m 1 #[.val (.ref ob), .val (.int ia)] [(.ref ob)]))
 obtain ⟨cq1, kq1, q1a, q1b, q1c⟩ := isOf hZ e0 E_o
 obtain ⟨_, _, ⟨T1, L1, k1, n1⟩, -, X1, ⟨Lc1, hQ1, l1, y1, z1⟩, st1⟩ := X0.virtualBack hx (y := mn15) (z := mn15) hown (mvT hZ (wdx hw 50 rfl)) (mvT hZ (wdx hw 51 rfl)) (notFace_of_selects (args := #[]) (mvT hZ (wdx hw 53 rfl))) (mvT hZ (wdx hw 53 rfl)) (mvT hZ (wdx hw 52 rfl)) (by decide) (backOf (W := 0) (rm10 l Z a0 hw [] ob cs h0 n0 O0 Fc S_cs q_cs) hZ (wdx hw 54 rfl) (wdx hw 11 rfl) (by decide) (by decide)) q1a q1c (g := (mkF m 1 #[.val (.ref ob), .val (.int ia)] [(.ref ob)])) rfl (by rw [hml]; rfl) (Steps.refl _) (argsL := []) (rest := []) (lenOf pd___Z rfl) rfl (by show 2 * 0 + _ ≤ _; exact Nat.le_of_eq rfl) (hb hby d9_1) (fun _ _ => ⟨rfl, e0, (by exact lee rfl), (by exact lee rfl)⟩)
 dsimp only [Pt.U, Pt.locs, Pt.cells, Pt.slots] at X1 l1 y1 z1 st1 hQ1
 subst l1 y1 z1
 obtain ⟨rfl, Nq1, eq1⟩ := hQ1
 have N1 := Fr.app N0 Nq1
 refine Go.tr st1 ?_
 show Go _ _ _ _ _ _ _ (T1.setTop (mkF m 4 #[.val (.ref ob), .val (.int ia)] [(.int 1)]))
 refine Go.st (fun _ => XS.ifNo X1.here hx rfl (hb hby d9_4) rfl (XT.i0_eq_f (by decide))) ?_
 refine Go.st (fun _ => XS.aloadN X1.here hx rfl (hb hby d9_7) rfl rfl) ?_
 obtain ⟨T2, X2, e2, st2⟩ := getF X1 hx hZ hown (host := "") (Or.inl (wdx hw 37 rfl)) Via.refl eq1 Fv (g := (mkF m 8 #[.val (.ref ob), .val (.int ia)] [(.ref ob)])) rfl rfl (hb hby d9_8)
 refine Go.st st2 ?_
 refine Go.st (fun _ => XS.iloadN X2.here hx rfl (hb hby d9_11) rfl) ?_
 show Go _ _ _ _ _ _ _ (T2.setTop (mkF m 12 #[.val (.ref ob), .val (.int ia)] [(.int ia), (.ref tb)]))
 obtain ⟨_, _, ⟨T3, L3, k3, n3⟩, -, X3, ⟨Lc3, hQ3, l3, y3, z3⟩, st3⟩ := Jvm.LawKit.callS X2 hx (y := (⟨"java/lang/StringLatin1", "charAt", "([BI)C"⟩ : MethodName)) hown (mvT hZ (wdx hw 55 rfl)) (mvT hZ (wdx hw 56 rfl)) (mvT hZ (wdx hw 57 rfl)) (mvT hZ (wdx hw 58 rfl)) (by decide) (backOf (W := 0) (rm11 l Z a0 hw [] tb ia kt vf h0 n0 O0 Vb S_sf q_sf q_ia) hZ (wdx hw 58 rfl) (wdx hw 57 rfl) (by decide) (by decide)) (g := (mkF m 12 #[.val (.ref ob), .val (.int ia)] [(.int ia), (.ref tb)])) rfl (by rw [hml]; rfl) (argsL := [(.ref tb), (.int ia)]) (rest := []) (lenOf pd___BI_C rfl) rfl (by show 2 * 0 + _ ≤ _; exact Nat.le_of_eq rfl) (hb hby d9_12) (fun _ _ => ⟨rfl, e2, (by exact lee rfl), (by exact lee rfl)⟩)
 dsimp only [Pt.U, Pt.locs, Pt.cells, Pt.slots] at X3 l3 y3 z3 st3 hQ3
 subst l3 y3 z3
 obtain ⟨rfl, Nq3, eq3⟩ := hQ3
 have N3 := Fr.app N1 Nq3
 refine Go.st st3 ?_
 show Go _ _ _ _ _ _ _ (T3.setTop (mkF m 15 #[.val (.ref ob), .val (.int ia)] [(.int (fat ia))]))
 refine Go.retB X3 hx hlk (t := .char) Bd.returns (by simp) (hb hby d9_15) (by decide) (by decide) eq3 ?_
 exact ⟨(by rcases q_ia with rfl | rfl | rfl | rfl | rfl | rfl <;> rfl), N3, rfl⟩
theorem d8_0 : decode method_4_code 0 = .ok (.lload_n 0, 1) := by decide +kernel
theorem d8_1 : decode method_4_code 1 = .ok (.ldc2_w 9, 3) := by decide +kernel
theorem d8_4 : decode method_4_code 4 = .ok (.land, 1) := by decide +kernel
theorem d8_5 : decode method_4_code 5 = .ok (.l2i, 1) := by decide +kernel
theorem d8_6 : decode method_4_code 6 = .ok (.istore_n 2, 1) := by decide +kernel
theorem d8_7 : decode method_4_code 7 = .ok (.lload_n 0, 1) := by decide +kernel
theorem d8_8 : decode method_4_code 8 = .ok (.iconst 3, 1) := by decide +kernel
theorem d8_9 : decode method_4_code 9 = .ok (.lushr, 1) := by decide +kernel
theorem d8_10 : decode method_4_code 10 = .ok (.ldc2_w 7, 3) := by decide +kernel
theorem d8_13 : decode method_4_code 13 = .ok (.land, 1) := by decide +kernel
theorem d8_14 : decode method_4_code 14 = .ok (.l2i, 1) := by decide +kernel
theorem d8_15 : decode method_4_code 15 = .ok (.i2c, 1) := by decide +kernel
theorem d8_16 : decode method_4_code 16 = .ok (.istore_n 3, 1) := by decide +kernel
theorem d8_17 : decode method_4_code 17 = .ok (.lload_n 0, 1) := by decide +kernel
theorem d8_18 : decode method_4_code 18 = .ok (.bipush 11, 2) := by decide +kernel
theorem d8_20 : decode method_4_code 20 = .ok (.lushr, 1) := by decide +kernel
theorem d8_21 : decode method_4_code 21 = .ok (.ldc2_w 11, 3) := by decide +kernel
theorem d8_24 : decode method_4_code 24 = .ok (.land, 1) := by decide +kernel
theorem d8_25 : decode method_4_code 25 = .ok (.ldc2_w 13, 3) := by decide +kernel
theorem d8_28 : decode method_4_code 28 = .ok (.lrem, 1) := by decide +kernel
theorem d8_29 : decode method_4_code 29 = .ok (.l2i, 1) := by decide +kernel
theorem d8_30 : decode method_4_code 30 = .ok (.istore 4, 2) := by decide +kernel
theorem d8_32 : decode method_4_code 32 = .ok (.iload_n 2, 1) := by decide +kernel
theorem d8_33 : decode method_4_code 33 = .ok (.ifCond .ne 5, 3) := by decide +kernel
theorem d8_36 : decode method_4_code 36 = .ok (.iconst 1, 1) := by decide +kernel
theorem d8_37 : decode method_4_code 37 = .ok (.ireturn, 1) := by decide +kernel
theorem d8_38 : decode method_4_code 38 = .ok (.iload_n 2, 1) := by decide +kernel
theorem d8_39 : decode method_4_code 39 = .ok (.iconst 1, 1) := by decide +kernel
theorem d8_40 : decode method_4_code 40 = .ok (.if_icmp .ne 20, 3) := by decide +kernel
theorem d8_43 : decode method_4_code 43 = .ok (.iload_n 3, 1) := by decide +kernel
theorem d8_44 : decode method_4_code 44 = .ok (.ldc 30, 2) := by decide +kernel
theorem d8_46 : decode method_4_code 46 = .ok (.iload 4, 2) := by decide +kernel
theorem pd__I_C : parseMethodDescriptor "(I)C" = some ⟨[.int], some .char⟩ := by decide +kernel
theorem d8_48 : decode method_4_code 48 = .ok (.invokevirtual 32, 3) := by decide +kernel
theorem d8_51 : decode method_4_code 51 = .ok (.if_icmp .ne 7, 3) := by decide +kernel
theorem d8_54 : decode method_4_code 54 = .ok (.iconst 1, 1) := by decide +kernel
theorem d8_55 : decode method_4_code 55 = .ok (.goto 4, 3) := by decide +kernel
theorem d8_59 : decode method_4_code 59 = .ok (.ireturn, 1) := by decide +kernel
theorem d8_58 : decode method_4_code 58 = .ok (.iconst 0, 1) := by decide +kernel
theorem d8_60 : decode method_4_code 60 = .ok (.iload_n 2, 1) := by decide +kernel
theorem d8_61 : decode method_4_code 61 = .ok (.bipush 7, 2) := by decide +kernel
theorem d8_63 : decode method_4_code 63 = .ok (.if_icmp .ne 69, 3) := by decide +kernel
theorem d8_66 : decode method_4_code 66 = .ok (.lload_n 0, 1) := by decide +kernel
theorem d8_67 : decode method_4_code 67 = .ok (.iconst 0, 1) := by decide +kernel
theorem d8_68 : decode method_4_code 68 = .ok (.invokestatic 24, 3) := by decide +kernel
theorem d8_71 : decode method_4_code 71 = .ok (.bipush 45, 2) := by decide +kernel
theorem d8_73 : decode method_4_code 73 = .ok (.if_icmp .ne 57, 3) := by decide +kernel
theorem d8_76 : decode method_4_code 76 = .ok (.lload_n 0, 1) := by decide +kernel
theorem d8_77 : decode method_4_code 77 = .ok (.iconst 1, 1) := by decide +kernel
theorem d8_78 : decode method_4_code 78 = .ok (.invokestatic 24, 3) := by decide +kernel
theorem d8_81 : decode method_4_code 81 = .ok (.bipush 45, 2) := by decide +kernel
theorem d8_83 : decode method_4_code 83 = .ok (.if_icmp .ne 47, 3) := by decide +kernel
theorem d8_86 : decode method_4_code 86 = .ok (.lload_n 0, 1) := by decide +kernel
theorem d8_87 : decode method_4_code 87 = .ok (.iconst 2, 1) := by decide +kernel
theorem d8_88 : decode method_4_code 88 = .ok (.invokestatic 24, 3) := by decide +kernel
theorem d8_91 : decode method_4_code 91 = .ok (.bipush 104, 2) := by decide +kernel
theorem d8_93 : decode method_4_code 93 = .ok (.if_icmp .ne 37, 3) := by decide +kernel
theorem d8_96 : decode method_4_code 96 = .ok (.lload_n 0, 1) := by decide +kernel
theorem d8_97 : decode method_4_code 97 = .ok (.iconst 3, 1) := by decide +kernel
theorem d8_98 : decode method_4_code 98 = .ok (.invokestatic 24, 3) := by decide +kernel
theorem d8_101 : decode method_4_code 101 = .ok (.bipush 101, 2) := by decide +kernel
theorem d8_103 : decode method_4_code 103 = .ok (.if_icmp .ne 27, 3) := by decide +kernel
theorem d8_106 : decode method_4_code 106 = .ok (.lload_n 0, 1) := by decide +kernel
theorem d8_107 : decode method_4_code 107 = .ok (.iconst 4, 1) := by decide +kernel
theorem d8_108 : decode method_4_code 108 = .ok (.invokestatic 24, 3) := by decide +kernel
theorem d8_111 : decode method_4_code 111 = .ok (.bipush 108, 2) := by decide +kernel
theorem d8_113 : decode method_4_code 113 = .ok (.if_icmp .ne 17, 3) := by decide +kernel
theorem d8_116 : decode method_4_code 116 = .ok (.lload_n 0, 1) := by decide +kernel
theorem d8_117 : decode method_4_code 117 = .ok (.iconst 5, 1) := by decide +kernel
theorem d8_118 : decode method_4_code 118 = .ok (.invokestatic 24, 3) := by decide +kernel
theorem d8_121 : decode method_4_code 121 = .ok (.bipush 112, 2) := by decide +kernel
theorem d8_123 : decode method_4_code 123 = .ok (.if_icmp .ne 7, 3) := by decide +kernel
theorem d8_126 : decode method_4_code 126 = .ok (.iconst 1, 1) := by decide +kernel
theorem d8_127 : decode method_4_code 127 = .ok (.goto 4, 3) := by decide +kernel
theorem d8_131 : decode method_4_code 131 = .ok (.ireturn, 1) := by decide +kernel
theorem d8_130 : decode method_4_code 130 = .ok (.iconst 0, 1) := by decide +kernel
theorem d8_132 : decode method_4_code 132 = .ok (.iconst 0, 1) := by decide +kernel
theorem d8_133 : decode method_4_code 133 = .ok (.ireturn, 1) := by decide +kernel
theorem ef_rm8 (m : MethodId) (u : Int64) : entryFrame m #[(.long u)] 5 = mkF m 0 #[.val (.long u), .second, .unset, .unset, .unset] [] := by first | (simp [entryFrame, mkF, argsToLocals, Value.category]; done) | rfl
def Q8 (Z : State) (u : Int64) (cs : Int32) (vf : Value) (h0 : Heap) (n0 : Nat) (v : Option Value) (h : Heap) (L : List Loc) : Prop := v = some (.int (fh (fch u))) ∧ Fr n0 L ∧ Keep h0 h []
set_option maxRecDepth 65536 in
set_option maxHeartbeats 40000000 in
theorem rm8 (l : Launch) (Z : State) (a0 : Array Value) (hw : ∀ d ∈ tables_1, d.before a0 Z = true) (ws : List Jvm.Cond) (u : Int64) (cs : Int32) (vf : Value) (h0 : Heap) (n0 : Nat) (O0 : Old Z n0 h0) (S_cs : Sta Z Z.heap "java/lang/String" "COMPACT_STRINGS" "Z" (.int cs)) (q_cs : ¬ cs = (0 : Int32)) (S_sf : Sta Z Z.heap "jdk/internal/util/Preconditions" "SIOOBE_FORMATTER" "Ljava/util/function/BiFunction;" vf) (q_sf : vf = .null ∨ ∃ z, vf = .ref z) :
  MetFree l mn14 (head1 (Jvm.Cond.code mn14 method_4_code 5 (some .boolean) :: ws) ({ frames := 4, cells := 2, slots := 28, locals := 54 } : Room)) (fun ay U => ay = #[(.long u)] ∧ Z.Warmed39 U.vm ∧ U.heap = h0 ∧ CHv Z EL U.vm h0 ∧ ∀ y ∈ ([] : List Addr), Safe Z EL U.vm h0 y) (fun _ _ _ _ _ => True) (fun _ U o U' => ∃ v L, o = .returned v ∧ Q8 Z u cs vf h0 n0 v U'.heap L ∧ CHr Z EL U.vm U.heap U'.vm U'.heap ∧ ReturnedEndW U o U' L ({ frames := 4, cells := 2, slots := 28, locals := 54 } : Room).cells ({ frames := 4, cells := 2, slots := 28, locals := 54 } : Room).slots) := by
 refine MetFree.of_bodySF (plainFor_of_name pn_com_example_reportwire_reportwire_ArgumentsAsksForHelpPinLaw) hisR ?_
 intro p e s m args below meth c s₁ Bd hml0 hP hK
 obtain ⟨rfl, hZ, hh, hCH, hSf⟩ := hP
 have hx := Bd.exec
 have hby := Bd.bytes
 have hlk : meth.locks = false := BodyLoose.notSynchronized Bd
 have hml : c.maxLocals = 5 := hml0
 have hown : s.vm.findClass "com/example/reportwire/reportwire/ArgumentsAsksForHelpPinLaw" = some m.cls := findClass_of_methodNamed Bd.named
 have hnm := (name_of_methodNamed Bd.named Bd.method).1
 have X0 : Stand p l e ({ frames := 4, cells := 2, slots := 28, locals := 54 } : Room) (s.setVm s.vm) m #[(.long u)] below meth c s₁ [] 0 0 := Stand.of_body Bd
 have e0 : s₁.heap = h0 := by rw [← hh, Bd.state]; rfl
 have N0 := Fr.nil n0
 have hS0 : s.Since s.vm 0 := (State.WarmedH.refl s).since 0
 have hk0 : 0 ≤ h0.size := Nat.zero_le _
 have CH0 : CHr Z EL s.vm s.heap s.vm h0 := by rw [hh]; exact CHr.refl hCH
 have hEL : EW Z a0 EL := own_EW hw
 have hwS := own_wS hw
 suffices hgo : GoW p e below s 2 28 Z EL (Q8 Z u cs vf h0 n0) (s₁.setTop (mkF m 0 #[.val (.long u), .second, .unset, .unset, .unset] [])) by
  obtain ⟨t, o, h1, h2⟩ := hgo; exact ⟨t, o, castTop (ef_rm8 m u) h1, h2⟩
 show GoW _ _ _ _ _ _ _ _ _ (s₁.setTop (mkF m 0 #[.val (.long u), .second, .unset, .unset, .unset] []))
 refine GoW.st (fun _ => XS.lloadN X0.here hx rfl (hb hby d8_0) rfl) ?_
 refine GoW.st (fun _ => X0.ldc2J hx hown (mvT hZ (wdx hw 6 rfl)) rfl (hb hby d8_1)) ?_
 show GoW _ _ _ _ _ _ _ _ _ (s₁.setTop (mkF m 4 #[.val (.long u), .second, .unset, .unset, .unset] [(.long 7), (.long u)]))
 refine GoW.st (fun _ => XS.land X0.here hx rfl (hb hby d8_4) rfl) ?_
 refine GoW.st (fun _ => XS.l2i X0.here hx rfl (hb hby d8_5) rfl) ?_
 refine GoW.st (fun _ => XS.istoreN X0.here hx rfl (hb hby d8_6) rfl (l' := #[.val (.long u), .second, .val (.int ((u &&& (7 : Int64)).toInt32)), .unset, .unset]) rfl) ?_
 refine GoW.st (fun _ => XS.lloadN X0.here hx rfl (hb hby d8_7) rfl) ?_
 refine GoW.st (fun _ => XS.iconst X0.here hx rfl (hb hby d8_8)) ?_
 refine GoW.st (fun _ => XS.lushr X0.here hx rfl (hb hby d8_9) rfl) ?_
 refine GoW.st (fun _ => X0.ldc2J hx hown (mvT hZ (wdx hw 7 rfl)) rfl (hb hby d8_10)) ?_
 show GoW _ _ _ _ _ _ _ _ _ (s₁.setTop (mkF m 13 #[.val (.long u), .second, .val (.int ((u &&& (7 : Int64)).toInt32)), .unset, .unset] [(.long 255), (.long ((u.toUInt64 >>> ((3 : Int32) &&& 0x3f).toInt64.toUInt64).toInt64))]))
 refine GoW.st (fun _ => XS.land X0.here hx rfl (hb hby d8_13) rfl) ?_
 refine GoW.st (fun _ => XS.l2i X0.here hx rfl (hb hby d8_14) rfl) ?_
 refine GoW.st (fun _ => XS.i2c X0.here hx rfl (hb hby d8_15) rfl) ?_
 refine GoW.st (fun _ => XS.istoreN X0.here hx rfl (hb hby d8_16) rfl (l' := #[.val (.long u), .second, .val (.int ((u &&& (7 : Int64)).toInt32)), .val (.int (((((u.toUInt64 >>> ((3 : Int32) &&& 0x3f).toInt64.toUInt64).toInt64) &&& (255 : Int64)).toInt32).toUInt32.toUInt16.toUInt32.toInt32)), .unset]) rfl) ?_
 refine GoW.st (fun _ => XS.lloadN X0.here hx rfl (hb hby d8_17) rfl) ?_
 refine GoW.st (fun _ => XS.bipush X0.here hx rfl (hb hby d8_18)) ?_
 refine GoW.st (fun _ => XS.lushr X0.here hx rfl (hb hby d8_20) rfl) ?_
 refine GoW.st (fun _ => X0.ldc2J hx hown (mvT hZ (wdx hw 8 rfl)) rfl (hb hby d8_21)) ?_
 show GoW _ _ _ _ _ _ _ _ _ (s₁.setTop (mkF m 24 #[.val (.long u), .second, .val (.int ((u &&& (7 : Int64)).toInt32)), .val (.int (((((u.toUInt64 >>> ((3 : Int32) &&& 0x3f).toInt64.toUInt64).toInt64) &&& (255 : Int64)).toInt32).toUInt32.toUInt16.toUInt32.toInt32)), .unset] [(.long 2147483647), (.long ((u.toUInt64 >>> ((11 : Int32) &&& 0x3f).toInt64.toUInt64).toInt64))]))
 refine GoW.st (fun _ => XS.land X0.here hx rfl (hb hby d8_24) rfl) ?_
 refine GoW.st (fun _ => X0.ldc2J hx hown (mvT hZ (wdx hw 9 rfl)) rfl (hb hby d8_25)) ?_
 show GoW _ _ _ _ _ _ _ _ _ (s₁.setTop (mkF m 28 #[.val (.long u), .second, .val (.int ((u &&& (7 : Int64)).toInt32)), .val (.int (((((u.toUInt64 >>> ((3 : Int32) &&& 0x3f).toInt64.toUInt64).toInt64) &&& (255 : Int64)).toInt32).toUInt32.toUInt16.toUInt32.toInt32)), .unset] [(.long 6), (.long (((u.toUInt64 >>> ((11 : Int32) &&& 0x3f).toInt64.toUInt64).toInt64) &&& (2147483647 : Int64)))]))
 refine GoW.st (fun _ => XS.lrem X0.here hx rfl (hb hby d8_28) rfl (by decide)) ?_
 show GoW _ _ _ _ _ _ _ _ _ (s₁.setTop (mkF m 29 #[.val (.long u), .second, .val (.int ((u &&& (7 : Int64)).toInt32)), .val (.int (((((u.toUInt64 >>> ((3 : Int32) &&& 0x3f).toInt64.toUInt64).toInt64) &&& (255 : Int64)).toInt32).toUInt32.toUInt16.toUInt32.toInt32)), .unset] [(.long ((((u.toUInt64 >>> ((11 : Int32) &&& 0x3f).toInt64.toUInt64).toInt64) &&& (2147483647 : Int64)) - ((((u.toUInt64 >>> ((11 : Int32) &&& 0x3f).toInt64.toUInt64).toInt64) &&& (2147483647 : Int64)) / (6 : Int64)) * (6 : Int64)))]))
 refine GoW.st (fun _ => XS.l2i X0.here hx rfl (hb hby d8_29) rfl) ?_
 refine GoW.st (fun _ => XS.istore X0.here hx rfl (hb hby d8_30) rfl (l' := #[.val (.long u), .second, .val (.int ((u &&& (7 : Int64)).toInt32)), .val (.int (((((u.toUInt64 >>> ((3 : Int32) &&& 0x3f).toInt64.toUInt64).toInt64) &&& (255 : Int64)).toInt32).toUInt32.toUInt16.toUInt32.toInt32)), .val (.int (((((u.toUInt64 >>> ((11 : Int32) &&& 0x3f).toInt64.toUInt64).toInt64) &&& (2147483647 : Int64)) - ((((u.toUInt64 >>> ((11 : Int32) &&& 0x3f).toInt64.toUInt64).toInt64) &&& (2147483647 : Int64)) / (6 : Int64)) * (6 : Int64)).toInt32))]) rfl) ?_
 show GoW _ _ _ _ _ _ _ _ _ (s₁.setTop (mkF m 32 #[.val (.long u), .second, .val (.int ((u &&& (7 : Int64)).toInt32)), .val (.int (((((u.toUInt64 >>> ((3 : Int32) &&& 0x3f).toInt64.toUInt64).toInt64) &&& (255 : Int64)).toInt32).toUInt32.toUInt16.toUInt32.toInt32)), .val (.int (((((u.toUInt64 >>> ((11 : Int32) &&& 0x3f).toInt64.toUInt64).toInt64) &&& (2147483647 : Int64)) - ((((u.toUInt64 >>> ((11 : Int32) &&& 0x3f).toInt64.toUInt64).toInt64) &&& (2147483647 : Int64)) / (6 : Int64)) * (6 : Int64)).toInt32))] []))
 obtain ⟨cx, hd_cx⟩ : ∃ z, z = (((((u.toUInt64 >>> ((3 : Int32) &&& 0x3f).toInt64.toUInt64).toInt64) &&& (255 : Int64)).toInt32).toUInt32.toUInt16.toUInt32.toInt32) := ⟨_, rfl⟩
 rw [← hd_cx]
 have r_cx := own_cxr u cx hd_cx
 have n_cx := r_cx.2
 obtain ⟨po, hd_po⟩ : ∃ z, z = (((((u.toUInt64 >>> ((11 : Int32) &&& 0x3f).toInt64.toUInt64).toInt64) &&& (2147483647 : Int64)) - ((((u.toUInt64 >>> ((11 : Int32) &&& 0x3f).toInt64.toUInt64).toInt64) &&& (2147483647 : Int64)) / (6 : Int64)) * (6 : Int64)).toInt32) := ⟨_, rfl⟩
 rw [← hd_po]
 have r_po := own_po u po hd_po
 obtain ⟨mo, hd_mo⟩ : ∃ z, z = ((u &&& (7 : Int64)).toInt32) := ⟨_, rfl⟩
 rw [← hd_mo]
 have r_mo := own_mo u mo hd_mo
 show GoW _ _ _ _ _ _ _ _ _ (s₁.setTop (mkF m 32 #[.val (.long u), .second, .val (.int mo), .val (.int cx), .val (.int po)] []))
 refine GoW.st (fun _ => XS.iloadN X0.here hx rfl (hb hby d8_32) rfl) ?_
 show GoW _ _ _ _ _ _ _ _ _ (s₁.setTop (mkF m 33 #[.val (.long u), .second, .val (.int mo), .val (.int cx), .val (.int po)] [(.int mo)]))
 by_cases hc1 : mo = (0 : Int32)
 ·refine GoW.st (fun _ => XS.ifNo X0.here hx rfl (hb hby d8_33) rfl (XT.i0_ne_f hc1)) ?_
  refine GoW.st (fun _ => XS.iconst X0.here hx rfl (hb hby d8_36)) ?_
  show GoW _ _ _ _ _ _ _ _ _ (s₁.setTop (mkF m 37 #[.val (.long u), .second, .val (.int mo), .val (.int cx), .val (.int po)] [(.int 1)]))
  refine GoW.retB X0 hx hlk hS0 (by rw [e0]; exact hk0) hZ hEL CH0 (t := .boolean) Bd.returns (by simp) (hb hby d8_37) (by decide) (by decide) e0 ?_
  exact ⟨(by rw [own_fch, ← hd_cx, ← hd_po, ← hd_mo]; simp [fh, fchx, nar, hc1]), N0, (Keep.refl _ _)⟩
 ·refine GoW.st (fun _ => XS.ifYes X0.here hx rfl (pc0 := 33) (pc' := 38) rfl (hb hby d8_33) rfl (XT.i0_ne_t hc1) (by decide) (by decide)) ?_
  refine GoW.st (fun _ => XS.iloadN X0.here hx rfl (hb hby d8_38) rfl) ?_
  refine GoW.st (fun _ => XS.iconst X0.here hx rfl (hb hby d8_39)) ?_
  show GoW _ _ _ _ _ _ _ _ _ (s₁.setTop (mkF m 40 #[.val (.long u), .second, .val (.int mo), .val (.int cx), .val (.int po)] [(.int 1), (.int mo)]))
  by_cases hc2 : mo = (1 : Int32)
  ·refine GoW.st (fun _ => XS.icmpNo X0.here hx rfl (hb hby d8_40) rfl (XT.ii_ne_f hc2)) ?_
   refine GoW.st (fun _ => XS.iloadN X0.here hx rfl (hb hby d8_43) rfl) ?_
   obtain ⟨a3, T3, h3, q3, b3, kb3, X3, e3, E3, hS3, hk3, hZ3, hown3, Ea3, Fc3, Fv3, Vb3, lta3, ltb3, C3, -, hne3, st3⟩ := ldcCH X0 hx hZ hown (wdx hw 42 rfl) hwS e0 hS0 hk0 hEL (List.mem_of_getElem? (i := 2) rfl) CH0.1 (vs := [(.int 45), (.int 45), (.int 104), (.int 101), (.int 108), (.int 112)]) (z := (6 : Int32)) ⟨by decide, rfl⟩ (by decide) (by decide) (g := (mkF m 44 #[.val (.long u), .second, .val (.int mo), .val (.int cx), .val (.int po)] [(.int cx)])) rfl (hb hby d8_44) (n := 24) (by decide) (by decide) (by decide) (by decide)
   refine GoW.st st3 ?_
   have CH3 := CH0.trans C3
   have O3 := O0.ext E3
   have K3 : Keep h0 h3 [] := (Keep.refl h0 []).ext E3
   show GoW _ _ _ _ _ _ _ _ _ (T3.setTop (mkF m 46 #[.val (.long u), .second, .val (.int mo), .val (.int cx), .val (.int po)] [(.ref a3), (.int cx)]))
   refine GoW.st (fun _ => XS.iload X3.here hx rfl (hb hby d8_46) rfl) ?_
   show GoW _ _ _ _ _ _ _ _ _ (T3.setTop (mkF m 48 #[.val (.long u), .second, .val (.int mo), .val (.int cx), .val (.int po)] [(.int po), (.ref a3), (.int cx)]))
   obtain ⟨cq4, kq4, q4a, q4b, q4c⟩ := isOf hZ3 e3 Ea3
   obtain ⟨_, _, ⟨T4, L4, k4, n4⟩, -, X4, ⟨Lc4, hQ4, l4, y4, z4⟩, st4⟩ := X3.virtualBack hx (y := mn16) (z := mn16) hown3 (mvT hZ3 (wdx hw 45 rfl)) (mvT hZ3 (wdx hw 46 rfl)) (notFace_of_selects (args := #[]) (mvT hZ3 (wdx hw 48 rfl))) (mvT hZ3 (wdx hw 48 rfl)) (mvT hZ3 (wdx hw 47 rfl)) (by decide) (backOf (W := 1) (rm9 l Z a0 hw [] a3 po b3 kb3 cs vf h3 n0 O3 Ea3 Fv3 Fc3 Vb3 S_cs q_cs S_sf q_sf r_po) hZ3 (wdx hw 49 rfl) (wdx hw 11 rfl) (by decide) (by decide)) q4a q4c (g := (mkF m 48 #[.val (.long u), .second, .val (.int mo), .val (.int cx), .val (.int po)] [(.int po), (.ref a3), (.int cx)])) rfl (by rw [hml]; rfl) (Steps.refl _) (argsL := [(.int po)]) (rest := [(.int cx)]) (lenOf pd__I_C rfl) rfl (by show 2 * 0 + _ ≤ _; exact Nat.le_of_eq rfl) (hb hby d8_48) (fun _ _ => ⟨rfl, e3, (by exact lee rfl), (by exact lee rfl)⟩)
   dsimp only [Pt.U, Pt.locs, Pt.cells, Pt.slots] at X4 l4 y4 z4 st4 hQ4
   subst l4 y4 z4
   obtain ⟨rfl, Nq4, eq4⟩ := hQ4
   have N4 := Fr.app N0 Nq4
   refine GoW.tr st4 ?_
   show GoW _ _ _ _ _ _ _ _ _ (T4.setTop (mkF m 51 #[.val (.long u), .second, .val (.int mo), .val (.int cx), .val (.int po)] [(.int (fat po)), (.int cx)]))
   by_cases hc5 : cx = (fat po)
   ·refine GoW.st (fun _ => XS.icmpNo X4.here hx rfl (hb hby d8_51) rfl (XT.ii_ne_f hc5)) ?_
    refine GoW.st (fun _ => XS.iconst X4.here hx rfl (hb hby d8_54)) ?_
    show GoW _ _ _ _ _ _ _ _ _ (T4.setTop (mkF m 55 #[.val (.long u), .second, .val (.int mo), .val (.int cx), .val (.int po)] [(.int 1)]))
    refine GoW.st (fun _ => XS.goto X4.here hx rfl (pc0 := 55) (pc' := 59) rfl (hb hby d8_55) (by decide) (by decide)) ?_
    show GoW _ _ _ _ _ _ _ _ _ (T4.setTop (mkF m 59 #[.val (.long u), .second, .val (.int mo), .val (.int cx), .val (.int po)] [(.int 1)]))
    refine GoW.retB X4 hx hlk hS3 (by rw [eq4]; exact hk3) hZ3 hEL CH3 (t := .boolean) Bd.returns (by simp) (hb hby d8_59) (by decide) (by decide) eq4 ?_
    exact ⟨(by rw [own_fch, ← hd_cx, ← hd_po, ← hd_mo]; unfold fh fchx; rw [if_neg hc1, if_pos hc2]; simp only [own_fset po cx r_po, if_pos hc5] <;> rfl), N4, K3⟩
   ·refine GoW.st (fun _ => XS.icmpYes X4.here hx rfl (pc0 := 51) (pc' := 58) rfl (hb hby d8_51) rfl (XT.ii_ne_t hc5) (by decide) (by decide)) ?_
    refine GoW.st (fun _ => XS.iconst X4.here hx rfl (hb hby d8_58)) ?_
    show GoW _ _ _ _ _ _ _ _ _ (T4.setTop (mkF m 59 #[.val (.long u), .second, .val (.int mo), .val (.int cx), .val (.int po)] [(.int 0)]))
    refine GoW.retB X4 hx hlk hS3 (by rw [eq4]; exact hk3) hZ3 hEL CH3 (t := .boolean) Bd.returns (by simp) (hb hby d8_59) (by decide) (by decide) eq4 ?_
    exact ⟨(by rw [own_fch, ← hd_cx, ← hd_po, ← hd_mo]; unfold fh fchx; rw [if_neg hc1, if_pos hc2]; simp only [own_fset po cx r_po, if_neg hc5] <;> rfl), N4, K3⟩
  ·refine GoW.st (fun _ => XS.icmpYes X0.here hx rfl (pc0 := 40) (pc' := 60) rfl (hb hby d8_40) rfl (XT.ii_ne_t hc2) (by decide) (by decide)) ?_
   refine GoW.st (fun _ => XS.iloadN X0.here hx rfl (hb hby d8_60) rfl) ?_
   refine GoW.st (fun _ => XS.bipush X0.here hx rfl (hb hby d8_61)) ?_
   show GoW _ _ _ _ _ _ _ _ _ (s₁.setTop (mkF m 63 #[.val (.long u), .second, .val (.int mo), .val (.int cx), .val (.int po)] [(.int 7), (.int mo)]))
   by_cases hc6 : mo = (7 : Int32)
   ·refine GoW.st (fun _ => XS.icmpNo X0.here hx rfl (hb hby d8_63) rfl (XT.ii_ne_f hc6)) ?_
    refine GoW.st (fun _ => XS.lloadN X0.here hx rfl (hb hby d8_66) rfl) ?_
    refine GoW.st (fun _ => XS.iconst X0.here hx rfl (hb hby d8_67)) ?_
    show GoW _ _ _ _ _ _ _ _ _ (s₁.setTop (mkF m 68 #[.val (.long u), .second, .val (.int mo), .val (.int cx), .val (.int po)] [(.int 0), (.long u)]))
    obtain ⟨_, _, ⟨T7, L7, k7, n7⟩, -, X7, ⟨Lc7, hQ7, l7, y7, z7⟩, st7⟩ := Jvm.LawKit.callS X0 hx (y := mn4) hown (mvT hZ (wdx hw 159 rfl)) (mvT hZ (wdx hw 160 rfl)) (mvT hZ (wdx hw 4 rfl)) (mvT hZ (wdx hw 161 rfl)) (by decide) (backOf (W := 0) (rm26 l Z a0 hw [] u (0 : Int32) h0 n0 O0 ) hZ (wdx hw 161 rfl) (wdx hw 4 rfl) (by decide) (by decide)) (g := (mkF m 68 #[.val (.long u), .second, .val (.int mo), .val (.int cx), .val (.int po)] [(.int 0), (.long u)])) rfl (by rw [hml]; rfl) (argsL := [(.long u), (.int 0)]) (rest := []) (lenOf pd__JI_C rfl) rfl (by show 2 * 0 + _ ≤ _; exact Nat.le_of_eq rfl) (hb hby d8_68) (fun _ _ => ⟨rfl, e0, (by exact lee rfl), (by exact lee rfl)⟩)
    dsimp only [Pt.U, Pt.locs, Pt.cells, Pt.slots] at X7 l7 y7 z7 st7 hQ7
    subst l7 y7 z7
    obtain ⟨rfl, Nq7, eq7⟩ := hQ7
    have N7 := Fr.app N0 Nq7
    refine GoW.st st7 ?_
    show GoW _ _ _ _ _ _ _ _ _ (T7.setTop (mkF m 71 #[.val (.long u), .second, .val (.int mo), .val (.int cx), .val (.int po)] [(.int (fk u (0 : Int32)))]))
    refine GoW.st (fun _ => XS.bipush X7.here hx rfl (hb hby d8_71)) ?_
    show GoW _ _ _ _ _ _ _ _ _ (T7.setTop (mkF m 73 #[.val (.long u), .second, .val (.int mo), .val (.int cx), .val (.int po)] [(.int 45), (.int (fk u (0 : Int32)))]))
    by_cases hc8 : (fk u (0 : Int32)) = (45 : Int32)
    ·refine GoW.st (fun _ => XS.icmpNo X7.here hx rfl (hb hby d8_73) rfl (XT.ii_ne_f hc8)) ?_
     refine GoW.st (fun _ => XS.lloadN X7.here hx rfl (hb hby d8_76) rfl) ?_
     refine GoW.st (fun _ => XS.iconst X7.here hx rfl (hb hby d8_77)) ?_
     show GoW _ _ _ _ _ _ _ _ _ (T7.setTop (mkF m 78 #[.val (.long u), .second, .val (.int mo), .val (.int cx), .val (.int po)] [(.int 1), (.long u)]))
     obtain ⟨_, _, ⟨T9, L9, k9, n9⟩, -, X9, ⟨Lc9, hQ9, l9, y9, z9⟩, st9⟩ := Jvm.LawKit.callS X7 hx (y := mn4) hown (mvT hZ (wdx hw 159 rfl)) (mvT hZ (wdx hw 160 rfl)) (mvT hZ (wdx hw 4 rfl)) (mvT hZ (wdx hw 161 rfl)) (by decide) (backOf (W := 0) (rm26 l Z a0 hw [] u (1 : Int32) h0 n0 O0 ) hZ (wdx hw 161 rfl) (wdx hw 4 rfl) (by decide) (by decide)) (g := (mkF m 78 #[.val (.long u), .second, .val (.int mo), .val (.int cx), .val (.int po)] [(.int 1), (.long u)])) rfl (by rw [hml]; rfl) (argsL := [(.long u), (.int 1)]) (rest := []) (lenOf pd__JI_C rfl) rfl (by show 2 * 0 + _ ≤ _; exact Nat.le_of_eq rfl) (hb hby d8_78) (fun _ _ => ⟨rfl, eq7, (by exact lee rfl), (by exact lee rfl)⟩)
     dsimp only [Pt.U, Pt.locs, Pt.cells, Pt.slots] at X9 l9 y9 z9 st9 hQ9
     subst l9 y9 z9
     obtain ⟨rfl, Nq9, eq9⟩ := hQ9
     have N9 := Fr.app N7 Nq9
     refine GoW.st st9 ?_
     show GoW _ _ _ _ _ _ _ _ _ (T9.setTop (mkF m 81 #[.val (.long u), .second, .val (.int mo), .val (.int cx), .val (.int po)] [(.int (fk u (1 : Int32)))]))
     refine GoW.st (fun _ => XS.bipush X9.here hx rfl (hb hby d8_81)) ?_
     show GoW _ _ _ _ _ _ _ _ _ (T9.setTop (mkF m 83 #[.val (.long u), .second, .val (.int mo), .val (.int cx), .val (.int po)] [(.int 45), (.int (fk u (1 : Int32)))]))
     by_cases hc10 : (fk u (1 : Int32)) = (45 : Int32)
     ·refine GoW.st (fun _ => XS.icmpNo X9.here hx rfl (hb hby d8_83) rfl (XT.ii_ne_f hc10)) ?_
      refine GoW.st (fun _ => XS.lloadN X9.here hx rfl (hb hby d8_86) rfl) ?_
      refine GoW.st (fun _ => XS.iconst X9.here hx rfl (hb hby d8_87)) ?_
      show GoW _ _ _ _ _ _ _ _ _ (T9.setTop (mkF m 88 #[.val (.long u), .second, .val (.int mo), .val (.int cx), .val (.int po)] [(.int 2), (.long u)]))
      obtain ⟨_, _, ⟨T11, L11, k11, n11⟩, -, X11, ⟨Lc11, hQ11, l11, y11, z11⟩, st11⟩ := Jvm.LawKit.callS X9 hx (y := mn4) hown (mvT hZ (wdx hw 159 rfl)) (mvT hZ (wdx hw 160 rfl)) (mvT hZ (wdx hw 4 rfl)) (mvT hZ (wdx hw 161 rfl)) (by decide) (backOf (W := 0) (rm26 l Z a0 hw [] u (2 : Int32) h0 n0 O0 ) hZ (wdx hw 161 rfl) (wdx hw 4 rfl) (by decide) (by decide)) (g := (mkF m 88 #[.val (.long u), .second, .val (.int mo), .val (.int cx), .val (.int po)] [(.int 2), (.long u)])) rfl (by rw [hml]; rfl) (argsL := [(.long u), (.int 2)]) (rest := []) (lenOf pd__JI_C rfl) rfl (by show 2 * 0 + _ ≤ _; exact Nat.le_of_eq rfl) (hb hby d8_88) (fun _ _ => ⟨rfl, eq9, (by exact lee rfl), (by exact lee rfl)⟩)
      dsimp only [Pt.U, Pt.locs, Pt.cells, Pt.slots] at X11 l11 y11 z11 st11 hQ11
      subst l11 y11 z11
      obtain ⟨rfl, Nq11, eq11⟩ := hQ11
      have N11 := Fr.app N9 Nq11
      refine GoW.st st11 ?_
      show GoW _ _ _ _ _ _ _ _ _ (T11.setTop (mkF m 91 #[.val (.long u), .second, .val (.int mo), .val (.int cx), .val (.int po)] [(.int (fk u (2 : Int32)))]))
      refine GoW.st (fun _ => XS.bipush X11.here hx rfl (hb hby d8_91)) ?_
      show GoW _ _ _ _ _ _ _ _ _ (T11.setTop (mkF m 93 #[.val (.long u), .second, .val (.int mo), .val (.int cx), .val (.int po)] [(.int 104), (.int (fk u (2 : Int32)))]))
      by_cases hc12 : (fk u (2 : Int32)) = (104 : Int32)
      ·refine GoW.st (fun _ => XS.icmpNo X11.here hx rfl (hb hby d8_93) rfl (XT.ii_ne_f hc12)) ?_
       refine GoW.st (fun _ => XS.lloadN X11.here hx rfl (hb hby d8_96) rfl) ?_
       refine GoW.st (fun _ => XS.iconst X11.here hx rfl (hb hby d8_97)) ?_
       show GoW _ _ _ _ _ _ _ _ _ (T11.setTop (mkF m 98 #[.val (.long u), .second, .val (.int mo), .val (.int cx), .val (.int po)] [(.int 3), (.long u)]))
       obtain ⟨_, _, ⟨T13, L13, k13, n13⟩, -, X13, ⟨Lc13, hQ13, l13, y13, z13⟩, st13⟩ := Jvm.LawKit.callS X11 hx (y := mn4) hown (mvT hZ (wdx hw 159 rfl)) (mvT hZ (wdx hw 160 rfl)) (mvT hZ (wdx hw 4 rfl)) (mvT hZ (wdx hw 161 rfl)) (by decide) (backOf (W := 0) (rm26 l Z a0 hw [] u (3 : Int32) h0 n0 O0 ) hZ (wdx hw 161 rfl) (wdx hw 4 rfl) (by decide) (by decide)) (g := (mkF m 98 #[.val (.long u), .second, .val (.int mo), .val (.int cx), .val (.int po)] [(.int 3), (.long u)])) rfl (by rw [hml]; rfl) (argsL := [(.long u), (.int 3)]) (rest := []) (lenOf pd__JI_C rfl) rfl (by show 2 * 0 + _ ≤ _; exact Nat.le_of_eq rfl) (hb hby d8_98) (fun _ _ => ⟨rfl, eq11, (by exact lee rfl), (by exact lee rfl)⟩)
       dsimp only [Pt.U, Pt.locs, Pt.cells, Pt.slots] at X13 l13 y13 z13 st13 hQ13
       subst l13 y13 z13
       obtain ⟨rfl, Nq13, eq13⟩ := hQ13
       have N13 := Fr.app N11 Nq13
       refine GoW.st st13 ?_
       show GoW _ _ _ _ _ _ _ _ _ (T13.setTop (mkF m 101 #[.val (.long u), .second, .val (.int mo), .val (.int cx), .val (.int po)] [(.int (fk u (3 : Int32)))]))
       refine GoW.st (fun _ => XS.bipush X13.here hx rfl (hb hby d8_101)) ?_
       show GoW _ _ _ _ _ _ _ _ _ (T13.setTop (mkF m 103 #[.val (.long u), .second, .val (.int mo), .val (.int cx), .val (.int po)] [(.int 101), (.int (fk u (3 : Int32)))]))
       by_cases hc14 : (fk u (3 : Int32)) = (101 : Int32)
       ·refine GoW.st (fun _ => XS.icmpNo X13.here hx rfl (hb hby d8_103) rfl (XT.ii_ne_f hc14)) ?_
        refine GoW.st (fun _ => XS.lloadN X13.here hx rfl (hb hby d8_106) rfl) ?_
        refine GoW.st (fun _ => XS.iconst X13.here hx rfl (hb hby d8_107)) ?_
        show GoW _ _ _ _ _ _ _ _ _ (T13.setTop (mkF m 108 #[.val (.long u), .second, .val (.int mo), .val (.int cx), .val (.int po)] [(.int 4), (.long u)]))
        obtain ⟨_, _, ⟨T15, L15, k15, n15⟩, -, X15, ⟨Lc15, hQ15, l15, y15, z15⟩, st15⟩ := Jvm.LawKit.callS X13 hx (y := mn4) hown (mvT hZ (wdx hw 159 rfl)) (mvT hZ (wdx hw 160 rfl)) (mvT hZ (wdx hw 4 rfl)) (mvT hZ (wdx hw 161 rfl)) (by decide) (backOf (W := 0) (rm26 l Z a0 hw [] u (4 : Int32) h0 n0 O0 ) hZ (wdx hw 161 rfl) (wdx hw 4 rfl) (by decide) (by decide)) (g := (mkF m 108 #[.val (.long u), .second, .val (.int mo), .val (.int cx), .val (.int po)] [(.int 4), (.long u)])) rfl (by rw [hml]; rfl) (argsL := [(.long u), (.int 4)]) (rest := []) (lenOf pd__JI_C rfl) rfl (by show 2 * 0 + _ ≤ _; exact Nat.le_of_eq rfl) (hb hby d8_108) (fun _ _ => ⟨rfl, eq13, (by exact lee rfl), (by exact lee rfl)⟩)
        dsimp only [Pt.U, Pt.locs, Pt.cells, Pt.slots] at X15 l15 y15 z15 st15 hQ15
        subst l15 y15 z15
        obtain ⟨rfl, Nq15, eq15⟩ := hQ15
        have N15 := Fr.app N13 Nq15
        refine GoW.st st15 ?_
        show GoW _ _ _ _ _ _ _ _ _ (T15.setTop (mkF m 111 #[.val (.long u), .second, .val (.int mo), .val (.int cx), .val (.int po)] [(.int (fk u (4 : Int32)))]))
        refine GoW.st (fun _ => XS.bipush X15.here hx rfl (hb hby d8_111)) ?_
        show GoW _ _ _ _ _ _ _ _ _ (T15.setTop (mkF m 113 #[.val (.long u), .second, .val (.int mo), .val (.int cx), .val (.int po)] [(.int 108), (.int (fk u (4 : Int32)))]))
        by_cases hc16 : (fk u (4 : Int32)) = (108 : Int32)
        ·refine GoW.st (fun _ => XS.icmpNo X15.here hx rfl (hb hby d8_113) rfl (XT.ii_ne_f hc16)) ?_
         refine GoW.st (fun _ => XS.lloadN X15.here hx rfl (hb hby d8_116) rfl) ?_
         refine GoW.st (fun _ => XS.iconst X15.here hx rfl (hb hby d8_117)) ?_
         show GoW _ _ _ _ _ _ _ _ _ (T15.setTop (mkF m 118 #[.val (.long u), .second, .val (.int mo), .val (.int cx), .val (.int po)] [(.int 5), (.long u)]))
         obtain ⟨_, _, ⟨T17, L17, k17, n17⟩, -, X17, ⟨Lc17, hQ17, l17, y17, z17⟩, st17⟩ := Jvm.LawKit.callS X15 hx (y := mn4) hown (mvT hZ (wdx hw 159 rfl)) (mvT hZ (wdx hw 160 rfl)) (mvT hZ (wdx hw 4 rfl)) (mvT hZ (wdx hw 161 rfl)) (by decide) (backOf (W := 0) (rm26 l Z a0 hw [] u (5 : Int32) h0 n0 O0 ) hZ (wdx hw 161 rfl) (wdx hw 4 rfl) (by decide) (by decide)) (g := (mkF m 118 #[.val (.long u), .second, .val (.int mo), .val (.int cx), .val (.int po)] [(.int 5), (.long u)])) rfl (by rw [hml]; rfl) (argsL := [(.long u), (.int 5)]) (rest := []) (lenOf pd__JI_C rfl) rfl (by show 2 * 0 + _ ≤ _; exact Nat.le_of_eq rfl) (hb hby d8_118) (fun _ _ => ⟨rfl, eq15, (by exact lee rfl), (by exact lee rfl)⟩)
         dsimp only [Pt.U, Pt.locs, Pt.cells, Pt.slots] at X17 l17 y17 z17 st17 hQ17
         subst l17 y17 z17
         obtain ⟨rfl, Nq17, eq17⟩ := hQ17
         have N17 := Fr.app N15 Nq17
         refine GoW.st st17 ?_
         show GoW _ _ _ _ _ _ _ _ _ (T17.setTop (mkF m 121 #[.val (.long u), .second, .val (.int mo), .val (.int cx), .val (.int po)] [(.int (fk u (5 : Int32)))]))
         refine GoW.st (fun _ => XS.bipush X17.here hx rfl (hb hby d8_121)) ?_
         show GoW _ _ _ _ _ _ _ _ _ (T17.setTop (mkF m 123 #[.val (.long u), .second, .val (.int mo), .val (.int cx), .val (.int po)] [(.int 112), (.int (fk u (5 : Int32)))]))
         by_cases hc18 : (fk u (5 : Int32)) = (112 : Int32)
         ·refine GoW.st (fun _ => XS.icmpNo X17.here hx rfl (hb hby d8_123) rfl (XT.ii_ne_f hc18)) ?_
          refine GoW.st (fun _ => XS.iconst X17.here hx rfl (hb hby d8_126)) ?_
          show GoW _ _ _ _ _ _ _ _ _ (T17.setTop (mkF m 127 #[.val (.long u), .second, .val (.int mo), .val (.int cx), .val (.int po)] [(.int 1)]))
          refine GoW.st (fun _ => XS.goto X17.here hx rfl (pc0 := 127) (pc' := 131) rfl (hb hby d8_127) (by decide) (by decide)) ?_
          show GoW _ _ _ _ _ _ _ _ _ (T17.setTop (mkF m 131 #[.val (.long u), .second, .val (.int mo), .val (.int cx), .val (.int po)] [(.int 1)]))
          refine GoW.retB X17 hx hlk hS0 (by rw [eq17]; exact hk0) hZ hEL CH0 (t := .boolean) Bd.returns (by simp) (hb hby d8_131) (by decide) (by decide) eq17 ?_
          exact ⟨(by rw [own_fch, ← hd_cx, ← hd_po, ← hd_mo]; simp [fh, fchx, nar, hc1, hc2, hc6, hc8, hc10, hc12, hc14, hc16, hc18]), N17, (Keep.refl _ _)⟩
         ·refine GoW.st (fun _ => XS.icmpYes X17.here hx rfl (pc0 := 123) (pc' := 130) rfl (hb hby d8_123) rfl (XT.ii_ne_t hc18) (by decide) (by decide)) ?_
          refine GoW.st (fun _ => XS.iconst X17.here hx rfl (hb hby d8_130)) ?_
          show GoW _ _ _ _ _ _ _ _ _ (T17.setTop (mkF m 131 #[.val (.long u), .second, .val (.int mo), .val (.int cx), .val (.int po)] [(.int 0)]))
          refine GoW.retB X17 hx hlk hS0 (by rw [eq17]; exact hk0) hZ hEL CH0 (t := .boolean) Bd.returns (by simp) (hb hby d8_131) (by decide) (by decide) eq17 ?_
          exact ⟨(by rw [own_fch, ← hd_cx, ← hd_po, ← hd_mo]; simp [fh, fchx, nar, hc1, hc2, hc6, hc8, hc10, hc12, hc14, hc16, hc18]), N17, (Keep.refl _ _)⟩
        ·refine GoW.st (fun _ => XS.icmpYes X15.here hx rfl (pc0 := 113) (pc' := 130) rfl (hb hby d8_113) rfl (XT.ii_ne_t hc16) (by decide) (by decide)) ?_
         refine GoW.st (fun _ => XS.iconst X15.here hx rfl (hb hby d8_130)) ?_
         show GoW _ _ _ _ _ _ _ _ _ (T15.setTop (mkF m 131 #[.val (.long u), .second, .val (.int mo), .val (.int cx), .val (.int po)] [(.int 0)]))
         refine GoW.retB X15 hx hlk hS0 (by rw [eq15]; exact hk0) hZ hEL CH0 (t := .boolean) Bd.returns (by simp) (hb hby d8_131) (by decide) (by decide) eq15 ?_
         exact ⟨(by rw [own_fch, ← hd_cx, ← hd_po, ← hd_mo]; simp [fh, fchx, nar, hc1, hc2, hc6, hc8, hc10, hc12, hc14, hc16]), N15, (Keep.refl _ _)⟩
       ·refine GoW.st (fun _ => XS.icmpYes X13.here hx rfl (pc0 := 103) (pc' := 130) rfl (hb hby d8_103) rfl (XT.ii_ne_t hc14) (by decide) (by decide)) ?_
        refine GoW.st (fun _ => XS.iconst X13.here hx rfl (hb hby d8_130)) ?_
        show GoW _ _ _ _ _ _ _ _ _ (T13.setTop (mkF m 131 #[.val (.long u), .second, .val (.int mo), .val (.int cx), .val (.int po)] [(.int 0)]))
        refine GoW.retB X13 hx hlk hS0 (by rw [eq13]; exact hk0) hZ hEL CH0 (t := .boolean) Bd.returns (by simp) (hb hby d8_131) (by decide) (by decide) eq13 ?_
        exact ⟨(by rw [own_fch, ← hd_cx, ← hd_po, ← hd_mo]; simp [fh, fchx, nar, hc1, hc2, hc6, hc8, hc10, hc12, hc14]), N13, (Keep.refl _ _)⟩
      ·refine GoW.st (fun _ => XS.icmpYes X11.here hx rfl (pc0 := 93) (pc' := 130) rfl (hb hby d8_93) rfl (XT.ii_ne_t hc12) (by decide) (by decide)) ?_
       refine GoW.st (fun _ => XS.iconst X11.here hx rfl (hb hby d8_130)) ?_
       show GoW _ _ _ _ _ _ _ _ _ (T11.setTop (mkF m 131 #[.val (.long u), .second, .val (.int mo), .val (.int cx), .val (.int po)] [(.int 0)]))
       refine GoW.retB X11 hx hlk hS0 (by rw [eq11]; exact hk0) hZ hEL CH0 (t := .boolean) Bd.returns (by simp) (hb hby d8_131) (by decide) (by decide) eq11 ?_
       exact ⟨(by rw [own_fch, ← hd_cx, ← hd_po, ← hd_mo]; simp [fh, fchx, nar, hc1, hc2, hc6, hc8, hc10, hc12]), N11, (Keep.refl _ _)⟩
     ·refine GoW.st (fun _ => XS.icmpYes X9.here hx rfl (pc0 := 83) (pc' := 130) rfl (hb hby d8_83) rfl (XT.ii_ne_t hc10) (by decide) (by decide)) ?_
      refine GoW.st (fun _ => XS.iconst X9.here hx rfl (hb hby d8_130)) ?_
      show GoW _ _ _ _ _ _ _ _ _ (T9.setTop (mkF m 131 #[.val (.long u), .second, .val (.int mo), .val (.int cx), .val (.int po)] [(.int 0)]))
      refine GoW.retB X9 hx hlk hS0 (by rw [eq9]; exact hk0) hZ hEL CH0 (t := .boolean) Bd.returns (by simp) (hb hby d8_131) (by decide) (by decide) eq9 ?_
      exact ⟨(by rw [own_fch, ← hd_cx, ← hd_po, ← hd_mo]; simp [fh, fchx, nar, hc1, hc2, hc6, hc8, hc10]), N9, (Keep.refl _ _)⟩
    ·refine GoW.st (fun _ => XS.icmpYes X7.here hx rfl (pc0 := 73) (pc' := 130) rfl (hb hby d8_73) rfl (XT.ii_ne_t hc8) (by decide) (by decide)) ?_
     refine GoW.st (fun _ => XS.iconst X7.here hx rfl (hb hby d8_130)) ?_
     show GoW _ _ _ _ _ _ _ _ _ (T7.setTop (mkF m 131 #[.val (.long u), .second, .val (.int mo), .val (.int cx), .val (.int po)] [(.int 0)]))
     refine GoW.retB X7 hx hlk hS0 (by rw [eq7]; exact hk0) hZ hEL CH0 (t := .boolean) Bd.returns (by simp) (hb hby d8_131) (by decide) (by decide) eq7 ?_
     exact ⟨(by rw [own_fch, ← hd_cx, ← hd_po, ← hd_mo]; simp [fh, fchx, nar, hc1, hc2, hc6, hc8]), N7, (Keep.refl _ _)⟩
   ·refine GoW.st (fun _ => XS.icmpYes X0.here hx rfl (pc0 := 63) (pc' := 132) rfl (hb hby d8_63) rfl (XT.ii_ne_t hc6) (by decide) (by decide)) ?_
    refine GoW.st (fun _ => XS.iconst X0.here hx rfl (hb hby d8_132)) ?_
    show GoW _ _ _ _ _ _ _ _ _ (s₁.setTop (mkF m 133 #[.val (.long u), .second, .val (.int mo), .val (.int cx), .val (.int po)] [(.int 0)]))
    refine GoW.retB X0 hx hlk hS0 (by rw [e0]; exact hk0) hZ hEL CH0 (t := .boolean) Bd.returns (by simp) (hb hby d8_133) (by decide) (by decide) e0 ?_
    exact ⟨(by rw [own_fch, ← hd_cx, ← hd_po, ← hd_mo]; unfold fh; rw [if_neg (own_nh mo po cx u r_mo hc1 hc2 hc6)]; rfl), N0, (Keep.refl _ _)⟩
theorem d22_0 : decode jdk_43_method_13_code 0 = .ok (.aload_n 0, 1) := by decide +kernel
theorem d22_1 : decode jdk_43_method_13_code 1 = .ok (.arraylength, 1) := by decide +kernel
theorem d22_2 : decode jdk_43_method_13_code 2 = .ok (.aload_n 1, 1) := by decide +kernel
theorem d22_3 : decode jdk_43_method_13_code 3 = .ok (.arraylength, 1) := by decide +kernel
theorem d22_4 : decode jdk_43_method_13_code 4 = .ok (.if_icmp .ne 30, 3) := by decide +kernel
theorem d22_34 : decode jdk_43_method_13_code 34 = .ok (.iconst 0, 1) := by decide +kernel
theorem d22_35 : decode jdk_43_method_13_code 35 = .ok (.ireturn, 1) := by decide +kernel
theorem d22_7 : decode jdk_43_method_13_code 7 = .ok (.iconst 0, 1) := by decide +kernel
theorem d22_8 : decode jdk_43_method_13_code 8 = .ok (.istore_n 2, 1) := by decide +kernel
theorem d22_9 : decode jdk_43_method_13_code 9 = .ok (.iload_n 2, 1) := by decide +kernel
theorem d22_10 : decode jdk_43_method_13_code 10 = .ok (.aload_n 0, 1) := by decide +kernel
theorem d22_11 : decode jdk_43_method_13_code 11 = .ok (.arraylength, 1) := by decide +kernel
theorem d22_12 : decode jdk_43_method_13_code 12 = .ok (.if_icmp .ge 20, 3) := by decide +kernel
theorem d22_15 : decode jdk_43_method_13_code 15 = .ok (.aload_n 0, 1) := by decide +kernel
theorem d22_16 : decode jdk_43_method_13_code 16 = .ok (.iload_n 2, 1) := by decide +kernel
theorem d22_17 : decode jdk_43_method_13_code 17 = .ok (.baload, 1) := by decide +kernel
theorem d22_18 : decode jdk_43_method_13_code 18 = .ok (.aload_n 1, 1) := by decide +kernel
theorem d22_19 : decode jdk_43_method_13_code 19 = .ok (.iload_n 2, 1) := by decide +kernel
theorem d22_20 : decode jdk_43_method_13_code 20 = .ok (.baload, 1) := by decide +kernel
theorem d22_21 : decode jdk_43_method_13_code 21 = .ok (.if_icmp .eq 5, 3) := by decide +kernel
theorem d22_26 : decode jdk_43_method_13_code 26 = .ok (.iinc 2 1, 3) := by decide +kernel
theorem d22_29 : decode jdk_43_method_13_code 29 = .ok (.goto (-20), 3) := by decide +kernel
theorem d22_32 : decode jdk_43_method_13_code 32 = .ok (.iconst 1, 1) := by decide +kernel
theorem d22_33 : decode jdk_43_method_13_code 33 = .ok (.ireturn, 1) := by decide +kernel
theorem d22_24 : decode jdk_43_method_13_code 24 = .ok (.iconst 0, 1) := by decide +kernel
theorem d22_25 : decode jdk_43_method_13_code 25 = .ok (.ireturn, 1) := by decide +kernel
theorem ef_rm22 (m : MethodId) (ta : Addr) (td : Addr) : entryFrame m #[(.ref ta), (.ref td)] 3 = mkF m 0 #[.val (.ref ta), .val (.ref td), .unset] [] := by first | (simp [entryFrame, mkF, argsToLocals, Value.category]; done) | rfl
def Q22 (Z : State) (ta : Addr) (td : Addr) (ka : ClassId) (la : List Int32) (kd : ClassId) (h0 : Heap) (n0 : Nat) (v : Option Value) (h : Heap) (L : List Loc) : Prop := v = some (.int (fh la)) ∧ Fr n0 L ∧ h = h0
set_option maxRecDepth 65536 in
set_option maxHeartbeats 40000000 in
theorem rm22 (l : Launch) (Z : State) (a0 : Array Value) (hw : ∀ d ∈ tables_1, d.before a0 Z = true) (ws : List Jvm.Cond) (ta : Addr) (td : Addr) (ka : ClassId) (la : List Int32) (kd : ClassId) (h0 : Heap) (n0 : Nat) (O0 : Old Z n0 h0) (Va : Arv Z h0 ta ka .byte (Int32.ofNat (List.length la)) (List.map Value.int la) (.int 0)) (Vd : Arv Z h0 td kd .byte (6 : Int32) [(.int 45), (.int 45), (.int 104), (.int 101), (.int 108), (.int 112)] (.int 0)) (q_la : la.length ≤ 7) :
  MetFree l (⟨"java/lang/StringLatin1", "equals", "([B[B)Z"⟩ : MethodName) (head1 (Jvm.Cond.code (⟨"java/lang/StringLatin1", "equals", "([B[B)Z"⟩ : MethodName) jdk_43_method_13_code 3 (some .boolean) :: ws) ({ frames := 0, cells := 0, slots := 0, locals := 0 } : Room)) (fun ay U => ay = #[(.ref ta), (.ref td)] ∧ Z.Warmed39 U.vm ∧ U.heap = h0) (fun _ _ _ _ _ => True) (fun _ U o U' => ∃ v L, o = .returned v ∧ Q22 Z ta td ka la kd h0 n0 v U'.heap L ∧ FrameEnd U o U' L ({ frames := 0, cells := 0, slots := 0, locals := 0 } : Room).cells ({ frames := 0, cells := 0, slots := 0, locals := 0 } : Room).slots) := by
 refine MetFree.of_bodySF (plainFor_of_name pn_java_lang_StringLatin1) hisR ?_
 intro p e s m args below meth c s₁ Bd hml0 hP hK
 obtain ⟨rfl, hZ, hh⟩ := hP
 have hx := Bd.exec
 have hby := Bd.bytes
 have hlk : meth.locks = false := BodyLoose.notSynchronized Bd
 have hml : c.maxLocals = 3 := hml0
 have hown : s.vm.findClass "java/lang/StringLatin1" = some m.cls := findClass_of_methodNamed Bd.named
 have hnm := (name_of_methodNamed Bd.named Bd.method).1
 have X0 : Stand p l e ({ frames := 0, cells := 0, slots := 0, locals := 0 } : Room) s m #[(.ref ta), (.ref td)] below meth c s₁ [] 0 0 := Stand.of_body Bd
 have e0 : s₁.heap = h0 := by rw [← hh, Bd.state]; rfl
 have N0 := Fr.nil n0
 suffices hgo : Go p e below s 0 0 (Q22 Z ta td ka la kd h0 n0) (s₁.setTop (mkF m 0 #[.val (.ref ta), .val (.ref td), .unset] [])) by
  obtain ⟨t, o, h1, h2⟩ := hgo; exact ⟨t, o, castTop (ef_rm22 m ta td) h1, h2⟩
 show Go _ _ _ _ _ _ _ (s₁.setTop (mkF m 0 #[.val (.ref ta), .val (.ref td), .unset] []))
 rcases own_l7 la q_la with rfl | ⟨pa, rfl⟩ | ⟨pa, pb, rfl⟩ | ⟨pa, pb, pc, rfl⟩ | ⟨pa, pb, pc, pd, rfl⟩ | ⟨pa, pb, pc, pd, pe, rfl⟩ | ⟨pa, pb, pc, pd, pe, pf, rfl⟩ | ⟨pa, pb, pc, pd, pe, pf, pg, rfl⟩
 ·have v1 : Arv Z h0 ta ka .byte (0 : Int32) [] (.int 0) := Va
  show Go _ _ _ _ _ _ _ (s₁.setTop (mkF m 0 #[.val (.ref ta), .val (.ref td), .unset] []))
  refine Go.st (fun _ => XS.aloadN X0.here hx rfl (hb hby d22_0) rfl rfl) ?_
  show Go _ _ _ _ _ _ _ (s₁.setTop (mkF m 1 #[.val (.ref ta), .val (.ref td), .unset] [(.ref ta)]))
  obtain ⟨cl2, Ar2, qc2, Sz2, Nn2, Ha2, Gf2⟩ := id v1
  refine Go.st (fun _ => X0.arraylength hx (by rw [e0]; exact Ar2.1) (State.isArrayOf_alike hZ.alike Ar2.2.1) (g := (mkF m 1 #[.val (.ref ta), .val (.ref td), .unset] [(.ref ta)])) rfl rfl (hb hby d22_1) _) ?_
  rw [len_of Sz2 Nn2]
  show Go _ _ _ _ _ _ _ (s₁.setTop (mkF m 2 #[.val (.ref ta), .val (.ref td), .unset] [(.int 0)]))
  refine Go.st (fun _ => XS.aloadN X0.here hx rfl (hb hby d22_2) rfl rfl) ?_
  show Go _ _ _ _ _ _ _ (s₁.setTop (mkF m 3 #[.val (.ref ta), .val (.ref td), .unset] [(.ref td), (.int 0)]))
  obtain ⟨cl3, Ar3, qc3, Sz3, Nn3, Ha3, Gf3⟩ := id Vd
  refine Go.st (fun _ => X0.arraylength hx (by rw [e0]; exact Ar3.1) (State.isArrayOf_alike hZ.alike Ar3.2.1) (g := (mkF m 3 #[.val (.ref ta), .val (.ref td), .unset] [(.ref td), (.int 0)])) rfl rfl (hb hby d22_3) _) ?_
  rw [len_of Sz3 Nn3]
  show Go _ _ _ _ _ _ _ (s₁.setTop (mkF m 4 #[.val (.ref ta), .val (.ref td), .unset] [(.int 6), (.int 0)]))
  refine Go.st (fun _ => XS.icmpYes X0.here hx rfl (pc0 := 4) (pc' := 34) rfl (hb hby d22_4) rfl (XT.ii_ne_t (by decide)) (by decide) (by decide)) ?_
  refine Go.st (fun _ => XS.iconst X0.here hx rfl (hb hby d22_34)) ?_
  show Go _ _ _ _ _ _ _ (s₁.setTop (mkF m 35 #[.val (.ref ta), .val (.ref td), .unset] [(.int 0)]))
  refine Go.retB X0 hx hlk (t := .boolean) Bd.returns (by simp) (hb hby d22_35) (by decide) (by decide) e0 ?_
  exact ⟨(by simp [fh, nar]), N0, rfl⟩
 ·have v4 : Arv Z h0 ta ka .byte (1 : Int32) [(.int pa)] (.int 0) := Va
  show Go _ _ _ _ _ _ _ (s₁.setTop (mkF m 0 #[.val (.ref ta), .val (.ref td), .unset] []))
  refine Go.st (fun _ => XS.aloadN X0.here hx rfl (hb hby d22_0) rfl rfl) ?_
  show Go _ _ _ _ _ _ _ (s₁.setTop (mkF m 1 #[.val (.ref ta), .val (.ref td), .unset] [(.ref ta)]))
  obtain ⟨cl5, Ar5, qc5, Sz5, Nn5, Ha5, Gf5⟩ := id v4
  refine Go.st (fun _ => X0.arraylength hx (by rw [e0]; exact Ar5.1) (State.isArrayOf_alike hZ.alike Ar5.2.1) (g := (mkF m 1 #[.val (.ref ta), .val (.ref td), .unset] [(.ref ta)])) rfl rfl (hb hby d22_1) _) ?_
  rw [len_of Sz5 Nn5]
  show Go _ _ _ _ _ _ _ (s₁.setTop (mkF m 2 #[.val (.ref ta), .val (.ref td), .unset] [(.int 1)]))
  refine Go.st (fun _ => XS.aloadN X0.here hx rfl (hb hby d22_2) rfl rfl) ?_
  show Go _ _ _ _ _ _ _ (s₁.setTop (mkF m 3 #[.val (.ref ta), .val (.ref td), .unset] [(.ref td), (.int 1)]))
  obtain ⟨cl6, Ar6, qc6, Sz6, Nn6, Ha6, Gf6⟩ := id Vd
  refine Go.st (fun _ => X0.arraylength hx (by rw [e0]; exact Ar6.1) (State.isArrayOf_alike hZ.alike Ar6.2.1) (g := (mkF m 3 #[.val (.ref ta), .val (.ref td), .unset] [(.ref td), (.int 1)])) rfl rfl (hb hby d22_3) _) ?_
  rw [len_of Sz6 Nn6]
  show Go _ _ _ _ _ _ _ (s₁.setTop (mkF m 4 #[.val (.ref ta), .val (.ref td), .unset] [(.int 6), (.int 1)]))
  refine Go.st (fun _ => XS.icmpYes X0.here hx rfl (pc0 := 4) (pc' := 34) rfl (hb hby d22_4) rfl (XT.ii_ne_t (by decide)) (by decide) (by decide)) ?_
  refine Go.st (fun _ => XS.iconst X0.here hx rfl (hb hby d22_34)) ?_
  show Go _ _ _ _ _ _ _ (s₁.setTop (mkF m 35 #[.val (.ref ta), .val (.ref td), .unset] [(.int 0)]))
  refine Go.retB X0 hx hlk (t := .boolean) Bd.returns (by simp) (hb hby d22_35) (by decide) (by decide) e0 ?_
  exact ⟨(by simp [fh, nar]), N0, rfl⟩
 ·have v7 : Arv Z h0 ta ka .byte (2 : Int32) [(.int pa), (.int pb)] (.int 0) := Va
  show Go _ _ _ _ _ _ _ (s₁.setTop (mkF m 0 #[.val (.ref ta), .val (.ref td), .unset] []))
  refine Go.st (fun _ => XS.aloadN X0.here hx rfl (hb hby d22_0) rfl rfl) ?_
  show Go _ _ _ _ _ _ _ (s₁.setTop (mkF m 1 #[.val (.ref ta), .val (.ref td), .unset] [(.ref ta)]))
  obtain ⟨cl8, Ar8, qc8, Sz8, Nn8, Ha8, Gf8⟩ := id v7
  refine Go.st (fun _ => X0.arraylength hx (by rw [e0]; exact Ar8.1) (State.isArrayOf_alike hZ.alike Ar8.2.1) (g := (mkF m 1 #[.val (.ref ta), .val (.ref td), .unset] [(.ref ta)])) rfl rfl (hb hby d22_1) _) ?_
  rw [len_of Sz8 Nn8]
  show Go _ _ _ _ _ _ _ (s₁.setTop (mkF m 2 #[.val (.ref ta), .val (.ref td), .unset] [(.int 2)]))
  refine Go.st (fun _ => XS.aloadN X0.here hx rfl (hb hby d22_2) rfl rfl) ?_
  show Go _ _ _ _ _ _ _ (s₁.setTop (mkF m 3 #[.val (.ref ta), .val (.ref td), .unset] [(.ref td), (.int 2)]))
  obtain ⟨cl9, Ar9, qc9, Sz9, Nn9, Ha9, Gf9⟩ := id Vd
  refine Go.st (fun _ => X0.arraylength hx (by rw [e0]; exact Ar9.1) (State.isArrayOf_alike hZ.alike Ar9.2.1) (g := (mkF m 3 #[.val (.ref ta), .val (.ref td), .unset] [(.ref td), (.int 2)])) rfl rfl (hb hby d22_3) _) ?_
  rw [len_of Sz9 Nn9]
  show Go _ _ _ _ _ _ _ (s₁.setTop (mkF m 4 #[.val (.ref ta), .val (.ref td), .unset] [(.int 6), (.int 2)]))
  refine Go.st (fun _ => XS.icmpYes X0.here hx rfl (pc0 := 4) (pc' := 34) rfl (hb hby d22_4) rfl (XT.ii_ne_t (by decide)) (by decide) (by decide)) ?_
  refine Go.st (fun _ => XS.iconst X0.here hx rfl (hb hby d22_34)) ?_
  show Go _ _ _ _ _ _ _ (s₁.setTop (mkF m 35 #[.val (.ref ta), .val (.ref td), .unset] [(.int 0)]))
  refine Go.retB X0 hx hlk (t := .boolean) Bd.returns (by simp) (hb hby d22_35) (by decide) (by decide) e0 ?_
  exact ⟨(by simp [fh, nar]), N0, rfl⟩
 ·have v10 : Arv Z h0 ta ka .byte (3 : Int32) [(.int pa), (.int pb), (.int pc)] (.int 0) := Va
  show Go _ _ _ _ _ _ _ (s₁.setTop (mkF m 0 #[.val (.ref ta), .val (.ref td), .unset] []))
  refine Go.st (fun _ => XS.aloadN X0.here hx rfl (hb hby d22_0) rfl rfl) ?_
  show Go _ _ _ _ _ _ _ (s₁.setTop (mkF m 1 #[.val (.ref ta), .val (.ref td), .unset] [(.ref ta)]))
  obtain ⟨cl11, Ar11, qc11, Sz11, Nn11, Ha11, Gf11⟩ := id v10
  refine Go.st (fun _ => X0.arraylength hx (by rw [e0]; exact Ar11.1) (State.isArrayOf_alike hZ.alike Ar11.2.1) (g := (mkF m 1 #[.val (.ref ta), .val (.ref td), .unset] [(.ref ta)])) rfl rfl (hb hby d22_1) _) ?_
  rw [len_of Sz11 Nn11]
  show Go _ _ _ _ _ _ _ (s₁.setTop (mkF m 2 #[.val (.ref ta), .val (.ref td), .unset] [(.int 3)]))
  refine Go.st (fun _ => XS.aloadN X0.here hx rfl (hb hby d22_2) rfl rfl) ?_
  show Go _ _ _ _ _ _ _ (s₁.setTop (mkF m 3 #[.val (.ref ta), .val (.ref td), .unset] [(.ref td), (.int 3)]))
  obtain ⟨cl12, Ar12, qc12, Sz12, Nn12, Ha12, Gf12⟩ := id Vd
  refine Go.st (fun _ => X0.arraylength hx (by rw [e0]; exact Ar12.1) (State.isArrayOf_alike hZ.alike Ar12.2.1) (g := (mkF m 3 #[.val (.ref ta), .val (.ref td), .unset] [(.ref td), (.int 3)])) rfl rfl (hb hby d22_3) _) ?_
  rw [len_of Sz12 Nn12]
  show Go _ _ _ _ _ _ _ (s₁.setTop (mkF m 4 #[.val (.ref ta), .val (.ref td), .unset] [(.int 6), (.int 3)]))
  refine Go.st (fun _ => XS.icmpYes X0.here hx rfl (pc0 := 4) (pc' := 34) rfl (hb hby d22_4) rfl (XT.ii_ne_t (by decide)) (by decide) (by decide)) ?_
  refine Go.st (fun _ => XS.iconst X0.here hx rfl (hb hby d22_34)) ?_
  show Go _ _ _ _ _ _ _ (s₁.setTop (mkF m 35 #[.val (.ref ta), .val (.ref td), .unset] [(.int 0)]))
  refine Go.retB X0 hx hlk (t := .boolean) Bd.returns (by simp) (hb hby d22_35) (by decide) (by decide) e0 ?_
  exact ⟨(by simp [fh, nar]), N0, rfl⟩
 ·have v13 : Arv Z h0 ta ka .byte (4 : Int32) [(.int pa), (.int pb), (.int pc), (.int pd)] (.int 0) := Va
  show Go _ _ _ _ _ _ _ (s₁.setTop (mkF m 0 #[.val (.ref ta), .val (.ref td), .unset] []))
  refine Go.st (fun _ => XS.aloadN X0.here hx rfl (hb hby d22_0) rfl rfl) ?_
  show Go _ _ _ _ _ _ _ (s₁.setTop (mkF m 1 #[.val (.ref ta), .val (.ref td), .unset] [(.ref ta)]))
  obtain ⟨cl14, Ar14, qc14, Sz14, Nn14, Ha14, Gf14⟩ := id v13
  refine Go.st (fun _ => X0.arraylength hx (by rw [e0]; exact Ar14.1) (State.isArrayOf_alike hZ.alike Ar14.2.1) (g := (mkF m 1 #[.val (.ref ta), .val (.ref td), .unset] [(.ref ta)])) rfl rfl (hb hby d22_1) _) ?_
  rw [len_of Sz14 Nn14]
  show Go _ _ _ _ _ _ _ (s₁.setTop (mkF m 2 #[.val (.ref ta), .val (.ref td), .unset] [(.int 4)]))
  refine Go.st (fun _ => XS.aloadN X0.here hx rfl (hb hby d22_2) rfl rfl) ?_
  show Go _ _ _ _ _ _ _ (s₁.setTop (mkF m 3 #[.val (.ref ta), .val (.ref td), .unset] [(.ref td), (.int 4)]))
  obtain ⟨cl15, Ar15, qc15, Sz15, Nn15, Ha15, Gf15⟩ := id Vd
  refine Go.st (fun _ => X0.arraylength hx (by rw [e0]; exact Ar15.1) (State.isArrayOf_alike hZ.alike Ar15.2.1) (g := (mkF m 3 #[.val (.ref ta), .val (.ref td), .unset] [(.ref td), (.int 4)])) rfl rfl (hb hby d22_3) _) ?_
  rw [len_of Sz15 Nn15]
  show Go _ _ _ _ _ _ _ (s₁.setTop (mkF m 4 #[.val (.ref ta), .val (.ref td), .unset] [(.int 6), (.int 4)]))
  refine Go.st (fun _ => XS.icmpYes X0.here hx rfl (pc0 := 4) (pc' := 34) rfl (hb hby d22_4) rfl (XT.ii_ne_t (by decide)) (by decide) (by decide)) ?_
  refine Go.st (fun _ => XS.iconst X0.here hx rfl (hb hby d22_34)) ?_
  show Go _ _ _ _ _ _ _ (s₁.setTop (mkF m 35 #[.val (.ref ta), .val (.ref td), .unset] [(.int 0)]))
  refine Go.retB X0 hx hlk (t := .boolean) Bd.returns (by simp) (hb hby d22_35) (by decide) (by decide) e0 ?_
  exact ⟨(by simp [fh, nar]), N0, rfl⟩
 ·have v16 : Arv Z h0 ta ka .byte (5 : Int32) [(.int pa), (.int pb), (.int pc), (.int pd), (.int pe)] (.int 0) := Va
  show Go _ _ _ _ _ _ _ (s₁.setTop (mkF m 0 #[.val (.ref ta), .val (.ref td), .unset] []))
  refine Go.st (fun _ => XS.aloadN X0.here hx rfl (hb hby d22_0) rfl rfl) ?_
  show Go _ _ _ _ _ _ _ (s₁.setTop (mkF m 1 #[.val (.ref ta), .val (.ref td), .unset] [(.ref ta)]))
  obtain ⟨cl17, Ar17, qc17, Sz17, Nn17, Ha17, Gf17⟩ := id v16
  refine Go.st (fun _ => X0.arraylength hx (by rw [e0]; exact Ar17.1) (State.isArrayOf_alike hZ.alike Ar17.2.1) (g := (mkF m 1 #[.val (.ref ta), .val (.ref td), .unset] [(.ref ta)])) rfl rfl (hb hby d22_1) _) ?_
  rw [len_of Sz17 Nn17]
  show Go _ _ _ _ _ _ _ (s₁.setTop (mkF m 2 #[.val (.ref ta), .val (.ref td), .unset] [(.int 5)]))
  refine Go.st (fun _ => XS.aloadN X0.here hx rfl (hb hby d22_2) rfl rfl) ?_
  show Go _ _ _ _ _ _ _ (s₁.setTop (mkF m 3 #[.val (.ref ta), .val (.ref td), .unset] [(.ref td), (.int 5)]))
  obtain ⟨cl18, Ar18, qc18, Sz18, Nn18, Ha18, Gf18⟩ := id Vd
  refine Go.st (fun _ => X0.arraylength hx (by rw [e0]; exact Ar18.1) (State.isArrayOf_alike hZ.alike Ar18.2.1) (g := (mkF m 3 #[.val (.ref ta), .val (.ref td), .unset] [(.ref td), (.int 5)])) rfl rfl (hb hby d22_3) _) ?_
  rw [len_of Sz18 Nn18]
  show Go _ _ _ _ _ _ _ (s₁.setTop (mkF m 4 #[.val (.ref ta), .val (.ref td), .unset] [(.int 6), (.int 5)]))
  refine Go.st (fun _ => XS.icmpYes X0.here hx rfl (pc0 := 4) (pc' := 34) rfl (hb hby d22_4) rfl (XT.ii_ne_t (by decide)) (by decide) (by decide)) ?_
  refine Go.st (fun _ => XS.iconst X0.here hx rfl (hb hby d22_34)) ?_
  show Go _ _ _ _ _ _ _ (s₁.setTop (mkF m 35 #[.val (.ref ta), .val (.ref td), .unset] [(.int 0)]))
  refine Go.retB X0 hx hlk (t := .boolean) Bd.returns (by simp) (hb hby d22_35) (by decide) (by decide) e0 ?_
  exact ⟨(by simp [fh, nar]), N0, rfl⟩
 ·have v19 : Arv Z h0 ta ka .byte (6 : Int32) [(.int pa), (.int pb), (.int pc), (.int pd), (.int pe), (.int pf)] (.int 0) := Va
  show Go _ _ _ _ _ _ _ (s₁.setTop (mkF m 0 #[.val (.ref ta), .val (.ref td), .unset] []))
  refine Go.st (fun _ => XS.aloadN X0.here hx rfl (hb hby d22_0) rfl rfl) ?_
  show Go _ _ _ _ _ _ _ (s₁.setTop (mkF m 1 #[.val (.ref ta), .val (.ref td), .unset] [(.ref ta)]))
  obtain ⟨cl20, Ar20, qc20, Sz20, Nn20, Ha20, Gf20⟩ := id v19
  refine Go.st (fun _ => X0.arraylength hx (by rw [e0]; exact Ar20.1) (State.isArrayOf_alike hZ.alike Ar20.2.1) (g := (mkF m 1 #[.val (.ref ta), .val (.ref td), .unset] [(.ref ta)])) rfl rfl (hb hby d22_1) _) ?_
  rw [len_of Sz20 Nn20]
  show Go _ _ _ _ _ _ _ (s₁.setTop (mkF m 2 #[.val (.ref ta), .val (.ref td), .unset] [(.int 6)]))
  refine Go.st (fun _ => XS.aloadN X0.here hx rfl (hb hby d22_2) rfl rfl) ?_
  show Go _ _ _ _ _ _ _ (s₁.setTop (mkF m 3 #[.val (.ref ta), .val (.ref td), .unset] [(.ref td), (.int 6)]))
  obtain ⟨cl21, Ar21, qc21, Sz21, Nn21, Ha21, Gf21⟩ := id Vd
  refine Go.st (fun _ => X0.arraylength hx (by rw [e0]; exact Ar21.1) (State.isArrayOf_alike hZ.alike Ar21.2.1) (g := (mkF m 3 #[.val (.ref ta), .val (.ref td), .unset] [(.ref td), (.int 6)])) rfl rfl (hb hby d22_3) _) ?_
  rw [len_of Sz21 Nn21]
  show Go _ _ _ _ _ _ _ (s₁.setTop (mkF m 4 #[.val (.ref ta), .val (.ref td), .unset] [(.int 6), (.int 6)]))
  refine Go.st (fun _ => XS.icmpNo X0.here hx rfl (hb hby d22_4) rfl (XT.ii_ne_f (by decide))) ?_
  refine Go.st (fun _ => XS.iconst X0.here hx rfl (hb hby d22_7)) ?_
  refine Go.st (fun _ => XS.istoreN X0.here hx rfl (hb hby d22_8) rfl (l' := #[.val (.ref ta), .val (.ref td), .val (.int 0)]) rfl) ?_
  refine Go.st (fun _ => XS.iloadN X0.here hx rfl (hb hby d22_9) rfl) ?_
  refine Go.st (fun _ => XS.aloadN X0.here hx rfl (hb hby d22_10) rfl rfl) ?_
  show Go _ _ _ _ _ _ _ (s₁.setTop (mkF m 11 #[.val (.ref ta), .val (.ref td), .val (.int 0)] [(.ref ta), (.int 0)]))
  obtain ⟨cl22, Ar22, qc22, Sz22, Nn22, Ha22, Gf22⟩ := id v19
  refine Go.st (fun _ => X0.arraylength hx (by rw [e0]; exact Ar22.1) (State.isArrayOf_alike hZ.alike Ar22.2.1) (g := (mkF m 11 #[.val (.ref ta), .val (.ref td), .val (.int 0)] [(.ref ta), (.int 0)])) rfl rfl (hb hby d22_11) _) ?_
  rw [len_of Sz22 Nn22]
  show Go _ _ _ _ _ _ _ (s₁.setTop (mkF m 12 #[.val (.ref ta), .val (.ref td), .val (.int 0)] [(.int 6), (.int 0)]))
  refine Go.st (fun _ => XS.icmpNo X0.here hx rfl (hb hby d22_12) rfl (XT.ii_ge_f (by decide))) ?_
  refine Go.st (fun _ => XS.aloadN X0.here hx rfl (hb hby d22_15) rfl rfl) ?_
  refine Go.st (fun _ => XS.iloadN X0.here hx rfl (hb hby d22_16) rfl) ?_
  show Go _ _ _ _ _ _ _ (s₁.setTop (mkF m 17 #[.val (.ref ta), .val (.ref td), .val (.int 0)] [(.int 0), (.ref ta)]))
  obtain ⟨cl23, Ar23, qc23, Sz23, Nn23, Ha23, Gf23⟩ := id v19
  refine Go.st (fun _ => X0.baloadBytes hx (j := (0 : Int32)) (v := (.int pa)) (by rw [e0]; exact Ar23.1) (State.isArrayOf_alike hZ.alike Ar23.2.1) Ar23.2.2 (inb_of Sz23 ⟨by decide, by decide⟩) (Ha23.at (inb_of Sz23 ⟨by decide, by decide⟩) rfl) (g := (mkF m 17 #[.val (.ref ta), .val (.ref td), .val (.int 0)] [(.int 0), (.ref ta)])) rfl rfl (hb hby d22_17) _) ?_
  show Go _ _ _ _ _ _ _ (s₁.setTop (mkF m 18 #[.val (.ref ta), .val (.ref td), .val (.int 0)] [(.int pa)]))
  refine Go.st (fun _ => XS.aloadN X0.here hx rfl (hb hby d22_18) rfl rfl) ?_
  refine Go.st (fun _ => XS.iloadN X0.here hx rfl (hb hby d22_19) rfl) ?_
  show Go _ _ _ _ _ _ _ (s₁.setTop (mkF m 20 #[.val (.ref ta), .val (.ref td), .val (.int 0)] [(.int 0), (.ref td), (.int pa)]))
  obtain ⟨cl24, Ar24, qc24, Sz24, Nn24, Ha24, Gf24⟩ := id Vd
  refine Go.st (fun _ => X0.baloadBytes hx (j := (0 : Int32)) (v := (.int 45)) (by rw [e0]; exact Ar24.1) (State.isArrayOf_alike hZ.alike Ar24.2.1) Ar24.2.2 (inb_of Sz24 ⟨by decide, by decide⟩) (Ha24.at (inb_of Sz24 ⟨by decide, by decide⟩) rfl) (g := (mkF m 20 #[.val (.ref ta), .val (.ref td), .val (.int 0)] [(.int 0), (.ref td), (.int pa)])) rfl rfl (hb hby d22_20) _) ?_
  show Go _ _ _ _ _ _ _ (s₁.setTop (mkF m 21 #[.val (.ref ta), .val (.ref td), .val (.int 0)] [(.int 45), (.int pa)]))
  by_cases hc25 : pa = (45 : Int32)
  ·refine Go.st (fun _ => XS.icmpYes X0.here hx rfl (pc0 := 21) (pc' := 26) rfl (hb hby d22_21) rfl (XT.ii_eq_t hc25) (by decide) (by decide)) ?_
   refine Go.st (fun _ => XS.iinc X0.here hx rfl (hb hby d22_26) rfl (l' := #[.val (.ref ta), .val (.ref td), .val (.int 1)]) rfl) ?_
   show Go _ _ _ _ _ _ _ (s₁.setTop (mkF m 29 #[.val (.ref ta), .val (.ref td), .val (.int 1)] []))
   refine Go.st (fun _ => XS.goto X0.here hx rfl (pc0 := 29) (pc' := 9) rfl (hb hby d22_29) (by decide) (by decide)) ?_
   show Go _ _ _ _ _ _ _ (s₁.setTop (mkF m 9 #[.val (.ref ta), .val (.ref td), .val (.int 1)] []))
   refine Go.st (fun _ => XS.iloadN X0.here hx rfl (hb hby d22_9) rfl) ?_
   refine Go.st (fun _ => XS.aloadN X0.here hx rfl (hb hby d22_10) rfl rfl) ?_
   show Go _ _ _ _ _ _ _ (s₁.setTop (mkF m 11 #[.val (.ref ta), .val (.ref td), .val (.int 1)] [(.ref ta), (.int 1)]))
   obtain ⟨cl26, Ar26, qc26, Sz26, Nn26, Ha26, Gf26⟩ := id v19
   refine Go.st (fun _ => X0.arraylength hx (by rw [e0]; exact Ar26.1) (State.isArrayOf_alike hZ.alike Ar26.2.1) (g := (mkF m 11 #[.val (.ref ta), .val (.ref td), .val (.int 1)] [(.ref ta), (.int 1)])) rfl rfl (hb hby d22_11) _) ?_
   rw [len_of Sz26 Nn26]
   show Go _ _ _ _ _ _ _ (s₁.setTop (mkF m 12 #[.val (.ref ta), .val (.ref td), .val (.int 1)] [(.int 6), (.int 1)]))
   refine Go.st (fun _ => XS.icmpNo X0.here hx rfl (hb hby d22_12) rfl (XT.ii_ge_f (by decide))) ?_
   refine Go.st (fun _ => XS.aloadN X0.here hx rfl (hb hby d22_15) rfl rfl) ?_
   refine Go.st (fun _ => XS.iloadN X0.here hx rfl (hb hby d22_16) rfl) ?_
   show Go _ _ _ _ _ _ _ (s₁.setTop (mkF m 17 #[.val (.ref ta), .val (.ref td), .val (.int 1)] [(.int 1), (.ref ta)]))
   obtain ⟨cl27, Ar27, qc27, Sz27, Nn27, Ha27, Gf27⟩ := id v19
   refine Go.st (fun _ => X0.baloadBytes hx (j := (1 : Int32)) (v := (.int pb)) (by rw [e0]; exact Ar27.1) (State.isArrayOf_alike hZ.alike Ar27.2.1) Ar27.2.2 (inb_of Sz27 ⟨by decide, by decide⟩) (Ha27.at (inb_of Sz27 ⟨by decide, by decide⟩) rfl) (g := (mkF m 17 #[.val (.ref ta), .val (.ref td), .val (.int 1)] [(.int 1), (.ref ta)])) rfl rfl (hb hby d22_17) _) ?_
   show Go _ _ _ _ _ _ _ (s₁.setTop (mkF m 18 #[.val (.ref ta), .val (.ref td), .val (.int 1)] [(.int pb)]))
   refine Go.st (fun _ => XS.aloadN X0.here hx rfl (hb hby d22_18) rfl rfl) ?_
   refine Go.st (fun _ => XS.iloadN X0.here hx rfl (hb hby d22_19) rfl) ?_
   show Go _ _ _ _ _ _ _ (s₁.setTop (mkF m 20 #[.val (.ref ta), .val (.ref td), .val (.int 1)] [(.int 1), (.ref td), (.int pb)]))
   obtain ⟨cl28, Ar28, qc28, Sz28, Nn28, Ha28, Gf28⟩ := id Vd
   refine Go.st (fun _ => X0.baloadBytes hx (j := (1 : Int32)) (v := (.int 45)) (by rw [e0]; exact Ar28.1) (State.isArrayOf_alike hZ.alike Ar28.2.1) Ar28.2.2 (inb_of Sz28 ⟨by decide, by decide⟩) (Ha28.at (inb_of Sz28 ⟨by decide, by decide⟩) rfl) (g := (mkF m 20 #[.val (.ref ta), .val (.ref td), .val (.int 1)] [(.int 1), (.ref td), (.int pb)])) rfl rfl (hb hby d22_20) _) ?_
   show Go _ _ _ _ _ _ _ (s₁.setTop (mkF m 21 #[.val (.ref ta), .val (.ref td), .val (.int 1)] [(.int 45), (.int pb)]))
   by_cases hc29 : pb = (45 : Int32)
   ·refine Go.st (fun _ => XS.icmpYes X0.here hx rfl (pc0 := 21) (pc' := 26) rfl (hb hby d22_21) rfl (XT.ii_eq_t hc29) (by decide) (by decide)) ?_
    refine Go.st (fun _ => XS.iinc X0.here hx rfl (hb hby d22_26) rfl (l' := #[.val (.ref ta), .val (.ref td), .val (.int 2)]) rfl) ?_
    show Go _ _ _ _ _ _ _ (s₁.setTop (mkF m 29 #[.val (.ref ta), .val (.ref td), .val (.int 2)] []))
    refine Go.st (fun _ => XS.goto X0.here hx rfl (pc0 := 29) (pc' := 9) rfl (hb hby d22_29) (by decide) (by decide)) ?_
    show Go _ _ _ _ _ _ _ (s₁.setTop (mkF m 9 #[.val (.ref ta), .val (.ref td), .val (.int 2)] []))
    refine Go.st (fun _ => XS.iloadN X0.here hx rfl (hb hby d22_9) rfl) ?_
    refine Go.st (fun _ => XS.aloadN X0.here hx rfl (hb hby d22_10) rfl rfl) ?_
    show Go _ _ _ _ _ _ _ (s₁.setTop (mkF m 11 #[.val (.ref ta), .val (.ref td), .val (.int 2)] [(.ref ta), (.int 2)]))
    obtain ⟨cl30, Ar30, qc30, Sz30, Nn30, Ha30, Gf30⟩ := id v19
    refine Go.st (fun _ => X0.arraylength hx (by rw [e0]; exact Ar30.1) (State.isArrayOf_alike hZ.alike Ar30.2.1) (g := (mkF m 11 #[.val (.ref ta), .val (.ref td), .val (.int 2)] [(.ref ta), (.int 2)])) rfl rfl (hb hby d22_11) _) ?_
    rw [len_of Sz30 Nn30]
    show Go _ _ _ _ _ _ _ (s₁.setTop (mkF m 12 #[.val (.ref ta), .val (.ref td), .val (.int 2)] [(.int 6), (.int 2)]))
    refine Go.st (fun _ => XS.icmpNo X0.here hx rfl (hb hby d22_12) rfl (XT.ii_ge_f (by decide))) ?_
    refine Go.st (fun _ => XS.aloadN X0.here hx rfl (hb hby d22_15) rfl rfl) ?_
    refine Go.st (fun _ => XS.iloadN X0.here hx rfl (hb hby d22_16) rfl) ?_
    show Go _ _ _ _ _ _ _ (s₁.setTop (mkF m 17 #[.val (.ref ta), .val (.ref td), .val (.int 2)] [(.int 2), (.ref ta)]))
    obtain ⟨cl31, Ar31, qc31, Sz31, Nn31, Ha31, Gf31⟩ := id v19
    refine Go.st (fun _ => X0.baloadBytes hx (j := (2 : Int32)) (v := (.int pc)) (by rw [e0]; exact Ar31.1) (State.isArrayOf_alike hZ.alike Ar31.2.1) Ar31.2.2 (inb_of Sz31 ⟨by decide, by decide⟩) (Ha31.at (inb_of Sz31 ⟨by decide, by decide⟩) rfl) (g := (mkF m 17 #[.val (.ref ta), .val (.ref td), .val (.int 2)] [(.int 2), (.ref ta)])) rfl rfl (hb hby d22_17) _) ?_
    show Go _ _ _ _ _ _ _ (s₁.setTop (mkF m 18 #[.val (.ref ta), .val (.ref td), .val (.int 2)] [(.int pc)]))
    refine Go.st (fun _ => XS.aloadN X0.here hx rfl (hb hby d22_18) rfl rfl) ?_
    refine Go.st (fun _ => XS.iloadN X0.here hx rfl (hb hby d22_19) rfl) ?_
    show Go _ _ _ _ _ _ _ (s₁.setTop (mkF m 20 #[.val (.ref ta), .val (.ref td), .val (.int 2)] [(.int 2), (.ref td), (.int pc)]))
    obtain ⟨cl32, Ar32, qc32, Sz32, Nn32, Ha32, Gf32⟩ := id Vd
    refine Go.st (fun _ => X0.baloadBytes hx (j := (2 : Int32)) (v := (.int 104)) (by rw [e0]; exact Ar32.1) (State.isArrayOf_alike hZ.alike Ar32.2.1) Ar32.2.2 (inb_of Sz32 ⟨by decide, by decide⟩) (Ha32.at (inb_of Sz32 ⟨by decide, by decide⟩) rfl) (g := (mkF m 20 #[.val (.ref ta), .val (.ref td), .val (.int 2)] [(.int 2), (.ref td), (.int pc)])) rfl rfl (hb hby d22_20) _) ?_
    show Go _ _ _ _ _ _ _ (s₁.setTop (mkF m 21 #[.val (.ref ta), .val (.ref td), .val (.int 2)] [(.int 104), (.int pc)]))
    by_cases hc33 : pc = (104 : Int32)
    ·refine Go.st (fun _ => XS.icmpYes X0.here hx rfl (pc0 := 21) (pc' := 26) rfl (hb hby d22_21) rfl (XT.ii_eq_t hc33) (by decide) (by decide)) ?_
     refine Go.st (fun _ => XS.iinc X0.here hx rfl (hb hby d22_26) rfl (l' := #[.val (.ref ta), .val (.ref td), .val (.int 3)]) rfl) ?_
     show Go _ _ _ _ _ _ _ (s₁.setTop (mkF m 29 #[.val (.ref ta), .val (.ref td), .val (.int 3)] []))
     refine Go.st (fun _ => XS.goto X0.here hx rfl (pc0 := 29) (pc' := 9) rfl (hb hby d22_29) (by decide) (by decide)) ?_
     show Go _ _ _ _ _ _ _ (s₁.setTop (mkF m 9 #[.val (.ref ta), .val (.ref td), .val (.int 3)] []))
     refine Go.st (fun _ => XS.iloadN X0.here hx rfl (hb hby d22_9) rfl) ?_
     refine Go.st (fun _ => XS.aloadN X0.here hx rfl (hb hby d22_10) rfl rfl) ?_
     show Go _ _ _ _ _ _ _ (s₁.setTop (mkF m 11 #[.val (.ref ta), .val (.ref td), .val (.int 3)] [(.ref ta), (.int 3)]))
     obtain ⟨cl34, Ar34, qc34, Sz34, Nn34, Ha34, Gf34⟩ := id v19
     refine Go.st (fun _ => X0.arraylength hx (by rw [e0]; exact Ar34.1) (State.isArrayOf_alike hZ.alike Ar34.2.1) (g := (mkF m 11 #[.val (.ref ta), .val (.ref td), .val (.int 3)] [(.ref ta), (.int 3)])) rfl rfl (hb hby d22_11) _) ?_
     rw [len_of Sz34 Nn34]
     show Go _ _ _ _ _ _ _ (s₁.setTop (mkF m 12 #[.val (.ref ta), .val (.ref td), .val (.int 3)] [(.int 6), (.int 3)]))
     refine Go.st (fun _ => XS.icmpNo X0.here hx rfl (hb hby d22_12) rfl (XT.ii_ge_f (by decide))) ?_
     refine Go.st (fun _ => XS.aloadN X0.here hx rfl (hb hby d22_15) rfl rfl) ?_
     refine Go.st (fun _ => XS.iloadN X0.here hx rfl (hb hby d22_16) rfl) ?_
     show Go _ _ _ _ _ _ _ (s₁.setTop (mkF m 17 #[.val (.ref ta), .val (.ref td), .val (.int 3)] [(.int 3), (.ref ta)]))
     obtain ⟨cl35, Ar35, qc35, Sz35, Nn35, Ha35, Gf35⟩ := id v19
     refine Go.st (fun _ => X0.baloadBytes hx (j := (3 : Int32)) (v := (.int pd)) (by rw [e0]; exact Ar35.1) (State.isArrayOf_alike hZ.alike Ar35.2.1) Ar35.2.2 (inb_of Sz35 ⟨by decide, by decide⟩) (Ha35.at (inb_of Sz35 ⟨by decide, by decide⟩) rfl) (g := (mkF m 17 #[.val (.ref ta), .val (.ref td), .val (.int 3)] [(.int 3), (.ref ta)])) rfl rfl (hb hby d22_17) _) ?_
     show Go _ _ _ _ _ _ _ (s₁.setTop (mkF m 18 #[.val (.ref ta), .val (.ref td), .val (.int 3)] [(.int pd)]))
     refine Go.st (fun _ => XS.aloadN X0.here hx rfl (hb hby d22_18) rfl rfl) ?_
     refine Go.st (fun _ => XS.iloadN X0.here hx rfl (hb hby d22_19) rfl) ?_
     show Go _ _ _ _ _ _ _ (s₁.setTop (mkF m 20 #[.val (.ref ta), .val (.ref td), .val (.int 3)] [(.int 3), (.ref td), (.int pd)]))
     obtain ⟨cl36, Ar36, qc36, Sz36, Nn36, Ha36, Gf36⟩ := id Vd
     refine Go.st (fun _ => X0.baloadBytes hx (j := (3 : Int32)) (v := (.int 101)) (by rw [e0]; exact Ar36.1) (State.isArrayOf_alike hZ.alike Ar36.2.1) Ar36.2.2 (inb_of Sz36 ⟨by decide, by decide⟩) (Ha36.at (inb_of Sz36 ⟨by decide, by decide⟩) rfl) (g := (mkF m 20 #[.val (.ref ta), .val (.ref td), .val (.int 3)] [(.int 3), (.ref td), (.int pd)])) rfl rfl (hb hby d22_20) _) ?_
     show Go _ _ _ _ _ _ _ (s₁.setTop (mkF m 21 #[.val (.ref ta), .val (.ref td), .val (.int 3)] [(.int 101), (.int pd)]))
     by_cases hc37 : pd = (101 : Int32)
     ·refine Go.st (fun _ => XS.icmpYes X0.here hx rfl (pc0 := 21) (pc' := 26) rfl (hb hby d22_21) rfl (XT.ii_eq_t hc37) (by decide) (by decide)) ?_
      refine Go.st (fun _ => XS.iinc X0.here hx rfl (hb hby d22_26) rfl (l' := #[.val (.ref ta), .val (.ref td), .val (.int 4)]) rfl) ?_
      show Go _ _ _ _ _ _ _ (s₁.setTop (mkF m 29 #[.val (.ref ta), .val (.ref td), .val (.int 4)] []))
      refine Go.st (fun _ => XS.goto X0.here hx rfl (pc0 := 29) (pc' := 9) rfl (hb hby d22_29) (by decide) (by decide)) ?_
      show Go _ _ _ _ _ _ _ (s₁.setTop (mkF m 9 #[.val (.ref ta), .val (.ref td), .val (.int 4)] []))
      refine Go.st (fun _ => XS.iloadN X0.here hx rfl (hb hby d22_9) rfl) ?_
      refine Go.st (fun _ => XS.aloadN X0.here hx rfl (hb hby d22_10) rfl rfl) ?_
      show Go _ _ _ _ _ _ _ (s₁.setTop (mkF m 11 #[.val (.ref ta), .val (.ref td), .val (.int 4)] [(.ref ta), (.int 4)]))
      obtain ⟨cl38, Ar38, qc38, Sz38, Nn38, Ha38, Gf38⟩ := id v19
      refine Go.st (fun _ => X0.arraylength hx (by rw [e0]; exact Ar38.1) (State.isArrayOf_alike hZ.alike Ar38.2.1) (g := (mkF m 11 #[.val (.ref ta), .val (.ref td), .val (.int 4)] [(.ref ta), (.int 4)])) rfl rfl (hb hby d22_11) _) ?_
      rw [len_of Sz38 Nn38]
      show Go _ _ _ _ _ _ _ (s₁.setTop (mkF m 12 #[.val (.ref ta), .val (.ref td), .val (.int 4)] [(.int 6), (.int 4)]))
      refine Go.st (fun _ => XS.icmpNo X0.here hx rfl (hb hby d22_12) rfl (XT.ii_ge_f (by decide))) ?_
      refine Go.st (fun _ => XS.aloadN X0.here hx rfl (hb hby d22_15) rfl rfl) ?_
      refine Go.st (fun _ => XS.iloadN X0.here hx rfl (hb hby d22_16) rfl) ?_
      show Go _ _ _ _ _ _ _ (s₁.setTop (mkF m 17 #[.val (.ref ta), .val (.ref td), .val (.int 4)] [(.int 4), (.ref ta)]))
      obtain ⟨cl39, Ar39, qc39, Sz39, Nn39, Ha39, Gf39⟩ := id v19
      refine Go.st (fun _ => X0.baloadBytes hx (j := (4 : Int32)) (v := (.int pe)) (by rw [e0]; exact Ar39.1) (State.isArrayOf_alike hZ.alike Ar39.2.1) Ar39.2.2 (inb_of Sz39 ⟨by decide, by decide⟩) (Ha39.at (inb_of Sz39 ⟨by decide, by decide⟩) rfl) (g := (mkF m 17 #[.val (.ref ta), .val (.ref td), .val (.int 4)] [(.int 4), (.ref ta)])) rfl rfl (hb hby d22_17) _) ?_
      show Go _ _ _ _ _ _ _ (s₁.setTop (mkF m 18 #[.val (.ref ta), .val (.ref td), .val (.int 4)] [(.int pe)]))
      refine Go.st (fun _ => XS.aloadN X0.here hx rfl (hb hby d22_18) rfl rfl) ?_
      refine Go.st (fun _ => XS.iloadN X0.here hx rfl (hb hby d22_19) rfl) ?_
      show Go _ _ _ _ _ _ _ (s₁.setTop (mkF m 20 #[.val (.ref ta), .val (.ref td), .val (.int 4)] [(.int 4), (.ref td), (.int pe)]))
      obtain ⟨cl40, Ar40, qc40, Sz40, Nn40, Ha40, Gf40⟩ := id Vd
      refine Go.st (fun _ => X0.baloadBytes hx (j := (4 : Int32)) (v := (.int 108)) (by rw [e0]; exact Ar40.1) (State.isArrayOf_alike hZ.alike Ar40.2.1) Ar40.2.2 (inb_of Sz40 ⟨by decide, by decide⟩) (Ha40.at (inb_of Sz40 ⟨by decide, by decide⟩) rfl) (g := (mkF m 20 #[.val (.ref ta), .val (.ref td), .val (.int 4)] [(.int 4), (.ref td), (.int pe)])) rfl rfl (hb hby d22_20) _) ?_
      show Go _ _ _ _ _ _ _ (s₁.setTop (mkF m 21 #[.val (.ref ta), .val (.ref td), .val (.int 4)] [(.int 108), (.int pe)]))
      by_cases hc41 : pe = (108 : Int32)
      ·refine Go.st (fun _ => XS.icmpYes X0.here hx rfl (pc0 := 21) (pc' := 26) rfl (hb hby d22_21) rfl (XT.ii_eq_t hc41) (by decide) (by decide)) ?_
       refine Go.st (fun _ => XS.iinc X0.here hx rfl (hb hby d22_26) rfl (l' := #[.val (.ref ta), .val (.ref td), .val (.int 5)]) rfl) ?_
       show Go _ _ _ _ _ _ _ (s₁.setTop (mkF m 29 #[.val (.ref ta), .val (.ref td), .val (.int 5)] []))
       refine Go.st (fun _ => XS.goto X0.here hx rfl (pc0 := 29) (pc' := 9) rfl (hb hby d22_29) (by decide) (by decide)) ?_
       show Go _ _ _ _ _ _ _ (s₁.setTop (mkF m 9 #[.val (.ref ta), .val (.ref td), .val (.int 5)] []))
       refine Go.st (fun _ => XS.iloadN X0.here hx rfl (hb hby d22_9) rfl) ?_
       refine Go.st (fun _ => XS.aloadN X0.here hx rfl (hb hby d22_10) rfl rfl) ?_
       show Go _ _ _ _ _ _ _ (s₁.setTop (mkF m 11 #[.val (.ref ta), .val (.ref td), .val (.int 5)] [(.ref ta), (.int 5)]))
       obtain ⟨cl42, Ar42, qc42, Sz42, Nn42, Ha42, Gf42⟩ := id v19
       refine Go.st (fun _ => X0.arraylength hx (by rw [e0]; exact Ar42.1) (State.isArrayOf_alike hZ.alike Ar42.2.1) (g := (mkF m 11 #[.val (.ref ta), .val (.ref td), .val (.int 5)] [(.ref ta), (.int 5)])) rfl rfl (hb hby d22_11) _) ?_
       rw [len_of Sz42 Nn42]
       show Go _ _ _ _ _ _ _ (s₁.setTop (mkF m 12 #[.val (.ref ta), .val (.ref td), .val (.int 5)] [(.int 6), (.int 5)]))
       refine Go.st (fun _ => XS.icmpNo X0.here hx rfl (hb hby d22_12) rfl (XT.ii_ge_f (by decide))) ?_
       refine Go.st (fun _ => XS.aloadN X0.here hx rfl (hb hby d22_15) rfl rfl) ?_
       refine Go.st (fun _ => XS.iloadN X0.here hx rfl (hb hby d22_16) rfl) ?_
       show Go _ _ _ _ _ _ _ (s₁.setTop (mkF m 17 #[.val (.ref ta), .val (.ref td), .val (.int 5)] [(.int 5), (.ref ta)]))
       obtain ⟨cl43, Ar43, qc43, Sz43, Nn43, Ha43, Gf43⟩ := id v19
       refine Go.st (fun _ => X0.baloadBytes hx (j := (5 : Int32)) (v := (.int pf)) (by rw [e0]; exact Ar43.1) (State.isArrayOf_alike hZ.alike Ar43.2.1) Ar43.2.2 (inb_of Sz43 ⟨by decide, by decide⟩) (Ha43.at (inb_of Sz43 ⟨by decide, by decide⟩) rfl) (g := (mkF m 17 #[.val (.ref ta), .val (.ref td), .val (.int 5)] [(.int 5), (.ref ta)])) rfl rfl (hb hby d22_17) _) ?_
       show Go _ _ _ _ _ _ _ (s₁.setTop (mkF m 18 #[.val (.ref ta), .val (.ref td), .val (.int 5)] [(.int pf)]))
       refine Go.st (fun _ => XS.aloadN X0.here hx rfl (hb hby d22_18) rfl rfl) ?_
       refine Go.st (fun _ => XS.iloadN X0.here hx rfl (hb hby d22_19) rfl) ?_
       show Go _ _ _ _ _ _ _ (s₁.setTop (mkF m 20 #[.val (.ref ta), .val (.ref td), .val (.int 5)] [(.int 5), (.ref td), (.int pf)]))
       obtain ⟨cl44, Ar44, qc44, Sz44, Nn44, Ha44, Gf44⟩ := id Vd
       refine Go.st (fun _ => X0.baloadBytes hx (j := (5 : Int32)) (v := (.int 112)) (by rw [e0]; exact Ar44.1) (State.isArrayOf_alike hZ.alike Ar44.2.1) Ar44.2.2 (inb_of Sz44 ⟨by decide, by decide⟩) (Ha44.at (inb_of Sz44 ⟨by decide, by decide⟩) rfl) (g := (mkF m 20 #[.val (.ref ta), .val (.ref td), .val (.int 5)] [(.int 5), (.ref td), (.int pf)])) rfl rfl (hb hby d22_20) _) ?_
       show Go _ _ _ _ _ _ _ (s₁.setTop (mkF m 21 #[.val (.ref ta), .val (.ref td), .val (.int 5)] [(.int 112), (.int pf)]))
       by_cases hc45 : pf = (112 : Int32)
       ·refine Go.st (fun _ => XS.icmpYes X0.here hx rfl (pc0 := 21) (pc' := 26) rfl (hb hby d22_21) rfl (XT.ii_eq_t hc45) (by decide) (by decide)) ?_
        refine Go.st (fun _ => XS.iinc X0.here hx rfl (hb hby d22_26) rfl (l' := #[.val (.ref ta), .val (.ref td), .val (.int 6)]) rfl) ?_
        show Go _ _ _ _ _ _ _ (s₁.setTop (mkF m 29 #[.val (.ref ta), .val (.ref td), .val (.int 6)] []))
        refine Go.st (fun _ => XS.goto X0.here hx rfl (pc0 := 29) (pc' := 9) rfl (hb hby d22_29) (by decide) (by decide)) ?_
        show Go _ _ _ _ _ _ _ (s₁.setTop (mkF m 9 #[.val (.ref ta), .val (.ref td), .val (.int 6)] []))
        refine Go.st (fun _ => XS.iloadN X0.here hx rfl (hb hby d22_9) rfl) ?_
        refine Go.st (fun _ => XS.aloadN X0.here hx rfl (hb hby d22_10) rfl rfl) ?_
        show Go _ _ _ _ _ _ _ (s₁.setTop (mkF m 11 #[.val (.ref ta), .val (.ref td), .val (.int 6)] [(.ref ta), (.int 6)]))
        obtain ⟨cl46, Ar46, qc46, Sz46, Nn46, Ha46, Gf46⟩ := id v19
        refine Go.st (fun _ => X0.arraylength hx (by rw [e0]; exact Ar46.1) (State.isArrayOf_alike hZ.alike Ar46.2.1) (g := (mkF m 11 #[.val (.ref ta), .val (.ref td), .val (.int 6)] [(.ref ta), (.int 6)])) rfl rfl (hb hby d22_11) _) ?_
        rw [len_of Sz46 Nn46]
        show Go _ _ _ _ _ _ _ (s₁.setTop (mkF m 12 #[.val (.ref ta), .val (.ref td), .val (.int 6)] [(.int 6), (.int 6)]))
        refine Go.st (fun _ => XS.icmpYes X0.here hx rfl (pc0 := 12) (pc' := 32) rfl (hb hby d22_12) rfl (XT.ii_ge_t (by decide)) (by decide) (by decide)) ?_
        refine Go.st (fun _ => XS.iconst X0.here hx rfl (hb hby d22_32)) ?_
        show Go _ _ _ _ _ _ _ (s₁.setTop (mkF m 33 #[.val (.ref ta), .val (.ref td), .val (.int 6)] [(.int 1)]))
        refine Go.retB X0 hx hlk (t := .boolean) Bd.returns (by simp) (hb hby d22_33) (by decide) (by decide) e0 ?_
        exact ⟨(by simp [fh, nar, hc25, hc29, hc33, hc37, hc41, hc45]), N0, rfl⟩
       ·refine Go.st (fun _ => XS.icmpNo X0.here hx rfl (hb hby d22_21) rfl (XT.ii_eq_f hc45)) ?_
        refine Go.st (fun _ => XS.iconst X0.here hx rfl (hb hby d22_24)) ?_
        show Go _ _ _ _ _ _ _ (s₁.setTop (mkF m 25 #[.val (.ref ta), .val (.ref td), .val (.int 5)] [(.int 0)]))
        refine Go.retB X0 hx hlk (t := .boolean) Bd.returns (by simp) (hb hby d22_25) (by decide) (by decide) e0 ?_
        exact ⟨(by simp [fh, nar, hc25, hc29, hc33, hc37, hc41, hc45]), N0, rfl⟩
      ·refine Go.st (fun _ => XS.icmpNo X0.here hx rfl (hb hby d22_21) rfl (XT.ii_eq_f hc41)) ?_
       refine Go.st (fun _ => XS.iconst X0.here hx rfl (hb hby d22_24)) ?_
       show Go _ _ _ _ _ _ _ (s₁.setTop (mkF m 25 #[.val (.ref ta), .val (.ref td), .val (.int 4)] [(.int 0)]))
       refine Go.retB X0 hx hlk (t := .boolean) Bd.returns (by simp) (hb hby d22_25) (by decide) (by decide) e0 ?_
       exact ⟨(by simp [fh, nar, hc25, hc29, hc33, hc37, hc41]), N0, rfl⟩
     ·refine Go.st (fun _ => XS.icmpNo X0.here hx rfl (hb hby d22_21) rfl (XT.ii_eq_f hc37)) ?_
      refine Go.st (fun _ => XS.iconst X0.here hx rfl (hb hby d22_24)) ?_
      show Go _ _ _ _ _ _ _ (s₁.setTop (mkF m 25 #[.val (.ref ta), .val (.ref td), .val (.int 3)] [(.int 0)]))
      refine Go.retB X0 hx hlk (t := .boolean) Bd.returns (by simp) (hb hby d22_25) (by decide) (by decide) e0 ?_
      exact ⟨(by simp [fh, nar, hc25, hc29, hc33, hc37]), N0, rfl⟩
    ·refine Go.st (fun _ => XS.icmpNo X0.here hx rfl (hb hby d22_21) rfl (XT.ii_eq_f hc33)) ?_
     refine Go.st (fun _ => XS.iconst X0.here hx rfl (hb hby d22_24)) ?_
     show Go _ _ _ _ _ _ _ (s₁.setTop (mkF m 25 #[.val (.ref ta), .val (.ref td), .val (.int 2)] [(.int 0)]))
     refine Go.retB X0 hx hlk (t := .boolean) Bd.returns (by simp) (hb hby d22_25) (by decide) (by decide) e0 ?_
     exact ⟨(by simp [fh, nar, hc25, hc29, hc33]), N0, rfl⟩
   ·refine Go.st (fun _ => XS.icmpNo X0.here hx rfl (hb hby d22_21) rfl (XT.ii_eq_f hc29)) ?_
    refine Go.st (fun _ => XS.iconst X0.here hx rfl (hb hby d22_24)) ?_
    show Go _ _ _ _ _ _ _ (s₁.setTop (mkF m 25 #[.val (.ref ta), .val (.ref td), .val (.int 1)] [(.int 0)]))
    refine Go.retB X0 hx hlk (t := .boolean) Bd.returns (by simp) (hb hby d22_25) (by decide) (by decide) e0 ?_
    exact ⟨(by simp [fh, nar, hc25, hc29]), N0, rfl⟩
  ·refine Go.st (fun _ => XS.icmpNo X0.here hx rfl (hb hby d22_21) rfl (XT.ii_eq_f hc25)) ?_
   refine Go.st (fun _ => XS.iconst X0.here hx rfl (hb hby d22_24)) ?_
   show Go _ _ _ _ _ _ _ (s₁.setTop (mkF m 25 #[.val (.ref ta), .val (.ref td), .val (.int 0)] [(.int 0)]))
   refine Go.retB X0 hx hlk (t := .boolean) Bd.returns (by simp) (hb hby d22_25) (by decide) (by decide) e0 ?_
   exact ⟨(by simp [fh, nar, hc25]), N0, rfl⟩
 ·have v47 : Arv Z h0 ta ka .byte (7 : Int32) [(.int pa), (.int pb), (.int pc), (.int pd), (.int pe), (.int pf), (.int pg)] (.int 0) := Va
  show Go _ _ _ _ _ _ _ (s₁.setTop (mkF m 0 #[.val (.ref ta), .val (.ref td), .unset] []))
  refine Go.st (fun _ => XS.aloadN X0.here hx rfl (hb hby d22_0) rfl rfl) ?_
  show Go _ _ _ _ _ _ _ (s₁.setTop (mkF m 1 #[.val (.ref ta), .val (.ref td), .unset] [(.ref ta)]))
  obtain ⟨cl48, Ar48, qc48, Sz48, Nn48, Ha48, Gf48⟩ := id v47
  refine Go.st (fun _ => X0.arraylength hx (by rw [e0]; exact Ar48.1) (State.isArrayOf_alike hZ.alike Ar48.2.1) (g := (mkF m 1 #[.val (.ref ta), .val (.ref td), .unset] [(.ref ta)])) rfl rfl (hb hby d22_1) _) ?_
  rw [len_of Sz48 Nn48]
  show Go _ _ _ _ _ _ _ (s₁.setTop (mkF m 2 #[.val (.ref ta), .val (.ref td), .unset] [(.int 7)]))
  refine Go.st (fun _ => XS.aloadN X0.here hx rfl (hb hby d22_2) rfl rfl) ?_
  show Go _ _ _ _ _ _ _ (s₁.setTop (mkF m 3 #[.val (.ref ta), .val (.ref td), .unset] [(.ref td), (.int 7)]))
  obtain ⟨cl49, Ar49, qc49, Sz49, Nn49, Ha49, Gf49⟩ := id Vd
  refine Go.st (fun _ => X0.arraylength hx (by rw [e0]; exact Ar49.1) (State.isArrayOf_alike hZ.alike Ar49.2.1) (g := (mkF m 3 #[.val (.ref ta), .val (.ref td), .unset] [(.ref td), (.int 7)])) rfl rfl (hb hby d22_3) _) ?_
  rw [len_of Sz49 Nn49]
  show Go _ _ _ _ _ _ _ (s₁.setTop (mkF m 4 #[.val (.ref ta), .val (.ref td), .unset] [(.int 6), (.int 7)]))
  refine Go.st (fun _ => XS.icmpYes X0.here hx rfl (pc0 := 4) (pc' := 34) rfl (hb hby d22_4) rfl (XT.ii_ne_t (by decide)) (by decide) (by decide)) ?_
  refine Go.st (fun _ => XS.iconst X0.here hx rfl (hb hby d22_34)) ?_
  show Go _ _ _ _ _ _ _ (s₁.setTop (mkF m 35 #[.val (.ref ta), .val (.ref td), .unset] [(.int 0)]))
  refine Go.retB X0 hx hlk (t := .boolean) Bd.returns (by simp) (hb hby d22_35) (by decide) (by decide) e0 ?_
  exact ⟨(by simp [fh, nar]), N0, rfl⟩
theorem d21_0 : decode jdk_42_method_66_code 0 = .ok (.aload_n 0, 1) := by decide +kernel
theorem d21_1 : decode jdk_42_method_66_code 1 = .ok (.aload_n 1, 1) := by decide +kernel
theorem d21_2 : decode jdk_42_method_66_code 2 = .ok (.if_acmp .ne 5, 3) := by decide +kernel
theorem d21_5 : decode jdk_42_method_66_code 5 = .ok (.iconst 1, 1) := by decide +kernel
theorem d21_6 : decode jdk_42_method_66_code 6 = .ok (.ireturn, 1) := by decide +kernel
theorem d21_7 : decode jdk_42_method_66_code 7 = .ok (.aload_n 1, 1) := by decide +kernel
theorem d21_8 : decode jdk_42_method_66_code 8 = .ok (.instanceof 10, 3) := by decide +kernel
theorem d21_11 : decode jdk_42_method_66_code 11 = .ok (.ifCond .eq 43, 3) := by decide +kernel
theorem d21_14 : decode jdk_42_method_66_code 14 = .ok (.aload_n 1, 1) := by decide +kernel
theorem d21_15 : decode jdk_42_method_66_code 15 = .ok (.checkcast 10, 3) := by decide +kernel
theorem d21_18 : decode jdk_42_method_66_code 18 = .ok (.astore_n 2, 1) := by decide +kernel
theorem d21_19 : decode jdk_42_method_66_code 19 = .ok (.getstatic 38, 3) := by decide +kernel
theorem d21_22 : decode jdk_42_method_66_code 22 = .ok (.ifCond .eq 14, 3) := by decide +kernel
theorem d21_25 : decode jdk_42_method_66_code 25 = .ok (.aload_n 0, 1) := by decide +kernel
theorem d21_26 : decode jdk_42_method_66_code 26 = .ok (.getfield 15, 3) := by decide +kernel
theorem d21_29 : decode jdk_42_method_66_code 29 = .ok (.aload_n 2, 1) := by decide +kernel
theorem d21_30 : decode jdk_42_method_66_code 30 = .ok (.getfield 15, 3) := by decide +kernel
theorem d21_33 : decode jdk_42_method_66_code 33 = .ok (.if_icmp .ne 21, 3) := by decide +kernel
theorem d21_36 : decode jdk_42_method_66_code 36 = .ok (.aload_n 0, 1) := by decide +kernel
theorem d21_37 : decode jdk_42_method_66_code 37 = .ok (.getfield 9, 3) := by decide +kernel
theorem d21_40 : decode jdk_42_method_66_code 40 = .ok (.aload_n 2, 1) := by decide +kernel
theorem d21_41 : decode jdk_42_method_66_code 41 = .ok (.getfield 9, 3) := by decide +kernel
theorem pd___B_B_Z : parseMethodDescriptor "([B[B)Z" = some ⟨[(.array .byte), (.array .byte)], some .boolean⟩ := by decide +kernel
theorem d21_44 : decode jdk_42_method_66_code 44 = .ok (.invokestatic 541, 3) := by decide +kernel
theorem d21_47 : decode jdk_42_method_66_code 47 = .ok (.ifCond .eq 7, 3) := by decide +kernel
theorem d21_54 : decode jdk_42_method_66_code 54 = .ok (.iconst 0, 1) := by decide +kernel
theorem d21_55 : decode jdk_42_method_66_code 55 = .ok (.ireturn, 1) := by decide +kernel
theorem d21_50 : decode jdk_42_method_66_code 50 = .ok (.iconst 1, 1) := by decide +kernel
theorem d21_51 : decode jdk_42_method_66_code 51 = .ok (.goto 4, 3) := by decide +kernel
theorem ef_rm21 (m : MethodId) (ob : Addr) (oc : Addr) : entryFrame m #[(.ref ob), (.ref oc)] 3 = mkF m 0 #[.val (.ref ob), .val (.ref oc), .unset] [] := by first | (simp [entryFrame, mkF, argsToLocals, Value.category]; done) | rfl
def Q21 (Z : State) (ob : Addr) (oc : Addr) (cs : Int32) (ta : Addr) (ka : ClassId) (la : List Int32) (td : Addr) (kd : ClassId) (h0 : Heap) (n0 : Nat) (v : Option Value) (h : Heap) (L : List Loc) : Prop := v = some (.int (fh la)) ∧ Fr n0 L ∧ h = h0
set_option maxRecDepth 65536 in
set_option maxHeartbeats 40000000 in
theorem rm21 (l : Launch) (Z : State) (a0 : Array Value) (hw : ∀ d ∈ tables_1, d.before a0 Z = true) (ws : List Jvm.Cond) (ob : Addr) (oc : Addr) (cs : Int32) (ta : Addr) (ka : ClassId) (la : List Int32) (td : Addr) (kd : ClassId) (h0 : Heap) (n0 : Nat) (O0 : Old Z n0 h0) (E_c : Exa Z h0 oc "java/lang/String") (Fva : Fld Z h0 ob "java/lang/String" "value" "[B" (.ref ta)) (Fca : Fld Z h0 ob "java/lang/String" "coder" "B" (.int 0)) (Fvd : Fld Z h0 oc "java/lang/String" "value" "[B" (.ref td)) (Fcd : Fld Z h0 oc "java/lang/String" "coder" "B" (.int 0)) (Va : Arv Z h0 ta ka .byte (Int32.ofNat (List.length la)) (List.map Value.int la) (.int 0)) (Vd : Arv Z h0 td kd .byte (6 : Int32) [(.int 45), (.int 45), (.int 104), (.int 101), (.int 108), (.int 112)] (.int 0)) (S_cs : Sta Z Z.heap "java/lang/String" "COMPACT_STRINGS" "Z" (.int cs)) (q_cs : ¬ cs = (0 : Int32)) (q_la : la.length ≤ 7) :
  MetFree l mn5 (head1 (Jvm.Cond.code mn5 jdk_42_method_66_code 3 (some .boolean) :: ws) ({ frames := 1, cells := 0, slots := 0, locals := 14 } : Room)) (fun ay U => ay = #[(.ref ob), (.ref oc)] ∧ Z.Warmed39 U.vm ∧ U.heap = h0) (fun _ _ _ _ _ => True) (fun _ U o U' => ∃ v L, o = .returned v ∧ Q21 Z ob oc cs ta ka la td kd h0 n0 v U'.heap L ∧ FrameEnd U o U' L ({ frames := 1, cells := 0, slots := 0, locals := 14 } : Room).cells ({ frames := 1, cells := 0, slots := 0, locals := 14 } : Room).slots) := by
 refine MetFree.of_bodySF (plainFor_of_name pn_java_lang_String) hisR ?_
 intro p e s m args below meth c s₁ Bd hml0 hP hK
 obtain ⟨rfl, hZ, hh⟩ := hP
 have hx := Bd.exec
 have hby := Bd.bytes
 have hlk : meth.locks = false := BodyLoose.notSynchronized Bd
 have hml : c.maxLocals = 3 := hml0
 have hown : s.vm.findClass "java/lang/String" = some m.cls := findClass_of_methodNamed Bd.named
 have hnm := (name_of_methodNamed Bd.named Bd.method).1
 have X0 : Stand p l e ({ frames := 1, cells := 0, slots := 0, locals := 14 } : Room) s m #[(.ref ob), (.ref oc)] below meth c s₁ [] 0 0 := Stand.of_body Bd
 have e0 : s₁.heap = h0 := by rw [← hh, Bd.state]; rfl
 have N0 := Fr.nil n0
 suffices hgo : Go p e below s 0 0 (Q21 Z ob oc cs ta ka la td kd h0 n0) (s₁.setTop (mkF m 0 #[.val (.ref ob), .val (.ref oc), .unset] [])) by
  obtain ⟨t, o, h1, h2⟩ := hgo; exact ⟨t, o, castTop (ef_rm21 m ob oc) h1, h2⟩
 show Go _ _ _ _ _ _ _ (s₁.setTop (mkF m 0 #[.val (.ref ob), .val (.ref oc), .unset] []))
 refine Go.st (fun _ => XS.aloadN X0.here hx rfl (hb hby d21_0) rfl rfl) ?_
 refine Go.st (fun _ => XS.aloadN X0.here hx rfl (hb hby d21_1) rfl rfl) ?_
 show Go _ _ _ _ _ _ _ (s₁.setTop (mkF m 2 #[.val (.ref ob), .val (.ref oc), .unset] [(.ref oc), (.ref ob)]))
 by_cases hc1 : ob = oc
 ·refine Go.st (fun _ => Jvm.RoadKit.acmp (g := (mkF m 2 #[.val (.ref ob), .val (.ref oc), .unset] [(.ref oc), (.ref ob)])) X0 hx rfl rfl rfl (pc0 := 2) (pc' := 5) (same := true) rfl (hb hby d21_2) rfl (decide_eq_true (congrArg Value.ref hc1)) (by decide) (by decide)) ?_
  show Go _ _ _ _ _ _ _ (s₁.setTop (mkF m 5 #[.val (.ref ob), .val (.ref oc), .unset] []))
  refine Go.st (fun _ => XS.iconst X0.here hx rfl (hb hby d21_5)) ?_
  show Go _ _ _ _ _ _ _ (s₁.setTop (mkF m 6 #[.val (.ref ob), .val (.ref oc), .unset] [(.int 1)]))
  refine Go.retB X0 hx hlk (t := .boolean) Bd.returns (by simp) (hb hby d21_6) (by decide) (by decide) e0 ?_
  exact ⟨(by have q := own_eqs (lb := [(45 : Int32), (45 : Int32), (104 : Int32), (101 : Int32), (108 : Int32), (112 : Int32)]) hc1 Fva Fvd Va Vd q_la (by decide); simp [fh, q, nar]), N0, rfl⟩
 ·refine Go.st (fun _ => Jvm.RoadKit.acmp (g := (mkF m 2 #[.val (.ref ob), .val (.ref oc), .unset] [(.ref oc), (.ref ob)])) X0 hx rfl rfl rfl (pc0 := 2) (pc' := 7) (same := false) rfl (hb hby d21_2) rfl (decide_eq_false fun q => hc1 (Value.ref.inj q)) (by decide) (by decide)) ?_
  show Go _ _ _ _ _ _ _ (s₁.setTop (mkF m 7 #[.val (.ref ob), .val (.ref oc), .unset] []))
  refine Go.st (fun _ => XS.aloadN X0.here hx rfl (hb hby d21_7) rfl rfl) ?_
  show Go _ _ _ _ _ _ _ (s₁.setTop (mkF m 8 #[.val (.ref ob), .val (.ref oc), .unset] [(.ref oc)]))
  obtain ⟨T2, X2, e2, st2⟩ := instY X0 hx hZ hown (wdx hw 139 rfl) e0 (Ins.self E_c) (g := (mkF m 8 #[.val (.ref ob), .val (.ref oc), .unset] [(.ref oc)])) rfl rfl (hb hby d21_8)
  refine Go.st st2 ?_
  show Go _ _ _ _ _ _ _ (T2.setTop (mkF m 11 #[.val (.ref ob), .val (.ref oc), .unset] [(.int 1)]))
  refine Go.st (fun _ => XS.ifNo X2.here hx rfl (hb hby d21_11) rfl (XT.i0_eq_f (by decide))) ?_
  refine Go.st (fun _ => XS.aloadN X2.here hx rfl (hb hby d21_14) rfl rfl) ?_
  show Go _ _ _ _ _ _ _ (T2.setTop (mkF m 15 #[.val (.ref ob), .val (.ref oc), .unset] [(.ref oc)]))
  obtain ⟨T3, X3, e3, st3⟩ := castY X2 hx hZ hown (wdx hw 139 rfl) e2 (Ins.self E_c) (g := (mkF m 15 #[.val (.ref ob), .val (.ref oc), .unset] [(.ref oc)])) rfl rfl (hb hby d21_15)
  refine Go.st st3 ?_
  show Go _ _ _ _ _ _ _ (T3.setTop (mkF m 18 #[.val (.ref ob), .val (.ref oc), .unset] [(.ref oc)]))
  refine Go.st (fun _ => XS.astoreN X3.here hx rfl (hb hby d21_18) rfl rfl (l' := #[.val (.ref ob), .val (.ref oc), .val (.ref oc)]) rfl) ?_
  obtain ⟨T4, X4, e4, st4⟩ := getS2 X3 hx hZ hown (host := "") (Or.inl (wdx hw 23 rfl)) Via.refl e3 (S_cs.ext O0.2) (g := (mkF m 19 #[.val (.ref ob), .val (.ref oc), .val (.ref oc)] [])) rfl (hb hby d21_19)
  refine Go.st st4 ?_
  show Go _ _ _ _ _ _ _ (T4.setTop (mkF m 22 #[.val (.ref ob), .val (.ref oc), .val (.ref oc)] [(.int cs)]))
  refine Go.st (fun _ => XS.ifNo X4.here hx rfl (hb hby d21_22) rfl (XT.i0_eq_f q_cs)) ?_
  refine Go.st (fun _ => XS.aloadN X4.here hx rfl (hb hby d21_25) rfl rfl) ?_
  obtain ⟨T5, X5, e5, st5⟩ := getF X4 hx hZ hown (host := "") (Or.inl (wdx hw 35 rfl)) Via.refl e4 Fca (g := (mkF m 26 #[.val (.ref ob), .val (.ref oc), .val (.ref oc)] [(.ref ob)])) rfl rfl (hb hby d21_26)
  refine Go.st st5 ?_
  refine Go.st (fun _ => XS.aloadN X5.here hx rfl (hb hby d21_29) rfl rfl) ?_
  obtain ⟨T6, X6, e6, st6⟩ := getF X5 hx hZ hown (host := "") (Or.inl (wdx hw 35 rfl)) Via.refl e5 Fcd (g := (mkF m 30 #[.val (.ref ob), .val (.ref oc), .val (.ref oc)] [(.ref oc), (.int 0)])) rfl rfl (hb hby d21_30)
  refine Go.st st6 ?_
  show Go _ _ _ _ _ _ _ (T6.setTop (mkF m 33 #[.val (.ref ob), .val (.ref oc), .val (.ref oc)] [(.int 0), (.int 0)]))
  refine Go.st (fun _ => XS.icmpNo X6.here hx rfl (hb hby d21_33) rfl (XT.ii_ne_f (by decide))) ?_
  refine Go.st (fun _ => XS.aloadN X6.here hx rfl (hb hby d21_36) rfl rfl) ?_
  obtain ⟨T7, X7, e7, st7⟩ := getF X6 hx hZ hown (host := "") (Or.inl (wdx hw 37 rfl)) Via.refl e6 Fva (g := (mkF m 37 #[.val (.ref ob), .val (.ref oc), .val (.ref oc)] [(.ref ob)])) rfl rfl (hb hby d21_37)
  refine Go.st st7 ?_
  refine Go.st (fun _ => XS.aloadN X7.here hx rfl (hb hby d21_40) rfl rfl) ?_
  obtain ⟨T8, X8, e8, st8⟩ := getF X7 hx hZ hown (host := "") (Or.inl (wdx hw 37 rfl)) Via.refl e7 Fvd (g := (mkF m 41 #[.val (.ref ob), .val (.ref oc), .val (.ref oc)] [(.ref oc), (.ref ta)])) rfl rfl (hb hby d21_41)
  refine Go.st st8 ?_
  show Go _ _ _ _ _ _ _ (T8.setTop (mkF m 44 #[.val (.ref ob), .val (.ref oc), .val (.ref oc)] [(.ref td), (.ref ta)]))
  obtain ⟨_, _, ⟨T9, L9, k9, n9⟩, -, X9, ⟨Lc9, hQ9, l9, y9, z9⟩, st9⟩ := Jvm.LawKit.callS X8 hx (y := (⟨"java/lang/StringLatin1", "equals", "([B[B)Z"⟩ : MethodName)) hown (mvT hZ (wdx hw 140 rfl)) (mvT hZ (wdx hw 141 rfl)) (mvT hZ (wdx hw 57 rfl)) (mvT hZ (wdx hw 142 rfl)) (by decide) (backOf (W := 0) (rm22 l Z a0 hw [] ta td ka la kd h0 n0 O0 Va Vd q_la) hZ (wdx hw 142 rfl) (wdx hw 57 rfl) (by decide) (by decide)) (g := (mkF m 44 #[.val (.ref ob), .val (.ref oc), .val (.ref oc)] [(.ref td), (.ref ta)])) rfl (by rw [hml]; rfl) (argsL := [(.ref ta), (.ref td)]) (rest := []) (lenOf pd___B_B_Z rfl) rfl (by show 2 * 0 + _ ≤ _; exact Nat.le_of_eq rfl) (hb hby d21_44) (fun _ _ => ⟨rfl, e8, (by exact lee rfl), (by exact lee rfl)⟩)
  dsimp only [Pt.U, Pt.locs, Pt.cells, Pt.slots] at X9 l9 y9 z9 st9 hQ9
  subst l9 y9 z9
  obtain ⟨rfl, Nq9, eq9⟩ := hQ9
  have N9 := Fr.app N0 Nq9
  refine Go.st st9 ?_
  show Go _ _ _ _ _ _ _ (T9.setTop (mkF m 47 #[.val (.ref ob), .val (.ref oc), .val (.ref oc)] [(.int (fh la))]))
  by_cases hc10 : (fh la) = (0 : Int32)
  ·refine Go.st (fun _ => XS.ifYes X9.here hx rfl (pc0 := 47) (pc' := 54) rfl (hb hby d21_47) rfl (XT.i0_eq_t hc10) (by decide) (by decide)) ?_
   refine Go.st (fun _ => XS.iconst X9.here hx rfl (hb hby d21_54)) ?_
   show Go _ _ _ _ _ _ _ (T9.setTop (mkF m 55 #[.val (.ref ob), .val (.ref oc), .val (.ref oc)] [(.int 0)]))
   refine Go.retB X9 hx hlk (t := .boolean) Bd.returns (by simp) (hb hby d21_55) (by decide) (by decide) eq9 ?_
   exact ⟨(by rw [hc10]; rfl), N9, rfl⟩
  ·refine Go.st (fun _ => XS.ifNo X9.here hx rfl (hb hby d21_47) rfl (XT.i0_eq_f hc10)) ?_
   refine Go.st (fun _ => XS.iconst X9.here hx rfl (hb hby d21_50)) ?_
   show Go _ _ _ _ _ _ _ (T9.setTop (mkF m 51 #[.val (.ref ob), .val (.ref oc), .val (.ref oc)] [(.int 1)]))
   refine Go.st (fun _ => XS.goto X9.here hx rfl (pc0 := 51) (pc' := 55) rfl (hb hby d21_51) (by decide) (by decide)) ?_
   show Go _ _ _ _ _ _ _ (T9.setTop (mkF m 55 #[.val (.ref ob), .val (.ref oc), .val (.ref oc)] [(.int 1)]))
   refine Go.retB X9 hx hlk (t := .boolean) Bd.returns (by simp) (hb hby d21_55) (by decide) (by decide) eq9 ?_
   exact ⟨(by rw [own_fh1 _ hc10]; rfl), N9, rfl⟩
theorem d20_0 : decode prog_7_method_8_code 0 = .ok (.aload_n 0, 1) := by decide +kernel
theorem d20_1 : decode prog_7_method_8_code 1 = .ok (.getfield 60, 3) := by decide +kernel
theorem d20_4 : decode prog_7_method_8_code 4 = .ok (.istore_n 1, 1) := by decide +kernel
theorem d20_5 : decode prog_7_method_8_code 5 = .ok (.iload_n 1, 1) := by decide +kernel
theorem d20_6 : decode prog_7_method_8_code 6 = .ok (.aload_n 0, 1) := by decide +kernel
theorem d20_7 : decode prog_7_method_8_code 7 = .ok (.getfield 22, 3) := by decide +kernel
theorem d20_10 : decode prog_7_method_8_code 10 = .ok (.arraylength, 1) := by decide +kernel
theorem d20_11 : decode prog_7_method_8_code 11 = .ok (.if_icmp .ge 25, 3) := by decide +kernel
theorem d20_14 : decode prog_7_method_8_code 14 = .ok (.aload_n 0, 1) := by decide +kernel
theorem d20_15 : decode prog_7_method_8_code 15 = .ok (.getfield 22, 3) := by decide +kernel
theorem d20_18 : decode prog_7_method_8_code 18 = .ok (.iload_n 1, 1) := by decide +kernel
theorem d20_19 : decode prog_7_method_8_code 19 = .ok (.aaload, 1) := by decide +kernel
theorem d20_20 : decode prog_7_method_8_code 20 = .ok (.ldc 64, 2) := by decide +kernel
theorem pd__Ljava_lang_Object__Z : parseMethodDescriptor "(Ljava/lang/Object;)Z" = some ⟨[(.object "java/lang/Object")], some .boolean⟩ := by decide +kernel
theorem d20_22 : decode prog_7_method_8_code 22 = .ok (.invokevirtual 66, 3) := by decide +kernel
theorem d20_25 : decode prog_7_method_8_code 25 = .ok (.ifCond .eq 5, 3) := by decide +kernel
theorem d20_30 : decode prog_7_method_8_code 30 = .ok (.iinc 1 1, 3) := by decide +kernel
theorem d20_33 : decode prog_7_method_8_code 33 = .ok (.goto (-28), 3) := by decide +kernel
theorem d20_36 : decode prog_7_method_8_code 36 = .ok (.iconst 0, 1) := by decide +kernel
theorem d20_37 : decode prog_7_method_8_code 37 = .ok (.ireturn, 1) := by decide +kernel
theorem d20_28 : decode prog_7_method_8_code 28 = .ok (.iconst 1, 1) := by decide +kernel
theorem d20_29 : decode prog_7_method_8_code 29 = .ok (.ireturn, 1) := by decide +kernel
theorem ef_rm20_0 (m : MethodId) (ob : Addr) : entryFrame m #[(.ref ob)] 2 = mkF m 0 #[.val (.ref ob), .unset] [] := by first | (simp [entryFrame, mkF, argsToLocals, Value.category]; done) | rfl
def Q20_0 (Z : State) (ob : Addr) (na : Addr) (kn : ClassId) (cs : Int32) (sa : Addr) (sb : Addr) (sc : Addr) (ta : Addr) (ka : ClassId) (la : List Int32) (tb : Addr) (kb : ClassId) (lb : List Int32) (tc : Addr) (kc : ClassId) (lc : List Int32) (h0 : Heap) (n0 : Nat) (v : Option Value) (h : Heap) (L : List Loc) : Prop := v = some (.int (fo3 (fh la) (fh lb) (fh lc))) ∧ Fr n0 L ∧ Keep h0 h []
set_option maxRecDepth 65536 in
set_option maxHeartbeats 40000000 in
theorem rm20_0 (l : Launch) (Z : State) (a0 : Array Value) (hw : ∀ d ∈ tables_1, d.before a0 Z = true) (ws : List Jvm.Cond) (ob : Addr) (na : Addr) (kn : ClassId) (cs : Int32) (sa : Addr) (sb : Addr) (sc : Addr) (ta : Addr) (ka : ClassId) (la : List Int32) (tb : Addr) (kb : ClassId) (lb : List Int32) (tc : Addr) (kc : ClassId) (lc : List Int32) (h0 : Heap) (n0 : Nat) (O0 : Old Z n0 h0) (Fa : Fld Z h0 ob "com/example/reportwire/reportwire/Arguments" "args" "[Ljava/lang/String;" (.ref na)) (Fn : Fld Z h0 ob "com/example/reportwire/reportwire/Arguments" "next" "I" (.int 0)) (Vn : Arv Z h0 na kn (.object "java/lang/String") (3 : Int32) [(.ref sa), (.ref sb), (.ref sc)] .null) (Ea : Exa Z h0 sa "java/lang/String") (Va : Fld Z h0 sa "java/lang/String" "value" "[B" (.ref ta)) (Ca : Fld Z h0 sa "java/lang/String" "coder" "B" (.int 0)) (Aa : Arv Z h0 ta ka .byte (Int32.ofNat (List.length la)) (List.map Value.int la) (.int 0)) (Eb : Exa Z h0 sb "java/lang/String") (Vb : Fld Z h0 sb "java/lang/String" "value" "[B" (.ref tb)) (Cb : Fld Z h0 sb "java/lang/String" "coder" "B" (.int 0)) (Ab : Arv Z h0 tb kb .byte (Int32.ofNat (List.length lb)) (List.map Value.int lb) (.int 0)) (Ec : Exa Z h0 sc "java/lang/String") (Vc : Fld Z h0 sc "java/lang/String" "value" "[B" (.ref tc)) (Cc : Fld Z h0 sc "java/lang/String" "coder" "B" (.int 0)) (Ac : Arv Z h0 tc kc .byte (Int32.ofNat (List.length lc)) (List.map Value.int lc) (.int 0)) (S_cs : Sta Z Z.heap "java/lang/String" "COMPACT_STRINGS" "Z" (.int cs)) (q_cs : ¬ cs = (0 : Int32)) (q_la : la.length ≤ 7) (q_lb : lb.length ≤ 7) (q_lc : lc.length ≤ 7) :
  MetFree l mn0 (head1 (Jvm.Cond.code mn0 prog_7_method_8_code 2 (some .boolean) :: ws) ({ frames := 2, cells := 6, slots := 84, locals := 28 } : Room)) (fun ay U => ay = #[(.ref ob)] ∧ Z.Warmed39 U.vm ∧ U.heap = h0 ∧ CHv Z EL U.vm h0 ∧ ∀ y ∈ ([] : List Addr), Safe Z EL U.vm h0 y) (fun _ _ _ _ _ => True) (fun _ U o U' => ∃ v L, o = .returned v ∧ Q20_0 Z ob na kn cs sa sb sc ta ka la tb kb lb tc kc lc h0 n0 v U'.heap L ∧ CHr Z EL U.vm U.heap U'.vm U'.heap ∧ ReturnedEndW U o U' L ({ frames := 2, cells := 6, slots := 84, locals := 28 } : Room).cells ({ frames := 2, cells := 6, slots := 84, locals := 28 } : Room).slots) := by
 refine MetFree.of_bodySF (plainFor_of_name pn_com_example_reportwire_reportwire_Arguments) hisR ?_
 intro p e s m args below meth c s₁ Bd hml0 hP hK
 obtain ⟨rfl, hZ, hh, hCH, hSf⟩ := hP
 have hx := Bd.exec
 have hby := Bd.bytes
 have hlk : meth.locks = false := BodyLoose.notSynchronized Bd
 have hml : c.maxLocals = 2 := hml0
 have hown : s.vm.findClass "com/example/reportwire/reportwire/Arguments" = some m.cls := findClass_of_methodNamed Bd.named
 have hnm := (name_of_methodNamed Bd.named Bd.method).1
 have X0 : Stand p l e ({ frames := 2, cells := 6, slots := 84, locals := 28 } : Room) (s.setVm s.vm) m #[(.ref ob)] below meth c s₁ [] 0 0 := Stand.of_body Bd
 have e0 : s₁.heap = h0 := by rw [← hh, Bd.state]; rfl
 have N0 := Fr.nil n0
 have hS0 : s.Since s.vm 0 := (State.WarmedH.refl s).since 0
 have hk0 : 0 ≤ h0.size := Nat.zero_le _
 have CH0 : CHr Z EL s.vm s.heap s.vm h0 := by rw [hh]; exact CHr.refl hCH
 have hEL : EW Z a0 EL := own_EW hw
 have hwS := own_wS hw
 suffices hgo : GoW p e below s 6 84 Z EL (Q20_0 Z ob na kn cs sa sb sc ta ka la tb kb lb tc kc lc h0 n0) (s₁.setTop (mkF m 0 #[.val (.ref ob), .unset] [])) by
  obtain ⟨t, o, h1, h2⟩ := hgo; exact ⟨t, o, castTop (ef_rm20_0 m ob) h1, h2⟩
 show GoW _ _ _ _ _ _ _ _ _ (s₁.setTop (mkF m 0 #[.val (.ref ob), .unset] []))
 refine GoW.st (fun _ => XS.aloadN X0.here hx rfl (hb hby d20_0) rfl rfl) ?_
 obtain ⟨T1, X1, e1, st1⟩ := getF X0 hx hZ hown (host := "") (Or.inl (wdx hw 131 rfl)) Via.refl e0 Fn (g := (mkF m 1 #[.val (.ref ob), .unset] [(.ref ob)])) rfl rfl (hb hby d20_1)
 refine GoW.st st1 ?_
 refine GoW.st (fun _ => XS.istoreN X1.here hx rfl (hb hby d20_4) rfl (l' := #[.val (.ref ob), .val (.int 0)]) rfl) ?_
 refine GoW.st (fun _ => XS.iloadN X1.here hx rfl (hb hby d20_5) rfl) ?_
 refine GoW.st (fun _ => XS.aloadN X1.here hx rfl (hb hby d20_6) rfl rfl) ?_
 obtain ⟨T2, X2, e2, st2⟩ := getF X1 hx hZ hown (host := "") (Or.inl (wdx hw 124 rfl)) Via.refl e1 Fa (g := (mkF m 7 #[.val (.ref ob), .val (.int 0)] [(.ref ob), (.int 0)])) rfl rfl (hb hby d20_7)
 refine GoW.st st2 ?_
 show GoW _ _ _ _ _ _ _ _ _ (T2.setTop (mkF m 10 #[.val (.ref ob), .val (.int 0)] [(.ref na), (.int 0)]))
 obtain ⟨cl3, Ar3, qc3, Sz3, Nn3, Ha3, Gf3⟩ := id Vn
 refine GoW.st (fun _ => X2.arraylength hx (by rw [e2]; exact Ar3.1) (State.isArrayOf_alike hZ.alike Ar3.2.1) (g := (mkF m 10 #[.val (.ref ob), .val (.int 0)] [(.ref na), (.int 0)])) rfl rfl (hb hby d20_10) _) ?_
 rw [len_of Sz3 Nn3]
 show GoW _ _ _ _ _ _ _ _ _ (T2.setTop (mkF m 11 #[.val (.ref ob), .val (.int 0)] [(.int 3), (.int 0)]))
 refine GoW.st (fun _ => XS.icmpNo X2.here hx rfl (hb hby d20_11) rfl (XT.ii_ge_f (by decide))) ?_
 refine GoW.st (fun _ => XS.aloadN X2.here hx rfl (hb hby d20_14) rfl rfl) ?_
 obtain ⟨T4, X4, e4, st4⟩ := getF X2 hx hZ hown (host := "") (Or.inl (wdx hw 124 rfl)) Via.refl e2 Fa (g := (mkF m 15 #[.val (.ref ob), .val (.int 0)] [(.ref ob)])) rfl rfl (hb hby d20_15)
 refine GoW.st st4 ?_
 refine GoW.st (fun _ => XS.iloadN X4.here hx rfl (hb hby d20_18) rfl) ?_
 show GoW _ _ _ _ _ _ _ _ _ (T4.setTop (mkF m 19 #[.val (.ref ob), .val (.int 0)] [(.int 0), (.ref na)]))
 obtain ⟨cl5, Ar5, qc5, Sz5, Nn5, Ha5, Gf5⟩ := id Vn
 refine GoW.st (fun _ => X4.aaload hx (j := (0 : Int32)) (v := (.ref sa)) (by rw [e4]; exact Ar5.1) (State.isArrayOf_alike hZ.alike Ar5.2.1) rfl Ar5.2.2 (inb_of Sz5 ⟨by decide, by decide⟩) (Ha5.at (inb_of Sz5 ⟨by decide, by decide⟩) rfl) (g := (mkF m 19 #[.val (.ref ob), .val (.int 0)] [(.int 0), (.ref na)])) rfl rfl (hb hby d20_19) _) ?_
 show GoW _ _ _ _ _ _ _ _ _ (T4.setTop (mkF m 20 #[.val (.ref ob), .val (.int 0)] [(.ref sa)]))
 obtain ⟨a6, T6, h6, q6, b6, kb6, X6, e6, E6, hS6, hk6, hZ6, hown6, Ea6, Fc6, Fv6, Vb6, lta6, ltb6, C6, -, hne6, st6⟩ := ldcCH X4 hx hZ hown (wdx hw 133 rfl) hwS e4 hS0 hk0 hEL (List.mem_of_getElem? (i := 1) rfl) CH0.1 (vs := [(.int 45), (.int 45), (.int 104), (.int 101), (.int 108), (.int 112)]) (z := (6 : Int32)) ⟨by decide, rfl⟩ (by decide) (by decide) (g := (mkF m 20 #[.val (.ref ob), .val (.int 0)] [(.ref sa)])) rfl (hb hby d20_20) (n := 24) (by decide) (by decide) (by decide) (by decide)
 refine GoW.st st6 ?_
 have f7 := Fa.ext E6
 have f8 := Fn.ext E6
 have f9 := Vn.ext E6
 have f10 := Ea.ext E6
 have f11 := Va.ext E6
 have f12 := Ca.ext E6
 have f13 := Aa.ext E6
 have f14 := Eb.ext E6
 have f15 := Vb.ext E6
 have f16 := Cb.ext E6
 have f17 := Ab.ext E6
 have f18 := Ec.ext E6
 have f19 := Vc.ext E6
 have f20 := Cc.ext E6
 have f21 := Ac.ext E6
 have CH6 := CH0.trans C6
 have O6 := O0.ext E6
 have K6 : Keep h0 h6 [] := (Keep.refl h0 []).ext E6
 show GoW _ _ _ _ _ _ _ _ _ (T6.setTop (mkF m 22 #[.val (.ref ob), .val (.int 0)] [(.ref a6), (.ref sa)]))
 obtain ⟨cq22, kq22, q22a, q22b, q22c⟩ := isOf hZ6 e6 f10
 obtain ⟨_, _, ⟨T22, L22, k22, n22⟩, -, X22, ⟨Lc22, hQ22, l22, y22, z22⟩, st22⟩ := X6.virtualBack hx (y := mn5) (z := mn5) hown6 (mvT hZ6 (wdx hw 134 rfl)) (mvT hZ6 (wdx hw 135 rfl)) (notFace_of_selects (args := #[]) (mvT hZ6 (wdx hw 137 rfl))) (mvT hZ6 (wdx hw 137 rfl)) (mvT hZ6 (wdx hw 136 rfl)) (by decide) (backOf (W := 0) (rm21 l Z a0 hw [] sa a6 cs ta ka la b6 kb6 h6 n0 O6 Ea6 f11 f12 Fv6 Fc6 f13 Vb6 S_cs q_cs q_la) hZ6 (wdx hw 138 rfl) (wdx hw 11 rfl) (by decide) (by decide)) q22a q22c (g := (mkF m 22 #[.val (.ref ob), .val (.int 0)] [(.ref a6), (.ref sa)])) rfl (by rw [hml]; rfl) (Steps.refl _) (argsL := [(.ref a6)]) (rest := []) (lenOf pd__Ljava_lang_Object__Z rfl) rfl (by show 2 * 0 + _ ≤ _; exact Nat.le_of_eq rfl) (hb hby d20_22) (fun _ _ => ⟨rfl, e6, (by exact lee rfl), (by exact lee rfl)⟩)
 dsimp only [Pt.U, Pt.locs, Pt.cells, Pt.slots] at X22 l22 y22 z22 st22 hQ22
 subst l22 y22 z22
 obtain ⟨rfl, Nq22, eq22⟩ := hQ22
 have N22 := Fr.app N0 Nq22
 refine GoW.tr st22 ?_
 show GoW _ _ _ _ _ _ _ _ _ (T22.setTop (mkF m 25 #[.val (.ref ob), .val (.int 0)] [(.int (fh la))]))
 by_cases hc23 : (fh la) = (0 : Int32)
 ·refine GoW.st (fun _ => XS.ifYes X22.here hx rfl (pc0 := 25) (pc' := 30) rfl (hb hby d20_25) rfl (XT.i0_eq_t hc23) (by decide) (by decide)) ?_
  refine GoW.st (fun _ => XS.iinc X22.here hx rfl (hb hby d20_30) rfl (l' := #[.val (.ref ob), .val (.int 1)]) rfl) ?_
  show GoW _ _ _ _ _ _ _ _ _ (T22.setTop (mkF m 33 #[.val (.ref ob), .val (.int 1)] []))
  refine GoW.st (fun _ => XS.goto X22.here hx rfl (pc0 := 33) (pc' := 5) rfl (hb hby d20_33) (by decide) (by decide)) ?_
  show GoW _ _ _ _ _ _ _ _ _ (T22.setTop (mkF m 5 #[.val (.ref ob), .val (.int 1)] []))
  refine GoW.st (fun _ => XS.iloadN X22.here hx rfl (hb hby d20_5) rfl) ?_
  refine GoW.st (fun _ => XS.aloadN X22.here hx rfl (hb hby d20_6) rfl rfl) ?_
  obtain ⟨T24, X24, e24, st24⟩ := getF X22 hx hZ6 hown6 (host := "") (Or.inl (wdx hw 124 rfl)) Via.refl eq22 f7 (g := (mkF m 7 #[.val (.ref ob), .val (.int 1)] [(.ref ob), (.int 1)])) rfl rfl (hb hby d20_7)
  refine GoW.st st24 ?_
  show GoW _ _ _ _ _ _ _ _ _ (T24.setTop (mkF m 10 #[.val (.ref ob), .val (.int 1)] [(.ref na), (.int 1)]))
  obtain ⟨cl25, Ar25, qc25, Sz25, Nn25, Ha25, Gf25⟩ := id f9
  refine GoW.st (fun _ => X24.arraylength hx (by rw [e24]; exact Ar25.1) (State.isArrayOf_alike hZ6.alike Ar25.2.1) (g := (mkF m 10 #[.val (.ref ob), .val (.int 1)] [(.ref na), (.int 1)])) rfl rfl (hb hby d20_10) _) ?_
  rw [len_of Sz25 Nn25]
  show GoW _ _ _ _ _ _ _ _ _ (T24.setTop (mkF m 11 #[.val (.ref ob), .val (.int 1)] [(.int 3), (.int 1)]))
  refine GoW.st (fun _ => XS.icmpNo X24.here hx rfl (hb hby d20_11) rfl (XT.ii_ge_f (by decide))) ?_
  refine GoW.st (fun _ => XS.aloadN X24.here hx rfl (hb hby d20_14) rfl rfl) ?_
  obtain ⟨T26, X26, e26, st26⟩ := getF X24 hx hZ6 hown6 (host := "") (Or.inl (wdx hw 124 rfl)) Via.refl e24 f7 (g := (mkF m 15 #[.val (.ref ob), .val (.int 1)] [(.ref ob)])) rfl rfl (hb hby d20_15)
  refine GoW.st st26 ?_
  refine GoW.st (fun _ => XS.iloadN X26.here hx rfl (hb hby d20_18) rfl) ?_
  show GoW _ _ _ _ _ _ _ _ _ (T26.setTop (mkF m 19 #[.val (.ref ob), .val (.int 1)] [(.int 1), (.ref na)]))
  obtain ⟨cl27, Ar27, qc27, Sz27, Nn27, Ha27, Gf27⟩ := id f9
  refine GoW.st (fun _ => X26.aaload hx (j := (1 : Int32)) (v := (.ref sb)) (by rw [e26]; exact Ar27.1) (State.isArrayOf_alike hZ6.alike Ar27.2.1) rfl Ar27.2.2 (inb_of Sz27 ⟨by decide, by decide⟩) (Ha27.at (inb_of Sz27 ⟨by decide, by decide⟩) rfl) (g := (mkF m 19 #[.val (.ref ob), .val (.int 1)] [(.int 1), (.ref na)])) rfl rfl (hb hby d20_19) _) ?_
  show GoW _ _ _ _ _ _ _ _ _ (T26.setTop (mkF m 20 #[.val (.ref ob), .val (.int 1)] [(.ref sb)]))
  obtain ⟨a28, T28, h28, q28, b28, kb28, X28, e28, E28, hS28, hk28, hZ28, hown28, Ea28, Fc28, Fv28, Vb28, lta28, ltb28, C28, -, hne28, st28⟩ := ldcCH X26 hx hZ6 hown6 (wdx hw 133 rfl) hwS e26 hS6 hk6 hEL (List.mem_of_getElem? (i := 1) rfl) CH6.1 (vs := [(.int 45), (.int 45), (.int 104), (.int 101), (.int 108), (.int 112)]) (z := (6 : Int32)) ⟨by decide, rfl⟩ (by decide) (by decide) (g := (mkF m 20 #[.val (.ref ob), .val (.int 1)] [(.ref sb)])) rfl (hb hby d20_20) (n := 24) (by decide) (by decide) (by decide) (by decide)
  refine GoW.st st28 ?_
  have f29 := f7.ext E28
  have f30 := f8.ext E28
  have f31 := f9.ext E28
  have f32 := f10.ext E28
  have f33 := f11.ext E28
  have f34 := f12.ext E28
  have f35 := f13.ext E28
  have f36 := f14.ext E28
  have f37 := f15.ext E28
  have f38 := f16.ext E28
  have f39 := f17.ext E28
  have f40 := f18.ext E28
  have f41 := f19.ext E28
  have f42 := f20.ext E28
  have f43 := f21.ext E28
  have f44 := Ea6.ext E28
  have f45 := Fc6.ext E28
  have f46 := Fv6.ext E28
  have f47 := Vb6.ext E28
  have CH28 := CH6.trans C28
  have O28 := O6.ext E28
  have K28 : Keep h0 h28 [] := K6.ext E28
  show GoW _ _ _ _ _ _ _ _ _ (T28.setTop (mkF m 22 #[.val (.ref ob), .val (.int 1)] [(.ref a28), (.ref sb)]))
  obtain ⟨cq48, kq48, q48a, q48b, q48c⟩ := isOf hZ28 e28 f36
  obtain ⟨_, _, ⟨T48, L48, k48, n48⟩, -, X48, ⟨Lc48, hQ48, l48, y48, z48⟩, st48⟩ := X28.virtualBack hx (y := mn5) (z := mn5) hown28 (mvT hZ28 (wdx hw 134 rfl)) (mvT hZ28 (wdx hw 135 rfl)) (notFace_of_selects (args := #[]) (mvT hZ28 (wdx hw 137 rfl))) (mvT hZ28 (wdx hw 137 rfl)) (mvT hZ28 (wdx hw 136 rfl)) (by decide) (backOf (W := 0) (rm21 l Z a0 hw [] sb a28 cs tb kb lb b28 kb28 h28 n0 O28 Ea28 f37 f38 Fv28 Fc28 f39 Vb28 S_cs q_cs q_lb) hZ28 (wdx hw 138 rfl) (wdx hw 11 rfl) (by decide) (by decide)) q48a q48c (g := (mkF m 22 #[.val (.ref ob), .val (.int 1)] [(.ref a28), (.ref sb)])) rfl (by rw [hml]; rfl) (Steps.refl _) (argsL := [(.ref a28)]) (rest := []) (lenOf pd__Ljava_lang_Object__Z rfl) rfl (by show 2 * 0 + _ ≤ _; exact Nat.le_of_eq rfl) (hb hby d20_22) (fun _ _ => ⟨rfl, e28, (by exact lee rfl), (by exact lee rfl)⟩)
  dsimp only [Pt.U, Pt.locs, Pt.cells, Pt.slots] at X48 l48 y48 z48 st48 hQ48
  subst l48 y48 z48
  obtain ⟨rfl, Nq48, eq48⟩ := hQ48
  have N48 := Fr.app N22 Nq48
  refine GoW.tr st48 ?_
  show GoW _ _ _ _ _ _ _ _ _ (T48.setTop (mkF m 25 #[.val (.ref ob), .val (.int 1)] [(.int (fh lb))]))
  by_cases hc49 : (fh lb) = (0 : Int32)
  ·refine GoW.st (fun _ => XS.ifYes X48.here hx rfl (pc0 := 25) (pc' := 30) rfl (hb hby d20_25) rfl (XT.i0_eq_t hc49) (by decide) (by decide)) ?_
   refine GoW.st (fun _ => XS.iinc X48.here hx rfl (hb hby d20_30) rfl (l' := #[.val (.ref ob), .val (.int 2)]) rfl) ?_
   show GoW _ _ _ _ _ _ _ _ _ (T48.setTop (mkF m 33 #[.val (.ref ob), .val (.int 2)] []))
   refine GoW.st (fun _ => XS.goto X48.here hx rfl (pc0 := 33) (pc' := 5) rfl (hb hby d20_33) (by decide) (by decide)) ?_
   show GoW _ _ _ _ _ _ _ _ _ (T48.setTop (mkF m 5 #[.val (.ref ob), .val (.int 2)] []))
   refine GoW.st (fun _ => XS.iloadN X48.here hx rfl (hb hby d20_5) rfl) ?_
   refine GoW.st (fun _ => XS.aloadN X48.here hx rfl (hb hby d20_6) rfl rfl) ?_
   obtain ⟨T50, X50, e50, st50⟩ := getF X48 hx hZ28 hown28 (host := "") (Or.inl (wdx hw 124 rfl)) Via.refl eq48 f29 (g := (mkF m 7 #[.val (.ref ob), .val (.int 2)] [(.ref ob), (.int 2)])) rfl rfl (hb hby d20_7)
   refine GoW.st st50 ?_
   show GoW _ _ _ _ _ _ _ _ _ (T50.setTop (mkF m 10 #[.val (.ref ob), .val (.int 2)] [(.ref na), (.int 2)]))
   obtain ⟨cl51, Ar51, qc51, Sz51, Nn51, Ha51, Gf51⟩ := id f31
   refine GoW.st (fun _ => X50.arraylength hx (by rw [e50]; exact Ar51.1) (State.isArrayOf_alike hZ28.alike Ar51.2.1) (g := (mkF m 10 #[.val (.ref ob), .val (.int 2)] [(.ref na), (.int 2)])) rfl rfl (hb hby d20_10) _) ?_
   rw [len_of Sz51 Nn51]
   show GoW _ _ _ _ _ _ _ _ _ (T50.setTop (mkF m 11 #[.val (.ref ob), .val (.int 2)] [(.int 3), (.int 2)]))
   refine GoW.st (fun _ => XS.icmpNo X50.here hx rfl (hb hby d20_11) rfl (XT.ii_ge_f (by decide))) ?_
   refine GoW.st (fun _ => XS.aloadN X50.here hx rfl (hb hby d20_14) rfl rfl) ?_
   obtain ⟨T52, X52, e52, st52⟩ := getF X50 hx hZ28 hown28 (host := "") (Or.inl (wdx hw 124 rfl)) Via.refl e50 f29 (g := (mkF m 15 #[.val (.ref ob), .val (.int 2)] [(.ref ob)])) rfl rfl (hb hby d20_15)
   refine GoW.st st52 ?_
   refine GoW.st (fun _ => XS.iloadN X52.here hx rfl (hb hby d20_18) rfl) ?_
   show GoW _ _ _ _ _ _ _ _ _ (T52.setTop (mkF m 19 #[.val (.ref ob), .val (.int 2)] [(.int 2), (.ref na)]))
   obtain ⟨cl53, Ar53, qc53, Sz53, Nn53, Ha53, Gf53⟩ := id f31
   refine GoW.st (fun _ => X52.aaload hx (j := (2 : Int32)) (v := (.ref sc)) (by rw [e52]; exact Ar53.1) (State.isArrayOf_alike hZ28.alike Ar53.2.1) rfl Ar53.2.2 (inb_of Sz53 ⟨by decide, by decide⟩) (Ha53.at (inb_of Sz53 ⟨by decide, by decide⟩) rfl) (g := (mkF m 19 #[.val (.ref ob), .val (.int 2)] [(.int 2), (.ref na)])) rfl rfl (hb hby d20_19) _) ?_
   show GoW _ _ _ _ _ _ _ _ _ (T52.setTop (mkF m 20 #[.val (.ref ob), .val (.int 2)] [(.ref sc)]))
   obtain ⟨a54, T54, h54, q54, b54, kb54, X54, e54, E54, hS54, hk54, hZ54, hown54, Ea54, Fc54, Fv54, Vb54, lta54, ltb54, C54, -, hne54, st54⟩ := ldcCH X52 hx hZ28 hown28 (wdx hw 133 rfl) hwS e52 hS28 hk28 hEL (List.mem_of_getElem? (i := 1) rfl) CH28.1 (vs := [(.int 45), (.int 45), (.int 104), (.int 101), (.int 108), (.int 112)]) (z := (6 : Int32)) ⟨by decide, rfl⟩ (by decide) (by decide) (g := (mkF m 20 #[.val (.ref ob), .val (.int 2)] [(.ref sc)])) rfl (hb hby d20_20) (n := 24) (by decide) (by decide) (by decide) (by decide)
   refine GoW.st st54 ?_
   have f55 := f29.ext E54
   have f56 := f30.ext E54
   have f57 := f31.ext E54
   have f58 := f32.ext E54
   have f59 := f33.ext E54
   have f60 := f34.ext E54
   have f61 := f35.ext E54
   have f62 := f36.ext E54
   have f63 := f37.ext E54
   have f64 := f38.ext E54
   have f65 := f39.ext E54
   have f66 := f40.ext E54
   have f67 := f41.ext E54
   have f68 := f42.ext E54
   have f69 := f43.ext E54
   have f70 := f44.ext E54
   have f71 := f45.ext E54
   have f72 := f46.ext E54
   have f73 := f47.ext E54
   have f74 := Ea28.ext E54
   have f75 := Fc28.ext E54
   have f76 := Fv28.ext E54
   have f77 := Vb28.ext E54
   have CH54 := CH28.trans C54
   have O54 := O28.ext E54
   have K54 : Keep h0 h54 [] := K28.ext E54
   show GoW _ _ _ _ _ _ _ _ _ (T54.setTop (mkF m 22 #[.val (.ref ob), .val (.int 2)] [(.ref a54), (.ref sc)]))
   obtain ⟨cq78, kq78, q78a, q78b, q78c⟩ := isOf hZ54 e54 f66
   obtain ⟨_, _, ⟨T78, L78, k78, n78⟩, -, X78, ⟨Lc78, hQ78, l78, y78, z78⟩, st78⟩ := X54.virtualBack hx (y := mn5) (z := mn5) hown54 (mvT hZ54 (wdx hw 134 rfl)) (mvT hZ54 (wdx hw 135 rfl)) (notFace_of_selects (args := #[]) (mvT hZ54 (wdx hw 137 rfl))) (mvT hZ54 (wdx hw 137 rfl)) (mvT hZ54 (wdx hw 136 rfl)) (by decide) (backOf (W := 0) (rm21 l Z a0 hw [] sc a54 cs tc kc lc b54 kb54 h54 n0 O54 Ea54 f67 f68 Fv54 Fc54 f69 Vb54 S_cs q_cs q_lc) hZ54 (wdx hw 138 rfl) (wdx hw 11 rfl) (by decide) (by decide)) q78a q78c (g := (mkF m 22 #[.val (.ref ob), .val (.int 2)] [(.ref a54), (.ref sc)])) rfl (by rw [hml]; rfl) (Steps.refl _) (argsL := [(.ref a54)]) (rest := []) (lenOf pd__Ljava_lang_Object__Z rfl) rfl (by show 2 * 0 + _ ≤ _; exact Nat.le_of_eq rfl) (hb hby d20_22) (fun _ _ => ⟨rfl, e54, (by exact lee rfl), (by exact lee rfl)⟩)
   dsimp only [Pt.U, Pt.locs, Pt.cells, Pt.slots] at X78 l78 y78 z78 st78 hQ78
   subst l78 y78 z78
   obtain ⟨rfl, Nq78, eq78⟩ := hQ78
   have N78 := Fr.app N48 Nq78
   refine GoW.tr st78 ?_
   show GoW _ _ _ _ _ _ _ _ _ (T78.setTop (mkF m 25 #[.val (.ref ob), .val (.int 2)] [(.int (fh lc))]))
   by_cases hc79 : (fh lc) = (0 : Int32)
   ·refine GoW.st (fun _ => XS.ifYes X78.here hx rfl (pc0 := 25) (pc' := 30) rfl (hb hby d20_25) rfl (XT.i0_eq_t hc79) (by decide) (by decide)) ?_
    refine GoW.st (fun _ => XS.iinc X78.here hx rfl (hb hby d20_30) rfl (l' := #[.val (.ref ob), .val (.int 3)]) rfl) ?_
    show GoW _ _ _ _ _ _ _ _ _ (T78.setTop (mkF m 33 #[.val (.ref ob), .val (.int 3)] []))
    refine GoW.st (fun _ => XS.goto X78.here hx rfl (pc0 := 33) (pc' := 5) rfl (hb hby d20_33) (by decide) (by decide)) ?_
    show GoW _ _ _ _ _ _ _ _ _ (T78.setTop (mkF m 5 #[.val (.ref ob), .val (.int 3)] []))
    refine GoW.st (fun _ => XS.iloadN X78.here hx rfl (hb hby d20_5) rfl) ?_
    refine GoW.st (fun _ => XS.aloadN X78.here hx rfl (hb hby d20_6) rfl rfl) ?_
    obtain ⟨T80, X80, e80, st80⟩ := getF X78 hx hZ54 hown54 (host := "") (Or.inl (wdx hw 124 rfl)) Via.refl eq78 f55 (g := (mkF m 7 #[.val (.ref ob), .val (.int 3)] [(.ref ob), (.int 3)])) rfl rfl (hb hby d20_7)
    refine GoW.st st80 ?_
    show GoW _ _ _ _ _ _ _ _ _ (T80.setTop (mkF m 10 #[.val (.ref ob), .val (.int 3)] [(.ref na), (.int 3)]))
    obtain ⟨cl81, Ar81, qc81, Sz81, Nn81, Ha81, Gf81⟩ := id f57
    refine GoW.st (fun _ => X80.arraylength hx (by rw [e80]; exact Ar81.1) (State.isArrayOf_alike hZ54.alike Ar81.2.1) (g := (mkF m 10 #[.val (.ref ob), .val (.int 3)] [(.ref na), (.int 3)])) rfl rfl (hb hby d20_10) _) ?_
    rw [len_of Sz81 Nn81]
    show GoW _ _ _ _ _ _ _ _ _ (T80.setTop (mkF m 11 #[.val (.ref ob), .val (.int 3)] [(.int 3), (.int 3)]))
    refine GoW.st (fun _ => XS.icmpYes X80.here hx rfl (pc0 := 11) (pc' := 36) rfl (hb hby d20_11) rfl (XT.ii_ge_t (by decide)) (by decide) (by decide)) ?_
    refine GoW.st (fun _ => XS.iconst X80.here hx rfl (hb hby d20_36)) ?_
    show GoW _ _ _ _ _ _ _ _ _ (T80.setTop (mkF m 37 #[.val (.ref ob), .val (.int 3)] [(.int 0)]))
    refine GoW.retB X80 hx hlk hS54 (by rw [e80]; exact hk54) hZ54 hEL CH54 (t := .boolean) Bd.returns (by simp) (hb hby d20_37) (by decide) (by decide) e80 ?_
    exact ⟨(by simp [fo3, nar, hc23, hc49, hc79]), N78, K54⟩
   ·refine GoW.st (fun _ => XS.ifNo X78.here hx rfl (hb hby d20_25) rfl (XT.i0_eq_f hc79)) ?_
    refine GoW.st (fun _ => XS.iconst X78.here hx rfl (hb hby d20_28)) ?_
    show GoW _ _ _ _ _ _ _ _ _ (T78.setTop (mkF m 29 #[.val (.ref ob), .val (.int 2)] [(.int 1)]))
    refine GoW.retB X78 hx hlk hS54 (by rw [eq78]; exact hk54) hZ54 hEL CH54 (t := .boolean) Bd.returns (by simp) (hb hby d20_29) (by decide) (by decide) eq78 ?_
    exact ⟨(by simp [fo3, nar, hc23, hc49, hc79]), N78, K54⟩
  ·refine GoW.st (fun _ => XS.ifNo X48.here hx rfl (hb hby d20_25) rfl (XT.i0_eq_f hc49)) ?_
   refine GoW.st (fun _ => XS.iconst X48.here hx rfl (hb hby d20_28)) ?_
   show GoW _ _ _ _ _ _ _ _ _ (T48.setTop (mkF m 29 #[.val (.ref ob), .val (.int 1)] [(.int 1)]))
   refine GoW.retB X48 hx hlk hS28 (by rw [eq48]; exact hk28) hZ28 hEL CH28 (t := .boolean) Bd.returns (by simp) (hb hby d20_29) (by decide) (by decide) eq48 ?_
   exact ⟨(by simp [fo3, nar, hc23, hc49]), N48, K28⟩
 ·refine GoW.st (fun _ => XS.ifNo X22.here hx rfl (hb hby d20_25) rfl (XT.i0_eq_f hc23)) ?_
  refine GoW.st (fun _ => XS.iconst X22.here hx rfl (hb hby d20_28)) ?_
  show GoW _ _ _ _ _ _ _ _ _ (T22.setTop (mkF m 29 #[.val (.ref ob), .val (.int 0)] [(.int 1)]))
  refine GoW.retB X22 hx hlk hS6 (by rw [eq22]; exact hk6) hZ6 hEL CH6 (t := .boolean) Bd.returns (by simp) (hb hby d20_29) (by decide) (by decide) eq22 ?_
  exact ⟨(by simp [fo3, nar, hc23]), N22, K6⟩
theorem ef_rm20_1 (m : MethodId) (ob : Addr) : entryFrame m #[(.ref ob)] 2 = mkF m 0 #[.val (.ref ob), .unset] [] := by first | (simp [entryFrame, mkF, argsToLocals, Value.category]; done) | rfl
def Q20_1 (Z : State) (ob : Addr) (na : Addr) (kn : ClassId) (cs : Int32) (sa : Addr) (sb : Addr) (sc : Addr) (ta : Addr) (ka : ClassId) (la : List Int32) (tb : Addr) (kb : ClassId) (lb : List Int32) (tc : Addr) (kc : ClassId) (lc : List Int32) (h0 : Heap) (n0 : Nat) (v : Option Value) (h : Heap) (L : List Loc) : Prop := v = some (.int (fo3 (0 : Int32) (fh lb) (fh lc))) ∧ Fr n0 L ∧ Keep h0 h []
set_option maxRecDepth 65536 in
set_option maxHeartbeats 40000000 in
theorem rm20_1 (l : Launch) (Z : State) (a0 : Array Value) (hw : ∀ d ∈ tables_1, d.before a0 Z = true) (ws : List Jvm.Cond) (ob : Addr) (na : Addr) (kn : ClassId) (cs : Int32) (sa : Addr) (sb : Addr) (sc : Addr) (ta : Addr) (ka : ClassId) (la : List Int32) (tb : Addr) (kb : ClassId) (lb : List Int32) (tc : Addr) (kc : ClassId) (lc : List Int32) (h0 : Heap) (n0 : Nat) (O0 : Old Z n0 h0) (Fa : Fld Z h0 ob "com/example/reportwire/reportwire/Arguments" "args" "[Ljava/lang/String;" (.ref na)) (Fn : Fld Z h0 ob "com/example/reportwire/reportwire/Arguments" "next" "I" (.int 1)) (Vn : Arv Z h0 na kn (.object "java/lang/String") (3 : Int32) [(.ref sa), (.ref sb), (.ref sc)] .null) (Ea : Exa Z h0 sa "java/lang/String") (Va : Fld Z h0 sa "java/lang/String" "value" "[B" (.ref ta)) (Ca : Fld Z h0 sa "java/lang/String" "coder" "B" (.int 0)) (Aa : Arv Z h0 ta ka .byte (Int32.ofNat (List.length la)) (List.map Value.int la) (.int 0)) (Eb : Exa Z h0 sb "java/lang/String") (Vb : Fld Z h0 sb "java/lang/String" "value" "[B" (.ref tb)) (Cb : Fld Z h0 sb "java/lang/String" "coder" "B" (.int 0)) (Ab : Arv Z h0 tb kb .byte (Int32.ofNat (List.length lb)) (List.map Value.int lb) (.int 0)) (Ec : Exa Z h0 sc "java/lang/String") (Vc : Fld Z h0 sc "java/lang/String" "value" "[B" (.ref tc)) (Cc : Fld Z h0 sc "java/lang/String" "coder" "B" (.int 0)) (Ac : Arv Z h0 tc kc .byte (Int32.ofNat (List.length lc)) (List.map Value.int lc) (.int 0)) (S_cs : Sta Z Z.heap "java/lang/String" "COMPACT_STRINGS" "Z" (.int cs)) (q_cs : ¬ cs = (0 : Int32)) (q_la : la.length ≤ 7) (q_lb : lb.length ≤ 7) (q_lc : lc.length ≤ 7) :
  MetFree l mn0 (head1 (Jvm.Cond.code mn0 prog_7_method_8_code 2 (some .boolean) :: ws) ({ frames := 2, cells := 4, slots := 56, locals := 28 } : Room)) (fun ay U => ay = #[(.ref ob)] ∧ Z.Warmed39 U.vm ∧ U.heap = h0 ∧ CHv Z EL U.vm h0 ∧ ∀ y ∈ ([] : List Addr), Safe Z EL U.vm h0 y) (fun _ _ _ _ _ => True) (fun _ U o U' => ∃ v L, o = .returned v ∧ Q20_1 Z ob na kn cs sa sb sc ta ka la tb kb lb tc kc lc h0 n0 v U'.heap L ∧ CHr Z EL U.vm U.heap U'.vm U'.heap ∧ ReturnedEndW U o U' L ({ frames := 2, cells := 4, slots := 56, locals := 28 } : Room).cells ({ frames := 2, cells := 4, slots := 56, locals := 28 } : Room).slots) := by
 refine MetFree.of_bodySF (plainFor_of_name pn_com_example_reportwire_reportwire_Arguments) hisR ?_
 intro p e s m args below meth c s₁ Bd hml0 hP hK
 obtain ⟨rfl, hZ, hh, hCH, hSf⟩ := hP
 have hx := Bd.exec
 have hby := Bd.bytes
 have hlk : meth.locks = false := BodyLoose.notSynchronized Bd
 have hml : c.maxLocals = 2 := hml0
 have hown : s.vm.findClass "com/example/reportwire/reportwire/Arguments" = some m.cls := findClass_of_methodNamed Bd.named
 have hnm := (name_of_methodNamed Bd.named Bd.method).1
 have X0 : Stand p l e ({ frames := 2, cells := 4, slots := 56, locals := 28 } : Room) (s.setVm s.vm) m #[(.ref ob)] below meth c s₁ [] 0 0 := Stand.of_body Bd
 have e0 : s₁.heap = h0 := by rw [← hh, Bd.state]; rfl
 have N0 := Fr.nil n0
 have hS0 : s.Since s.vm 0 := (State.WarmedH.refl s).since 0
 have hk0 : 0 ≤ h0.size := Nat.zero_le _
 have CH0 : CHr Z EL s.vm s.heap s.vm h0 := by rw [hh]; exact CHr.refl hCH
 have hEL : EW Z a0 EL := own_EW hw
 have hwS := own_wS hw
 suffices hgo : GoW p e below s 4 56 Z EL (Q20_1 Z ob na kn cs sa sb sc ta ka la tb kb lb tc kc lc h0 n0) (s₁.setTop (mkF m 0 #[.val (.ref ob), .unset] [])) by
  obtain ⟨t, o, h1, h2⟩ := hgo; exact ⟨t, o, castTop (ef_rm20_1 m ob) h1, h2⟩
 show GoW _ _ _ _ _ _ _ _ _ (s₁.setTop (mkF m 0 #[.val (.ref ob), .unset] []))
 refine GoW.st (fun _ => XS.aloadN X0.here hx rfl (hb hby d20_0) rfl rfl) ?_
 obtain ⟨T1, X1, e1, st1⟩ := getF X0 hx hZ hown (host := "") (Or.inl (wdx hw 131 rfl)) Via.refl e0 Fn (g := (mkF m 1 #[.val (.ref ob), .unset] [(.ref ob)])) rfl rfl (hb hby d20_1)
 refine GoW.st st1 ?_
 refine GoW.st (fun _ => XS.istoreN X1.here hx rfl (hb hby d20_4) rfl (l' := #[.val (.ref ob), .val (.int 1)]) rfl) ?_
 refine GoW.st (fun _ => XS.iloadN X1.here hx rfl (hb hby d20_5) rfl) ?_
 refine GoW.st (fun _ => XS.aloadN X1.here hx rfl (hb hby d20_6) rfl rfl) ?_
 obtain ⟨T2, X2, e2, st2⟩ := getF X1 hx hZ hown (host := "") (Or.inl (wdx hw 124 rfl)) Via.refl e1 Fa (g := (mkF m 7 #[.val (.ref ob), .val (.int 1)] [(.ref ob), (.int 1)])) rfl rfl (hb hby d20_7)
 refine GoW.st st2 ?_
 show GoW _ _ _ _ _ _ _ _ _ (T2.setTop (mkF m 10 #[.val (.ref ob), .val (.int 1)] [(.ref na), (.int 1)]))
 obtain ⟨cl3, Ar3, qc3, Sz3, Nn3, Ha3, Gf3⟩ := id Vn
 refine GoW.st (fun _ => X2.arraylength hx (by rw [e2]; exact Ar3.1) (State.isArrayOf_alike hZ.alike Ar3.2.1) (g := (mkF m 10 #[.val (.ref ob), .val (.int 1)] [(.ref na), (.int 1)])) rfl rfl (hb hby d20_10) _) ?_
 rw [len_of Sz3 Nn3]
 show GoW _ _ _ _ _ _ _ _ _ (T2.setTop (mkF m 11 #[.val (.ref ob), .val (.int 1)] [(.int 3), (.int 1)]))
 refine GoW.st (fun _ => XS.icmpNo X2.here hx rfl (hb hby d20_11) rfl (XT.ii_ge_f (by decide))) ?_
 refine GoW.st (fun _ => XS.aloadN X2.here hx rfl (hb hby d20_14) rfl rfl) ?_
 obtain ⟨T4, X4, e4, st4⟩ := getF X2 hx hZ hown (host := "") (Or.inl (wdx hw 124 rfl)) Via.refl e2 Fa (g := (mkF m 15 #[.val (.ref ob), .val (.int 1)] [(.ref ob)])) rfl rfl (hb hby d20_15)
 refine GoW.st st4 ?_
 refine GoW.st (fun _ => XS.iloadN X4.here hx rfl (hb hby d20_18) rfl) ?_
 show GoW _ _ _ _ _ _ _ _ _ (T4.setTop (mkF m 19 #[.val (.ref ob), .val (.int 1)] [(.int 1), (.ref na)]))
 obtain ⟨cl5, Ar5, qc5, Sz5, Nn5, Ha5, Gf5⟩ := id Vn
 refine GoW.st (fun _ => X4.aaload hx (j := (1 : Int32)) (v := (.ref sb)) (by rw [e4]; exact Ar5.1) (State.isArrayOf_alike hZ.alike Ar5.2.1) rfl Ar5.2.2 (inb_of Sz5 ⟨by decide, by decide⟩) (Ha5.at (inb_of Sz5 ⟨by decide, by decide⟩) rfl) (g := (mkF m 19 #[.val (.ref ob), .val (.int 1)] [(.int 1), (.ref na)])) rfl rfl (hb hby d20_19) _) ?_
 show GoW _ _ _ _ _ _ _ _ _ (T4.setTop (mkF m 20 #[.val (.ref ob), .val (.int 1)] [(.ref sb)]))
 obtain ⟨a6, T6, h6, q6, b6, kb6, X6, e6, E6, hS6, hk6, hZ6, hown6, Ea6, Fc6, Fv6, Vb6, lta6, ltb6, C6, -, hne6, st6⟩ := ldcCH X4 hx hZ hown (wdx hw 133 rfl) hwS e4 hS0 hk0 hEL (List.mem_of_getElem? (i := 1) rfl) CH0.1 (vs := [(.int 45), (.int 45), (.int 104), (.int 101), (.int 108), (.int 112)]) (z := (6 : Int32)) ⟨by decide, rfl⟩ (by decide) (by decide) (g := (mkF m 20 #[.val (.ref ob), .val (.int 1)] [(.ref sb)])) rfl (hb hby d20_20) (n := 24) (by decide) (by decide) (by decide) (by decide)
 refine GoW.st st6 ?_
 have f7 := Fa.ext E6
 have f8 := Fn.ext E6
 have f9 := Vn.ext E6
 have f10 := Ea.ext E6
 have f11 := Va.ext E6
 have f12 := Ca.ext E6
 have f13 := Aa.ext E6
 have f14 := Eb.ext E6
 have f15 := Vb.ext E6
 have f16 := Cb.ext E6
 have f17 := Ab.ext E6
 have f18 := Ec.ext E6
 have f19 := Vc.ext E6
 have f20 := Cc.ext E6
 have f21 := Ac.ext E6
 have CH6 := CH0.trans C6
 have O6 := O0.ext E6
 have K6 : Keep h0 h6 [] := (Keep.refl h0 []).ext E6
 show GoW _ _ _ _ _ _ _ _ _ (T6.setTop (mkF m 22 #[.val (.ref ob), .val (.int 1)] [(.ref a6), (.ref sb)]))
 obtain ⟨cq22, kq22, q22a, q22b, q22c⟩ := isOf hZ6 e6 f14
 obtain ⟨_, _, ⟨T22, L22, k22, n22⟩, -, X22, ⟨Lc22, hQ22, l22, y22, z22⟩, st22⟩ := X6.virtualBack hx (y := mn5) (z := mn5) hown6 (mvT hZ6 (wdx hw 134 rfl)) (mvT hZ6 (wdx hw 135 rfl)) (notFace_of_selects (args := #[]) (mvT hZ6 (wdx hw 137 rfl))) (mvT hZ6 (wdx hw 137 rfl)) (mvT hZ6 (wdx hw 136 rfl)) (by decide) (backOf (W := 0) (rm21 l Z a0 hw [] sb a6 cs tb kb lb b6 kb6 h6 n0 O6 Ea6 f15 f16 Fv6 Fc6 f17 Vb6 S_cs q_cs q_lb) hZ6 (wdx hw 138 rfl) (wdx hw 11 rfl) (by decide) (by decide)) q22a q22c (g := (mkF m 22 #[.val (.ref ob), .val (.int 1)] [(.ref a6), (.ref sb)])) rfl (by rw [hml]; rfl) (Steps.refl _) (argsL := [(.ref a6)]) (rest := []) (lenOf pd__Ljava_lang_Object__Z rfl) rfl (by show 2 * 0 + _ ≤ _; exact Nat.le_of_eq rfl) (hb hby d20_22) (fun _ _ => ⟨rfl, e6, (by exact lee rfl), (by exact lee rfl)⟩)
 dsimp only [Pt.U, Pt.locs, Pt.cells, Pt.slots] at X22 l22 y22 z22 st22 hQ22
 subst l22 y22 z22
 obtain ⟨rfl, Nq22, eq22⟩ := hQ22
 have N22 := Fr.app N0 Nq22
 refine GoW.tr st22 ?_
 show GoW _ _ _ _ _ _ _ _ _ (T22.setTop (mkF m 25 #[.val (.ref ob), .val (.int 1)] [(.int (fh lb))]))
 by_cases hc23 : (fh lb) = (0 : Int32)
 ·refine GoW.st (fun _ => XS.ifYes X22.here hx rfl (pc0 := 25) (pc' := 30) rfl (hb hby d20_25) rfl (XT.i0_eq_t hc23) (by decide) (by decide)) ?_
  refine GoW.st (fun _ => XS.iinc X22.here hx rfl (hb hby d20_30) rfl (l' := #[.val (.ref ob), .val (.int 2)]) rfl) ?_
  show GoW _ _ _ _ _ _ _ _ _ (T22.setTop (mkF m 33 #[.val (.ref ob), .val (.int 2)] []))
  refine GoW.st (fun _ => XS.goto X22.here hx rfl (pc0 := 33) (pc' := 5) rfl (hb hby d20_33) (by decide) (by decide)) ?_
  show GoW _ _ _ _ _ _ _ _ _ (T22.setTop (mkF m 5 #[.val (.ref ob), .val (.int 2)] []))
  refine GoW.st (fun _ => XS.iloadN X22.here hx rfl (hb hby d20_5) rfl) ?_
  refine GoW.st (fun _ => XS.aloadN X22.here hx rfl (hb hby d20_6) rfl rfl) ?_
  obtain ⟨T24, X24, e24, st24⟩ := getF X22 hx hZ6 hown6 (host := "") (Or.inl (wdx hw 124 rfl)) Via.refl eq22 f7 (g := (mkF m 7 #[.val (.ref ob), .val (.int 2)] [(.ref ob), (.int 2)])) rfl rfl (hb hby d20_7)
  refine GoW.st st24 ?_
  show GoW _ _ _ _ _ _ _ _ _ (T24.setTop (mkF m 10 #[.val (.ref ob), .val (.int 2)] [(.ref na), (.int 2)]))
  obtain ⟨cl25, Ar25, qc25, Sz25, Nn25, Ha25, Gf25⟩ := id f9
  refine GoW.st (fun _ => X24.arraylength hx (by rw [e24]; exact Ar25.1) (State.isArrayOf_alike hZ6.alike Ar25.2.1) (g := (mkF m 10 #[.val (.ref ob), .val (.int 2)] [(.ref na), (.int 2)])) rfl rfl (hb hby d20_10) _) ?_
  rw [len_of Sz25 Nn25]
  show GoW _ _ _ _ _ _ _ _ _ (T24.setTop (mkF m 11 #[.val (.ref ob), .val (.int 2)] [(.int 3), (.int 2)]))
  refine GoW.st (fun _ => XS.icmpNo X24.here hx rfl (hb hby d20_11) rfl (XT.ii_ge_f (by decide))) ?_
  refine GoW.st (fun _ => XS.aloadN X24.here hx rfl (hb hby d20_14) rfl rfl) ?_
  obtain ⟨T26, X26, e26, st26⟩ := getF X24 hx hZ6 hown6 (host := "") (Or.inl (wdx hw 124 rfl)) Via.refl e24 f7 (g := (mkF m 15 #[.val (.ref ob), .val (.int 2)] [(.ref ob)])) rfl rfl (hb hby d20_15)
  refine GoW.st st26 ?_
  refine GoW.st (fun _ => XS.iloadN X26.here hx rfl (hb hby d20_18) rfl) ?_
  show GoW _ _ _ _ _ _ _ _ _ (T26.setTop (mkF m 19 #[.val (.ref ob), .val (.int 2)] [(.int 2), (.ref na)]))
  obtain ⟨cl27, Ar27, qc27, Sz27, Nn27, Ha27, Gf27⟩ := id f9
  refine GoW.st (fun _ => X26.aaload hx (j := (2 : Int32)) (v := (.ref sc)) (by rw [e26]; exact Ar27.1) (State.isArrayOf_alike hZ6.alike Ar27.2.1) rfl Ar27.2.2 (inb_of Sz27 ⟨by decide, by decide⟩) (Ha27.at (inb_of Sz27 ⟨by decide, by decide⟩) rfl) (g := (mkF m 19 #[.val (.ref ob), .val (.int 2)] [(.int 2), (.ref na)])) rfl rfl (hb hby d20_19) _) ?_
  show GoW _ _ _ _ _ _ _ _ _ (T26.setTop (mkF m 20 #[.val (.ref ob), .val (.int 2)] [(.ref sc)]))
  obtain ⟨a28, T28, h28, q28, b28, kb28, X28, e28, E28, hS28, hk28, hZ28, hown28, Ea28, Fc28, Fv28, Vb28, lta28, ltb28, C28, -, hne28, st28⟩ := ldcCH X26 hx hZ6 hown6 (wdx hw 133 rfl) hwS e26 hS6 hk6 hEL (List.mem_of_getElem? (i := 1) rfl) CH6.1 (vs := [(.int 45), (.int 45), (.int 104), (.int 101), (.int 108), (.int 112)]) (z := (6 : Int32)) ⟨by decide, rfl⟩ (by decide) (by decide) (g := (mkF m 20 #[.val (.ref ob), .val (.int 2)] [(.ref sc)])) rfl (hb hby d20_20) (n := 24) (by decide) (by decide) (by decide) (by decide)
  refine GoW.st st28 ?_
  have f29 := f7.ext E28
  have f30 := f8.ext E28
  have f31 := f9.ext E28
  have f32 := f10.ext E28
  have f33 := f11.ext E28
  have f34 := f12.ext E28
  have f35 := f13.ext E28
  have f36 := f14.ext E28
  have f37 := f15.ext E28
  have f38 := f16.ext E28
  have f39 := f17.ext E28
  have f40 := f18.ext E28
  have f41 := f19.ext E28
  have f42 := f20.ext E28
  have f43 := f21.ext E28
  have f44 := Ea6.ext E28
  have f45 := Fc6.ext E28
  have f46 := Fv6.ext E28
  have f47 := Vb6.ext E28
  have CH28 := CH6.trans C28
  have O28 := O6.ext E28
  have K28 : Keep h0 h28 [] := K6.ext E28
  show GoW _ _ _ _ _ _ _ _ _ (T28.setTop (mkF m 22 #[.val (.ref ob), .val (.int 2)] [(.ref a28), (.ref sc)]))
  obtain ⟨cq48, kq48, q48a, q48b, q48c⟩ := isOf hZ28 e28 f40
  obtain ⟨_, _, ⟨T48, L48, k48, n48⟩, -, X48, ⟨Lc48, hQ48, l48, y48, z48⟩, st48⟩ := X28.virtualBack hx (y := mn5) (z := mn5) hown28 (mvT hZ28 (wdx hw 134 rfl)) (mvT hZ28 (wdx hw 135 rfl)) (notFace_of_selects (args := #[]) (mvT hZ28 (wdx hw 137 rfl))) (mvT hZ28 (wdx hw 137 rfl)) (mvT hZ28 (wdx hw 136 rfl)) (by decide) (backOf (W := 0) (rm21 l Z a0 hw [] sc a28 cs tc kc lc b28 kb28 h28 n0 O28 Ea28 f41 f42 Fv28 Fc28 f43 Vb28 S_cs q_cs q_lc) hZ28 (wdx hw 138 rfl) (wdx hw 11 rfl) (by decide) (by decide)) q48a q48c (g := (mkF m 22 #[.val (.ref ob), .val (.int 2)] [(.ref a28), (.ref sc)])) rfl (by rw [hml]; rfl) (Steps.refl _) (argsL := [(.ref a28)]) (rest := []) (lenOf pd__Ljava_lang_Object__Z rfl) rfl (by show 2 * 0 + _ ≤ _; exact Nat.le_of_eq rfl) (hb hby d20_22) (fun _ _ => ⟨rfl, e28, (by exact lee rfl), (by exact lee rfl)⟩)
  dsimp only [Pt.U, Pt.locs, Pt.cells, Pt.slots] at X48 l48 y48 z48 st48 hQ48
  subst l48 y48 z48
  obtain ⟨rfl, Nq48, eq48⟩ := hQ48
  have N48 := Fr.app N22 Nq48
  refine GoW.tr st48 ?_
  show GoW _ _ _ _ _ _ _ _ _ (T48.setTop (mkF m 25 #[.val (.ref ob), .val (.int 2)] [(.int (fh lc))]))
  by_cases hc49 : (fh lc) = (0 : Int32)
  ·refine GoW.st (fun _ => XS.ifYes X48.here hx rfl (pc0 := 25) (pc' := 30) rfl (hb hby d20_25) rfl (XT.i0_eq_t hc49) (by decide) (by decide)) ?_
   refine GoW.st (fun _ => XS.iinc X48.here hx rfl (hb hby d20_30) rfl (l' := #[.val (.ref ob), .val (.int 3)]) rfl) ?_
   show GoW _ _ _ _ _ _ _ _ _ (T48.setTop (mkF m 33 #[.val (.ref ob), .val (.int 3)] []))
   refine GoW.st (fun _ => XS.goto X48.here hx rfl (pc0 := 33) (pc' := 5) rfl (hb hby d20_33) (by decide) (by decide)) ?_
   show GoW _ _ _ _ _ _ _ _ _ (T48.setTop (mkF m 5 #[.val (.ref ob), .val (.int 3)] []))
   refine GoW.st (fun _ => XS.iloadN X48.here hx rfl (hb hby d20_5) rfl) ?_
   refine GoW.st (fun _ => XS.aloadN X48.here hx rfl (hb hby d20_6) rfl rfl) ?_
   obtain ⟨T50, X50, e50, st50⟩ := getF X48 hx hZ28 hown28 (host := "") (Or.inl (wdx hw 124 rfl)) Via.refl eq48 f29 (g := (mkF m 7 #[.val (.ref ob), .val (.int 3)] [(.ref ob), (.int 3)])) rfl rfl (hb hby d20_7)
   refine GoW.st st50 ?_
   show GoW _ _ _ _ _ _ _ _ _ (T50.setTop (mkF m 10 #[.val (.ref ob), .val (.int 3)] [(.ref na), (.int 3)]))
   obtain ⟨cl51, Ar51, qc51, Sz51, Nn51, Ha51, Gf51⟩ := id f31
   refine GoW.st (fun _ => X50.arraylength hx (by rw [e50]; exact Ar51.1) (State.isArrayOf_alike hZ28.alike Ar51.2.1) (g := (mkF m 10 #[.val (.ref ob), .val (.int 3)] [(.ref na), (.int 3)])) rfl rfl (hb hby d20_10) _) ?_
   rw [len_of Sz51 Nn51]
   show GoW _ _ _ _ _ _ _ _ _ (T50.setTop (mkF m 11 #[.val (.ref ob), .val (.int 3)] [(.int 3), (.int 3)]))
   refine GoW.st (fun _ => XS.icmpYes X50.here hx rfl (pc0 := 11) (pc' := 36) rfl (hb hby d20_11) rfl (XT.ii_ge_t (by decide)) (by decide) (by decide)) ?_
   refine GoW.st (fun _ => XS.iconst X50.here hx rfl (hb hby d20_36)) ?_
   show GoW _ _ _ _ _ _ _ _ _ (T50.setTop (mkF m 37 #[.val (.ref ob), .val (.int 3)] [(.int 0)]))
   refine GoW.retB X50 hx hlk hS28 (by rw [e50]; exact hk28) hZ28 hEL CH28 (t := .boolean) Bd.returns (by simp) (hb hby d20_37) (by decide) (by decide) e50 ?_
   exact ⟨(by simp [fo3, nar, hc23, hc49]), N48, K28⟩
  ·refine GoW.st (fun _ => XS.ifNo X48.here hx rfl (hb hby d20_25) rfl (XT.i0_eq_f hc49)) ?_
   refine GoW.st (fun _ => XS.iconst X48.here hx rfl (hb hby d20_28)) ?_
   show GoW _ _ _ _ _ _ _ _ _ (T48.setTop (mkF m 29 #[.val (.ref ob), .val (.int 2)] [(.int 1)]))
   refine GoW.retB X48 hx hlk hS28 (by rw [eq48]; exact hk28) hZ28 hEL CH28 (t := .boolean) Bd.returns (by simp) (hb hby d20_29) (by decide) (by decide) eq48 ?_
   exact ⟨(by simp [fo3, nar, hc23, hc49]), N48, K28⟩
 ·refine GoW.st (fun _ => XS.ifNo X22.here hx rfl (hb hby d20_25) rfl (XT.i0_eq_f hc23)) ?_
  refine GoW.st (fun _ => XS.iconst X22.here hx rfl (hb hby d20_28)) ?_
  show GoW _ _ _ _ _ _ _ _ _ (T22.setTop (mkF m 29 #[.val (.ref ob), .val (.int 1)] [(.int 1)]))
  refine GoW.retB X22 hx hlk hS6 (by rw [eq22]; exact hk6) hZ6 hEL CH6 (t := .boolean) Bd.returns (by simp) (hb hby d20_29) (by decide) (by decide) eq22 ?_
  exact ⟨(by simp [fo3, nar, hc23]), N22, K6⟩
theorem ef_rm20_2 (m : MethodId) (ob : Addr) : entryFrame m #[(.ref ob)] 2 = mkF m 0 #[.val (.ref ob), .unset] [] := by first | (simp [entryFrame, mkF, argsToLocals, Value.category]; done) | rfl
def Q20_2 (Z : State) (ob : Addr) (na : Addr) (kn : ClassId) (cs : Int32) (sa : Addr) (sb : Addr) (sc : Addr) (ta : Addr) (ka : ClassId) (la : List Int32) (tb : Addr) (kb : ClassId) (lb : List Int32) (tc : Addr) (kc : ClassId) (lc : List Int32) (h0 : Heap) (n0 : Nat) (v : Option Value) (h : Heap) (L : List Loc) : Prop := v = some (.int (fo3 (0 : Int32) (0 : Int32) (fh lc))) ∧ Fr n0 L ∧ Keep h0 h []
set_option maxRecDepth 65536 in
set_option maxHeartbeats 40000000 in
theorem rm20_2 (l : Launch) (Z : State) (a0 : Array Value) (hw : ∀ d ∈ tables_1, d.before a0 Z = true) (ws : List Jvm.Cond) (ob : Addr) (na : Addr) (kn : ClassId) (cs : Int32) (sa : Addr) (sb : Addr) (sc : Addr) (ta : Addr) (ka : ClassId) (la : List Int32) (tb : Addr) (kb : ClassId) (lb : List Int32) (tc : Addr) (kc : ClassId) (lc : List Int32) (h0 : Heap) (n0 : Nat) (O0 : Old Z n0 h0) (Fa : Fld Z h0 ob "com/example/reportwire/reportwire/Arguments" "args" "[Ljava/lang/String;" (.ref na)) (Fn : Fld Z h0 ob "com/example/reportwire/reportwire/Arguments" "next" "I" (.int 2)) (Vn : Arv Z h0 na kn (.object "java/lang/String") (3 : Int32) [(.ref sa), (.ref sb), (.ref sc)] .null) (Ea : Exa Z h0 sa "java/lang/String") (Va : Fld Z h0 sa "java/lang/String" "value" "[B" (.ref ta)) (Ca : Fld Z h0 sa "java/lang/String" "coder" "B" (.int 0)) (Aa : Arv Z h0 ta ka .byte (Int32.ofNat (List.length la)) (List.map Value.int la) (.int 0)) (Eb : Exa Z h0 sb "java/lang/String") (Vb : Fld Z h0 sb "java/lang/String" "value" "[B" (.ref tb)) (Cb : Fld Z h0 sb "java/lang/String" "coder" "B" (.int 0)) (Ab : Arv Z h0 tb kb .byte (Int32.ofNat (List.length lb)) (List.map Value.int lb) (.int 0)) (Ec : Exa Z h0 sc "java/lang/String") (Vc : Fld Z h0 sc "java/lang/String" "value" "[B" (.ref tc)) (Cc : Fld Z h0 sc "java/lang/String" "coder" "B" (.int 0)) (Ac : Arv Z h0 tc kc .byte (Int32.ofNat (List.length lc)) (List.map Value.int lc) (.int 0)) (S_cs : Sta Z Z.heap "java/lang/String" "COMPACT_STRINGS" "Z" (.int cs)) (q_cs : ¬ cs = (0 : Int32)) (q_la : la.length ≤ 7) (q_lb : lb.length ≤ 7) (q_lc : lc.length ≤ 7) :
  MetFree l mn0 (head1 (Jvm.Cond.code mn0 prog_7_method_8_code 2 (some .boolean) :: ws) ({ frames := 2, cells := 2, slots := 28, locals := 28 } : Room)) (fun ay U => ay = #[(.ref ob)] ∧ Z.Warmed39 U.vm ∧ U.heap = h0 ∧ CHv Z EL U.vm h0 ∧ ∀ y ∈ ([] : List Addr), Safe Z EL U.vm h0 y) (fun _ _ _ _ _ => True) (fun _ U o U' => ∃ v L, o = .returned v ∧ Q20_2 Z ob na kn cs sa sb sc ta ka la tb kb lb tc kc lc h0 n0 v U'.heap L ∧ CHr Z EL U.vm U.heap U'.vm U'.heap ∧ ReturnedEndW U o U' L ({ frames := 2, cells := 2, slots := 28, locals := 28 } : Room).cells ({ frames := 2, cells := 2, slots := 28, locals := 28 } : Room).slots) := by
 refine MetFree.of_bodySF (plainFor_of_name pn_com_example_reportwire_reportwire_Arguments) hisR ?_
 intro p e s m args below meth c s₁ Bd hml0 hP hK
 obtain ⟨rfl, hZ, hh, hCH, hSf⟩ := hP
 have hx := Bd.exec
 have hby := Bd.bytes
 have hlk : meth.locks = false := BodyLoose.notSynchronized Bd
 have hml : c.maxLocals = 2 := hml0
 have hown : s.vm.findClass "com/example/reportwire/reportwire/Arguments" = some m.cls := findClass_of_methodNamed Bd.named
 have hnm := (name_of_methodNamed Bd.named Bd.method).1
 have X0 : Stand p l e ({ frames := 2, cells := 2, slots := 28, locals := 28 } : Room) (s.setVm s.vm) m #[(.ref ob)] below meth c s₁ [] 0 0 := Stand.of_body Bd
 have e0 : s₁.heap = h0 := by rw [← hh, Bd.state]; rfl
 have N0 := Fr.nil n0
 have hS0 : s.Since s.vm 0 := (State.WarmedH.refl s).since 0
 have hk0 : 0 ≤ h0.size := Nat.zero_le _
 have CH0 : CHr Z EL s.vm s.heap s.vm h0 := by rw [hh]; exact CHr.refl hCH
 have hEL : EW Z a0 EL := own_EW hw
 have hwS := own_wS hw
 suffices hgo : GoW p e below s 2 28 Z EL (Q20_2 Z ob na kn cs sa sb sc ta ka la tb kb lb tc kc lc h0 n0) (s₁.setTop (mkF m 0 #[.val (.ref ob), .unset] [])) by
  obtain ⟨t, o, h1, h2⟩ := hgo; exact ⟨t, o, castTop (ef_rm20_2 m ob) h1, h2⟩
 show GoW _ _ _ _ _ _ _ _ _ (s₁.setTop (mkF m 0 #[.val (.ref ob), .unset] []))
 refine GoW.st (fun _ => XS.aloadN X0.here hx rfl (hb hby d20_0) rfl rfl) ?_
 obtain ⟨T1, X1, e1, st1⟩ := getF X0 hx hZ hown (host := "") (Or.inl (wdx hw 131 rfl)) Via.refl e0 Fn (g := (mkF m 1 #[.val (.ref ob), .unset] [(.ref ob)])) rfl rfl (hb hby d20_1)
 refine GoW.st st1 ?_
 refine GoW.st (fun _ => XS.istoreN X1.here hx rfl (hb hby d20_4) rfl (l' := #[.val (.ref ob), .val (.int 2)]) rfl) ?_
 refine GoW.st (fun _ => XS.iloadN X1.here hx rfl (hb hby d20_5) rfl) ?_
 refine GoW.st (fun _ => XS.aloadN X1.here hx rfl (hb hby d20_6) rfl rfl) ?_
 obtain ⟨T2, X2, e2, st2⟩ := getF X1 hx hZ hown (host := "") (Or.inl (wdx hw 124 rfl)) Via.refl e1 Fa (g := (mkF m 7 #[.val (.ref ob), .val (.int 2)] [(.ref ob), (.int 2)])) rfl rfl (hb hby d20_7)
 refine GoW.st st2 ?_
 show GoW _ _ _ _ _ _ _ _ _ (T2.setTop (mkF m 10 #[.val (.ref ob), .val (.int 2)] [(.ref na), (.int 2)]))
 obtain ⟨cl3, Ar3, qc3, Sz3, Nn3, Ha3, Gf3⟩ := id Vn
 refine GoW.st (fun _ => X2.arraylength hx (by rw [e2]; exact Ar3.1) (State.isArrayOf_alike hZ.alike Ar3.2.1) (g := (mkF m 10 #[.val (.ref ob), .val (.int 2)] [(.ref na), (.int 2)])) rfl rfl (hb hby d20_10) _) ?_
 rw [len_of Sz3 Nn3]
 show GoW _ _ _ _ _ _ _ _ _ (T2.setTop (mkF m 11 #[.val (.ref ob), .val (.int 2)] [(.int 3), (.int 2)]))
 refine GoW.st (fun _ => XS.icmpNo X2.here hx rfl (hb hby d20_11) rfl (XT.ii_ge_f (by decide))) ?_
 refine GoW.st (fun _ => XS.aloadN X2.here hx rfl (hb hby d20_14) rfl rfl) ?_
 obtain ⟨T4, X4, e4, st4⟩ := getF X2 hx hZ hown (host := "") (Or.inl (wdx hw 124 rfl)) Via.refl e2 Fa (g := (mkF m 15 #[.val (.ref ob), .val (.int 2)] [(.ref ob)])) rfl rfl (hb hby d20_15)
 refine GoW.st st4 ?_
 refine GoW.st (fun _ => XS.iloadN X4.here hx rfl (hb hby d20_18) rfl) ?_
 show GoW _ _ _ _ _ _ _ _ _ (T4.setTop (mkF m 19 #[.val (.ref ob), .val (.int 2)] [(.int 2), (.ref na)]))
 obtain ⟨cl5, Ar5, qc5, Sz5, Nn5, Ha5, Gf5⟩ := id Vn
 refine GoW.st (fun _ => X4.aaload hx (j := (2 : Int32)) (v := (.ref sc)) (by rw [e4]; exact Ar5.1) (State.isArrayOf_alike hZ.alike Ar5.2.1) rfl Ar5.2.2 (inb_of Sz5 ⟨by decide, by decide⟩) (Ha5.at (inb_of Sz5 ⟨by decide, by decide⟩) rfl) (g := (mkF m 19 #[.val (.ref ob), .val (.int 2)] [(.int 2), (.ref na)])) rfl rfl (hb hby d20_19) _) ?_
 show GoW _ _ _ _ _ _ _ _ _ (T4.setTop (mkF m 20 #[.val (.ref ob), .val (.int 2)] [(.ref sc)]))
 obtain ⟨a6, T6, h6, q6, b6, kb6, X6, e6, E6, hS6, hk6, hZ6, hown6, Ea6, Fc6, Fv6, Vb6, lta6, ltb6, C6, -, hne6, st6⟩ := ldcCH X4 hx hZ hown (wdx hw 133 rfl) hwS e4 hS0 hk0 hEL (List.mem_of_getElem? (i := 1) rfl) CH0.1 (vs := [(.int 45), (.int 45), (.int 104), (.int 101), (.int 108), (.int 112)]) (z := (6 : Int32)) ⟨by decide, rfl⟩ (by decide) (by decide) (g := (mkF m 20 #[.val (.ref ob), .val (.int 2)] [(.ref sc)])) rfl (hb hby d20_20) (n := 24) (by decide) (by decide) (by decide) (by decide)
 refine GoW.st st6 ?_
 have f7 := Fa.ext E6
 have f8 := Fn.ext E6
 have f9 := Vn.ext E6
 have f10 := Ea.ext E6
 have f11 := Va.ext E6
 have f12 := Ca.ext E6
 have f13 := Aa.ext E6
 have f14 := Eb.ext E6
 have f15 := Vb.ext E6
 have f16 := Cb.ext E6
 have f17 := Ab.ext E6
 have f18 := Ec.ext E6
 have f19 := Vc.ext E6
 have f20 := Cc.ext E6
 have f21 := Ac.ext E6
 have CH6 := CH0.trans C6
 have O6 := O0.ext E6
 have K6 : Keep h0 h6 [] := (Keep.refl h0 []).ext E6
 show GoW _ _ _ _ _ _ _ _ _ (T6.setTop (mkF m 22 #[.val (.ref ob), .val (.int 2)] [(.ref a6), (.ref sc)]))
 obtain ⟨cq22, kq22, q22a, q22b, q22c⟩ := isOf hZ6 e6 f18
 obtain ⟨_, _, ⟨T22, L22, k22, n22⟩, -, X22, ⟨Lc22, hQ22, l22, y22, z22⟩, st22⟩ := X6.virtualBack hx (y := mn5) (z := mn5) hown6 (mvT hZ6 (wdx hw 134 rfl)) (mvT hZ6 (wdx hw 135 rfl)) (notFace_of_selects (args := #[]) (mvT hZ6 (wdx hw 137 rfl))) (mvT hZ6 (wdx hw 137 rfl)) (mvT hZ6 (wdx hw 136 rfl)) (by decide) (backOf (W := 0) (rm21 l Z a0 hw [] sc a6 cs tc kc lc b6 kb6 h6 n0 O6 Ea6 f19 f20 Fv6 Fc6 f21 Vb6 S_cs q_cs q_lc) hZ6 (wdx hw 138 rfl) (wdx hw 11 rfl) (by decide) (by decide)) q22a q22c (g := (mkF m 22 #[.val (.ref ob), .val (.int 2)] [(.ref a6), (.ref sc)])) rfl (by rw [hml]; rfl) (Steps.refl _) (argsL := [(.ref a6)]) (rest := []) (lenOf pd__Ljava_lang_Object__Z rfl) rfl (by show 2 * 0 + _ ≤ _; exact Nat.le_of_eq rfl) (hb hby d20_22) (fun _ _ => ⟨rfl, e6, (by exact lee rfl), (by exact lee rfl)⟩)
 dsimp only [Pt.U, Pt.locs, Pt.cells, Pt.slots] at X22 l22 y22 z22 st22 hQ22
 subst l22 y22 z22
 obtain ⟨rfl, Nq22, eq22⟩ := hQ22
 have N22 := Fr.app N0 Nq22
 refine GoW.tr st22 ?_
 show GoW _ _ _ _ _ _ _ _ _ (T22.setTop (mkF m 25 #[.val (.ref ob), .val (.int 2)] [(.int (fh lc))]))
 by_cases hc23 : (fh lc) = (0 : Int32)
 ·refine GoW.st (fun _ => XS.ifYes X22.here hx rfl (pc0 := 25) (pc' := 30) rfl (hb hby d20_25) rfl (XT.i0_eq_t hc23) (by decide) (by decide)) ?_
  refine GoW.st (fun _ => XS.iinc X22.here hx rfl (hb hby d20_30) rfl (l' := #[.val (.ref ob), .val (.int 3)]) rfl) ?_
  show GoW _ _ _ _ _ _ _ _ _ (T22.setTop (mkF m 33 #[.val (.ref ob), .val (.int 3)] []))
  refine GoW.st (fun _ => XS.goto X22.here hx rfl (pc0 := 33) (pc' := 5) rfl (hb hby d20_33) (by decide) (by decide)) ?_
  show GoW _ _ _ _ _ _ _ _ _ (T22.setTop (mkF m 5 #[.val (.ref ob), .val (.int 3)] []))
  refine GoW.st (fun _ => XS.iloadN X22.here hx rfl (hb hby d20_5) rfl) ?_
  refine GoW.st (fun _ => XS.aloadN X22.here hx rfl (hb hby d20_6) rfl rfl) ?_
  obtain ⟨T24, X24, e24, st24⟩ := getF X22 hx hZ6 hown6 (host := "") (Or.inl (wdx hw 124 rfl)) Via.refl eq22 f7 (g := (mkF m 7 #[.val (.ref ob), .val (.int 3)] [(.ref ob), (.int 3)])) rfl rfl (hb hby d20_7)
  refine GoW.st st24 ?_
  show GoW _ _ _ _ _ _ _ _ _ (T24.setTop (mkF m 10 #[.val (.ref ob), .val (.int 3)] [(.ref na), (.int 3)]))
  obtain ⟨cl25, Ar25, qc25, Sz25, Nn25, Ha25, Gf25⟩ := id f9
  refine GoW.st (fun _ => X24.arraylength hx (by rw [e24]; exact Ar25.1) (State.isArrayOf_alike hZ6.alike Ar25.2.1) (g := (mkF m 10 #[.val (.ref ob), .val (.int 3)] [(.ref na), (.int 3)])) rfl rfl (hb hby d20_10) _) ?_
  rw [len_of Sz25 Nn25]
  show GoW _ _ _ _ _ _ _ _ _ (T24.setTop (mkF m 11 #[.val (.ref ob), .val (.int 3)] [(.int 3), (.int 3)]))
  refine GoW.st (fun _ => XS.icmpYes X24.here hx rfl (pc0 := 11) (pc' := 36) rfl (hb hby d20_11) rfl (XT.ii_ge_t (by decide)) (by decide) (by decide)) ?_
  refine GoW.st (fun _ => XS.iconst X24.here hx rfl (hb hby d20_36)) ?_
  show GoW _ _ _ _ _ _ _ _ _ (T24.setTop (mkF m 37 #[.val (.ref ob), .val (.int 3)] [(.int 0)]))
  refine GoW.retB X24 hx hlk hS6 (by rw [e24]; exact hk6) hZ6 hEL CH6 (t := .boolean) Bd.returns (by simp) (hb hby d20_37) (by decide) (by decide) e24 ?_
  exact ⟨(by simp [fo3, nar, hc23]), N22, K6⟩
 ·refine GoW.st (fun _ => XS.ifNo X22.here hx rfl (hb hby d20_25) rfl (XT.i0_eq_f hc23)) ?_
  refine GoW.st (fun _ => XS.iconst X22.here hx rfl (hb hby d20_28)) ?_
  show GoW _ _ _ _ _ _ _ _ _ (T22.setTop (mkF m 29 #[.val (.ref ob), .val (.int 2)] [(.int 1)]))
  refine GoW.retB X22 hx hlk hS6 (by rw [eq22]; exact hk6) hZ6 hEL CH6 (t := .boolean) Bd.returns (by simp) (hb hby d20_29) (by decide) (by decide) eq22 ?_
  exact ⟨(by simp [fo3, nar, hc23]), N22, K6⟩
theorem ef_rm20_3 (m : MethodId) (ob : Addr) : entryFrame m #[(.ref ob)] 2 = mkF m 0 #[.val (.ref ob), .unset] [] := by first | (simp [entryFrame, mkF, argsToLocals, Value.category]; done) | rfl
def Q20_3 (Z : State) (ob : Addr) (na : Addr) (kn : ClassId) (cs : Int32) (sa : Addr) (sb : Addr) (sc : Addr) (ta : Addr) (ka : ClassId) (la : List Int32) (tb : Addr) (kb : ClassId) (lb : List Int32) (tc : Addr) (kc : ClassId) (lc : List Int32) (h0 : Heap) (n0 : Nat) (v : Option Value) (h : Heap) (L : List Loc) : Prop := v = some (.int (fo3 (0 : Int32) (0 : Int32) (0 : Int32))) ∧ Fr n0 L ∧ Keep h0 h []
set_option maxRecDepth 65536 in
set_option maxHeartbeats 40000000 in
theorem rm20_3 (l : Launch) (Z : State) (a0 : Array Value) (hw : ∀ d ∈ tables_1, d.before a0 Z = true) (ws : List Jvm.Cond) (ob : Addr) (na : Addr) (kn : ClassId) (cs : Int32) (sa : Addr) (sb : Addr) (sc : Addr) (ta : Addr) (ka : ClassId) (la : List Int32) (tb : Addr) (kb : ClassId) (lb : List Int32) (tc : Addr) (kc : ClassId) (lc : List Int32) (h0 : Heap) (n0 : Nat) (O0 : Old Z n0 h0) (Fa : Fld Z h0 ob "com/example/reportwire/reportwire/Arguments" "args" "[Ljava/lang/String;" (.ref na)) (Fn : Fld Z h0 ob "com/example/reportwire/reportwire/Arguments" "next" "I" (.int 3)) (Vn : Arv Z h0 na kn (.object "java/lang/String") (3 : Int32) [(.ref sa), (.ref sb), (.ref sc)] .null) (Ea : Exa Z h0 sa "java/lang/String") (Va : Fld Z h0 sa "java/lang/String" "value" "[B" (.ref ta)) (Ca : Fld Z h0 sa "java/lang/String" "coder" "B" (.int 0)) (Aa : Arv Z h0 ta ka .byte (Int32.ofNat (List.length la)) (List.map Value.int la) (.int 0)) (Eb : Exa Z h0 sb "java/lang/String") (Vb : Fld Z h0 sb "java/lang/String" "value" "[B" (.ref tb)) (Cb : Fld Z h0 sb "java/lang/String" "coder" "B" (.int 0)) (Ab : Arv Z h0 tb kb .byte (Int32.ofNat (List.length lb)) (List.map Value.int lb) (.int 0)) (Ec : Exa Z h0 sc "java/lang/String") (Vc : Fld Z h0 sc "java/lang/String" "value" "[B" (.ref tc)) (Cc : Fld Z h0 sc "java/lang/String" "coder" "B" (.int 0)) (Ac : Arv Z h0 tc kc .byte (Int32.ofNat (List.length lc)) (List.map Value.int lc) (.int 0)) (S_cs : Sta Z Z.heap "java/lang/String" "COMPACT_STRINGS" "Z" (.int cs)) (q_cs : ¬ cs = (0 : Int32)) (q_la : la.length ≤ 7) (q_lb : lb.length ≤ 7) (q_lc : lc.length ≤ 7) :
  MetFree l mn0 (head1 (Jvm.Cond.code mn0 prog_7_method_8_code 2 (some .boolean) :: ws) ({ frames := 0, cells := 0, slots := 0, locals := 0 } : Room)) (fun ay U => ay = #[(.ref ob)] ∧ Z.Warmed39 U.vm ∧ U.heap = h0 ∧ CHv Z EL U.vm h0 ∧ ∀ y ∈ ([] : List Addr), Safe Z EL U.vm h0 y) (fun _ _ _ _ _ => True) (fun _ U o U' => ∃ v L, o = .returned v ∧ Q20_3 Z ob na kn cs sa sb sc ta ka la tb kb lb tc kc lc h0 n0 v U'.heap L ∧ CHr Z EL U.vm U.heap U'.vm U'.heap ∧ ReturnedEndW U o U' L ({ frames := 0, cells := 0, slots := 0, locals := 0 } : Room).cells ({ frames := 0, cells := 0, slots := 0, locals := 0 } : Room).slots) := by
 refine MetFree.of_bodySF (plainFor_of_name pn_com_example_reportwire_reportwire_Arguments) hisR ?_
 intro p e s m args below meth c s₁ Bd hml0 hP hK
 obtain ⟨rfl, hZ, hh, hCH, hSf⟩ := hP
 have hx := Bd.exec
 have hby := Bd.bytes
 have hlk : meth.locks = false := BodyLoose.notSynchronized Bd
 have hml : c.maxLocals = 2 := hml0
 have hown : s.vm.findClass "com/example/reportwire/reportwire/Arguments" = some m.cls := findClass_of_methodNamed Bd.named
 have hnm := (name_of_methodNamed Bd.named Bd.method).1
 have X0 : Stand p l e ({ frames := 0, cells := 0, slots := 0, locals := 0 } : Room) (s.setVm s.vm) m #[(.ref ob)] below meth c s₁ [] 0 0 := Stand.of_body Bd
 have e0 : s₁.heap = h0 := by rw [← hh, Bd.state]; rfl
 have N0 := Fr.nil n0
 have hS0 : s.Since s.vm 0 := (State.WarmedH.refl s).since 0
 have hk0 : 0 ≤ h0.size := Nat.zero_le _
 have CH0 : CHr Z EL s.vm s.heap s.vm h0 := by rw [hh]; exact CHr.refl hCH
 have hEL : EW Z a0 EL := own_EW hw
 have hwS := own_wS hw
 suffices hgo : GoW p e below s 0 0 Z EL (Q20_3 Z ob na kn cs sa sb sc ta ka la tb kb lb tc kc lc h0 n0) (s₁.setTop (mkF m 0 #[.val (.ref ob), .unset] [])) by
  obtain ⟨t, o, h1, h2⟩ := hgo; exact ⟨t, o, castTop (ef_rm20_3 m ob) h1, h2⟩
 show GoW _ _ _ _ _ _ _ _ _ (s₁.setTop (mkF m 0 #[.val (.ref ob), .unset] []))
 refine GoW.st (fun _ => XS.aloadN X0.here hx rfl (hb hby d20_0) rfl rfl) ?_
 obtain ⟨T1, X1, e1, st1⟩ := getF X0 hx hZ hown (host := "") (Or.inl (wdx hw 131 rfl)) Via.refl e0 Fn (g := (mkF m 1 #[.val (.ref ob), .unset] [(.ref ob)])) rfl rfl (hb hby d20_1)
 refine GoW.st st1 ?_
 refine GoW.st (fun _ => XS.istoreN X1.here hx rfl (hb hby d20_4) rfl (l' := #[.val (.ref ob), .val (.int 3)]) rfl) ?_
 refine GoW.st (fun _ => XS.iloadN X1.here hx rfl (hb hby d20_5) rfl) ?_
 refine GoW.st (fun _ => XS.aloadN X1.here hx rfl (hb hby d20_6) rfl rfl) ?_
 obtain ⟨T2, X2, e2, st2⟩ := getF X1 hx hZ hown (host := "") (Or.inl (wdx hw 124 rfl)) Via.refl e1 Fa (g := (mkF m 7 #[.val (.ref ob), .val (.int 3)] [(.ref ob), (.int 3)])) rfl rfl (hb hby d20_7)
 refine GoW.st st2 ?_
 show GoW _ _ _ _ _ _ _ _ _ (T2.setTop (mkF m 10 #[.val (.ref ob), .val (.int 3)] [(.ref na), (.int 3)]))
 obtain ⟨cl3, Ar3, qc3, Sz3, Nn3, Ha3, Gf3⟩ := id Vn
 refine GoW.st (fun _ => X2.arraylength hx (by rw [e2]; exact Ar3.1) (State.isArrayOf_alike hZ.alike Ar3.2.1) (g := (mkF m 10 #[.val (.ref ob), .val (.int 3)] [(.ref na), (.int 3)])) rfl rfl (hb hby d20_10) _) ?_
 rw [len_of Sz3 Nn3]
 show GoW _ _ _ _ _ _ _ _ _ (T2.setTop (mkF m 11 #[.val (.ref ob), .val (.int 3)] [(.int 3), (.int 3)]))
 refine GoW.st (fun _ => XS.icmpYes X2.here hx rfl (pc0 := 11) (pc' := 36) rfl (hb hby d20_11) rfl (XT.ii_ge_t (by decide)) (by decide) (by decide)) ?_
 refine GoW.st (fun _ => XS.iconst X2.here hx rfl (hb hby d20_36)) ?_
 show GoW _ _ _ _ _ _ _ _ _ (T2.setTop (mkF m 37 #[.val (.ref ob), .val (.int 3)] [(.int 0)]))
 refine GoW.retB X2 hx hlk hS0 (by rw [e2]; exact hk0) hZ hEL CH0 (t := .boolean) Bd.returns (by simp) (hb hby d20_37) (by decide) (by decide) e2 ?_
 exact ⟨(by simp [fo3, nar, fo3]), N0, (Keep.refl _ _)⟩
theorem pd__J_Ljava_lang_String_ : parseMethodDescriptor "(J)Ljava/lang/String;" = some ⟨[.long], some (.object "java/lang/String")⟩ := by decide +kernel
theorem own_tyne {Z : State} {h : Heap} {a b : Addr} {k k' : ClassId} {ty ty' : FieldType} {z z' : Int32} {vs vs' : List Value} {d d' : Value} (F : Arv Z h a k ty z vs d) (G : Arv Z h b k' ty' z' vs' d') (q : ty ≠ ty') : a ≠ b := fun e => by
  subst e
  obtain ⟨c1, ⟨e1, hA, -⟩, -⟩ := F
  obtain ⟨c2, ⟨e2, hB, -⟩, -⟩ := G
  cases e1.symm.trans e2
  obtain ⟨-, kk, hk, comp, hkind⟩ := hA
  obtain ⟨-, kk', hk', comp', hkind'⟩ := hB
  cases hk.symm.trans hk'
  rw [hkind] at hkind'
  cases hkind'
  exact q rfl
theorem pd__J_Z : parseMethodDescriptor "(J)Z" = some ⟨[.long], some .boolean⟩ := by decide +kernel
theorem pd___Ljava_lang_String__V : parseMethodDescriptor "([Ljava/lang/String;)V" = some ⟨[(.array (.object "java/lang/String"))], none⟩ := by decide +kernel
theorem ef_rm0 (m : MethodId) (ua : Int64) (ub : Int64) (uc : Int64) (tk : Int32) : entryFrame m #[(.long ua), (.long ub), (.long uc), (.int tk)] maxLocals = mkF m 0 #[.val (.long ua), .second, .val (.long ub), .second, .val (.long uc), .second, .val (.int tk), .unset, .unset, .unset, .unset, .unset, .unset, .unset, .unset, .unset] [] := by first | (simp [entryFrame, mkF, argsToLocals, Value.category, maxLocals]; done) | rfl
def Q0 (Z : State) (ua : Int64) (ub : Int64) (uc : Int64) (tk : Int32) (cs : Int32) (vf : Value) (h0 : Heap) (n0 : Nat) (v : Option Value) (h : Heap) (L : List Loc) : Prop := v = some (.int 1) ∧ Fr n0 L ∧ True
set_option maxRecDepth 65536 in
set_option maxHeartbeats 40000000 in
theorem rm0 (l : Launch) (Z : State) (a0 : Array Value) (hw : ∀ d ∈ tables_1, d.before a0 Z = true) (ws : List Jvm.Cond) (ua : Int64) (ub : Int64) (uc : Int64) (tk : Int32) (cs : Int32) (vf : Value) (h0 : Heap) (n0 : Nat) (O0 : Old Z n0 h0) (S_cs : Sta Z Z.heap "java/lang/String" "COMPACT_STRINGS" "Z" (.int cs)) (q_cs : ¬ cs = (0 : Int32)) (S_sf : Sta Z Z.heap "jdk/internal/util/Preconditions" "SIOOBE_FORMATTER" "Ljava/util/function/BiFunction;" vf) (q_sf : vf = .null ∨ ∃ z, vf = .ref z) :
  MetFree l x (head1 (Jvm.Cond.code x code maxLocals ret :: ws) room_1) (fun ay U => ay = #[(.long ua), (.long ub), (.long uc), (.int tk)] ∧ Z.Warmed39 U.vm ∧ U.heap = h0 ∧ CHv Z EL U.vm h0 ∧ ∀ y ∈ ([] : List Addr), Safe Z EL U.vm h0 y) (fun _ _ _ _ _ => True) (fun _ U o U' => ∃ v L, o = .returned v ∧ Q0 Z ua ub uc tk cs vf h0 n0 v U'.heap L ∧ CHr Z EL U.vm U.heap U'.vm U'.heap ∧ ReturnedEndW U o U' L room_1.cells room_1.slots) := by
 refine MetFree.of_bodySF (plainFor_of_name pn_com_example_reportwire_reportwire_ArgumentsAsksForHelpPinLaw) hisR ?_
 intro p e s m args below meth c s₁ Bd hml0 hP hK
 obtain ⟨rfl, hZ, hh, hCH, hSf⟩ := hP
 have hx := Bd.exec
 have hby := Bd.bytes
 have hlk : meth.locks = false := BodyLoose.notSynchronized Bd
 have hml : c.maxLocals = 16 := hml0
 have hown : s.vm.findClass "com/example/reportwire/reportwire/ArgumentsAsksForHelpPinLaw" = some m.cls := findClass_of_methodNamed Bd.named
 have hnm := (name_of_methodNamed Bd.named Bd.method).1
 have X0 : Stand p l e room_1 (s.setVm s.vm) m #[(.long ua), (.long ub), (.long uc), (.int tk)] below meth c s₁ [] 0 0 := Stand.of_body Bd
 have e0 : s₁.heap = h0 := by rw [← hh, Bd.state]; rfl
 have N0 := Fr.nil n0
 have hS0 : s.Since s.vm 0 := (State.WarmedH.refl s).since 0
 have hk0 : 0 ≤ h0.size := Nat.zero_le _
 have CH0 : CHr Z EL s.vm s.heap s.vm h0 := by rw [hh]; exact CHr.refl hCH
 have hEL : EW Z a0 EL := own_EW hw
 have hwS := own_wS hw
 suffices hgo : GoW p e below s 48 3328 Z EL (Q0 Z ua ub uc tk cs vf h0 n0) (s₁.setTop (mkF m 0 #[.val (.long ua), .second, .val (.long ub), .second, .val (.long uc), .second, .val (.int tk), .unset, .unset, .unset, .unset, .unset, .unset, .unset, .unset, .unset] [])) by
  obtain ⟨t, o, h1, h2⟩ := hgo; exact ⟨t, o, castTop (ef_rm0 m ua ub uc tk) h1, h2⟩
 show GoW _ _ _ _ _ _ _ _ _ (s₁.setTop (mkF m 0 #[.val (.long ua), .second, .val (.long ub), .second, .val (.long uc), .second, .val (.int tk), .unset, .unset, .unset, .unset, .unset, .unset, .unset, .unset, .unset] []))
 refine GoW.st (fun _ => XS.iconst X0.here hx rfl (hb hby at_0)) ?_
 obtain ⟨T1, h1, k1, X1, e1, E1, A1, Ex1, V1, st1⟩ := newRE X0 hx hZ hown (wdx hw 0 rfl) (wdx hw 1 rfl) e0 (g := (mkF m 1 #[.val (.long ua), .second, .val (.long ub), .second, .val (.long uc), .second, .val (.int tk), .unset, .unset, .unset, .unset, .unset, .unset, .unset, .unset, .unset] [(.int 3)])) rfl (hb hby at_1) rfl (by decide) (cap := 3) (by decide) (by decide) (by decide) (by decide) (ad := "[Ljava/lang/String;") rfl
 obtain ⟨b1, g1⟩ : ∃ z, z = h0.size := ⟨_, rfl⟩
 rw [← g1] at A1 Ex1 st1
 refine GoW.st st1 ?_
 have g_b1 : n0 ≤ b1 := Nat.le_trans (own_le O0) (Nat.le_of_eq g1.symm)
 have sf_b1 : Safe Z EL s.vm h0 b1 := Safe.new (Nat.le_of_eq g1.symm)
 have f2 := Safe.ext E1 CH0.1 sf_b1
 have CH1 := CH0.trans (CHr.ext E1 CH0.1)
 have hk1 : 0 ≤ Array.size h1 := Nat.le_trans hk0 E1.1
 have O1 := O0.ext E1
 have f3 : Arv Z h1 b1 k1 (.object "java/lang/String") (3 : Int32) [.null, .null, .null] .null := (Arv.new A1 (by decide)).pad (pad_rep [] .null 3)
 show GoW _ _ _ _ _ _ _ _ _ (T1.setTop (mkF m 4 #[.val (.long ua), .second, .val (.long ub), .second, .val (.long uc), .second, .val (.int tk), .unset, .unset, .unset, .unset, .unset, .unset, .unset, .unset, .unset] [(.ref b1)]))
 refine GoW.st (fun _ => XS.dup X1.here hx rfl (hb hby at_4) rfl rfl) ?_
 refine GoW.st (fun _ => XS.iconst X1.here hx rfl (hb hby at_5)) ?_
 refine GoW.st (fun _ => XS.lloadN X1.here hx rfl (hb hby at_6) rfl) ?_
 show GoW _ _ _ _ _ _ _ _ _ (T1.setTop (mkF m 7 #[.val (.long ua), .second, .val (.long ub), .second, .val (.long uc), .second, .val (.int tk), .unset, .unset, .unset, .unset, .unset, .unset, .unset, .unset, .unset] [(.long ua), (.int 0), (.ref b1), (.ref b1)]))
 obtain ⟨_, _, ⟨T4, L4, k4, n4⟩, -, Xr4, hSr4, hgr4, ⟨Lc4, hQ4, l4, y4, z4, C4⟩, st4⟩ := callSS X1 hx (y := mn13) hown (mvT hZ (wdx hw 2 rfl)) (mvT hZ (wdx hw 3 rfl)) (mvT hZ (wdx hw 4 rfl)) (mvT hZ (wdx hw 5 rfl)) (by decide) (own_back (W := 3) (rm1 l Z a0 hw [] ua cs h1 n0 O1 S_cs q_cs) hZ (wdx hw 5 rfl) (wdx hw 4 rfl) (by decide) (by decide) hEL CH1.1 all0) (g := (mkF m 7 #[.val (.long ua), .second, .val (.long ub), .second, .val (.long uc), .second, .val (.int tk), .unset, .unset, .unset, .unset, .unset, .unset, .unset, .unset, .unset] [(.long ua), (.int 0), (.ref b1), (.ref b1)])) rfl (by rw [hml]; rfl) (argsL := [(.long ua)]) (rest := [(.int 0), (.ref b1), (.ref b1)]) (lenOf pd__J_Ljava_lang_String_ rfl) rfl (by show 2 * 0 + _ ≤ _; exact Nat.le_of_eq rfl) (hb hby at_7) (fun _ _ => ⟨rfl, e1, (by exact lee rfl), (by exact lee rfl)⟩)
 dsimp only [Pt.U, Pt.locs, Pt.cells, Pt.slots] at Xr4 hSr4 hgr4 l4 y4 z4 C4 st4 hQ4
 subst l4 y4 z4
 obtain ⟨X4, hS4, hZ4, hown4⟩ := rebS hS0 (by rw [e1]; exact hk1) Xr4 hSr4 hgr4 hZ hown
 obtain ⟨rr_4, tb_4, kt_4, rfl, Nq4, Kq4, f5, f6, f7, f8, szr_4⟩ := hQ4
 have N4 := Fr.app N0 Nq4
 refine GoW.tr st4 ?_
 have f9 : Safe Z EL T4.vm T4.heap b1 := C4.safe Ex1.lt f2
 have f10 := Ex1.keep Kq4
 have f11 := f3.keep Kq4 nin0
 have CH4 := CH1.trans C4
 have O4 := O1.keep Kq4 all0
 have g_rr_4 : n0 ≤ rr_4 := Nat.le_trans (own_le O1) szr_4
 have ne12 : b1 ≠ rr_4 := Nat.ne_of_lt (Nat.lt_of_lt_of_le Ex1.lt szr_4)
 show GoW _ _ _ _ _ _ _ _ _ (T4.setTop (mkF m 10 #[.val (.long ua), .second, .val (.long ub), .second, .val (.long uc), .second, .val (.int tk), .unset, .unset, .unset, .unset, .unset, .unset, .unset, .unset, .unset] [(.ref rr_4), (.int 0), (.ref b1), (.ref b1)]))
 have vz13 := f11
 obtain ⟨cl13, Ar13, qc13, Sz13, Nn13, Ha13, Gf13⟩ := id f11
 obtain ⟨T13, h13, X13, e13, W13, st13⟩ := stR X4 hx hZ4 rfl Ar13 (j := (0 : Int32)) (inb_of Sz13 ⟨by decide, by decide⟩) rfl (Sto.ofV Ar13 qc13 V1 (Ins.self f5)) (g := (mkF m 10 #[.val (.long ua), .second, .val (.long ub), .second, .val (.long uc), .second, .val (.int tk), .unset, .unset, .unset, .unset, .unset, .unset, .unset, .unset, .unset] [(.ref rr_4), (.int 0), (.ref b1), (.ref b1)])) rfl rfl (hb hby at_10)
 refine GoW.st st13 ?_
 have f15 := Safe.wr W13 f9 CH4.1 f9
 have f16 := f10.wr W13
 have f17 := f5.wr W13
 have f18 := f6.other W13 (Or.inl (Ne.symm ne12))
 have f19 := f7.other W13 (Or.inl (Ne.symm ne12))
 have ne20 : tb_4 ≠ b1 := own_tyne f8 vz13 (by decide)
 have f21 := f8.other W13 ne20
 have CH13 := CH4.trans (CHr.wr W13 f9 CH4.1)
 have hk13 : Array.size T4.heap ≤ Array.size h13 := Nat.le_trans (Nat.le_refl _) (Keep.of_wr W13).1
 have O13 := O4.wr W13 g_b1
 have N13 := Fr.snoc X13 N4 g_b1
 have f14 : Arv Z h13 b1 k1 (.object "java/lang/String") (3 : Int32) [(.ref rr_4), .null, .null] .null := Arv.set Ar13 qc13 Sz13 Nn13 Ha13 Gf13 rfl W13 0 rfl (Nat.le_of_ble_eq_true rfl)
 refine GoW.st (fun _ => XS.dup X13.here hx rfl (hb hby at_11) rfl rfl) ?_
 refine GoW.st (fun _ => XS.iconst X13.here hx rfl (hb hby at_12)) ?_
 refine GoW.st (fun _ => XS.lloadN X13.here hx rfl (hb hby at_13) rfl) ?_
 show GoW _ _ _ _ _ _ _ _ _ (T13.setTop (mkF m 14 #[.val (.long ua), .second, .val (.long ub), .second, .val (.long uc), .second, .val (.int tk), .unset, .unset, .unset, .unset, .unset, .unset, .unset, .unset, .unset] [(.long ub), (.int 1), (.ref b1), (.ref b1)]))
 obtain ⟨_, _, ⟨T22, L22, k22, n22⟩, -, Xr22, hSr22, hgr22, ⟨Lc22, hQ22, l22, y22, z22, C22⟩, st22⟩ := callSS X13 hx (y := mn13) hown4 (mvT hZ4 (wdx hw 2 rfl)) (mvT hZ4 (wdx hw 3 rfl)) (mvT hZ4 (wdx hw 4 rfl)) (mvT hZ4 (wdx hw 5 rfl)) (by decide) (own_back (W := 3) (rm1 l Z a0 hw [] ub cs h13 n0 O13 S_cs q_cs) hZ4 (wdx hw 5 rfl) (wdx hw 4 rfl) (by decide) (by decide) hEL CH13.1 all0) (g := (mkF m 14 #[.val (.long ua), .second, .val (.long ub), .second, .val (.long uc), .second, .val (.int tk), .unset, .unset, .unset, .unset, .unset, .unset, .unset, .unset, .unset] [(.long ub), (.int 1), (.ref b1), (.ref b1)])) rfl (by rw [hml]; rfl) (argsL := [(.long ub)]) (rest := [(.int 1), (.ref b1), (.ref b1)]) (lenOf pd__J_Ljava_lang_String_ rfl) rfl (by show 2 * 0 + _ ≤ _; exact Nat.le_of_eq rfl) (hb hby at_14) (fun _ _ => ⟨rfl, e13, (by exact lee rfl), (by exact lee rfl)⟩)
 dsimp only [Pt.U, Pt.locs, Pt.cells, Pt.slots] at Xr22 hSr22 hgr22 l22 y22 z22 C22 st22 hQ22
 subst l22 y22 z22
 obtain ⟨X22, hS22, hZ22, hown22⟩ := rebS hS4 (by rw [e13]; exact hk13) Xr22 hSr22 hgr22 hZ4 hown4
 obtain ⟨rr_22, tb_22, kt_22, rfl, Nq22, Kq22, f23, f24, f25, f26, szr_22⟩ := hQ22
 have N22 := Fr.app N13 Nq22
 refine GoW.tr st22 ?_
 have f27 : Safe Z EL T22.vm T22.heap b1 := C22.safe f16.lt f15
 have f28 := f16.keep Kq22
 have f29 := f17.keep Kq22
 have f30 := f18.keep Kq22 nin0
 have f31 := f19.keep Kq22 nin0
 have f32 := f21.keep Kq22 nin0
 have f33 := f14.keep Kq22 nin0
 have CH22 := CH13.trans C22
 have O22 := O13.keep Kq22 all0
 have g_rr_22 : n0 ≤ rr_22 := Nat.le_trans (own_le O13) szr_22
 have ne34 : b1 ≠ rr_22 := Nat.ne_of_lt (Nat.lt_of_lt_of_le f16.lt szr_22)
 have ne35 : rr_4 ≠ rr_22 := Nat.ne_of_lt (Nat.lt_of_lt_of_le f17.lt szr_22)
 have ne36 : tb_4 ≠ rr_22 := Nat.ne_of_lt (Nat.lt_of_lt_of_le f21.lt szr_22)
 show GoW _ _ _ _ _ _ _ _ _ (T22.setTop (mkF m 17 #[.val (.long ua), .second, .val (.long ub), .second, .val (.long uc), .second, .val (.int tk), .unset, .unset, .unset, .unset, .unset, .unset, .unset, .unset, .unset] [(.ref rr_22), (.int 1), (.ref b1), (.ref b1)]))
 have vz37 := f33
 obtain ⟨cl37, Ar37, qc37, Sz37, Nn37, Ha37, Gf37⟩ := id f33
 obtain ⟨T37, h37, X37, e37, W37, st37⟩ := stR X22 hx hZ22 rfl Ar37 (j := (1 : Int32)) (inb_of Sz37 ⟨by decide, by decide⟩) rfl (Sto.ofV Ar37 qc37 V1 (Ins.self f23)) (g := (mkF m 17 #[.val (.long ua), .second, .val (.long ub), .second, .val (.long uc), .second, .val (.int tk), .unset, .unset, .unset, .unset, .unset, .unset, .unset, .unset, .unset] [(.ref rr_22), (.int 1), (.ref b1), (.ref b1)])) rfl rfl (hb hby at_17)
 refine GoW.st st37 ?_
 have f39 := Safe.wr W37 f27 CH22.1 f27
 have f40 := f28.wr W37
 have f41 := f29.wr W37
 have f42 := f30.other W37 (Or.inl (Ne.symm ne12))
 have f43 := f31.other W37 (Or.inl (Ne.symm ne12))
 have f44 := f32.other W37 ne20
 have f45 := f23.wr W37
 have f46 := f24.other W37 (Or.inl (Ne.symm ne34))
 have f47 := f25.other W37 (Or.inl (Ne.symm ne34))
 have ne48 : tb_22 ≠ b1 := own_tyne f26 vz37 (by decide)
 have f49 := f26.other W37 ne48
 have CH37 := CH22.trans (CHr.wr W37 f27 CH22.1)
 have hk37 : Array.size T22.heap ≤ Array.size h37 := Nat.le_trans (Nat.le_refl _) (Keep.of_wr W37).1
 have O37 := O22.wr W37 g_b1
 have N37 := Fr.snoc X37 N22 g_b1
 have f38 : Arv Z h37 b1 k1 (.object "java/lang/String") (3 : Int32) [(.ref rr_4), (.ref rr_22), .null] .null := Arv.set Ar37 qc37 Sz37 Nn37 Ha37 Gf37 rfl W37 1 rfl (Nat.le_of_ble_eq_true rfl)
 refine GoW.st (fun _ => XS.dup X37.here hx rfl (hb hby at_18) rfl rfl) ?_
 refine GoW.st (fun _ => XS.iconst X37.here hx rfl (hb hby at_19)) ?_
 refine GoW.st (fun _ => XS.lload X37.here hx rfl (hb hby at_20) rfl) ?_
 show GoW _ _ _ _ _ _ _ _ _ (T37.setTop (mkF m 22 #[.val (.long ua), .second, .val (.long ub), .second, .val (.long uc), .second, .val (.int tk), .unset, .unset, .unset, .unset, .unset, .unset, .unset, .unset, .unset] [(.long uc), (.int 2), (.ref b1), (.ref b1)]))
 obtain ⟨_, _, ⟨T50, L50, k50, n50⟩, -, Xr50, hSr50, hgr50, ⟨Lc50, hQ50, l50, y50, z50, C50⟩, st50⟩ := callSS X37 hx (y := mn13) hown22 (mvT hZ22 (wdx hw 2 rfl)) (mvT hZ22 (wdx hw 3 rfl)) (mvT hZ22 (wdx hw 4 rfl)) (mvT hZ22 (wdx hw 5 rfl)) (by decide) (own_back (W := 3) (rm1 l Z a0 hw [] uc cs h37 n0 O37 S_cs q_cs) hZ22 (wdx hw 5 rfl) (wdx hw 4 rfl) (by decide) (by decide) hEL CH37.1 all0) (g := (mkF m 22 #[.val (.long ua), .second, .val (.long ub), .second, .val (.long uc), .second, .val (.int tk), .unset, .unset, .unset, .unset, .unset, .unset, .unset, .unset, .unset] [(.long uc), (.int 2), (.ref b1), (.ref b1)])) rfl (by rw [hml]; rfl) (argsL := [(.long uc)]) (rest := [(.int 2), (.ref b1), (.ref b1)]) (lenOf pd__J_Ljava_lang_String_ rfl) rfl (by show 2 * 0 + _ ≤ _; exact Nat.le_of_eq rfl) (hb hby at_22) (fun _ _ => ⟨rfl, e37, (by exact lee rfl), (by exact lee rfl)⟩)
 dsimp only [Pt.U, Pt.locs, Pt.cells, Pt.slots] at Xr50 hSr50 hgr50 l50 y50 z50 C50 st50 hQ50
 subst l50 y50 z50
 obtain ⟨X50, hS50, hZ50, hown50⟩ := rebS hS22 (by rw [e37]; exact hk37) Xr50 hSr50 hgr50 hZ22 hown22
 obtain ⟨rr_50, tb_50, kt_50, rfl, Nq50, Kq50, f51, f52, f53, f54, szr_50⟩ := hQ50
 have N50 := Fr.app N37 Nq50
 refine GoW.tr st50 ?_
 have f55 : Safe Z EL T50.vm T50.heap b1 := C50.safe f40.lt f39
 have f56 := f40.keep Kq50
 have f57 := f41.keep Kq50
 have f58 := f42.keep Kq50 nin0
 have f59 := f43.keep Kq50 nin0
 have f60 := f44.keep Kq50 nin0
 have f61 := f45.keep Kq50
 have f62 := f46.keep Kq50 nin0
 have f63 := f47.keep Kq50 nin0
 have f64 := f49.keep Kq50 nin0
 have f65 := f38.keep Kq50 nin0
 have CH50 := CH37.trans C50
 have O50 := O37.keep Kq50 all0
 have g_rr_50 : n0 ≤ rr_50 := Nat.le_trans (own_le O37) szr_50
 have ne66 : b1 ≠ rr_50 := Nat.ne_of_lt (Nat.lt_of_lt_of_le f40.lt szr_50)
 have ne67 : rr_4 ≠ rr_50 := Nat.ne_of_lt (Nat.lt_of_lt_of_le f41.lt szr_50)
 have ne68 : tb_4 ≠ rr_50 := Nat.ne_of_lt (Nat.lt_of_lt_of_le f44.lt szr_50)
 have ne69 : rr_22 ≠ rr_50 := Nat.ne_of_lt (Nat.lt_of_lt_of_le f45.lt szr_50)
 have ne70 : tb_22 ≠ rr_50 := Nat.ne_of_lt (Nat.lt_of_lt_of_le f49.lt szr_50)
 show GoW _ _ _ _ _ _ _ _ _ (T50.setTop (mkF m 25 #[.val (.long ua), .second, .val (.long ub), .second, .val (.long uc), .second, .val (.int tk), .unset, .unset, .unset, .unset, .unset, .unset, .unset, .unset, .unset] [(.ref rr_50), (.int 2), (.ref b1), (.ref b1)]))
 have vz71 := f65
 obtain ⟨cl71, Ar71, qc71, Sz71, Nn71, Ha71, Gf71⟩ := id f65
 obtain ⟨T71, h71, X71, e71, W71, st71⟩ := stR X50 hx hZ50 rfl Ar71 (j := (2 : Int32)) (inb_of Sz71 ⟨by decide, by decide⟩) rfl (Sto.ofV Ar71 qc71 V1 (Ins.self f51)) (g := (mkF m 25 #[.val (.long ua), .second, .val (.long ub), .second, .val (.long uc), .second, .val (.int tk), .unset, .unset, .unset, .unset, .unset, .unset, .unset, .unset, .unset] [(.ref rr_50), (.int 2), (.ref b1), (.ref b1)])) rfl rfl (hb hby at_25)
 refine GoW.st st71 ?_
 have f73 := Safe.wr W71 f55 CH50.1 f55
 have f74 := f56.wr W71
 have f75 := f57.wr W71
 have f76 := f58.other W71 (Or.inl (Ne.symm ne12))
 have f77 := f59.other W71 (Or.inl (Ne.symm ne12))
 have f78 := f60.other W71 ne20
 have f79 := f61.wr W71
 have f80 := f62.other W71 (Or.inl (Ne.symm ne34))
 have f81 := f63.other W71 (Or.inl (Ne.symm ne34))
 have f82 := f64.other W71 ne48
 have f83 := f51.wr W71
 have f84 := f52.other W71 (Or.inl (Ne.symm ne66))
 have f85 := f53.other W71 (Or.inl (Ne.symm ne66))
 have ne86 : tb_50 ≠ b1 := own_tyne f54 vz71 (by decide)
 have f87 := f54.other W71 ne86
 have CH71 := CH50.trans (CHr.wr W71 f55 CH50.1)
 have hk71 : Array.size T50.heap ≤ Array.size h71 := Nat.le_trans (Nat.le_refl _) (Keep.of_wr W71).1
 have O71 := O50.wr W71 g_b1
 have N71 := Fr.snoc X71 N50 g_b1
 have f72 : Arv Z h71 b1 k1 (.object "java/lang/String") (3 : Int32) [(.ref rr_4), (.ref rr_22), (.ref rr_50)] .null := Arv.set Ar71 qc71 Sz71 Nn71 Ha71 Gf71 rfl W71 2 rfl (Nat.le_of_ble_eq_true rfl)
 refine GoW.st (fun _ => XS.astore X71.here hx rfl (hb hby at_26) rfl rfl (l' := #[.val (.long ua), .second, .val (.long ub), .second, .val (.long uc), .second, .val (.int tk), .val (.ref b1), .unset, .unset, .unset, .unset, .unset, .unset, .unset, .unset]) rfl) ?_
 refine GoW.st (fun _ => XS.lloadN X71.here hx rfl (hb hby at_28) rfl) ?_
 show GoW _ _ _ _ _ _ _ _ _ (T71.setTop (mkF m 29 #[.val (.long ua), .second, .val (.long ub), .second, .val (.long uc), .second, .val (.int tk), .val (.ref b1), .unset, .unset, .unset, .unset, .unset, .unset, .unset, .unset] [(.long ua)]))
 obtain ⟨_, _, ⟨T88, L88, k88, n88⟩, -, Xr88, hSr88, hgr88, ⟨Lc88, hQ88, l88, y88, z88, C88⟩, st88⟩ := callSS X71 hx (y := mn14) hown50 (mvT hZ50 (wdx hw 39 rfl)) (mvT hZ50 (wdx hw 40 rfl)) (mvT hZ50 (wdx hw 4 rfl)) (mvT hZ50 (wdx hw 41 rfl)) (by decide) (own_back (W := 0) (rm8 l Z a0 hw [] ua cs vf h71 n0 O71 S_cs q_cs S_sf q_sf) hZ50 (wdx hw 41 rfl) (wdx hw 4 rfl) (by decide) (by decide) hEL CH71.1 all0) (g := (mkF m 29 #[.val (.long ua), .second, .val (.long ub), .second, .val (.long uc), .second, .val (.int tk), .val (.ref b1), .unset, .unset, .unset, .unset, .unset, .unset, .unset, .unset] [(.long ua)])) rfl (by rw [hml]; rfl) (argsL := [(.long ua)]) (rest := []) (lenOf pd__J_Z rfl) rfl (by show 2 * 0 + _ ≤ _; exact Nat.le_of_eq rfl) (hb hby at_29) (fun _ _ => ⟨rfl, e71, (by exact lee rfl), (by exact lee rfl)⟩)
 dsimp only [Pt.U, Pt.locs, Pt.cells, Pt.slots] at Xr88 hSr88 hgr88 l88 y88 z88 C88 st88 hQ88
 subst l88 y88 z88
 obtain ⟨X88, hS88, hZ88, hown88⟩ := rebS hS50 (by rw [e71]; exact hk71) Xr88 hSr88 hgr88 hZ50 hown50
 obtain ⟨rfl, Nq88, Kq88⟩ := hQ88
 have N88 := Fr.app N71 Nq88
 refine GoW.tr st88 ?_
 have f89 : Safe Z EL T88.vm T88.heap b1 := C88.safe f74.lt f73
 have f90 := f74.keep Kq88
 have f91 := f75.keep Kq88
 have f92 := f76.keep Kq88 nin0
 have f93 := f77.keep Kq88 nin0
 have f94 := f78.keep Kq88 nin0
 have f95 := f79.keep Kq88
 have f96 := f80.keep Kq88 nin0
 have f97 := f81.keep Kq88 nin0
 have f98 := f82.keep Kq88 nin0
 have f99 := f83.keep Kq88
 have f100 := f84.keep Kq88 nin0
 have f101 := f85.keep Kq88 nin0
 have f102 := f87.keep Kq88 nin0
 have f103 := f72.keep Kq88 nin0
 have CH88 := CH71.trans C88
 have O88 := O71.keep Kq88 all0
 show GoW _ _ _ _ _ _ _ _ _ (T88.setTop (mkF m 32 #[.val (.long ua), .second, .val (.long ub), .second, .val (.long uc), .second, .val (.int tk), .val (.ref b1), .unset, .unset, .unset, .unset, .unset, .unset, .unset, .unset] [(.int (fh (fch ua)))]))
 refine GoW.st (fun _ => XS.istore X88.here hx rfl (hb hby at_32) rfl (l' := #[.val (.long ua), .second, .val (.long ub), .second, .val (.long uc), .second, .val (.int tk), .val (.ref b1), .val (.int (fh (fch ua))), .unset, .unset, .unset, .unset, .unset, .unset, .unset]) rfl) ?_
 refine GoW.st (fun _ => XS.lloadN X88.here hx rfl (hb hby at_34) rfl) ?_
 show GoW _ _ _ _ _ _ _ _ _ (T88.setTop (mkF m 35 #[.val (.long ua), .second, .val (.long ub), .second, .val (.long uc), .second, .val (.int tk), .val (.ref b1), .val (.int (fh (fch ua))), .unset, .unset, .unset, .unset, .unset, .unset, .unset] [(.long ub)]))
 obtain ⟨_, _, ⟨T104, L104, k104, n104⟩, -, Xr104, hSr104, hgr104, ⟨Lc104, hQ104, l104, y104, z104, C104⟩, st104⟩ := callSS X88 hx (y := mn14) hown88 (mvT hZ88 (wdx hw 39 rfl)) (mvT hZ88 (wdx hw 40 rfl)) (mvT hZ88 (wdx hw 4 rfl)) (mvT hZ88 (wdx hw 41 rfl)) (by decide) (own_back (W := 0) (rm8 l Z a0 hw [] ub cs vf T88.heap n0 O88 S_cs q_cs S_sf q_sf) hZ88 (wdx hw 41 rfl) (wdx hw 4 rfl) (by decide) (by decide) hEL CH88.1 all0) (g := (mkF m 35 #[.val (.long ua), .second, .val (.long ub), .second, .val (.long uc), .second, .val (.int tk), .val (.ref b1), .val (.int (fh (fch ua))), .unset, .unset, .unset, .unset, .unset, .unset, .unset] [(.long ub)])) rfl (by rw [hml]; rfl) (argsL := [(.long ub)]) (rest := []) (lenOf pd__J_Z rfl) rfl (by show 2 * 0 + _ ≤ _; exact Nat.le_of_eq rfl) (hb hby at_35) (fun _ _ => ⟨rfl, rfl, (by exact lee rfl), (by exact lee rfl)⟩)
 dsimp only [Pt.U, Pt.locs, Pt.cells, Pt.slots] at Xr104 hSr104 hgr104 l104 y104 z104 C104 st104 hQ104
 subst l104 y104 z104
 obtain ⟨X104, hS104, hZ104, hown104⟩ := rebS hS88 (Nat.le_refl _) Xr104 hSr104 hgr104 hZ88 hown88
 obtain ⟨rfl, Nq104, Kq104⟩ := hQ104
 have N104 := Fr.app N88 Nq104
 refine GoW.tr st104 ?_
 have f105 : Safe Z EL T104.vm T104.heap b1 := C104.safe f90.lt f89
 have f106 := f90.keep Kq104
 have f107 := f91.keep Kq104
 have f108 := f92.keep Kq104 nin0
 have f109 := f93.keep Kq104 nin0
 have f110 := f94.keep Kq104 nin0
 have f111 := f95.keep Kq104
 have f112 := f96.keep Kq104 nin0
 have f113 := f97.keep Kq104 nin0
 have f114 := f98.keep Kq104 nin0
 have f115 := f99.keep Kq104
 have f116 := f100.keep Kq104 nin0
 have f117 := f101.keep Kq104 nin0
 have f118 := f102.keep Kq104 nin0
 have f119 := f103.keep Kq104 nin0
 have CH104 := CH88.trans C104
 have O104 := O88.keep Kq104 all0
 show GoW _ _ _ _ _ _ _ _ _ (T104.setTop (mkF m 38 #[.val (.long ua), .second, .val (.long ub), .second, .val (.long uc), .second, .val (.int tk), .val (.ref b1), .val (.int (fh (fch ua))), .unset, .unset, .unset, .unset, .unset, .unset, .unset] [(.int (fh (fch ub)))]))
 refine GoW.st (fun _ => XS.istore X104.here hx rfl (hb hby at_38) rfl (l' := #[.val (.long ua), .second, .val (.long ub), .second, .val (.long uc), .second, .val (.int tk), .val (.ref b1), .val (.int (fh (fch ua))), .val (.int (fh (fch ub))), .unset, .unset, .unset, .unset, .unset, .unset]) rfl) ?_
 refine GoW.st (fun _ => XS.lload X104.here hx rfl (hb hby at_40) rfl) ?_
 show GoW _ _ _ _ _ _ _ _ _ (T104.setTop (mkF m 42 #[.val (.long ua), .second, .val (.long ub), .second, .val (.long uc), .second, .val (.int tk), .val (.ref b1), .val (.int (fh (fch ua))), .val (.int (fh (fch ub))), .unset, .unset, .unset, .unset, .unset, .unset] [(.long uc)]))
 obtain ⟨_, _, ⟨T120, L120, k120, n120⟩, -, Xr120, hSr120, hgr120, ⟨Lc120, hQ120, l120, y120, z120, C120⟩, st120⟩ := callSS X104 hx (y := mn14) hown104 (mvT hZ104 (wdx hw 39 rfl)) (mvT hZ104 (wdx hw 40 rfl)) (mvT hZ104 (wdx hw 4 rfl)) (mvT hZ104 (wdx hw 41 rfl)) (by decide) (own_back (W := 0) (rm8 l Z a0 hw [] uc cs vf T104.heap n0 O104 S_cs q_cs S_sf q_sf) hZ104 (wdx hw 41 rfl) (wdx hw 4 rfl) (by decide) (by decide) hEL CH104.1 all0) (g := (mkF m 42 #[.val (.long ua), .second, .val (.long ub), .second, .val (.long uc), .second, .val (.int tk), .val (.ref b1), .val (.int (fh (fch ua))), .val (.int (fh (fch ub))), .unset, .unset, .unset, .unset, .unset, .unset] [(.long uc)])) rfl (by rw [hml]; rfl) (argsL := [(.long uc)]) (rest := []) (lenOf pd__J_Z rfl) rfl (by show 2 * 0 + _ ≤ _; exact Nat.le_of_eq rfl) (hb hby at_42) (fun _ _ => ⟨rfl, rfl, (by exact lee rfl), (by exact lee rfl)⟩)
 dsimp only [Pt.U, Pt.locs, Pt.cells, Pt.slots] at Xr120 hSr120 hgr120 l120 y120 z120 C120 st120 hQ120
 subst l120 y120 z120
 obtain ⟨X120, hS120, hZ120, hown120⟩ := rebS hS104 (Nat.le_refl _) Xr120 hSr120 hgr120 hZ104 hown104
 obtain ⟨rfl, Nq120, Kq120⟩ := hQ120
 have N120 := Fr.app N104 Nq120
 refine GoW.tr st120 ?_
 have f121 : Safe Z EL T120.vm T120.heap b1 := C120.safe f106.lt f105
 have f122 := f106.keep Kq120
 have f123 := f107.keep Kq120
 have f124 := f108.keep Kq120 nin0
 have f125 := f109.keep Kq120 nin0
 have f126 := f110.keep Kq120 nin0
 have f127 := f111.keep Kq120
 have f128 := f112.keep Kq120 nin0
 have f129 := f113.keep Kq120 nin0
 have f130 := f114.keep Kq120 nin0
 have f131 := f115.keep Kq120
 have f132 := f116.keep Kq120 nin0
 have f133 := f117.keep Kq120 nin0
 have f134 := f118.keep Kq120 nin0
 have f135 := f119.keep Kq120 nin0
 have CH120 := CH104.trans C120
 have O120 := O104.keep Kq120 all0
 show GoW _ _ _ _ _ _ _ _ _ (T120.setTop (mkF m 45 #[.val (.long ua), .second, .val (.long ub), .second, .val (.long uc), .second, .val (.int tk), .val (.ref b1), .val (.int (fh (fch ua))), .val (.int (fh (fch ub))), .unset, .unset, .unset, .unset, .unset, .unset] [(.int (fh (fch uc)))]))
 refine GoW.st (fun _ => XS.istore X120.here hx rfl (hb hby at_45) rfl (l' := #[.val (.long ua), .second, .val (.long ub), .second, .val (.long uc), .second, .val (.int tk), .val (.ref b1), .val (.int (fh (fch ua))), .val (.int (fh (fch ub))), .val (.int (fh (fch uc))), .unset, .unset, .unset, .unset, .unset]) rfl) ?_
 refine GoW.st (fun _ => XS.iload X120.here hx rfl (hb hby at_47) rfl) ?_
 refine GoW.st (fun _ => X120.ldcI hx hown120 (mvT hZ120 (wdx hw 67 rfl)) rfl (hb hby at_49)) ?_
 show GoW _ _ _ _ _ _ _ _ _ (T120.setTop (mkF m 51 #[.val (.long ua), .second, .val (.long ub), .second, .val (.long uc), .second, .val (.int tk), .val (.ref b1), .val (.int (fh (fch ua))), .val (.int (fh (fch ub))), .val (.int (fh (fch uc))), .unset, .unset, .unset, .unset, .unset] [(.int 2147483647), (.int tk)]))
 refine GoW.st (fun _ => XS.iand X120.here hx rfl (hb hby at_51) rfl) ?_
 refine GoW.st (fun _ => XS.iconst X120.here hx rfl (hb hby at_52)) ?_
 show GoW _ _ _ _ _ _ _ _ _ (T120.setTop (mkF m 53 #[.val (.long ua), .second, .val (.long ub), .second, .val (.long uc), .second, .val (.int tk), .val (.ref b1), .val (.int (fh (fch ua))), .val (.int (fh (fch ub))), .val (.int (fh (fch uc))), .unset, .unset, .unset, .unset, .unset] [(.int 4), (.int (tk &&& (2147483647 : Int32)))]))
 refine GoW.st (fun _ => iremM X120 hx rfl (hb hby at_53) rfl (by decide)) ?_
 show GoW _ _ _ _ _ _ _ _ _ (T120.setTop (mkF m 54 #[.val (.long ua), .second, .val (.long ub), .second, .val (.long uc), .second, .val (.int tk), .val (.ref b1), .val (.int (fh (fch ua))), .val (.int (fh (fch ub))), .val (.int (fh (fch uc))), .unset, .unset, .unset, .unset, .unset] [(.int ((tk &&& (2147483647 : Int32)) % (4 : Int32)))]))
 refine GoW.st (fun _ => XS.istore X120.here hx rfl (hb hby at_54) rfl (l' := #[.val (.long ua), .second, .val (.long ub), .second, .val (.long uc), .second, .val (.int tk), .val (.ref b1), .val (.int (fh (fch ua))), .val (.int (fh (fch ub))), .val (.int (fh (fch uc))), .val (.int ((tk &&& (2147483647 : Int32)) % (4 : Int32))), .unset, .unset, .unset, .unset]) rfl) ?_
 show GoW _ _ _ _ _ _ _ _ _ (T120.setTop (mkF m 56 #[.val (.long ua), .second, .val (.long ub), .second, .val (.long uc), .second, .val (.int tk), .val (.ref b1), .val (.int (fh (fch ua))), .val (.int (fh (fch ub))), .val (.int (fh (fch uc))), .val (.int ((tk &&& (2147483647 : Int32)) % (4 : Int32))), .unset, .unset, .unset, .unset] []))
 rcases own_k4 tk with hi | hi | hi | hi
 ·rw [hi]
  show GoW _ _ _ _ _ _ _ _ _ (T120.setTop (mkF m 56 #[.val (.long ua), .second, .val (.long ub), .second, .val (.long uc), .second, .val (.int tk), .val (.ref b1), .val (.int (fh (fch ua))), .val (.int (fh (fch ub))), .val (.int (fh (fch uc))), .val (.int 0), .unset, .unset, .unset, .unset] []))
  obtain ⟨T136, h136, X136, e136, E136, A136, D136, -, st136⟩ := newO X120 hx hZ120 hown120 (wdx hw 68 rfl) (wdx hw 69 rfl) (wdx hw 70 rfl) rfl (g := (mkF m 56 #[.val (.long ua), .second, .val (.long ub), .second, .val (.long uc), .second, .val (.int tk), .val (.ref b1), .val (.int (fh (fch ua))), .val (.int (fh (fch ub))), .val (.int (fh (fch uc))), .val (.int 0), .unset, .unset, .unset, .unset] [])) rfl (hb hby at_56) (by decide) (by decide)
  obtain ⟨b136, g136⟩ : ∃ z, z = T120.heap.size := ⟨_, rfl⟩
  rw [← g136] at A136 D136 st136
  refine GoW.st st136 ?_
  have g_b136 : n0 ≤ b136 := Nat.le_trans (own_le O120) (Nat.le_of_eq g136.symm)
  have sf_b136 : Safe Z EL T120.vm T120.heap b136 := Safe.new (Nat.le_of_eq g136.symm)
  have ne137 : b1 ≠ b136 := Nat.ne_of_lt (Nat.lt_of_lt_of_le f122.lt (Nat.le_of_eq g136.symm))
  have ne138 : rr_4 ≠ b136 := Nat.ne_of_lt (Nat.lt_of_lt_of_le f123.lt (Nat.le_of_eq g136.symm))
  have ne139 : tb_4 ≠ b136 := Nat.ne_of_lt (Nat.lt_of_lt_of_le f126.lt (Nat.le_of_eq g136.symm))
  have ne140 : rr_22 ≠ b136 := Nat.ne_of_lt (Nat.lt_of_lt_of_le f127.lt (Nat.le_of_eq g136.symm))
  have ne141 : tb_22 ≠ b136 := Nat.ne_of_lt (Nat.lt_of_lt_of_le f130.lt (Nat.le_of_eq g136.symm))
  have ne142 : rr_50 ≠ b136 := Nat.ne_of_lt (Nat.lt_of_lt_of_le f131.lt (Nat.le_of_eq g136.symm))
  have ne143 : tb_50 ≠ b136 := Nat.ne_of_lt (Nat.lt_of_lt_of_le f134.lt (Nat.le_of_eq g136.symm))
  have f144 := Safe.ext E136 CH120.1 f121
  have f145 := f122.ext E136
  have f146 := f123.ext E136
  have f147 := f124.ext E136
  have f148 := f125.ext E136
  have f149 := f126.ext E136
  have f150 := f127.ext E136
  have f151 := f128.ext E136
  have f152 := f129.ext E136
  have f153 := f130.ext E136
  have f154 := f131.ext E136
  have f155 := f132.ext E136
  have f156 := f133.ext E136
  have f157 := f134.ext E136
  have f158 := f135.ext E136
  have f159 := Safe.ext E136 CH120.1 sf_b136
  have CH136 := CH120.trans (CHr.ext E136 CH120.1)
  have hk136 : Array.size T120.heap ≤ Array.size h136 := Nat.le_trans (Nat.le_refl _) E136.1
  have O136 := O120.ext E136
  have f160 : Fld Z h136 b136 "com/example/reportwire/reportwire/Arguments" "optionsGiven" "Ljava/util/Set;" .null := D136 (Or.inr (wdx hw 114 rfl)) (ty := (.object "java/util/Set")) (by decide)
  have f161 : Fld Z h136 b136 "com/example/reportwire/reportwire/Arguments" "args" "[Ljava/lang/String;" .null := D136 (Or.inr (wdx hw 125 rfl)) (ty := (.array (.object "java/lang/String"))) (by decide)
  have f162 : Fld Z h136 b136 "com/example/reportwire/reportwire/Arguments" "next" "I" (.int 0) := D136 (Or.inl (wdx hw 132 rfl)) (ty := .int) (by decide)
  show GoW _ _ _ _ _ _ _ _ _ (T136.setTop (mkF m 59 #[.val (.long ua), .second, .val (.long ub), .second, .val (.long uc), .second, .val (.int tk), .val (.ref b1), .val (.int (fh (fch ua))), .val (.int (fh (fch ub))), .val (.int (fh (fch uc))), .val (.int 0), .unset, .unset, .unset, .unset] [(.ref b136)]))
  refine GoW.st (fun _ => XS.dup X136.here hx rfl (hb hby at_59) rfl rfl) ?_
  refine GoW.st (fun _ => XS.aload X136.here hx rfl (hb hby at_60) rfl rfl) ?_
  show GoW _ _ _ _ _ _ _ _ _ (T136.setTop (mkF m 62 #[.val (.long ua), .second, .val (.long ub), .second, .val (.long uc), .second, .val (.int tk), .val (.ref b1), .val (.int (fh (fch ua))), .val (.int (fh (fch ub))), .val (.int (fh (fch uc))), .val (.int 0), .unset, .unset, .unset, .unset] [(.ref b1), (.ref b136), (.ref b136)]))
  obtain ⟨_, _, ⟨T163, L163, k163, n163⟩, -, X163, ⟨Lc163, hQ163, l163, y163, z163⟩, st163⟩ := X136.specialBack hx (y := mn11) rfl hown120 (mvT hZ120 (wdx hw 71 rfl)) (mvT hZ120 (wdx hw 72 rfl)) (mvT hZ120 (wdx hw 73 rfl)) (by decide) (backOf (W := 1) (rm14_3 l Z a0 hw [] b136 b1 k1 rr_4 rr_22 rr_50 h136 n0 O136 A136 f160 f161 f162 f145 f158 g_b136 (Ne.symm ne137)) hZ120 (wdx hw 73 rfl) (wdx hw 70 rfl) (by decide) (by decide)) (g := (mkF m 62 #[.val (.long ua), .second, .val (.long ub), .second, .val (.long uc), .second, .val (.int tk), .val (.ref b1), .val (.int (fh (fch ua))), .val (.int (fh (fch ub))), .val (.int (fh (fch uc))), .val (.int 0), .unset, .unset, .unset, .unset] [(.ref b1), (.ref b136), (.ref b136)])) rfl (by rw [hml]; rfl) (Steps.refl _) (a := b136) (argsL := [(.ref b1)]) (rest := [(.ref b136)]) (lenOf pd___Ljava_lang_String__V rfl) rfl (by show 2 * 0 + _ ≤ _; exact Nat.le_of_eq rfl) (hb hby at_62) (fun _ _ => ⟨rfl, e136, (by exact lee rfl), (by exact lee rfl)⟩)
  dsimp only [Pt.U, Pt.locs, Pt.cells, Pt.slots] at X163 l163 y163 z163 st163 hQ163
  subst l163 y163 z163
  obtain ⟨na_163, kn_163, rfl, Nq163, Kq163, f164, f165, f166, szn_163⟩ := hQ163
  have N163 := Fr.app N120 Nq163
  refine GoW.tr st163 ?_
  have f167 := Safe.keep Kq163 (allS f159 all0) CH136.1 f144
  have f168 := f145.keep Kq163
  have f169 := f146.keep Kq163
  have f170 := f147.keep Kq163 (ninS ne138 nin0)
  have f171 := f148.keep Kq163 (ninS ne138 nin0)
  have f172 := f149.keep Kq163 (ninS ne139 nin0)
  have f173 := f150.keep Kq163
  have f174 := f151.keep Kq163 (ninS ne140 nin0)
  have f175 := f152.keep Kq163 (ninS ne140 nin0)
  have f176 := f153.keep Kq163 (ninS ne141 nin0)
  have f177 := f154.keep Kq163
  have f178 := f155.keep Kq163 (ninS ne142 nin0)
  have f179 := f156.keep Kq163 (ninS ne142 nin0)
  have f180 := f157.keep Kq163 (ninS ne143 nin0)
  have f181 := f158.keep Kq163 (ninS ne137 nin0)
  have f182 := Safe.keep Kq163 (allS f159 all0) CH136.1 f159
  have f183 := A136.keep Kq163
  have CH163 := CH136.trans (CHr.keep Kq163 (allS f159 all0) CH136.1)
  have hk163 : Array.size T120.heap ≤ Array.size T163.heap := Nat.le_trans hk136 Kq163.1
  have O163 := O136.keep Kq163 (allS g_b136 all0)
  have g_na_163 : n0 ≤ na_163 := Nat.le_trans (own_le O136) szn_163
  have sf_na_163 : Safe Z EL T120.vm T163.heap na_163 := Safe.keep Kq163 (allS f159 all0) CH136.1 (Safe.new szn_163)
  have ne184 : b1 ≠ na_163 := Nat.ne_of_lt (Nat.lt_of_lt_of_le f145.lt szn_163)
  have ne185 : rr_4 ≠ na_163 := Nat.ne_of_lt (Nat.lt_of_lt_of_le f146.lt szn_163)
  have ne186 : tb_4 ≠ na_163 := Nat.ne_of_lt (Nat.lt_of_lt_of_le f149.lt szn_163)
  have ne187 : rr_22 ≠ na_163 := Nat.ne_of_lt (Nat.lt_of_lt_of_le f150.lt szn_163)
  have ne188 : tb_22 ≠ na_163 := Nat.ne_of_lt (Nat.lt_of_lt_of_le f153.lt szn_163)
  have ne189 : rr_50 ≠ na_163 := Nat.ne_of_lt (Nat.lt_of_lt_of_le f154.lt szn_163)
  have ne190 : tb_50 ≠ na_163 := Nat.ne_of_lt (Nat.lt_of_lt_of_le f157.lt szn_163)
  have ne191 : b136 ≠ na_163 := Nat.ne_of_lt (Nat.lt_of_lt_of_le A136.lt szn_163)
  show GoW _ _ _ _ _ _ _ _ _ (T163.setTop (mkF m 65 #[.val (.long ua), .second, .val (.long ub), .second, .val (.long uc), .second, .val (.int tk), .val (.ref b1), .val (.int (fh (fch ua))), .val (.int (fh (fch ub))), .val (.int (fh (fch uc))), .val (.int 0), .unset, .unset, .unset, .unset] [(.ref b136)]))
  refine GoW.st (fun _ => XS.astore X163.here hx rfl (hb hby at_65) rfl rfl (l' := #[.val (.long ua), .second, .val (.long ub), .second, .val (.long uc), .second, .val (.int tk), .val (.ref b1), .val (.int (fh (fch ua))), .val (.int (fh (fch ub))), .val (.int (fh (fch uc))), .val (.int 0), .val (.ref b136), .unset, .unset, .unset]) rfl) ?_
  refine GoW.st (fun _ => XS.aload X163.here hx rfl (hb hby at_67) rfl rfl) ?_
  show GoW _ _ _ _ _ _ _ _ _ (T163.setTop (mkF m 69 #[.val (.long ua), .second, .val (.long ub), .second, .val (.long uc), .second, .val (.int tk), .val (.ref b1), .val (.int (fh (fch ua))), .val (.int (fh (fch ub))), .val (.int (fh (fch uc))), .val (.int 0), .val (.ref b136), .unset, .unset, .unset] [(.ref b136)]))
  obtain ⟨cq192, kq192, q192a, q192b, q192c⟩ := isOf hZ120 rfl f183
  obtain ⟨_, _, ⟨T192, L192, k192, n192⟩, -, Xr192, hSr192, hgr192, ⟨Lc192, hQ192, l192, y192, z192, C192⟩, st192⟩ := X163.virtualBackS hx (y := mn0) (z := mn0) hown120 (mvT hZ120 (wdx hw 126 rfl)) (mvT hZ120 (wdx hw 127 rfl)) (notFace_of_selects (args := #[]) (mvT hZ120 (wdx hw 129 rfl))) (mvT hZ120 (wdx hw 129 rfl)) (mvT hZ120 (wdx hw 128 rfl)) (by decide) (own_back (W := 0) (rm20_0 l Z a0 hw [] b136 na_163 kn_163 cs rr_4 rr_22 rr_50 tb_4 kt_4 (fbl (fch ua)) tb_22 kt_22 (fbl (fch ub)) tb_50 kt_50 (fbl (fch uc)) T163.heap n0 O163 f164 f165 f166 f169 f171 f170 f172 f173 f175 f174 f176 f177 f179 f178 f180 S_cs q_cs (own_fl7 _) (own_fl7 _) (own_fl7 _)) hZ120 (wdx hw 130 rfl) (wdx hw 70 rfl) (by decide) (by decide) hEL CH163.1 all0) q192a q192c (g := (mkF m 69 #[.val (.long ua), .second, .val (.long ub), .second, .val (.long uc), .second, .val (.int tk), .val (.ref b1), .val (.int (fh (fch ua))), .val (.int (fh (fch ub))), .val (.int (fh (fch uc))), .val (.int 0), .val (.ref b136), .unset, .unset, .unset] [(.ref b136)])) rfl (by rw [hml]; rfl) (Steps.refl _) (argsL := []) (rest := []) (lenOf pd___Z rfl) rfl (by show 2 * 0 + _ ≤ _; exact Nat.le_of_eq rfl) (hb hby at_69) (fun _ _ => ⟨rfl, rfl, (by exact lee rfl), (by exact lee rfl)⟩)
  dsimp only [Pt.U, Pt.locs, Pt.cells, Pt.slots] at Xr192 hSr192 hgr192 l192 y192 z192 C192 st192 hQ192
  subst l192 y192 z192
  obtain ⟨X192, hS192, hZ192, hown192⟩ := rebS hS120 hk163 Xr192 hSr192 hgr192 hZ120 hown120
  obtain ⟨rfl, Nq192, Kq192⟩ := hQ192
  have N192 := Fr.app N163 Nq192
  refine GoW.tr st192 ?_
  have f193 : Safe Z EL T192.vm T192.heap b1 := C192.safe f168.lt f167
  have f194 := f168.keep Kq192
  have f195 := f169.keep Kq192
  have f196 := f170.keep Kq192 nin0
  have f197 := f171.keep Kq192 nin0
  have f198 := f172.keep Kq192 nin0
  have f199 := f173.keep Kq192
  have f200 := f174.keep Kq192 nin0
  have f201 := f175.keep Kq192 nin0
  have f202 := f176.keep Kq192 nin0
  have f203 := f177.keep Kq192
  have f204 := f178.keep Kq192 nin0
  have f205 := f179.keep Kq192 nin0
  have f206 := f180.keep Kq192 nin0
  have f207 := f181.keep Kq192 nin0
  have f208 : Safe Z EL T192.vm T192.heap b136 := C192.safe f183.lt f182
  have f209 := f183.keep Kq192
  have f210 := f164.keep Kq192 nin0
  have f211 := f165.keep Kq192 nin0
  have f212 := f166.keep Kq192 nin0
  have f213 : Safe Z EL T192.vm T192.heap na_163 := C192.safe f166.lt sf_na_163
  have CH192 := CH163.trans C192
  have O192 := O163.keep Kq192 all0
  show GoW _ _ _ _ _ _ _ _ _ (T192.setTop (mkF m 72 #[.val (.long ua), .second, .val (.long ub), .second, .val (.long uc), .second, .val (.int tk), .val (.ref b1), .val (.int (fh (fch ua))), .val (.int (fh (fch ub))), .val (.int (fh (fch uc))), .val (.int 0), .val (.ref b136), .unset, .unset, .unset] [(.int (fo3 (fh (fbl (fch ua))) (fh (fbl (fch ub))) (fh (fbl (fch uc)))))]))
  refine GoW.st (fun _ => XS.istore X192.here hx rfl (hb hby at_72) rfl (l' := #[.val (.long ua), .second, .val (.long ub), .second, .val (.long uc), .second, .val (.int tk), .val (.ref b1), .val (.int (fh (fch ua))), .val (.int (fh (fch ub))), .val (.int (fh (fch uc))), .val (.int 0), .val (.ref b136), .val (.int (fo3 (fh (fbl (fch ua))) (fh (fbl (fch ub))) (fh (fbl (fch uc))))), .unset, .unset]) rfl) ?_
  refine GoW.st (fun _ => XS.iload X192.here hx rfl (hb hby at_74) rfl) ?_
  show GoW _ _ _ _ _ _ _ _ _ (T192.setTop (mkF m 76 #[.val (.long ua), .second, .val (.long ub), .second, .val (.long uc), .second, .val (.int tk), .val (.ref b1), .val (.int (fh (fch ua))), .val (.int (fh (fch ub))), .val (.int (fh (fch uc))), .val (.int 0), .val (.ref b136), .val (.int (fo3 (fh (fbl (fch ua))) (fh (fbl (fch ub))) (fh (fbl (fch uc))))), .unset, .unset] [(.int 0)]))
  refine GoW.st (fun _ => XS.ifYes X192.here hx rfl (pc0 := 76) (pc' := 85) rfl (hb hby at_76) rfl (XT.i0_le_t (by decide)) (by decide) (by decide)) ?_
  refine GoW.st (fun _ => XS.iload X192.here hx rfl (hb hby at_85) rfl) ?_
  refine GoW.st (fun _ => XS.iconst X192.here hx rfl (hb hby at_87)) ?_
  show GoW _ _ _ _ _ _ _ _ _ (T192.setTop (mkF m 88 #[.val (.long ua), .second, .val (.long ub), .second, .val (.long uc), .second, .val (.int tk), .val (.ref b1), .val (.int (fh (fch ua))), .val (.int (fh (fch ub))), .val (.int (fh (fch uc))), .val (.int 0), .val (.ref b136), .val (.int (fo3 (fh (fbl (fch ua))) (fh (fbl (fch ub))) (fh (fbl (fch uc))))), .unset, .unset] [(.int 1), (.int 0)]))
  refine GoW.st (fun _ => XS.icmpYes X192.here hx rfl (pc0 := 88) (pc' := 97) rfl (hb hby at_88) rfl (XT.ii_le_t (by decide)) (by decide) (by decide)) ?_
  refine GoW.st (fun _ => XS.iload X192.here hx rfl (hb hby at_97) rfl) ?_
  refine GoW.st (fun _ => XS.iconst X192.here hx rfl (hb hby at_99)) ?_
  show GoW _ _ _ _ _ _ _ _ _ (T192.setTop (mkF m 100 #[.val (.long ua), .second, .val (.long ub), .second, .val (.long uc), .second, .val (.int tk), .val (.ref b1), .val (.int (fh (fch ua))), .val (.int (fh (fch ub))), .val (.int (fh (fch uc))), .val (.int 0), .val (.ref b136), .val (.int (fo3 (fh (fbl (fch ua))) (fh (fbl (fch ub))) (fh (fbl (fch uc))))), .unset, .unset] [(.int 2), (.int 0)]))
  refine GoW.st (fun _ => XS.icmpYes X192.here hx rfl (pc0 := 100) (pc' := 109) rfl (hb hby at_100) rfl (XT.ii_le_t (by decide)) (by decide) (by decide)) ?_
  refine GoW.st (fun _ => XS.aload X192.here hx rfl (hb hby at_109) rfl rfl) ?_
  show GoW _ _ _ _ _ _ _ _ _ (T192.setTop (mkF m 111 #[.val (.long ua), .second, .val (.long ub), .second, .val (.long uc), .second, .val (.int tk), .val (.ref b1), .val (.int (fh (fch ua))), .val (.int (fh (fch ub))), .val (.int (fh (fch uc))), .val (.int 0), .val (.ref b136), .val (.int (fo3 (fh (fbl (fch ua))) (fh (fbl (fch ub))) (fh (fbl (fch uc))))), .unset, .unset] [(.ref b136)]))
  obtain ⟨cq214, kq214, q214a, q214b, q214c⟩ := isOf hZ192 rfl f209
  obtain ⟨_, _, ⟨T214, L214, k214, n214⟩, -, Xr214, hSr214, hgr214, ⟨Lc214, hQ214, l214, y214, z214, C214⟩, st214⟩ := X192.virtualBackS hx (y := mn0) (z := mn0) hown192 (mvT hZ192 (wdx hw 126 rfl)) (mvT hZ192 (wdx hw 127 rfl)) (notFace_of_selects (args := #[]) (mvT hZ192 (wdx hw 129 rfl))) (mvT hZ192 (wdx hw 129 rfl)) (mvT hZ192 (wdx hw 128 rfl)) (by decide) (own_back (W := 0) (rm20_0 l Z a0 hw [] b136 na_163 kn_163 cs rr_4 rr_22 rr_50 tb_4 kt_4 (fbl (fch ua)) tb_22 kt_22 (fbl (fch ub)) tb_50 kt_50 (fbl (fch uc)) T192.heap n0 O192 f210 f211 f212 f195 f197 f196 f198 f199 f201 f200 f202 f203 f205 f204 f206 S_cs q_cs (own_fl7 _) (own_fl7 _) (own_fl7 _)) hZ192 (wdx hw 130 rfl) (wdx hw 70 rfl) (by decide) (by decide) hEL CH192.1 all0) q214a q214c (g := (mkF m 111 #[.val (.long ua), .second, .val (.long ub), .second, .val (.long uc), .second, .val (.int tk), .val (.ref b1), .val (.int (fh (fch ua))), .val (.int (fh (fch ub))), .val (.int (fh (fch uc))), .val (.int 0), .val (.ref b136), .val (.int (fo3 (fh (fbl (fch ua))) (fh (fbl (fch ub))) (fh (fbl (fch uc))))), .unset, .unset] [(.ref b136)])) rfl (by rw [hml]; rfl) (Steps.refl _) (argsL := []) (rest := []) (lenOf pd___Z rfl) rfl (by show 2 * 0 + _ ≤ _; exact Nat.le_of_eq rfl) (hb hby at_111) (fun _ _ => ⟨rfl, rfl, (by exact lee rfl), (by exact lee rfl)⟩)
  dsimp only [Pt.U, Pt.locs, Pt.cells, Pt.slots] at Xr214 hSr214 hgr214 l214 y214 z214 C214 st214 hQ214
  subst l214 y214 z214
  obtain ⟨X214, hS214, hZ214, hown214⟩ := rebS hS192 (Nat.le_refl _) Xr214 hSr214 hgr214 hZ192 hown192
  obtain ⟨rfl, Nq214, Kq214⟩ := hQ214
  have N214 := Fr.app N192 Nq214
  refine GoW.tr st214 ?_
  have f215 : Safe Z EL T214.vm T214.heap b1 := C214.safe f194.lt f193
  have f216 := f194.keep Kq214
  have f217 := f195.keep Kq214
  have f218 := f196.keep Kq214 nin0
  have f219 := f197.keep Kq214 nin0
  have f220 := f198.keep Kq214 nin0
  have f221 := f199.keep Kq214
  have f222 := f200.keep Kq214 nin0
  have f223 := f201.keep Kq214 nin0
  have f224 := f202.keep Kq214 nin0
  have f225 := f203.keep Kq214
  have f226 := f204.keep Kq214 nin0
  have f227 := f205.keep Kq214 nin0
  have f228 := f206.keep Kq214 nin0
  have f229 := f207.keep Kq214 nin0
  have f230 : Safe Z EL T214.vm T214.heap b136 := C214.safe f209.lt f208
  have f231 := f209.keep Kq214
  have f232 := f210.keep Kq214 nin0
  have f233 := f211.keep Kq214 nin0
  have f234 := f212.keep Kq214 nin0
  have f235 : Safe Z EL T214.vm T214.heap na_163 := C214.safe f212.lt f213
  have CH214 := CH192.trans C214
  have O214 := O192.keep Kq214 all0
  show GoW _ _ _ _ _ _ _ _ _ (T214.setTop (mkF m 114 #[.val (.long ua), .second, .val (.long ub), .second, .val (.long uc), .second, .val (.int tk), .val (.ref b1), .val (.int (fh (fch ua))), .val (.int (fh (fch ub))), .val (.int (fh (fch uc))), .val (.int 0), .val (.ref b136), .val (.int (fo3 (fh (fbl (fch ua))) (fh (fbl (fch ub))) (fh (fbl (fch uc))))), .unset, .unset] [(.int (fo3 (fh (fbl (fch ua))) (fh (fbl (fch ub))) (fh (fbl (fch uc)))))]))
  refine GoW.st (fun _ => XS.istore X214.here hx rfl (hb hby at_114) rfl (l' := #[.val (.long ua), .second, .val (.long ub), .second, .val (.long uc), .second, .val (.int tk), .val (.ref b1), .val (.int (fh (fch ua))), .val (.int (fh (fch ub))), .val (.int (fh (fch uc))), .val (.int 0), .val (.ref b136), .val (.int (fo3 (fh (fbl (fch ua))) (fh (fbl (fch ub))) (fh (fbl (fch uc))))), .val (.int (fo3 (fh (fbl (fch ua))) (fh (fbl (fch ub))) (fh (fbl (fch uc))))), .unset]) rfl) ?_
  show GoW _ _ _ _ _ _ _ _ _ (T214.setTop (mkF m 116 #[.val (.long ua), .second, .val (.long ub), .second, .val (.long uc), .second, .val (.int tk), .val (.ref b1), .val (.int (fh (fch ua))), .val (.int (fh (fch ub))), .val (.int (fh (fch uc))), .val (.int 0), .val (.ref b136), .val (.int (fo3 (fh (fbl (fch ua))) (fh (fbl (fch ub))) (fh (fbl (fch uc))))), .val (.int (fo3 (fh (fbl (fch ua))) (fh (fbl (fch ub))) (fh (fbl (fch uc))))), .unset] []))
  have J236 : ∀ (TJ236' : State) (lJ236' : List Loc) (XJ236' : Stand p l e room_1 (s.setVm T214.vm) m #[(.long ua), (.long ub), (.long uc), (.int tk)] below meth c TJ236' lJ236' 41 325) (eJ236' : TJ236'.heap = T214.heap) (NJ236' : Fr n0 lJ236') (xe : Int32) (r_xe : xe = (fo3 (fh (fch ua)) (fh (fch ub)) (fh (fch uc)))), GoW p e below s 48 3328 Z EL (Q0 Z ua ub uc tk cs vf h0 n0) (TJ236'.setTop (mkF m 154 #[.val (.long ua), .second, .val (.long ub), .second, .val (.long uc), .second, .val (.int tk), .val (.ref b1), .val (.int (fh (fch ua))), .val (.int (fh (fch ub))), .val (.int (fh (fch uc))), .val (.int 0), .val (.ref b136), .val (.int (fo3 (fh (fbl (fch ua))) (fh (fbl (fch ub))) (fh (fbl (fch uc))))), .val (.int (fo3 (fh (fbl (fch ua))) (fh (fbl (fch ub))) (fh (fbl (fch uc))))), .unset] [(.int xe)])) := by
   intro TJ236' lJ236' XJ236' eJ236' NJ236' xe r_xe
   show GoW _ _ _ _ _ _ _ _ _ (TJ236'.setTop (mkF m 154 #[.val (.long ua), .second, .val (.long ub), .second, .val (.long uc), .second, .val (.int tk), .val (.ref b1), .val (.int (fh (fch ua))), .val (.int (fh (fch ub))), .val (.int (fh (fch uc))), .val (.int 0), .val (.ref b136), .val (.int (fo3 (fh (fbl (fch ua))) (fh (fbl (fch ub))) (fh (fbl (fch uc))))), .val (.int (fo3 (fh (fbl (fch ua))) (fh (fbl (fch ub))) (fh (fbl (fch uc))))), .unset] [(.int xe)]))
   refine GoW.st (fun _ => XS.istore XJ236'.here hx rfl (hb hby at_154) rfl (l' := #[.val (.long ua), .second, .val (.long ub), .second, .val (.long uc), .second, .val (.int tk), .val (.ref b1), .val (.int (fh (fch ua))), .val (.int (fh (fch ub))), .val (.int (fh (fch uc))), .val (.int 0), .val (.ref b136), .val (.int (fo3 (fh (fbl (fch ua))) (fh (fbl (fch ub))) (fh (fbl (fch uc))))), .val (.int (fo3 (fh (fbl (fch ua))) (fh (fbl (fch ub))) (fh (fbl (fch uc))))), .val (.int xe)]) rfl) ?_
   refine GoW.st (fun _ => XS.iload XJ236'.here hx rfl (hb hby at_156) rfl) ?_
   show GoW _ _ _ _ _ _ _ _ _ (TJ236'.setTop (mkF m 158 #[.val (.long ua), .second, .val (.long ub), .second, .val (.long uc), .second, .val (.int tk), .val (.ref b1), .val (.int (fh (fch ua))), .val (.int (fh (fch ub))), .val (.int (fh (fch uc))), .val (.int 0), .val (.ref b136), .val (.int (fo3 (fh (fbl (fch ua))) (fh (fbl (fch ub))) (fh (fbl (fch uc))))), .val (.int (fo3 (fh (fbl (fch ua))) (fh (fbl (fch ub))) (fh (fbl (fch uc))))), .val (.int xe)] [(.int (fo3 (fh (fbl (fch ua))) (fh (fbl (fch ub))) (fh (fbl (fch uc)))))]))
   have J237 : ∀ (TJ237' : State) (lJ237' : List Loc) (XJ237' : Stand p l e room_1 (s.setVm T214.vm) m #[(.long ua), (.long ub), (.long uc), (.int tk)] below meth c TJ237' lJ237' 41 325) (eJ237' : TJ237'.heap = T214.heap) (NJ237' : Fr n0 lJ237') (xw : Int32) (r_xw : xw = (fo3 (fh (fch ua)) (fh (fch ub)) (fh (fch uc)))), GoW p e below s 48 3328 Z EL (Q0 Z ua ub uc tk cs vf h0 n0) (TJ237'.setTop (mkF m 178 #[.val (.long ua), .second, .val (.long ub), .second, .val (.long uc), .second, .val (.int tk), .val (.ref b1), .val (.int (fh (fch ua))), .val (.int (fh (fch ub))), .val (.int (fh (fch uc))), .val (.int 0), .val (.ref b136), .val (.int (fo3 (fh (fbl (fch ua))) (fh (fbl (fch ub))) (fh (fbl (fch uc))))), .val (.int (fo3 (fh (fbl (fch ua))) (fh (fbl (fch ub))) (fh (fbl (fch uc))))), .val (.int xe)] [(.int xw), (.int (fo3 (fh (fbl (fch ua))) (fh (fbl (fch ub))) (fh (fbl (fch uc)))))])) := by
    intro TJ237' lJ237' XJ237' eJ237' NJ237' xw r_xw
    show GoW _ _ _ _ _ _ _ _ _ (TJ237'.setTop (mkF m 178 #[.val (.long ua), .second, .val (.long ub), .second, .val (.long uc), .second, .val (.int tk), .val (.ref b1), .val (.int (fh (fch ua))), .val (.int (fh (fch ub))), .val (.int (fh (fch uc))), .val (.int 0), .val (.ref b136), .val (.int (fo3 (fh (fbl (fch ua))) (fh (fbl (fch ub))) (fh (fbl (fch uc))))), .val (.int (fo3 (fh (fbl (fch ua))) (fh (fbl (fch ub))) (fh (fbl (fch uc))))), .val (.int xe)] [(.int xw), (.int (fo3 (fh (fbl (fch ua))) (fh (fbl (fch ub))) (fh (fbl (fch uc)))))]))
    refine GoW.st (fun _ => XS.icmpNo XJ237'.here hx rfl (hb hby at_178) rfl (XT.ii_ne_f (by rw [r_xw, own_fh, own_fh, own_fh]))) ?_
    refine GoW.st (fun _ => XS.iload XJ237'.here hx rfl (hb hby at_181) rfl) ?_
    refine GoW.st (fun _ => XS.iload XJ237'.here hx rfl (hb hby at_183) rfl) ?_
    show GoW _ _ _ _ _ _ _ _ _ (TJ237'.setTop (mkF m 185 #[.val (.long ua), .second, .val (.long ub), .second, .val (.long uc), .second, .val (.int tk), .val (.ref b1), .val (.int (fh (fch ua))), .val (.int (fh (fch ub))), .val (.int (fh (fch uc))), .val (.int 0), .val (.ref b136), .val (.int (fo3 (fh (fbl (fch ua))) (fh (fbl (fch ub))) (fh (fbl (fch uc))))), .val (.int (fo3 (fh (fbl (fch ua))) (fh (fbl (fch ub))) (fh (fbl (fch uc))))), .val (.int xe)] [(.int xe), (.int (fo3 (fh (fbl (fch ua))) (fh (fbl (fch ub))) (fh (fbl (fch uc)))))]))
    refine GoW.st (fun _ => XS.icmpNo XJ237'.here hx rfl (hb hby at_185) rfl (XT.ii_ne_f (by rw [r_xe] <;> simp only [own_fh]))) ?_
    refine GoW.st (fun _ => XS.aload XJ237'.here hx rfl (hb hby at_188) rfl rfl) ?_
    show GoW _ _ _ _ _ _ _ _ _ (TJ237'.setTop (mkF m 190 #[.val (.long ua), .second, .val (.long ub), .second, .val (.long uc), .second, .val (.int tk), .val (.ref b1), .val (.int (fh (fch ua))), .val (.int (fh (fch ub))), .val (.int (fh (fch uc))), .val (.int 0), .val (.ref b136), .val (.int (fo3 (fh (fbl (fch ua))) (fh (fbl (fch ub))) (fh (fbl (fch uc))))), .val (.int (fo3 (fh (fbl (fch ua))) (fh (fbl (fch ub))) (fh (fbl (fch uc))))), .val (.int xe)] [(.ref b136)]))
    obtain ⟨cq238, kq238, q238a, q238b, q238c⟩ := isOf hZ214 eJ237' f231
    obtain ⟨_, _, ⟨T238, L238, k238, n238⟩, -, X238, ⟨Lc238, hQ238, l238, y238, z238⟩, st238⟩ := XJ237'.virtualBack hx (y := mn1) (z := mn1) hown214 (mvT hZ214 (wdx hw 158 rfl)) (mvT hZ214 (wdx hw 154 rfl)) (notFace_of_selects (args := #[]) (mvT hZ214 (wdx hw 156 rfl))) (mvT hZ214 (wdx hw 156 rfl)) (mvT hZ214 (wdx hw 155 rfl)) (by decide) (backOf (W := 0) (rm25_3_0 l Z a0 hw [] b136 na_163 kn_163 rr_4 rr_22 rr_50 T214.heap n0 O214 f232 f233 f234) hZ214 (wdx hw 157 rfl) (wdx hw 70 rfl) (by decide) (by decide)) q238a q238c (g := (mkF m 190 #[.val (.long ua), .second, .val (.long ub), .second, .val (.long uc), .second, .val (.int tk), .val (.ref b1), .val (.int (fh (fch ua))), .val (.int (fh (fch ub))), .val (.int (fh (fch uc))), .val (.int 0), .val (.ref b136), .val (.int (fo3 (fh (fbl (fch ua))) (fh (fbl (fch ub))) (fh (fbl (fch uc))))), .val (.int (fo3 (fh (fbl (fch ua))) (fh (fbl (fch ub))) (fh (fbl (fch uc))))), .val (.int xe)] [(.ref b136)])) rfl (by rw [hml]; rfl) (Steps.refl _) (argsL := []) (rest := []) (lenOf pd___Z rfl) rfl (by show 2 * 0 + _ ≤ _; exact Nat.le_of_eq rfl) (hb hby at_190) (fun _ _ => ⟨rfl, eJ237', (by exact lee rfl), (by exact lee rfl)⟩)
    dsimp only [Pt.U, Pt.locs, Pt.cells, Pt.slots] at X238 l238 y238 z238 st238 hQ238
    subst l238 y238 z238
    obtain ⟨rfl, Nq238, eq238⟩ := hQ238
    have N238 := Fr.app NJ237' Nq238
    refine GoW.tr st238 ?_
    show GoW _ _ _ _ _ _ _ _ _ (T238.setTop (mkF m 193 #[.val (.long ua), .second, .val (.long ub), .second, .val (.long uc), .second, .val (.int tk), .val (.ref b1), .val (.int (fh (fch ua))), .val (.int (fh (fch ub))), .val (.int (fh (fch uc))), .val (.int 0), .val (.ref b136), .val (.int (fo3 (fh (fbl (fch ua))) (fh (fbl (fch ub))) (fh (fbl (fch uc))))), .val (.int (fo3 (fh (fbl (fch ua))) (fh (fbl (fch ub))) (fh (fbl (fch uc))))), .val (.int xe)] [(.int 1)]))
    refine GoW.st (fun _ => XS.iload X238.here hx rfl (hb hby at_193) rfl) ?_
    refine GoW.st (fun _ => XS.iconst X238.here hx rfl (hb hby at_195)) ?_
    show GoW _ _ _ _ _ _ _ _ _ (T238.setTop (mkF m 196 #[.val (.long ua), .second, .val (.long ub), .second, .val (.long uc), .second, .val (.int tk), .val (.ref b1), .val (.int (fh (fch ua))), .val (.int (fh (fch ub))), .val (.int (fh (fch uc))), .val (.int 0), .val (.ref b136), .val (.int (fo3 (fh (fbl (fch ua))) (fh (fbl (fch ub))) (fh (fbl (fch uc))))), .val (.int (fo3 (fh (fbl (fch ua))) (fh (fbl (fch ub))) (fh (fbl (fch uc))))), .val (.int xe)] [(.int 3), (.int 0), (.int 1)]))
    refine GoW.st (fun _ => XS.icmpNo X238.here hx rfl (hb hby at_196) rfl (XT.ii_ge_f (by decide))) ?_
    refine GoW.st (fun _ => XS.iconst X238.here hx rfl (hb hby at_199)) ?_
    show GoW _ _ _ _ _ _ _ _ _ (T238.setTop (mkF m 200 #[.val (.long ua), .second, .val (.long ub), .second, .val (.long uc), .second, .val (.int tk), .val (.ref b1), .val (.int (fh (fch ua))), .val (.int (fh (fch ub))), .val (.int (fh (fch uc))), .val (.int 0), .val (.ref b136), .val (.int (fo3 (fh (fbl (fch ua))) (fh (fbl (fch ub))) (fh (fbl (fch uc))))), .val (.int (fo3 (fh (fbl (fch ua))) (fh (fbl (fch ub))) (fh (fbl (fch uc))))), .val (.int xe)] [(.int 1), (.int 1)]))
    refine GoW.st (fun _ => XS.goto X238.here hx rfl (pc0 := 200) (pc' := 204) rfl (hb hby at_200) (by decide) (by decide)) ?_
    show GoW _ _ _ _ _ _ _ _ _ (T238.setTop (mkF m 204 #[.val (.long ua), .second, .val (.long ub), .second, .val (.long uc), .second, .val (.int tk), .val (.ref b1), .val (.int (fh (fch ua))), .val (.int (fh (fch ub))), .val (.int (fh (fch uc))), .val (.int 0), .val (.ref b136), .val (.int (fo3 (fh (fbl (fch ua))) (fh (fbl (fch ub))) (fh (fbl (fch uc))))), .val (.int (fo3 (fh (fbl (fch ua))) (fh (fbl (fch ub))) (fh (fbl (fch uc))))), .val (.int xe)] [(.int 1), (.int 1)]))
    refine GoW.st (fun _ => XS.icmpNo X238.here hx rfl (hb hby at_204) rfl (XT.ii_ne_f (by decide))) ?_
    refine GoW.st (fun _ => XS.iconst X238.here hx rfl (hb hby at_207)) ?_
    show GoW _ _ _ _ _ _ _ _ _ (T238.setTop (mkF m 208 #[.val (.long ua), .second, .val (.long ub), .second, .val (.long uc), .second, .val (.int tk), .val (.ref b1), .val (.int (fh (fch ua))), .val (.int (fh (fch ub))), .val (.int (fh (fch uc))), .val (.int 0), .val (.ref b136), .val (.int (fo3 (fh (fbl (fch ua))) (fh (fbl (fch ub))) (fh (fbl (fch uc))))), .val (.int (fo3 (fh (fbl (fch ua))) (fh (fbl (fch ub))) (fh (fbl (fch uc))))), .val (.int xe)] [(.int 1)]))
    refine GoW.st (fun _ => XS.goto X238.here hx rfl (pc0 := 208) (pc' := 212) rfl (hb hby at_208) (by decide) (by decide)) ?_
    show GoW _ _ _ _ _ _ _ _ _ (T238.setTop (mkF m 212 #[.val (.long ua), .second, .val (.long ub), .second, .val (.long uc), .second, .val (.int tk), .val (.ref b1), .val (.int (fh (fch ua))), .val (.int (fh (fch ub))), .val (.int (fh (fch uc))), .val (.int 0), .val (.ref b136), .val (.int (fo3 (fh (fbl (fch ua))) (fh (fbl (fch ub))) (fh (fbl (fch uc))))), .val (.int (fo3 (fh (fbl (fch ua))) (fh (fbl (fch ub))) (fh (fbl (fch uc))))), .val (.int xe)] [(.int 1)]))
    refine GoW.retB X238 hx hlk hS214 (by rw [eq238]; exact (Nat.le_refl _)) hZ214 hEL CH214 (t := .boolean) Bd.returns (by simp) (hb hby at_212) (by decide) (by decide) eq238 ?_
    exact ⟨rfl, N238, trivial⟩
   refine GoW.st (fun _ => XS.iload XJ236'.here hx rfl (hb hby at_158) rfl) ?_
   show GoW _ _ _ _ _ _ _ _ _ (TJ236'.setTop (mkF m 160 #[.val (.long ua), .second, .val (.long ub), .second, .val (.long uc), .second, .val (.int tk), .val (.ref b1), .val (.int (fh (fch ua))), .val (.int (fh (fch ub))), .val (.int (fh (fch uc))), .val (.int 0), .val (.ref b136), .val (.int (fo3 (fh (fbl (fch ua))) (fh (fbl (fch ub))) (fh (fbl (fch uc))))), .val (.int (fo3 (fh (fbl (fch ua))) (fh (fbl (fch ub))) (fh (fbl (fch uc))))), .val (.int xe)] [(.int (fh (fch ua))), (.int (fo3 (fh (fbl (fch ua))) (fh (fbl (fch ub))) (fh (fbl (fch uc)))))]))
   by_cases hc239 : (fh (fch ua)) = (0 : Int32)
   ·refine GoW.st (fun _ => XS.ifNo XJ236'.here hx rfl (hb hby at_160) rfl (XT.i0_ne_f hc239)) ?_
    refine GoW.st (fun _ => XS.iload XJ236'.here hx rfl (hb hby at_163) rfl) ?_
    show GoW _ _ _ _ _ _ _ _ _ (TJ236'.setTop (mkF m 165 #[.val (.long ua), .second, .val (.long ub), .second, .val (.long uc), .second, .val (.int tk), .val (.ref b1), .val (.int (fh (fch ua))), .val (.int (fh (fch ub))), .val (.int (fh (fch uc))), .val (.int 0), .val (.ref b136), .val (.int (fo3 (fh (fbl (fch ua))) (fh (fbl (fch ub))) (fh (fbl (fch uc))))), .val (.int (fo3 (fh (fbl (fch ua))) (fh (fbl (fch ub))) (fh (fbl (fch uc))))), .val (.int xe)] [(.int (fh (fch ub))), (.int (fo3 (fh (fbl (fch ua))) (fh (fbl (fch ub))) (fh (fbl (fch uc)))))]))
    by_cases hc240 : (fh (fch ub)) = (0 : Int32)
    ·refine GoW.st (fun _ => XS.ifNo XJ236'.here hx rfl (hb hby at_165) rfl (XT.i0_ne_f hc240)) ?_
     refine GoW.st (fun _ => XS.iload XJ236'.here hx rfl (hb hby at_168) rfl) ?_
     show GoW _ _ _ _ _ _ _ _ _ (TJ236'.setTop (mkF m 170 #[.val (.long ua), .second, .val (.long ub), .second, .val (.long uc), .second, .val (.int tk), .val (.ref b1), .val (.int (fh (fch ua))), .val (.int (fh (fch ub))), .val (.int (fh (fch uc))), .val (.int 0), .val (.ref b136), .val (.int (fo3 (fh (fbl (fch ua))) (fh (fbl (fch ub))) (fh (fbl (fch uc))))), .val (.int (fo3 (fh (fbl (fch ua))) (fh (fbl (fch ub))) (fh (fbl (fch uc))))), .val (.int xe)] [(.int (fh (fch uc))), (.int (fo3 (fh (fbl (fch ua))) (fh (fbl (fch ub))) (fh (fbl (fch uc)))))]))
     by_cases hc241 : (fh (fch uc)) = (0 : Int32)
     ·refine GoW.st (fun _ => XS.ifYes XJ236'.here hx rfl (pc0 := 170) (pc' := 177) rfl (hb hby at_170) rfl (XT.i0_eq_t hc241) (by decide) (by decide)) ?_
      refine GoW.st (fun _ => XS.iconst XJ236'.here hx rfl (hb hby at_177)) ?_
      show GoW _ _ _ _ _ _ _ _ _ (TJ236'.setTop (mkF m 178 #[.val (.long ua), .second, .val (.long ub), .second, .val (.long uc), .second, .val (.int tk), .val (.ref b1), .val (.int (fh (fch ua))), .val (.int (fh (fch ub))), .val (.int (fh (fch uc))), .val (.int 0), .val (.ref b136), .val (.int (fo3 (fh (fbl (fch ua))) (fh (fbl (fch ub))) (fh (fbl (fch uc))))), .val (.int (fo3 (fh (fbl (fch ua))) (fh (fbl (fch ub))) (fh (fbl (fch uc))))), .val (.int xe)] [(.int 0), (.int (fo3 (fh (fbl (fch ua))) (fh (fbl (fch ub))) (fh (fbl (fch uc)))))]))
      exact J237 TJ236' _ XJ236' eJ236' NJ236' (0 : Int32) (by simp [fo3, hc239, hc240, hc241])
     ·refine GoW.st (fun _ => XS.ifNo XJ236'.here hx rfl (hb hby at_170) rfl (XT.i0_eq_f hc241)) ?_
      refine GoW.st (fun _ => XS.iconst XJ236'.here hx rfl (hb hby at_173)) ?_
      show GoW _ _ _ _ _ _ _ _ _ (TJ236'.setTop (mkF m 174 #[.val (.long ua), .second, .val (.long ub), .second, .val (.long uc), .second, .val (.int tk), .val (.ref b1), .val (.int (fh (fch ua))), .val (.int (fh (fch ub))), .val (.int (fh (fch uc))), .val (.int 0), .val (.ref b136), .val (.int (fo3 (fh (fbl (fch ua))) (fh (fbl (fch ub))) (fh (fbl (fch uc))))), .val (.int (fo3 (fh (fbl (fch ua))) (fh (fbl (fch ub))) (fh (fbl (fch uc))))), .val (.int xe)] [(.int 1), (.int (fo3 (fh (fbl (fch ua))) (fh (fbl (fch ub))) (fh (fbl (fch uc)))))]))
      refine GoW.st (fun _ => XS.goto XJ236'.here hx rfl (pc0 := 174) (pc' := 178) rfl (hb hby at_174) (by decide) (by decide)) ?_
      show GoW _ _ _ _ _ _ _ _ _ (TJ236'.setTop (mkF m 178 #[.val (.long ua), .second, .val (.long ub), .second, .val (.long uc), .second, .val (.int tk), .val (.ref b1), .val (.int (fh (fch ua))), .val (.int (fh (fch ub))), .val (.int (fh (fch uc))), .val (.int 0), .val (.ref b136), .val (.int (fo3 (fh (fbl (fch ua))) (fh (fbl (fch ub))) (fh (fbl (fch uc))))), .val (.int (fo3 (fh (fbl (fch ua))) (fh (fbl (fch ub))) (fh (fbl (fch uc))))), .val (.int xe)] [(.int 1), (.int (fo3 (fh (fbl (fch ua))) (fh (fbl (fch ub))) (fh (fbl (fch uc)))))]))
      exact J237 TJ236' _ XJ236' eJ236' NJ236' (1 : Int32) (by simp [fo3, hc239, hc240, hc241])
    ·refine GoW.st (fun _ => XS.ifYes XJ236'.here hx rfl (pc0 := 165) (pc' := 173) rfl (hb hby at_165) rfl (XT.i0_ne_t hc240) (by decide) (by decide)) ?_
     refine GoW.st (fun _ => XS.iconst XJ236'.here hx rfl (hb hby at_173)) ?_
     show GoW _ _ _ _ _ _ _ _ _ (TJ236'.setTop (mkF m 174 #[.val (.long ua), .second, .val (.long ub), .second, .val (.long uc), .second, .val (.int tk), .val (.ref b1), .val (.int (fh (fch ua))), .val (.int (fh (fch ub))), .val (.int (fh (fch uc))), .val (.int 0), .val (.ref b136), .val (.int (fo3 (fh (fbl (fch ua))) (fh (fbl (fch ub))) (fh (fbl (fch uc))))), .val (.int (fo3 (fh (fbl (fch ua))) (fh (fbl (fch ub))) (fh (fbl (fch uc))))), .val (.int xe)] [(.int 1), (.int (fo3 (fh (fbl (fch ua))) (fh (fbl (fch ub))) (fh (fbl (fch uc)))))]))
     refine GoW.st (fun _ => XS.goto XJ236'.here hx rfl (pc0 := 174) (pc' := 178) rfl (hb hby at_174) (by decide) (by decide)) ?_
     show GoW _ _ _ _ _ _ _ _ _ (TJ236'.setTop (mkF m 178 #[.val (.long ua), .second, .val (.long ub), .second, .val (.long uc), .second, .val (.int tk), .val (.ref b1), .val (.int (fh (fch ua))), .val (.int (fh (fch ub))), .val (.int (fh (fch uc))), .val (.int 0), .val (.ref b136), .val (.int (fo3 (fh (fbl (fch ua))) (fh (fbl (fch ub))) (fh (fbl (fch uc))))), .val (.int (fo3 (fh (fbl (fch ua))) (fh (fbl (fch ub))) (fh (fbl (fch uc))))), .val (.int xe)] [(.int 1), (.int (fo3 (fh (fbl (fch ua))) (fh (fbl (fch ub))) (fh (fbl (fch uc)))))]))
     exact J237 TJ236' _ XJ236' eJ236' NJ236' (1 : Int32) (by simp [fo3, hc239, hc240])
   ·refine GoW.st (fun _ => XS.ifYes XJ236'.here hx rfl (pc0 := 160) (pc' := 173) rfl (hb hby at_160) rfl (XT.i0_ne_t hc239) (by decide) (by decide)) ?_
    refine GoW.st (fun _ => XS.iconst XJ236'.here hx rfl (hb hby at_173)) ?_
    show GoW _ _ _ _ _ _ _ _ _ (TJ236'.setTop (mkF m 174 #[.val (.long ua), .second, .val (.long ub), .second, .val (.long uc), .second, .val (.int tk), .val (.ref b1), .val (.int (fh (fch ua))), .val (.int (fh (fch ub))), .val (.int (fh (fch uc))), .val (.int 0), .val (.ref b136), .val (.int (fo3 (fh (fbl (fch ua))) (fh (fbl (fch ub))) (fh (fbl (fch uc))))), .val (.int (fo3 (fh (fbl (fch ua))) (fh (fbl (fch ub))) (fh (fbl (fch uc))))), .val (.int xe)] [(.int 1), (.int (fo3 (fh (fbl (fch ua))) (fh (fbl (fch ub))) (fh (fbl (fch uc)))))]))
    refine GoW.st (fun _ => XS.goto XJ236'.here hx rfl (pc0 := 174) (pc' := 178) rfl (hb hby at_174) (by decide) (by decide)) ?_
    show GoW _ _ _ _ _ _ _ _ _ (TJ236'.setTop (mkF m 178 #[.val (.long ua), .second, .val (.long ub), .second, .val (.long uc), .second, .val (.int tk), .val (.ref b1), .val (.int (fh (fch ua))), .val (.int (fh (fch ub))), .val (.int (fh (fch uc))), .val (.int 0), .val (.ref b136), .val (.int (fo3 (fh (fbl (fch ua))) (fh (fbl (fch ub))) (fh (fbl (fch uc))))), .val (.int (fo3 (fh (fbl (fch ua))) (fh (fbl (fch ub))) (fh (fbl (fch uc))))), .val (.int xe)] [(.int 1), (.int (fo3 (fh (fbl (fch ua))) (fh (fbl (fch ub))) (fh (fbl (fch uc)))))]))
    exact J237 TJ236' _ XJ236' eJ236' NJ236' (1 : Int32) (by simp [fo3, hc239])
  refine GoW.st (fun _ => XS.iload X214.here hx rfl (hb hby at_116) rfl) ?_
  refine GoW.st (fun _ => XS.iconst X214.here hx rfl (hb hby at_118)) ?_
  show GoW _ _ _ _ _ _ _ _ _ (T214.setTop (mkF m 119 #[.val (.long ua), .second, .val (.long ub), .second, .val (.long uc), .second, .val (.int tk), .val (.ref b1), .val (.int (fh (fch ua))), .val (.int (fh (fch ub))), .val (.int (fh (fch uc))), .val (.int 0), .val (.ref b136), .val (.int (fo3 (fh (fbl (fch ua))) (fh (fbl (fch ub))) (fh (fbl (fch uc))))), .val (.int (fo3 (fh (fbl (fch ua))) (fh (fbl (fch ub))) (fh (fbl (fch uc))))), .unset] [(.int 1), (.int 0)]))
  refine GoW.st (fun _ => XS.icmpNo X214.here hx rfl (hb hby at_119) rfl (XT.ii_ge_f (by decide))) ?_
  refine GoW.st (fun _ => XS.iload X214.here hx rfl (hb hby at_122) rfl) ?_
  show GoW _ _ _ _ _ _ _ _ _ (T214.setTop (mkF m 124 #[.val (.long ua), .second, .val (.long ub), .second, .val (.long uc), .second, .val (.int tk), .val (.ref b1), .val (.int (fh (fch ua))), .val (.int (fh (fch ub))), .val (.int (fh (fch uc))), .val (.int 0), .val (.ref b136), .val (.int (fo3 (fh (fbl (fch ua))) (fh (fbl (fch ub))) (fh (fbl (fch uc))))), .val (.int (fo3 (fh (fbl (fch ua))) (fh (fbl (fch ub))) (fh (fbl (fch uc))))), .unset] [(.int (fh (fch ua)))]))
  by_cases hc242 : (fh (fch ua)) = (0 : Int32)
  ·refine GoW.st (fun _ => XS.ifNo X214.here hx rfl (hb hby at_124) rfl (XT.i0_ne_f hc242)) ?_
   refine GoW.st (fun _ => XS.iload X214.here hx rfl (hb hby at_127) rfl) ?_
   refine GoW.st (fun _ => XS.iconst X214.here hx rfl (hb hby at_129)) ?_
   show GoW _ _ _ _ _ _ _ _ _ (T214.setTop (mkF m 130 #[.val (.long ua), .second, .val (.long ub), .second, .val (.long uc), .second, .val (.int tk), .val (.ref b1), .val (.int (fh (fch ua))), .val (.int (fh (fch ub))), .val (.int (fh (fch uc))), .val (.int 0), .val (.ref b136), .val (.int (fo3 (fh (fbl (fch ua))) (fh (fbl (fch ub))) (fh (fbl (fch uc))))), .val (.int (fo3 (fh (fbl (fch ua))) (fh (fbl (fch ub))) (fh (fbl (fch uc))))), .unset] [(.int 2), (.int 0)]))
   refine GoW.st (fun _ => XS.icmpNo X214.here hx rfl (hb hby at_130) rfl (XT.ii_ge_f (by decide))) ?_
   refine GoW.st (fun _ => XS.iload X214.here hx rfl (hb hby at_133) rfl) ?_
   show GoW _ _ _ _ _ _ _ _ _ (T214.setTop (mkF m 135 #[.val (.long ua), .second, .val (.long ub), .second, .val (.long uc), .second, .val (.int tk), .val (.ref b1), .val (.int (fh (fch ua))), .val (.int (fh (fch ub))), .val (.int (fh (fch uc))), .val (.int 0), .val (.ref b136), .val (.int (fo3 (fh (fbl (fch ua))) (fh (fbl (fch ub))) (fh (fbl (fch uc))))), .val (.int (fo3 (fh (fbl (fch ua))) (fh (fbl (fch ub))) (fh (fbl (fch uc))))), .unset] [(.int (fh (fch ub)))]))
   by_cases hc243 : (fh (fch ub)) = (0 : Int32)
   ·refine GoW.st (fun _ => XS.ifNo X214.here hx rfl (hb hby at_135) rfl (XT.i0_ne_f hc243)) ?_
    refine GoW.st (fun _ => XS.iload X214.here hx rfl (hb hby at_138) rfl) ?_
    refine GoW.st (fun _ => XS.iconst X214.here hx rfl (hb hby at_140)) ?_
    show GoW _ _ _ _ _ _ _ _ _ (T214.setTop (mkF m 141 #[.val (.long ua), .second, .val (.long ub), .second, .val (.long uc), .second, .val (.int tk), .val (.ref b1), .val (.int (fh (fch ua))), .val (.int (fh (fch ub))), .val (.int (fh (fch uc))), .val (.int 0), .val (.ref b136), .val (.int (fo3 (fh (fbl (fch ua))) (fh (fbl (fch ub))) (fh (fbl (fch uc))))), .val (.int (fo3 (fh (fbl (fch ua))) (fh (fbl (fch ub))) (fh (fbl (fch uc))))), .unset] [(.int 3), (.int 0)]))
    refine GoW.st (fun _ => XS.icmpNo X214.here hx rfl (hb hby at_141) rfl (XT.ii_ge_f (by decide))) ?_
    refine GoW.st (fun _ => XS.iload X214.here hx rfl (hb hby at_144) rfl) ?_
    show GoW _ _ _ _ _ _ _ _ _ (T214.setTop (mkF m 146 #[.val (.long ua), .second, .val (.long ub), .second, .val (.long uc), .second, .val (.int tk), .val (.ref b1), .val (.int (fh (fch ua))), .val (.int (fh (fch ub))), .val (.int (fh (fch uc))), .val (.int 0), .val (.ref b136), .val (.int (fo3 (fh (fbl (fch ua))) (fh (fbl (fch ub))) (fh (fbl (fch uc))))), .val (.int (fo3 (fh (fbl (fch ua))) (fh (fbl (fch ub))) (fh (fbl (fch uc))))), .unset] [(.int (fh (fch uc)))]))
    by_cases hc244 : (fh (fch uc)) = (0 : Int32)
    ·refine GoW.st (fun _ => XS.ifYes X214.here hx rfl (pc0 := 146) (pc' := 153) rfl (hb hby at_146) rfl (XT.i0_eq_t hc244) (by decide) (by decide)) ?_
     refine GoW.st (fun _ => XS.iconst X214.here hx rfl (hb hby at_153)) ?_
     show GoW _ _ _ _ _ _ _ _ _ (T214.setTop (mkF m 154 #[.val (.long ua), .second, .val (.long ub), .second, .val (.long uc), .second, .val (.int tk), .val (.ref b1), .val (.int (fh (fch ua))), .val (.int (fh (fch ub))), .val (.int (fh (fch uc))), .val (.int 0), .val (.ref b136), .val (.int (fo3 (fh (fbl (fch ua))) (fh (fbl (fch ub))) (fh (fbl (fch uc))))), .val (.int (fo3 (fh (fbl (fch ua))) (fh (fbl (fch ub))) (fh (fbl (fch uc))))), .unset] [(.int 0)]))
     exact J236 T214 _ X214 rfl N214 (0 : Int32) (by simp [fo3, hc242, hc243, hc244])
    ·refine GoW.st (fun _ => XS.ifNo X214.here hx rfl (hb hby at_146) rfl (XT.i0_eq_f hc244)) ?_
     refine GoW.st (fun _ => XS.iconst X214.here hx rfl (hb hby at_149)) ?_
     show GoW _ _ _ _ _ _ _ _ _ (T214.setTop (mkF m 150 #[.val (.long ua), .second, .val (.long ub), .second, .val (.long uc), .second, .val (.int tk), .val (.ref b1), .val (.int (fh (fch ua))), .val (.int (fh (fch ub))), .val (.int (fh (fch uc))), .val (.int 0), .val (.ref b136), .val (.int (fo3 (fh (fbl (fch ua))) (fh (fbl (fch ub))) (fh (fbl (fch uc))))), .val (.int (fo3 (fh (fbl (fch ua))) (fh (fbl (fch ub))) (fh (fbl (fch uc))))), .unset] [(.int 1)]))
     refine GoW.st (fun _ => XS.goto X214.here hx rfl (pc0 := 150) (pc' := 154) rfl (hb hby at_150) (by decide) (by decide)) ?_
     show GoW _ _ _ _ _ _ _ _ _ (T214.setTop (mkF m 154 #[.val (.long ua), .second, .val (.long ub), .second, .val (.long uc), .second, .val (.int tk), .val (.ref b1), .val (.int (fh (fch ua))), .val (.int (fh (fch ub))), .val (.int (fh (fch uc))), .val (.int 0), .val (.ref b136), .val (.int (fo3 (fh (fbl (fch ua))) (fh (fbl (fch ub))) (fh (fbl (fch uc))))), .val (.int (fo3 (fh (fbl (fch ua))) (fh (fbl (fch ub))) (fh (fbl (fch uc))))), .unset] [(.int 1)]))
     exact J236 T214 _ X214 rfl N214 (1 : Int32) (by simp [fo3, hc242, hc243, hc244])
   ·refine GoW.st (fun _ => XS.ifYes X214.here hx rfl (pc0 := 135) (pc' := 149) rfl (hb hby at_135) rfl (XT.i0_ne_t hc243) (by decide) (by decide)) ?_
    refine GoW.st (fun _ => XS.iconst X214.here hx rfl (hb hby at_149)) ?_
    show GoW _ _ _ _ _ _ _ _ _ (T214.setTop (mkF m 150 #[.val (.long ua), .second, .val (.long ub), .second, .val (.long uc), .second, .val (.int tk), .val (.ref b1), .val (.int (fh (fch ua))), .val (.int (fh (fch ub))), .val (.int (fh (fch uc))), .val (.int 0), .val (.ref b136), .val (.int (fo3 (fh (fbl (fch ua))) (fh (fbl (fch ub))) (fh (fbl (fch uc))))), .val (.int (fo3 (fh (fbl (fch ua))) (fh (fbl (fch ub))) (fh (fbl (fch uc))))), .unset] [(.int 1)]))
    refine GoW.st (fun _ => XS.goto X214.here hx rfl (pc0 := 150) (pc' := 154) rfl (hb hby at_150) (by decide) (by decide)) ?_
    show GoW _ _ _ _ _ _ _ _ _ (T214.setTop (mkF m 154 #[.val (.long ua), .second, .val (.long ub), .second, .val (.long uc), .second, .val (.int tk), .val (.ref b1), .val (.int (fh (fch ua))), .val (.int (fh (fch ub))), .val (.int (fh (fch uc))), .val (.int 0), .val (.ref b136), .val (.int (fo3 (fh (fbl (fch ua))) (fh (fbl (fch ub))) (fh (fbl (fch uc))))), .val (.int (fo3 (fh (fbl (fch ua))) (fh (fbl (fch ub))) (fh (fbl (fch uc))))), .unset] [(.int 1)]))
    exact J236 T214 _ X214 rfl N214 (1 : Int32) (by simp [fo3, hc242, hc243])
  ·refine GoW.st (fun _ => XS.ifYes X214.here hx rfl (pc0 := 124) (pc' := 149) rfl (hb hby at_124) rfl (XT.i0_ne_t hc242) (by decide) (by decide)) ?_
   refine GoW.st (fun _ => XS.iconst X214.here hx rfl (hb hby at_149)) ?_
   show GoW _ _ _ _ _ _ _ _ _ (T214.setTop (mkF m 150 #[.val (.long ua), .second, .val (.long ub), .second, .val (.long uc), .second, .val (.int tk), .val (.ref b1), .val (.int (fh (fch ua))), .val (.int (fh (fch ub))), .val (.int (fh (fch uc))), .val (.int 0), .val (.ref b136), .val (.int (fo3 (fh (fbl (fch ua))) (fh (fbl (fch ub))) (fh (fbl (fch uc))))), .val (.int (fo3 (fh (fbl (fch ua))) (fh (fbl (fch ub))) (fh (fbl (fch uc))))), .unset] [(.int 1)]))
   refine GoW.st (fun _ => XS.goto X214.here hx rfl (pc0 := 150) (pc' := 154) rfl (hb hby at_150) (by decide) (by decide)) ?_
   show GoW _ _ _ _ _ _ _ _ _ (T214.setTop (mkF m 154 #[.val (.long ua), .second, .val (.long ub), .second, .val (.long uc), .second, .val (.int tk), .val (.ref b1), .val (.int (fh (fch ua))), .val (.int (fh (fch ub))), .val (.int (fh (fch uc))), .val (.int 0), .val (.ref b136), .val (.int (fo3 (fh (fbl (fch ua))) (fh (fbl (fch ub))) (fh (fbl (fch uc))))), .val (.int (fo3 (fh (fbl (fch ua))) (fh (fbl (fch ub))) (fh (fbl (fch uc))))), .unset] [(.int 1)]))
   exact J236 T214 _ X214 rfl N214 (1 : Int32) (by simp [fo3, hc242])
 ·rw [hi]
  show GoW _ _ _ _ _ _ _ _ _ (T120.setTop (mkF m 56 #[.val (.long ua), .second, .val (.long ub), .second, .val (.long uc), .second, .val (.int tk), .val (.ref b1), .val (.int (fh (fch ua))), .val (.int (fh (fch ub))), .val (.int (fh (fch uc))), .val (.int 1), .unset, .unset, .unset, .unset] []))
  obtain ⟨T245, h245, X245, e245, E245, A245, D245, -, st245⟩ := newO X120 hx hZ120 hown120 (wdx hw 68 rfl) (wdx hw 69 rfl) (wdx hw 70 rfl) rfl (g := (mkF m 56 #[.val (.long ua), .second, .val (.long ub), .second, .val (.long uc), .second, .val (.int tk), .val (.ref b1), .val (.int (fh (fch ua))), .val (.int (fh (fch ub))), .val (.int (fh (fch uc))), .val (.int 1), .unset, .unset, .unset, .unset] [])) rfl (hb hby at_56) (by decide) (by decide)
  obtain ⟨b245, g245⟩ : ∃ z, z = T120.heap.size := ⟨_, rfl⟩
  rw [← g245] at A245 D245 st245
  refine GoW.st st245 ?_
  have g_b245 : n0 ≤ b245 := Nat.le_trans (own_le O120) (Nat.le_of_eq g245.symm)
  have sf_b245 : Safe Z EL T120.vm T120.heap b245 := Safe.new (Nat.le_of_eq g245.symm)
  have ne246 : b1 ≠ b245 := Nat.ne_of_lt (Nat.lt_of_lt_of_le f122.lt (Nat.le_of_eq g245.symm))
  have ne247 : rr_4 ≠ b245 := Nat.ne_of_lt (Nat.lt_of_lt_of_le f123.lt (Nat.le_of_eq g245.symm))
  have ne248 : tb_4 ≠ b245 := Nat.ne_of_lt (Nat.lt_of_lt_of_le f126.lt (Nat.le_of_eq g245.symm))
  have ne249 : rr_22 ≠ b245 := Nat.ne_of_lt (Nat.lt_of_lt_of_le f127.lt (Nat.le_of_eq g245.symm))
  have ne250 : tb_22 ≠ b245 := Nat.ne_of_lt (Nat.lt_of_lt_of_le f130.lt (Nat.le_of_eq g245.symm))
  have ne251 : rr_50 ≠ b245 := Nat.ne_of_lt (Nat.lt_of_lt_of_le f131.lt (Nat.le_of_eq g245.symm))
  have ne252 : tb_50 ≠ b245 := Nat.ne_of_lt (Nat.lt_of_lt_of_le f134.lt (Nat.le_of_eq g245.symm))
  have f253 := Safe.ext E245 CH120.1 f121
  have f254 := f122.ext E245
  have f255 := f123.ext E245
  have f256 := f124.ext E245
  have f257 := f125.ext E245
  have f258 := f126.ext E245
  have f259 := f127.ext E245
  have f260 := f128.ext E245
  have f261 := f129.ext E245
  have f262 := f130.ext E245
  have f263 := f131.ext E245
  have f264 := f132.ext E245
  have f265 := f133.ext E245
  have f266 := f134.ext E245
  have f267 := f135.ext E245
  have f268 := Safe.ext E245 CH120.1 sf_b245
  have CH245 := CH120.trans (CHr.ext E245 CH120.1)
  have hk245 : Array.size T120.heap ≤ Array.size h245 := Nat.le_trans (Nat.le_refl _) E245.1
  have O245 := O120.ext E245
  have f269 : Fld Z h245 b245 "com/example/reportwire/reportwire/Arguments" "optionsGiven" "Ljava/util/Set;" .null := D245 (Or.inr (wdx hw 114 rfl)) (ty := (.object "java/util/Set")) (by decide)
  have f270 : Fld Z h245 b245 "com/example/reportwire/reportwire/Arguments" "args" "[Ljava/lang/String;" .null := D245 (Or.inr (wdx hw 125 rfl)) (ty := (.array (.object "java/lang/String"))) (by decide)
  have f271 : Fld Z h245 b245 "com/example/reportwire/reportwire/Arguments" "next" "I" (.int 0) := D245 (Or.inl (wdx hw 132 rfl)) (ty := .int) (by decide)
  show GoW _ _ _ _ _ _ _ _ _ (T245.setTop (mkF m 59 #[.val (.long ua), .second, .val (.long ub), .second, .val (.long uc), .second, .val (.int tk), .val (.ref b1), .val (.int (fh (fch ua))), .val (.int (fh (fch ub))), .val (.int (fh (fch uc))), .val (.int 1), .unset, .unset, .unset, .unset] [(.ref b245)]))
  refine GoW.st (fun _ => XS.dup X245.here hx rfl (hb hby at_59) rfl rfl) ?_
  refine GoW.st (fun _ => XS.aload X245.here hx rfl (hb hby at_60) rfl rfl) ?_
  show GoW _ _ _ _ _ _ _ _ _ (T245.setTop (mkF m 62 #[.val (.long ua), .second, .val (.long ub), .second, .val (.long uc), .second, .val (.int tk), .val (.ref b1), .val (.int (fh (fch ua))), .val (.int (fh (fch ub))), .val (.int (fh (fch uc))), .val (.int 1), .unset, .unset, .unset, .unset] [(.ref b1), (.ref b245), (.ref b245)]))
  obtain ⟨_, _, ⟨T272, L272, k272, n272⟩, -, X272, ⟨Lc272, hQ272, l272, y272, z272⟩, st272⟩ := X245.specialBack hx (y := mn11) rfl hown120 (mvT hZ120 (wdx hw 71 rfl)) (mvT hZ120 (wdx hw 72 rfl)) (mvT hZ120 (wdx hw 73 rfl)) (by decide) (backOf (W := 1) (rm14_3 l Z a0 hw [] b245 b1 k1 rr_4 rr_22 rr_50 h245 n0 O245 A245 f269 f270 f271 f254 f267 g_b245 (Ne.symm ne246)) hZ120 (wdx hw 73 rfl) (wdx hw 70 rfl) (by decide) (by decide)) (g := (mkF m 62 #[.val (.long ua), .second, .val (.long ub), .second, .val (.long uc), .second, .val (.int tk), .val (.ref b1), .val (.int (fh (fch ua))), .val (.int (fh (fch ub))), .val (.int (fh (fch uc))), .val (.int 1), .unset, .unset, .unset, .unset] [(.ref b1), (.ref b245), (.ref b245)])) rfl (by rw [hml]; rfl) (Steps.refl _) (a := b245) (argsL := [(.ref b1)]) (rest := [(.ref b245)]) (lenOf pd___Ljava_lang_String__V rfl) rfl (by show 2 * 0 + _ ≤ _; exact Nat.le_of_eq rfl) (hb hby at_62) (fun _ _ => ⟨rfl, e245, (by exact lee rfl), (by exact lee rfl)⟩)
  dsimp only [Pt.U, Pt.locs, Pt.cells, Pt.slots] at X272 l272 y272 z272 st272 hQ272
  subst l272 y272 z272
  obtain ⟨na_272, kn_272, rfl, Nq272, Kq272, f273, f274, f275, szn_272⟩ := hQ272
  have N272 := Fr.app N120 Nq272
  refine GoW.tr st272 ?_
  have f276 := Safe.keep Kq272 (allS f268 all0) CH245.1 f253
  have f277 := f254.keep Kq272
  have f278 := f255.keep Kq272
  have f279 := f256.keep Kq272 (ninS ne247 nin0)
  have f280 := f257.keep Kq272 (ninS ne247 nin0)
  have f281 := f258.keep Kq272 (ninS ne248 nin0)
  have f282 := f259.keep Kq272
  have f283 := f260.keep Kq272 (ninS ne249 nin0)
  have f284 := f261.keep Kq272 (ninS ne249 nin0)
  have f285 := f262.keep Kq272 (ninS ne250 nin0)
  have f286 := f263.keep Kq272
  have f287 := f264.keep Kq272 (ninS ne251 nin0)
  have f288 := f265.keep Kq272 (ninS ne251 nin0)
  have f289 := f266.keep Kq272 (ninS ne252 nin0)
  have f290 := f267.keep Kq272 (ninS ne246 nin0)
  have f291 := Safe.keep Kq272 (allS f268 all0) CH245.1 f268
  have f292 := A245.keep Kq272
  have CH272 := CH245.trans (CHr.keep Kq272 (allS f268 all0) CH245.1)
  have hk272 : Array.size T120.heap ≤ Array.size T272.heap := Nat.le_trans hk245 Kq272.1
  have O272 := O245.keep Kq272 (allS g_b245 all0)
  have g_na_272 : n0 ≤ na_272 := Nat.le_trans (own_le O245) szn_272
  have sf_na_272 : Safe Z EL T120.vm T272.heap na_272 := Safe.keep Kq272 (allS f268 all0) CH245.1 (Safe.new szn_272)
  have ne293 : b1 ≠ na_272 := Nat.ne_of_lt (Nat.lt_of_lt_of_le f254.lt szn_272)
  have ne294 : rr_4 ≠ na_272 := Nat.ne_of_lt (Nat.lt_of_lt_of_le f255.lt szn_272)
  have ne295 : tb_4 ≠ na_272 := Nat.ne_of_lt (Nat.lt_of_lt_of_le f258.lt szn_272)
  have ne296 : rr_22 ≠ na_272 := Nat.ne_of_lt (Nat.lt_of_lt_of_le f259.lt szn_272)
  have ne297 : tb_22 ≠ na_272 := Nat.ne_of_lt (Nat.lt_of_lt_of_le f262.lt szn_272)
  have ne298 : rr_50 ≠ na_272 := Nat.ne_of_lt (Nat.lt_of_lt_of_le f263.lt szn_272)
  have ne299 : tb_50 ≠ na_272 := Nat.ne_of_lt (Nat.lt_of_lt_of_le f266.lt szn_272)
  have ne300 : b245 ≠ na_272 := Nat.ne_of_lt (Nat.lt_of_lt_of_le A245.lt szn_272)
  show GoW _ _ _ _ _ _ _ _ _ (T272.setTop (mkF m 65 #[.val (.long ua), .second, .val (.long ub), .second, .val (.long uc), .second, .val (.int tk), .val (.ref b1), .val (.int (fh (fch ua))), .val (.int (fh (fch ub))), .val (.int (fh (fch uc))), .val (.int 1), .unset, .unset, .unset, .unset] [(.ref b245)]))
  refine GoW.st (fun _ => XS.astore X272.here hx rfl (hb hby at_65) rfl rfl (l' := #[.val (.long ua), .second, .val (.long ub), .second, .val (.long uc), .second, .val (.int tk), .val (.ref b1), .val (.int (fh (fch ua))), .val (.int (fh (fch ub))), .val (.int (fh (fch uc))), .val (.int 1), .val (.ref b245), .unset, .unset, .unset]) rfl) ?_
  refine GoW.st (fun _ => XS.aload X272.here hx rfl (hb hby at_67) rfl rfl) ?_
  show GoW _ _ _ _ _ _ _ _ _ (T272.setTop (mkF m 69 #[.val (.long ua), .second, .val (.long ub), .second, .val (.long uc), .second, .val (.int tk), .val (.ref b1), .val (.int (fh (fch ua))), .val (.int (fh (fch ub))), .val (.int (fh (fch uc))), .val (.int 1), .val (.ref b245), .unset, .unset, .unset] [(.ref b245)]))
  obtain ⟨cq301, kq301, q301a, q301b, q301c⟩ := isOf hZ120 rfl f292
  obtain ⟨_, _, ⟨T301, L301, k301, n301⟩, -, Xr301, hSr301, hgr301, ⟨Lc301, hQ301, l301, y301, z301, C301⟩, st301⟩ := X272.virtualBackS hx (y := mn0) (z := mn0) hown120 (mvT hZ120 (wdx hw 126 rfl)) (mvT hZ120 (wdx hw 127 rfl)) (notFace_of_selects (args := #[]) (mvT hZ120 (wdx hw 129 rfl))) (mvT hZ120 (wdx hw 129 rfl)) (mvT hZ120 (wdx hw 128 rfl)) (by decide) (own_back (W := 0) (rm20_0 l Z a0 hw [] b245 na_272 kn_272 cs rr_4 rr_22 rr_50 tb_4 kt_4 (fbl (fch ua)) tb_22 kt_22 (fbl (fch ub)) tb_50 kt_50 (fbl (fch uc)) T272.heap n0 O272 f273 f274 f275 f278 f280 f279 f281 f282 f284 f283 f285 f286 f288 f287 f289 S_cs q_cs (own_fl7 _) (own_fl7 _) (own_fl7 _)) hZ120 (wdx hw 130 rfl) (wdx hw 70 rfl) (by decide) (by decide) hEL CH272.1 all0) q301a q301c (g := (mkF m 69 #[.val (.long ua), .second, .val (.long ub), .second, .val (.long uc), .second, .val (.int tk), .val (.ref b1), .val (.int (fh (fch ua))), .val (.int (fh (fch ub))), .val (.int (fh (fch uc))), .val (.int 1), .val (.ref b245), .unset, .unset, .unset] [(.ref b245)])) rfl (by rw [hml]; rfl) (Steps.refl _) (argsL := []) (rest := []) (lenOf pd___Z rfl) rfl (by show 2 * 0 + _ ≤ _; exact Nat.le_of_eq rfl) (hb hby at_69) (fun _ _ => ⟨rfl, rfl, (by exact lee rfl), (by exact lee rfl)⟩)
  dsimp only [Pt.U, Pt.locs, Pt.cells, Pt.slots] at Xr301 hSr301 hgr301 l301 y301 z301 C301 st301 hQ301
  subst l301 y301 z301
  obtain ⟨X301, hS301, hZ301, hown301⟩ := rebS hS120 hk272 Xr301 hSr301 hgr301 hZ120 hown120
  obtain ⟨rfl, Nq301, Kq301⟩ := hQ301
  have N301 := Fr.app N272 Nq301
  refine GoW.tr st301 ?_
  have f302 : Safe Z EL T301.vm T301.heap b1 := C301.safe f277.lt f276
  have f303 := f277.keep Kq301
  have f304 := f278.keep Kq301
  have f305 := f279.keep Kq301 nin0
  have f306 := f280.keep Kq301 nin0
  have f307 := f281.keep Kq301 nin0
  have f308 := f282.keep Kq301
  have f309 := f283.keep Kq301 nin0
  have f310 := f284.keep Kq301 nin0
  have f311 := f285.keep Kq301 nin0
  have f312 := f286.keep Kq301
  have f313 := f287.keep Kq301 nin0
  have f314 := f288.keep Kq301 nin0
  have f315 := f289.keep Kq301 nin0
  have f316 := f290.keep Kq301 nin0
  have f317 : Safe Z EL T301.vm T301.heap b245 := C301.safe f292.lt f291
  have f318 := f292.keep Kq301
  have f319 := f273.keep Kq301 nin0
  have f320 := f274.keep Kq301 nin0
  have f321 := f275.keep Kq301 nin0
  have f322 : Safe Z EL T301.vm T301.heap na_272 := C301.safe f275.lt sf_na_272
  have CH301 := CH272.trans C301
  have O301 := O272.keep Kq301 all0
  show GoW _ _ _ _ _ _ _ _ _ (T301.setTop (mkF m 72 #[.val (.long ua), .second, .val (.long ub), .second, .val (.long uc), .second, .val (.int tk), .val (.ref b1), .val (.int (fh (fch ua))), .val (.int (fh (fch ub))), .val (.int (fh (fch uc))), .val (.int 1), .val (.ref b245), .unset, .unset, .unset] [(.int (fo3 (fh (fbl (fch ua))) (fh (fbl (fch ub))) (fh (fbl (fch uc)))))]))
  refine GoW.st (fun _ => XS.istore X301.here hx rfl (hb hby at_72) rfl (l' := #[.val (.long ua), .second, .val (.long ub), .second, .val (.long uc), .second, .val (.int tk), .val (.ref b1), .val (.int (fh (fch ua))), .val (.int (fh (fch ub))), .val (.int (fh (fch uc))), .val (.int 1), .val (.ref b245), .val (.int (fo3 (fh (fbl (fch ua))) (fh (fbl (fch ub))) (fh (fbl (fch uc))))), .unset, .unset]) rfl) ?_
  refine GoW.st (fun _ => XS.iload X301.here hx rfl (hb hby at_74) rfl) ?_
  show GoW _ _ _ _ _ _ _ _ _ (T301.setTop (mkF m 76 #[.val (.long ua), .second, .val (.long ub), .second, .val (.long uc), .second, .val (.int tk), .val (.ref b1), .val (.int (fh (fch ua))), .val (.int (fh (fch ub))), .val (.int (fh (fch uc))), .val (.int 1), .val (.ref b245), .val (.int (fo3 (fh (fbl (fch ua))) (fh (fbl (fch ub))) (fh (fbl (fch uc))))), .unset, .unset] [(.int 1)]))
  refine GoW.st (fun _ => XS.ifNo X301.here hx rfl (hb hby at_76) rfl (XT.i0_le_f (by decide))) ?_
  refine GoW.st (fun _ => XS.aload X301.here hx rfl (hb hby at_79) rfl rfl) ?_
  show GoW _ _ _ _ _ _ _ _ _ (T301.setTop (mkF m 81 #[.val (.long ua), .second, .val (.long ub), .second, .val (.long uc), .second, .val (.int tk), .val (.ref b1), .val (.int (fh (fch ua))), .val (.int (fh (fch ub))), .val (.int (fh (fch uc))), .val (.int 1), .val (.ref b245), .val (.int (fo3 (fh (fbl (fch ua))) (fh (fbl (fch ub))) (fh (fbl (fch uc))))), .unset, .unset] [(.ref b245)]))
  obtain ⟨cq323, kq323, q323a, q323b, q323c⟩ := isOf hZ301 rfl f318
  obtain ⟨_, _, ⟨T323, L323, k323, n323⟩, -, X323, ⟨Lc323, hQ323, l323, y323, z323⟩, st323⟩ := X301.virtualBack hx (y := mn2) (z := mn2) hown301 (mvT hZ301 (wdx hw 143 rfl)) (mvT hZ301 (wdx hw 144 rfl)) (notFace_of_selects (args := #[]) (mvT hZ301 (wdx hw 146 rfl))) (mvT hZ301 (wdx hw 146 rfl)) (mvT hZ301 (wdx hw 145 rfl)) (by decide) (backOf (W := 0) (rm23_3_0 l Z a0 hw [] b245 na_272 kn_272 rr_4 rr_22 rr_50 T301.heap n0 O301 f318 f319 f320 f321 g_b245 ne300) hZ301 (wdx hw 147 rfl) (wdx hw 70 rfl) (by decide) (by decide)) q323a q323c (g := (mkF m 81 #[.val (.long ua), .second, .val (.long ub), .second, .val (.long uc), .second, .val (.int tk), .val (.ref b1), .val (.int (fh (fch ua))), .val (.int (fh (fch ub))), .val (.int (fh (fch uc))), .val (.int 1), .val (.ref b245), .val (.int (fo3 (fh (fbl (fch ua))) (fh (fbl (fch ub))) (fh (fbl (fch uc))))), .unset, .unset] [(.ref b245)])) rfl (by rw [hml]; rfl) (Steps.refl _) (argsL := []) (rest := []) (lenOf pd___Ljava_lang_String_ rfl) rfl (by show 2 * 0 + _ ≤ _; exact Nat.le_of_eq rfl) (hb hby at_81) (fun _ _ => ⟨rfl, rfl, (by exact lee rfl), (by exact lee rfl)⟩)
  dsimp only [Pt.U, Pt.locs, Pt.cells, Pt.slots] at X323 l323 y323 z323 st323 hQ323
  subst l323 y323 z323
  obtain ⟨rfl, Nq323, Kq323, f324, f325⟩ := hQ323
  have N323 := Fr.app N301 Nq323
  refine GoW.tr st323 ?_
  have f326 := Safe.keep Kq323 (allS f317 all0) CH301.1 f302
  have f327 := f303.keep Kq323
  have f328 := f304.keep Kq323
  have f329 := f305.keep Kq323 (ninS ne247 nin0)
  have f330 := f306.keep Kq323 (ninS ne247 nin0)
  have f331 := f307.keep Kq323 (ninS ne248 nin0)
  have f332 := f308.keep Kq323
  have f333 := f309.keep Kq323 (ninS ne249 nin0)
  have f334 := f310.keep Kq323 (ninS ne249 nin0)
  have f335 := f311.keep Kq323 (ninS ne250 nin0)
  have f336 := f312.keep Kq323
  have f337 := f313.keep Kq323 (ninS ne251 nin0)
  have f338 := f314.keep Kq323 (ninS ne251 nin0)
  have f339 := f315.keep Kq323 (ninS ne252 nin0)
  have f340 := f316.keep Kq323 (ninS ne246 nin0)
  have f341 := Safe.keep Kq323 (allS f317 all0) CH301.1 f317
  have f342 := f318.keep Kq323
  have f343 := f321.keep Kq323 (ninS (Ne.symm ne300) nin0)
  have f344 := Safe.keep Kq323 (allS f317 all0) CH301.1 f322
  have CH323 := CH301.trans (CHr.keep Kq323 (allS f317 all0) CH301.1)
  have hk323 : Array.size T301.heap ≤ Array.size T323.heap := Nat.le_trans (Nat.le_refl _) Kq323.1
  have O323 := O301.keep Kq323 (allS g_b245 all0)
  show GoW _ _ _ _ _ _ _ _ _ (T323.setTop (mkF m 84 #[.val (.long ua), .second, .val (.long ub), .second, .val (.long uc), .second, .val (.int tk), .val (.ref b1), .val (.int (fh (fch ua))), .val (.int (fh (fch ub))), .val (.int (fh (fch uc))), .val (.int 1), .val (.ref b245), .val (.int (fo3 (fh (fbl (fch ua))) (fh (fbl (fch ub))) (fh (fbl (fch uc))))), .unset, .unset] [(.ref rr_4)]))
  refine GoW.st (fun _ => XS.pop X323.here hx rfl (hb hby at_84) rfl rfl) ?_
  refine GoW.st (fun _ => XS.iload X323.here hx rfl (hb hby at_85) rfl) ?_
  refine GoW.st (fun _ => XS.iconst X323.here hx rfl (hb hby at_87)) ?_
  show GoW _ _ _ _ _ _ _ _ _ (T323.setTop (mkF m 88 #[.val (.long ua), .second, .val (.long ub), .second, .val (.long uc), .second, .val (.int tk), .val (.ref b1), .val (.int (fh (fch ua))), .val (.int (fh (fch ub))), .val (.int (fh (fch uc))), .val (.int 1), .val (.ref b245), .val (.int (fo3 (fh (fbl (fch ua))) (fh (fbl (fch ub))) (fh (fbl (fch uc))))), .unset, .unset] [(.int 1), (.int 1)]))
  refine GoW.st (fun _ => XS.icmpYes X323.here hx rfl (pc0 := 88) (pc' := 97) rfl (hb hby at_88) rfl (XT.ii_le_t (by decide)) (by decide) (by decide)) ?_
  refine GoW.st (fun _ => XS.iload X323.here hx rfl (hb hby at_97) rfl) ?_
  refine GoW.st (fun _ => XS.iconst X323.here hx rfl (hb hby at_99)) ?_
  show GoW _ _ _ _ _ _ _ _ _ (T323.setTop (mkF m 100 #[.val (.long ua), .second, .val (.long ub), .second, .val (.long uc), .second, .val (.int tk), .val (.ref b1), .val (.int (fh (fch ua))), .val (.int (fh (fch ub))), .val (.int (fh (fch uc))), .val (.int 1), .val (.ref b245), .val (.int (fo3 (fh (fbl (fch ua))) (fh (fbl (fch ub))) (fh (fbl (fch uc))))), .unset, .unset] [(.int 2), (.int 1)]))
  refine GoW.st (fun _ => XS.icmpYes X323.here hx rfl (pc0 := 100) (pc' := 109) rfl (hb hby at_100) rfl (XT.ii_le_t (by decide)) (by decide) (by decide)) ?_
  refine GoW.st (fun _ => XS.aload X323.here hx rfl (hb hby at_109) rfl rfl) ?_
  show GoW _ _ _ _ _ _ _ _ _ (T323.setTop (mkF m 111 #[.val (.long ua), .second, .val (.long ub), .second, .val (.long uc), .second, .val (.int tk), .val (.ref b1), .val (.int (fh (fch ua))), .val (.int (fh (fch ub))), .val (.int (fh (fch uc))), .val (.int 1), .val (.ref b245), .val (.int (fo3 (fh (fbl (fch ua))) (fh (fbl (fch ub))) (fh (fbl (fch uc))))), .unset, .unset] [(.ref b245)]))
  obtain ⟨cq345, kq345, q345a, q345b, q345c⟩ := isOf hZ301 rfl f342
  obtain ⟨_, _, ⟨T345, L345, k345, n345⟩, -, Xr345, hSr345, hgr345, ⟨Lc345, hQ345, l345, y345, z345, C345⟩, st345⟩ := X323.virtualBackS hx (y := mn0) (z := mn0) hown301 (mvT hZ301 (wdx hw 126 rfl)) (mvT hZ301 (wdx hw 127 rfl)) (notFace_of_selects (args := #[]) (mvT hZ301 (wdx hw 129 rfl))) (mvT hZ301 (wdx hw 129 rfl)) (mvT hZ301 (wdx hw 128 rfl)) (by decide) (own_back (W := 0) (rm20_1 l Z a0 hw [] b245 na_272 kn_272 cs rr_4 rr_22 rr_50 tb_4 kt_4 (fbl (fch ua)) tb_22 kt_22 (fbl (fch ub)) tb_50 kt_50 (fbl (fch uc)) T323.heap n0 O323 f324 f325 f343 f328 f330 f329 f331 f332 f334 f333 f335 f336 f338 f337 f339 S_cs q_cs (own_fl7 _) (own_fl7 _) (own_fl7 _)) hZ301 (wdx hw 130 rfl) (wdx hw 70 rfl) (by decide) (by decide) hEL CH323.1 all0) q345a q345c (g := (mkF m 111 #[.val (.long ua), .second, .val (.long ub), .second, .val (.long uc), .second, .val (.int tk), .val (.ref b1), .val (.int (fh (fch ua))), .val (.int (fh (fch ub))), .val (.int (fh (fch uc))), .val (.int 1), .val (.ref b245), .val (.int (fo3 (fh (fbl (fch ua))) (fh (fbl (fch ub))) (fh (fbl (fch uc))))), .unset, .unset] [(.ref b245)])) rfl (by rw [hml]; rfl) (Steps.refl _) (argsL := []) (rest := []) (lenOf pd___Z rfl) rfl (by show 2 * 0 + _ ≤ _; exact Nat.le_of_eq rfl) (hb hby at_111) (fun _ _ => ⟨rfl, rfl, (by exact lee rfl), (by exact lee rfl)⟩)
  dsimp only [Pt.U, Pt.locs, Pt.cells, Pt.slots] at Xr345 hSr345 hgr345 l345 y345 z345 C345 st345 hQ345
  subst l345 y345 z345
  obtain ⟨X345, hS345, hZ345, hown345⟩ := rebS hS301 hk323 Xr345 hSr345 hgr345 hZ301 hown301
  obtain ⟨rfl, Nq345, Kq345⟩ := hQ345
  have N345 := Fr.app N323 Nq345
  refine GoW.tr st345 ?_
  have f346 : Safe Z EL T345.vm T345.heap b1 := C345.safe f327.lt f326
  have f347 := f327.keep Kq345
  have f348 := f328.keep Kq345
  have f349 := f329.keep Kq345 nin0
  have f350 := f330.keep Kq345 nin0
  have f351 := f331.keep Kq345 nin0
  have f352 := f332.keep Kq345
  have f353 := f333.keep Kq345 nin0
  have f354 := f334.keep Kq345 nin0
  have f355 := f335.keep Kq345 nin0
  have f356 := f336.keep Kq345
  have f357 := f337.keep Kq345 nin0
  have f358 := f338.keep Kq345 nin0
  have f359 := f339.keep Kq345 nin0
  have f360 := f340.keep Kq345 nin0
  have f361 : Safe Z EL T345.vm T345.heap b245 := C345.safe f342.lt f341
  have f362 := f342.keep Kq345
  have f363 := f343.keep Kq345 nin0
  have f364 : Safe Z EL T345.vm T345.heap na_272 := C345.safe f343.lt f344
  have f365 := f324.keep Kq345 nin0
  have f366 := f325.keep Kq345 nin0
  have CH345 := CH323.trans C345
  have O345 := O323.keep Kq345 all0
  show GoW _ _ _ _ _ _ _ _ _ (T345.setTop (mkF m 114 #[.val (.long ua), .second, .val (.long ub), .second, .val (.long uc), .second, .val (.int tk), .val (.ref b1), .val (.int (fh (fch ua))), .val (.int (fh (fch ub))), .val (.int (fh (fch uc))), .val (.int 1), .val (.ref b245), .val (.int (fo3 (fh (fbl (fch ua))) (fh (fbl (fch ub))) (fh (fbl (fch uc))))), .unset, .unset] [(.int (fo3 (0 : Int32) (fh (fbl (fch ub))) (fh (fbl (fch uc)))))]))
  refine GoW.st (fun _ => XS.istore X345.here hx rfl (hb hby at_114) rfl (l' := #[.val (.long ua), .second, .val (.long ub), .second, .val (.long uc), .second, .val (.int tk), .val (.ref b1), .val (.int (fh (fch ua))), .val (.int (fh (fch ub))), .val (.int (fh (fch uc))), .val (.int 1), .val (.ref b245), .val (.int (fo3 (fh (fbl (fch ua))) (fh (fbl (fch ub))) (fh (fbl (fch uc))))), .val (.int (fo3 (0 : Int32) (fh (fbl (fch ub))) (fh (fbl (fch uc))))), .unset]) rfl) ?_
  show GoW _ _ _ _ _ _ _ _ _ (T345.setTop (mkF m 116 #[.val (.long ua), .second, .val (.long ub), .second, .val (.long uc), .second, .val (.int tk), .val (.ref b1), .val (.int (fh (fch ua))), .val (.int (fh (fch ub))), .val (.int (fh (fch uc))), .val (.int 1), .val (.ref b245), .val (.int (fo3 (fh (fbl (fch ua))) (fh (fbl (fch ub))) (fh (fbl (fch uc))))), .val (.int (fo3 (0 : Int32) (fh (fbl (fch ub))) (fh (fbl (fch uc))))), .unset] []))
  have J367 : ∀ (TJ367' : State) (lJ367' : List Loc) (XJ367' : Stand p l e room_1 (s.setVm T345.vm) m #[(.long ua), (.long ub), (.long uc), (.int tk)] below meth c TJ367' lJ367' 39 297) (eJ367' : TJ367'.heap = T345.heap) (NJ367' : Fr n0 lJ367') (xe : Int32) (r_xe : xe = (fo3 (0 : Int32) (fh (fch ub)) (fh (fch uc)))), GoW p e below s 48 3328 Z EL (Q0 Z ua ub uc tk cs vf h0 n0) (TJ367'.setTop (mkF m 154 #[.val (.long ua), .second, .val (.long ub), .second, .val (.long uc), .second, .val (.int tk), .val (.ref b1), .val (.int (fh (fch ua))), .val (.int (fh (fch ub))), .val (.int (fh (fch uc))), .val (.int 1), .val (.ref b245), .val (.int (fo3 (fh (fbl (fch ua))) (fh (fbl (fch ub))) (fh (fbl (fch uc))))), .val (.int (fo3 (0 : Int32) (fh (fbl (fch ub))) (fh (fbl (fch uc))))), .unset] [(.int xe)])) := by
   intro TJ367' lJ367' XJ367' eJ367' NJ367' xe r_xe
   show GoW _ _ _ _ _ _ _ _ _ (TJ367'.setTop (mkF m 154 #[.val (.long ua), .second, .val (.long ub), .second, .val (.long uc), .second, .val (.int tk), .val (.ref b1), .val (.int (fh (fch ua))), .val (.int (fh (fch ub))), .val (.int (fh (fch uc))), .val (.int 1), .val (.ref b245), .val (.int (fo3 (fh (fbl (fch ua))) (fh (fbl (fch ub))) (fh (fbl (fch uc))))), .val (.int (fo3 (0 : Int32) (fh (fbl (fch ub))) (fh (fbl (fch uc))))), .unset] [(.int xe)]))
   refine GoW.st (fun _ => XS.istore XJ367'.here hx rfl (hb hby at_154) rfl (l' := #[.val (.long ua), .second, .val (.long ub), .second, .val (.long uc), .second, .val (.int tk), .val (.ref b1), .val (.int (fh (fch ua))), .val (.int (fh (fch ub))), .val (.int (fh (fch uc))), .val (.int 1), .val (.ref b245), .val (.int (fo3 (fh (fbl (fch ua))) (fh (fbl (fch ub))) (fh (fbl (fch uc))))), .val (.int (fo3 (0 : Int32) (fh (fbl (fch ub))) (fh (fbl (fch uc))))), .val (.int xe)]) rfl) ?_
   refine GoW.st (fun _ => XS.iload XJ367'.here hx rfl (hb hby at_156) rfl) ?_
   show GoW _ _ _ _ _ _ _ _ _ (TJ367'.setTop (mkF m 158 #[.val (.long ua), .second, .val (.long ub), .second, .val (.long uc), .second, .val (.int tk), .val (.ref b1), .val (.int (fh (fch ua))), .val (.int (fh (fch ub))), .val (.int (fh (fch uc))), .val (.int 1), .val (.ref b245), .val (.int (fo3 (fh (fbl (fch ua))) (fh (fbl (fch ub))) (fh (fbl (fch uc))))), .val (.int (fo3 (0 : Int32) (fh (fbl (fch ub))) (fh (fbl (fch uc))))), .val (.int xe)] [(.int (fo3 (fh (fbl (fch ua))) (fh (fbl (fch ub))) (fh (fbl (fch uc)))))]))
   have J368 : ∀ (TJ368' : State) (lJ368' : List Loc) (XJ368' : Stand p l e room_1 (s.setVm T345.vm) m #[(.long ua), (.long ub), (.long uc), (.int tk)] below meth c TJ368' lJ368' 39 297) (eJ368' : TJ368'.heap = T345.heap) (NJ368' : Fr n0 lJ368') (xw : Int32) (r_xw : xw = (fo3 (fh (fch ua)) (fh (fch ub)) (fh (fch uc)))), GoW p e below s 48 3328 Z EL (Q0 Z ua ub uc tk cs vf h0 n0) (TJ368'.setTop (mkF m 178 #[.val (.long ua), .second, .val (.long ub), .second, .val (.long uc), .second, .val (.int tk), .val (.ref b1), .val (.int (fh (fch ua))), .val (.int (fh (fch ub))), .val (.int (fh (fch uc))), .val (.int 1), .val (.ref b245), .val (.int (fo3 (fh (fbl (fch ua))) (fh (fbl (fch ub))) (fh (fbl (fch uc))))), .val (.int (fo3 (0 : Int32) (fh (fbl (fch ub))) (fh (fbl (fch uc))))), .val (.int xe)] [(.int xw), (.int (fo3 (fh (fbl (fch ua))) (fh (fbl (fch ub))) (fh (fbl (fch uc)))))])) := by
    intro TJ368' lJ368' XJ368' eJ368' NJ368' xw r_xw
    show GoW _ _ _ _ _ _ _ _ _ (TJ368'.setTop (mkF m 178 #[.val (.long ua), .second, .val (.long ub), .second, .val (.long uc), .second, .val (.int tk), .val (.ref b1), .val (.int (fh (fch ua))), .val (.int (fh (fch ub))), .val (.int (fh (fch uc))), .val (.int 1), .val (.ref b245), .val (.int (fo3 (fh (fbl (fch ua))) (fh (fbl (fch ub))) (fh (fbl (fch uc))))), .val (.int (fo3 (0 : Int32) (fh (fbl (fch ub))) (fh (fbl (fch uc))))), .val (.int xe)] [(.int xw), (.int (fo3 (fh (fbl (fch ua))) (fh (fbl (fch ub))) (fh (fbl (fch uc)))))]))
    refine GoW.st (fun _ => XS.icmpNo XJ368'.here hx rfl (hb hby at_178) rfl (XT.ii_ne_f (by rw [r_xw, own_fh, own_fh, own_fh]))) ?_
    refine GoW.st (fun _ => XS.iload XJ368'.here hx rfl (hb hby at_181) rfl) ?_
    refine GoW.st (fun _ => XS.iload XJ368'.here hx rfl (hb hby at_183) rfl) ?_
    show GoW _ _ _ _ _ _ _ _ _ (TJ368'.setTop (mkF m 185 #[.val (.long ua), .second, .val (.long ub), .second, .val (.long uc), .second, .val (.int tk), .val (.ref b1), .val (.int (fh (fch ua))), .val (.int (fh (fch ub))), .val (.int (fh (fch uc))), .val (.int 1), .val (.ref b245), .val (.int (fo3 (fh (fbl (fch ua))) (fh (fbl (fch ub))) (fh (fbl (fch uc))))), .val (.int (fo3 (0 : Int32) (fh (fbl (fch ub))) (fh (fbl (fch uc))))), .val (.int xe)] [(.int xe), (.int (fo3 (0 : Int32) (fh (fbl (fch ub))) (fh (fbl (fch uc)))))]))
    refine GoW.st (fun _ => XS.icmpNo XJ368'.here hx rfl (hb hby at_185) rfl (XT.ii_ne_f (by rw [r_xe] <;> simp only [own_fh]))) ?_
    refine GoW.st (fun _ => XS.aload XJ368'.here hx rfl (hb hby at_188) rfl rfl) ?_
    show GoW _ _ _ _ _ _ _ _ _ (TJ368'.setTop (mkF m 190 #[.val (.long ua), .second, .val (.long ub), .second, .val (.long uc), .second, .val (.int tk), .val (.ref b1), .val (.int (fh (fch ua))), .val (.int (fh (fch ub))), .val (.int (fh (fch uc))), .val (.int 1), .val (.ref b245), .val (.int (fo3 (fh (fbl (fch ua))) (fh (fbl (fch ub))) (fh (fbl (fch uc))))), .val (.int (fo3 (0 : Int32) (fh (fbl (fch ub))) (fh (fbl (fch uc))))), .val (.int xe)] [(.ref b245)]))
    obtain ⟨cq369, kq369, q369a, q369b, q369c⟩ := isOf hZ345 eJ368' f362
    obtain ⟨_, _, ⟨T369, L369, k369, n369⟩, -, X369, ⟨Lc369, hQ369, l369, y369, z369⟩, st369⟩ := XJ368'.virtualBack hx (y := mn1) (z := mn1) hown345 (mvT hZ345 (wdx hw 158 rfl)) (mvT hZ345 (wdx hw 154 rfl)) (notFace_of_selects (args := #[]) (mvT hZ345 (wdx hw 156 rfl))) (mvT hZ345 (wdx hw 156 rfl)) (mvT hZ345 (wdx hw 155 rfl)) (by decide) (backOf (W := 0) (rm25_3_1 l Z a0 hw [] b245 na_272 kn_272 rr_4 rr_22 rr_50 T345.heap n0 O345 f365 f366 f363) hZ345 (wdx hw 157 rfl) (wdx hw 70 rfl) (by decide) (by decide)) q369a q369c (g := (mkF m 190 #[.val (.long ua), .second, .val (.long ub), .second, .val (.long uc), .second, .val (.int tk), .val (.ref b1), .val (.int (fh (fch ua))), .val (.int (fh (fch ub))), .val (.int (fh (fch uc))), .val (.int 1), .val (.ref b245), .val (.int (fo3 (fh (fbl (fch ua))) (fh (fbl (fch ub))) (fh (fbl (fch uc))))), .val (.int (fo3 (0 : Int32) (fh (fbl (fch ub))) (fh (fbl (fch uc))))), .val (.int xe)] [(.ref b245)])) rfl (by rw [hml]; rfl) (Steps.refl _) (argsL := []) (rest := []) (lenOf pd___Z rfl) rfl (by show 2 * 0 + _ ≤ _; exact Nat.le_of_eq rfl) (hb hby at_190) (fun _ _ => ⟨rfl, eJ368', (by exact lee rfl), (by exact lee rfl)⟩)
    dsimp only [Pt.U, Pt.locs, Pt.cells, Pt.slots] at X369 l369 y369 z369 st369 hQ369
    subst l369 y369 z369
    obtain ⟨rfl, Nq369, eq369⟩ := hQ369
    have N369 := Fr.app NJ368' Nq369
    refine GoW.tr st369 ?_
    show GoW _ _ _ _ _ _ _ _ _ (T369.setTop (mkF m 193 #[.val (.long ua), .second, .val (.long ub), .second, .val (.long uc), .second, .val (.int tk), .val (.ref b1), .val (.int (fh (fch ua))), .val (.int (fh (fch ub))), .val (.int (fh (fch uc))), .val (.int 1), .val (.ref b245), .val (.int (fo3 (fh (fbl (fch ua))) (fh (fbl (fch ub))) (fh (fbl (fch uc))))), .val (.int (fo3 (0 : Int32) (fh (fbl (fch ub))) (fh (fbl (fch uc))))), .val (.int xe)] [(.int 1)]))
    refine GoW.st (fun _ => XS.iload X369.here hx rfl (hb hby at_193) rfl) ?_
    refine GoW.st (fun _ => XS.iconst X369.here hx rfl (hb hby at_195)) ?_
    show GoW _ _ _ _ _ _ _ _ _ (T369.setTop (mkF m 196 #[.val (.long ua), .second, .val (.long ub), .second, .val (.long uc), .second, .val (.int tk), .val (.ref b1), .val (.int (fh (fch ua))), .val (.int (fh (fch ub))), .val (.int (fh (fch uc))), .val (.int 1), .val (.ref b245), .val (.int (fo3 (fh (fbl (fch ua))) (fh (fbl (fch ub))) (fh (fbl (fch uc))))), .val (.int (fo3 (0 : Int32) (fh (fbl (fch ub))) (fh (fbl (fch uc))))), .val (.int xe)] [(.int 3), (.int 1), (.int 1)]))
    refine GoW.st (fun _ => XS.icmpNo X369.here hx rfl (hb hby at_196) rfl (XT.ii_ge_f (by decide))) ?_
    refine GoW.st (fun _ => XS.iconst X369.here hx rfl (hb hby at_199)) ?_
    show GoW _ _ _ _ _ _ _ _ _ (T369.setTop (mkF m 200 #[.val (.long ua), .second, .val (.long ub), .second, .val (.long uc), .second, .val (.int tk), .val (.ref b1), .val (.int (fh (fch ua))), .val (.int (fh (fch ub))), .val (.int (fh (fch uc))), .val (.int 1), .val (.ref b245), .val (.int (fo3 (fh (fbl (fch ua))) (fh (fbl (fch ub))) (fh (fbl (fch uc))))), .val (.int (fo3 (0 : Int32) (fh (fbl (fch ub))) (fh (fbl (fch uc))))), .val (.int xe)] [(.int 1), (.int 1)]))
    refine GoW.st (fun _ => XS.goto X369.here hx rfl (pc0 := 200) (pc' := 204) rfl (hb hby at_200) (by decide) (by decide)) ?_
    show GoW _ _ _ _ _ _ _ _ _ (T369.setTop (mkF m 204 #[.val (.long ua), .second, .val (.long ub), .second, .val (.long uc), .second, .val (.int tk), .val (.ref b1), .val (.int (fh (fch ua))), .val (.int (fh (fch ub))), .val (.int (fh (fch uc))), .val (.int 1), .val (.ref b245), .val (.int (fo3 (fh (fbl (fch ua))) (fh (fbl (fch ub))) (fh (fbl (fch uc))))), .val (.int (fo3 (0 : Int32) (fh (fbl (fch ub))) (fh (fbl (fch uc))))), .val (.int xe)] [(.int 1), (.int 1)]))
    refine GoW.st (fun _ => XS.icmpNo X369.here hx rfl (hb hby at_204) rfl (XT.ii_ne_f (by decide))) ?_
    refine GoW.st (fun _ => XS.iconst X369.here hx rfl (hb hby at_207)) ?_
    show GoW _ _ _ _ _ _ _ _ _ (T369.setTop (mkF m 208 #[.val (.long ua), .second, .val (.long ub), .second, .val (.long uc), .second, .val (.int tk), .val (.ref b1), .val (.int (fh (fch ua))), .val (.int (fh (fch ub))), .val (.int (fh (fch uc))), .val (.int 1), .val (.ref b245), .val (.int (fo3 (fh (fbl (fch ua))) (fh (fbl (fch ub))) (fh (fbl (fch uc))))), .val (.int (fo3 (0 : Int32) (fh (fbl (fch ub))) (fh (fbl (fch uc))))), .val (.int xe)] [(.int 1)]))
    refine GoW.st (fun _ => XS.goto X369.here hx rfl (pc0 := 208) (pc' := 212) rfl (hb hby at_208) (by decide) (by decide)) ?_
    show GoW _ _ _ _ _ _ _ _ _ (T369.setTop (mkF m 212 #[.val (.long ua), .second, .val (.long ub), .second, .val (.long uc), .second, .val (.int tk), .val (.ref b1), .val (.int (fh (fch ua))), .val (.int (fh (fch ub))), .val (.int (fh (fch uc))), .val (.int 1), .val (.ref b245), .val (.int (fo3 (fh (fbl (fch ua))) (fh (fbl (fch ub))) (fh (fbl (fch uc))))), .val (.int (fo3 (0 : Int32) (fh (fbl (fch ub))) (fh (fbl (fch uc))))), .val (.int xe)] [(.int 1)]))
    refine GoW.retB X369 hx hlk hS345 (by rw [eq369]; exact (Nat.le_refl _)) hZ345 hEL CH345 (t := .boolean) Bd.returns (by simp) (hb hby at_212) (by decide) (by decide) eq369 ?_
    exact ⟨rfl, N369, trivial⟩
   refine GoW.st (fun _ => XS.iload XJ367'.here hx rfl (hb hby at_158) rfl) ?_
   show GoW _ _ _ _ _ _ _ _ _ (TJ367'.setTop (mkF m 160 #[.val (.long ua), .second, .val (.long ub), .second, .val (.long uc), .second, .val (.int tk), .val (.ref b1), .val (.int (fh (fch ua))), .val (.int (fh (fch ub))), .val (.int (fh (fch uc))), .val (.int 1), .val (.ref b245), .val (.int (fo3 (fh (fbl (fch ua))) (fh (fbl (fch ub))) (fh (fbl (fch uc))))), .val (.int (fo3 (0 : Int32) (fh (fbl (fch ub))) (fh (fbl (fch uc))))), .val (.int xe)] [(.int (fh (fch ua))), (.int (fo3 (fh (fbl (fch ua))) (fh (fbl (fch ub))) (fh (fbl (fch uc)))))]))
   by_cases hc370 : (fh (fch ua)) = (0 : Int32)
   ·refine GoW.st (fun _ => XS.ifNo XJ367'.here hx rfl (hb hby at_160) rfl (XT.i0_ne_f hc370)) ?_
    refine GoW.st (fun _ => XS.iload XJ367'.here hx rfl (hb hby at_163) rfl) ?_
    show GoW _ _ _ _ _ _ _ _ _ (TJ367'.setTop (mkF m 165 #[.val (.long ua), .second, .val (.long ub), .second, .val (.long uc), .second, .val (.int tk), .val (.ref b1), .val (.int (fh (fch ua))), .val (.int (fh (fch ub))), .val (.int (fh (fch uc))), .val (.int 1), .val (.ref b245), .val (.int (fo3 (fh (fbl (fch ua))) (fh (fbl (fch ub))) (fh (fbl (fch uc))))), .val (.int (fo3 (0 : Int32) (fh (fbl (fch ub))) (fh (fbl (fch uc))))), .val (.int xe)] [(.int (fh (fch ub))), (.int (fo3 (fh (fbl (fch ua))) (fh (fbl (fch ub))) (fh (fbl (fch uc)))))]))
    by_cases hc371 : (fh (fch ub)) = (0 : Int32)
    ·refine GoW.st (fun _ => XS.ifNo XJ367'.here hx rfl (hb hby at_165) rfl (XT.i0_ne_f hc371)) ?_
     refine GoW.st (fun _ => XS.iload XJ367'.here hx rfl (hb hby at_168) rfl) ?_
     show GoW _ _ _ _ _ _ _ _ _ (TJ367'.setTop (mkF m 170 #[.val (.long ua), .second, .val (.long ub), .second, .val (.long uc), .second, .val (.int tk), .val (.ref b1), .val (.int (fh (fch ua))), .val (.int (fh (fch ub))), .val (.int (fh (fch uc))), .val (.int 1), .val (.ref b245), .val (.int (fo3 (fh (fbl (fch ua))) (fh (fbl (fch ub))) (fh (fbl (fch uc))))), .val (.int (fo3 (0 : Int32) (fh (fbl (fch ub))) (fh (fbl (fch uc))))), .val (.int xe)] [(.int (fh (fch uc))), (.int (fo3 (fh (fbl (fch ua))) (fh (fbl (fch ub))) (fh (fbl (fch uc)))))]))
     by_cases hc372 : (fh (fch uc)) = (0 : Int32)
     ·refine GoW.st (fun _ => XS.ifYes XJ367'.here hx rfl (pc0 := 170) (pc' := 177) rfl (hb hby at_170) rfl (XT.i0_eq_t hc372) (by decide) (by decide)) ?_
      refine GoW.st (fun _ => XS.iconst XJ367'.here hx rfl (hb hby at_177)) ?_
      show GoW _ _ _ _ _ _ _ _ _ (TJ367'.setTop (mkF m 178 #[.val (.long ua), .second, .val (.long ub), .second, .val (.long uc), .second, .val (.int tk), .val (.ref b1), .val (.int (fh (fch ua))), .val (.int (fh (fch ub))), .val (.int (fh (fch uc))), .val (.int 1), .val (.ref b245), .val (.int (fo3 (fh (fbl (fch ua))) (fh (fbl (fch ub))) (fh (fbl (fch uc))))), .val (.int (fo3 (0 : Int32) (fh (fbl (fch ub))) (fh (fbl (fch uc))))), .val (.int xe)] [(.int 0), (.int (fo3 (fh (fbl (fch ua))) (fh (fbl (fch ub))) (fh (fbl (fch uc)))))]))
      exact J368 TJ367' _ XJ367' eJ367' NJ367' (0 : Int32) (by simp [fo3, hc370, hc371, hc372])
     ·refine GoW.st (fun _ => XS.ifNo XJ367'.here hx rfl (hb hby at_170) rfl (XT.i0_eq_f hc372)) ?_
      refine GoW.st (fun _ => XS.iconst XJ367'.here hx rfl (hb hby at_173)) ?_
      show GoW _ _ _ _ _ _ _ _ _ (TJ367'.setTop (mkF m 174 #[.val (.long ua), .second, .val (.long ub), .second, .val (.long uc), .second, .val (.int tk), .val (.ref b1), .val (.int (fh (fch ua))), .val (.int (fh (fch ub))), .val (.int (fh (fch uc))), .val (.int 1), .val (.ref b245), .val (.int (fo3 (fh (fbl (fch ua))) (fh (fbl (fch ub))) (fh (fbl (fch uc))))), .val (.int (fo3 (0 : Int32) (fh (fbl (fch ub))) (fh (fbl (fch uc))))), .val (.int xe)] [(.int 1), (.int (fo3 (fh (fbl (fch ua))) (fh (fbl (fch ub))) (fh (fbl (fch uc)))))]))
      refine GoW.st (fun _ => XS.goto XJ367'.here hx rfl (pc0 := 174) (pc' := 178) rfl (hb hby at_174) (by decide) (by decide)) ?_
      show GoW _ _ _ _ _ _ _ _ _ (TJ367'.setTop (mkF m 178 #[.val (.long ua), .second, .val (.long ub), .second, .val (.long uc), .second, .val (.int tk), .val (.ref b1), .val (.int (fh (fch ua))), .val (.int (fh (fch ub))), .val (.int (fh (fch uc))), .val (.int 1), .val (.ref b245), .val (.int (fo3 (fh (fbl (fch ua))) (fh (fbl (fch ub))) (fh (fbl (fch uc))))), .val (.int (fo3 (0 : Int32) (fh (fbl (fch ub))) (fh (fbl (fch uc))))), .val (.int xe)] [(.int 1), (.int (fo3 (fh (fbl (fch ua))) (fh (fbl (fch ub))) (fh (fbl (fch uc)))))]))
      exact J368 TJ367' _ XJ367' eJ367' NJ367' (1 : Int32) (by simp [fo3, hc370, hc371, hc372])
    ·refine GoW.st (fun _ => XS.ifYes XJ367'.here hx rfl (pc0 := 165) (pc' := 173) rfl (hb hby at_165) rfl (XT.i0_ne_t hc371) (by decide) (by decide)) ?_
     refine GoW.st (fun _ => XS.iconst XJ367'.here hx rfl (hb hby at_173)) ?_
     show GoW _ _ _ _ _ _ _ _ _ (TJ367'.setTop (mkF m 174 #[.val (.long ua), .second, .val (.long ub), .second, .val (.long uc), .second, .val (.int tk), .val (.ref b1), .val (.int (fh (fch ua))), .val (.int (fh (fch ub))), .val (.int (fh (fch uc))), .val (.int 1), .val (.ref b245), .val (.int (fo3 (fh (fbl (fch ua))) (fh (fbl (fch ub))) (fh (fbl (fch uc))))), .val (.int (fo3 (0 : Int32) (fh (fbl (fch ub))) (fh (fbl (fch uc))))), .val (.int xe)] [(.int 1), (.int (fo3 (fh (fbl (fch ua))) (fh (fbl (fch ub))) (fh (fbl (fch uc)))))]))
     refine GoW.st (fun _ => XS.goto XJ367'.here hx rfl (pc0 := 174) (pc' := 178) rfl (hb hby at_174) (by decide) (by decide)) ?_
     show GoW _ _ _ _ _ _ _ _ _ (TJ367'.setTop (mkF m 178 #[.val (.long ua), .second, .val (.long ub), .second, .val (.long uc), .second, .val (.int tk), .val (.ref b1), .val (.int (fh (fch ua))), .val (.int (fh (fch ub))), .val (.int (fh (fch uc))), .val (.int 1), .val (.ref b245), .val (.int (fo3 (fh (fbl (fch ua))) (fh (fbl (fch ub))) (fh (fbl (fch uc))))), .val (.int (fo3 (0 : Int32) (fh (fbl (fch ub))) (fh (fbl (fch uc))))), .val (.int xe)] [(.int 1), (.int (fo3 (fh (fbl (fch ua))) (fh (fbl (fch ub))) (fh (fbl (fch uc)))))]))
     exact J368 TJ367' _ XJ367' eJ367' NJ367' (1 : Int32) (by simp [fo3, hc370, hc371])
   ·refine GoW.st (fun _ => XS.ifYes XJ367'.here hx rfl (pc0 := 160) (pc' := 173) rfl (hb hby at_160) rfl (XT.i0_ne_t hc370) (by decide) (by decide)) ?_
    refine GoW.st (fun _ => XS.iconst XJ367'.here hx rfl (hb hby at_173)) ?_
    show GoW _ _ _ _ _ _ _ _ _ (TJ367'.setTop (mkF m 174 #[.val (.long ua), .second, .val (.long ub), .second, .val (.long uc), .second, .val (.int tk), .val (.ref b1), .val (.int (fh (fch ua))), .val (.int (fh (fch ub))), .val (.int (fh (fch uc))), .val (.int 1), .val (.ref b245), .val (.int (fo3 (fh (fbl (fch ua))) (fh (fbl (fch ub))) (fh (fbl (fch uc))))), .val (.int (fo3 (0 : Int32) (fh (fbl (fch ub))) (fh (fbl (fch uc))))), .val (.int xe)] [(.int 1), (.int (fo3 (fh (fbl (fch ua))) (fh (fbl (fch ub))) (fh (fbl (fch uc)))))]))
    refine GoW.st (fun _ => XS.goto XJ367'.here hx rfl (pc0 := 174) (pc' := 178) rfl (hb hby at_174) (by decide) (by decide)) ?_
    show GoW _ _ _ _ _ _ _ _ _ (TJ367'.setTop (mkF m 178 #[.val (.long ua), .second, .val (.long ub), .second, .val (.long uc), .second, .val (.int tk), .val (.ref b1), .val (.int (fh (fch ua))), .val (.int (fh (fch ub))), .val (.int (fh (fch uc))), .val (.int 1), .val (.ref b245), .val (.int (fo3 (fh (fbl (fch ua))) (fh (fbl (fch ub))) (fh (fbl (fch uc))))), .val (.int (fo3 (0 : Int32) (fh (fbl (fch ub))) (fh (fbl (fch uc))))), .val (.int xe)] [(.int 1), (.int (fo3 (fh (fbl (fch ua))) (fh (fbl (fch ub))) (fh (fbl (fch uc)))))]))
    exact J368 TJ367' _ XJ367' eJ367' NJ367' (1 : Int32) (by simp [fo3, hc370])
  refine GoW.st (fun _ => XS.iload X345.here hx rfl (hb hby at_116) rfl) ?_
  refine GoW.st (fun _ => XS.iconst X345.here hx rfl (hb hby at_118)) ?_
  show GoW _ _ _ _ _ _ _ _ _ (T345.setTop (mkF m 119 #[.val (.long ua), .second, .val (.long ub), .second, .val (.long uc), .second, .val (.int tk), .val (.ref b1), .val (.int (fh (fch ua))), .val (.int (fh (fch ub))), .val (.int (fh (fch uc))), .val (.int 1), .val (.ref b245), .val (.int (fo3 (fh (fbl (fch ua))) (fh (fbl (fch ub))) (fh (fbl (fch uc))))), .val (.int (fo3 (0 : Int32) (fh (fbl (fch ub))) (fh (fbl (fch uc))))), .unset] [(.int 1), (.int 1)]))
  refine GoW.st (fun _ => XS.icmpYes X345.here hx rfl (pc0 := 119) (pc' := 127) rfl (hb hby at_119) rfl (XT.ii_ge_t (by decide)) (by decide) (by decide)) ?_
  refine GoW.st (fun _ => XS.iload X345.here hx rfl (hb hby at_127) rfl) ?_
  refine GoW.st (fun _ => XS.iconst X345.here hx rfl (hb hby at_129)) ?_
  show GoW _ _ _ _ _ _ _ _ _ (T345.setTop (mkF m 130 #[.val (.long ua), .second, .val (.long ub), .second, .val (.long uc), .second, .val (.int tk), .val (.ref b1), .val (.int (fh (fch ua))), .val (.int (fh (fch ub))), .val (.int (fh (fch uc))), .val (.int 1), .val (.ref b245), .val (.int (fo3 (fh (fbl (fch ua))) (fh (fbl (fch ub))) (fh (fbl (fch uc))))), .val (.int (fo3 (0 : Int32) (fh (fbl (fch ub))) (fh (fbl (fch uc))))), .unset] [(.int 2), (.int 1)]))
  refine GoW.st (fun _ => XS.icmpNo X345.here hx rfl (hb hby at_130) rfl (XT.ii_ge_f (by decide))) ?_
  refine GoW.st (fun _ => XS.iload X345.here hx rfl (hb hby at_133) rfl) ?_
  show GoW _ _ _ _ _ _ _ _ _ (T345.setTop (mkF m 135 #[.val (.long ua), .second, .val (.long ub), .second, .val (.long uc), .second, .val (.int tk), .val (.ref b1), .val (.int (fh (fch ua))), .val (.int (fh (fch ub))), .val (.int (fh (fch uc))), .val (.int 1), .val (.ref b245), .val (.int (fo3 (fh (fbl (fch ua))) (fh (fbl (fch ub))) (fh (fbl (fch uc))))), .val (.int (fo3 (0 : Int32) (fh (fbl (fch ub))) (fh (fbl (fch uc))))), .unset] [(.int (fh (fch ub)))]))
  by_cases hc373 : (fh (fch ub)) = (0 : Int32)
  ·refine GoW.st (fun _ => XS.ifNo X345.here hx rfl (hb hby at_135) rfl (XT.i0_ne_f hc373)) ?_
   refine GoW.st (fun _ => XS.iload X345.here hx rfl (hb hby at_138) rfl) ?_
   refine GoW.st (fun _ => XS.iconst X345.here hx rfl (hb hby at_140)) ?_
   show GoW _ _ _ _ _ _ _ _ _ (T345.setTop (mkF m 141 #[.val (.long ua), .second, .val (.long ub), .second, .val (.long uc), .second, .val (.int tk), .val (.ref b1), .val (.int (fh (fch ua))), .val (.int (fh (fch ub))), .val (.int (fh (fch uc))), .val (.int 1), .val (.ref b245), .val (.int (fo3 (fh (fbl (fch ua))) (fh (fbl (fch ub))) (fh (fbl (fch uc))))), .val (.int (fo3 (0 : Int32) (fh (fbl (fch ub))) (fh (fbl (fch uc))))), .unset] [(.int 3), (.int 1)]))
   refine GoW.st (fun _ => XS.icmpNo X345.here hx rfl (hb hby at_141) rfl (XT.ii_ge_f (by decide))) ?_
   refine GoW.st (fun _ => XS.iload X345.here hx rfl (hb hby at_144) rfl) ?_
   show GoW _ _ _ _ _ _ _ _ _ (T345.setTop (mkF m 146 #[.val (.long ua), .second, .val (.long ub), .second, .val (.long uc), .second, .val (.int tk), .val (.ref b1), .val (.int (fh (fch ua))), .val (.int (fh (fch ub))), .val (.int (fh (fch uc))), .val (.int 1), .val (.ref b245), .val (.int (fo3 (fh (fbl (fch ua))) (fh (fbl (fch ub))) (fh (fbl (fch uc))))), .val (.int (fo3 (0 : Int32) (fh (fbl (fch ub))) (fh (fbl (fch uc))))), .unset] [(.int (fh (fch uc)))]))
   by_cases hc374 : (fh (fch uc)) = (0 : Int32)
   ·refine GoW.st (fun _ => XS.ifYes X345.here hx rfl (pc0 := 146) (pc' := 153) rfl (hb hby at_146) rfl (XT.i0_eq_t hc374) (by decide) (by decide)) ?_
    refine GoW.st (fun _ => XS.iconst X345.here hx rfl (hb hby at_153)) ?_
    show GoW _ _ _ _ _ _ _ _ _ (T345.setTop (mkF m 154 #[.val (.long ua), .second, .val (.long ub), .second, .val (.long uc), .second, .val (.int tk), .val (.ref b1), .val (.int (fh (fch ua))), .val (.int (fh (fch ub))), .val (.int (fh (fch uc))), .val (.int 1), .val (.ref b245), .val (.int (fo3 (fh (fbl (fch ua))) (fh (fbl (fch ub))) (fh (fbl (fch uc))))), .val (.int (fo3 (0 : Int32) (fh (fbl (fch ub))) (fh (fbl (fch uc))))), .unset] [(.int 0)]))
    exact J367 T345 _ X345 rfl N345 (0 : Int32) (by simp [fo3, hc373, hc374])
   ·refine GoW.st (fun _ => XS.ifNo X345.here hx rfl (hb hby at_146) rfl (XT.i0_eq_f hc374)) ?_
    refine GoW.st (fun _ => XS.iconst X345.here hx rfl (hb hby at_149)) ?_
    show GoW _ _ _ _ _ _ _ _ _ (T345.setTop (mkF m 150 #[.val (.long ua), .second, .val (.long ub), .second, .val (.long uc), .second, .val (.int tk), .val (.ref b1), .val (.int (fh (fch ua))), .val (.int (fh (fch ub))), .val (.int (fh (fch uc))), .val (.int 1), .val (.ref b245), .val (.int (fo3 (fh (fbl (fch ua))) (fh (fbl (fch ub))) (fh (fbl (fch uc))))), .val (.int (fo3 (0 : Int32) (fh (fbl (fch ub))) (fh (fbl (fch uc))))), .unset] [(.int 1)]))
    refine GoW.st (fun _ => XS.goto X345.here hx rfl (pc0 := 150) (pc' := 154) rfl (hb hby at_150) (by decide) (by decide)) ?_
    show GoW _ _ _ _ _ _ _ _ _ (T345.setTop (mkF m 154 #[.val (.long ua), .second, .val (.long ub), .second, .val (.long uc), .second, .val (.int tk), .val (.ref b1), .val (.int (fh (fch ua))), .val (.int (fh (fch ub))), .val (.int (fh (fch uc))), .val (.int 1), .val (.ref b245), .val (.int (fo3 (fh (fbl (fch ua))) (fh (fbl (fch ub))) (fh (fbl (fch uc))))), .val (.int (fo3 (0 : Int32) (fh (fbl (fch ub))) (fh (fbl (fch uc))))), .unset] [(.int 1)]))
    exact J367 T345 _ X345 rfl N345 (1 : Int32) (by simp [fo3, hc373, hc374])
  ·refine GoW.st (fun _ => XS.ifYes X345.here hx rfl (pc0 := 135) (pc' := 149) rfl (hb hby at_135) rfl (XT.i0_ne_t hc373) (by decide) (by decide)) ?_
   refine GoW.st (fun _ => XS.iconst X345.here hx rfl (hb hby at_149)) ?_
   show GoW _ _ _ _ _ _ _ _ _ (T345.setTop (mkF m 150 #[.val (.long ua), .second, .val (.long ub), .second, .val (.long uc), .second, .val (.int tk), .val (.ref b1), .val (.int (fh (fch ua))), .val (.int (fh (fch ub))), .val (.int (fh (fch uc))), .val (.int 1), .val (.ref b245), .val (.int (fo3 (fh (fbl (fch ua))) (fh (fbl (fch ub))) (fh (fbl (fch uc))))), .val (.int (fo3 (0 : Int32) (fh (fbl (fch ub))) (fh (fbl (fch uc))))), .unset] [(.int 1)]))
   refine GoW.st (fun _ => XS.goto X345.here hx rfl (pc0 := 150) (pc' := 154) rfl (hb hby at_150) (by decide) (by decide)) ?_
   show GoW _ _ _ _ _ _ _ _ _ (T345.setTop (mkF m 154 #[.val (.long ua), .second, .val (.long ub), .second, .val (.long uc), .second, .val (.int tk), .val (.ref b1), .val (.int (fh (fch ua))), .val (.int (fh (fch ub))), .val (.int (fh (fch uc))), .val (.int 1), .val (.ref b245), .val (.int (fo3 (fh (fbl (fch ua))) (fh (fbl (fch ub))) (fh (fbl (fch uc))))), .val (.int (fo3 (0 : Int32) (fh (fbl (fch ub))) (fh (fbl (fch uc))))), .unset] [(.int 1)]))
   exact J367 T345 _ X345 rfl N345 (1 : Int32) (by simp [fo3, hc373])
 ·rw [hi]
  show GoW _ _ _ _ _ _ _ _ _ (T120.setTop (mkF m 56 #[.val (.long ua), .second, .val (.long ub), .second, .val (.long uc), .second, .val (.int tk), .val (.ref b1), .val (.int (fh (fch ua))), .val (.int (fh (fch ub))), .val (.int (fh (fch uc))), .val (.int 2), .unset, .unset, .unset, .unset] []))
  obtain ⟨T375, h375, X375, e375, E375, A375, D375, -, st375⟩ := newO X120 hx hZ120 hown120 (wdx hw 68 rfl) (wdx hw 69 rfl) (wdx hw 70 rfl) rfl (g := (mkF m 56 #[.val (.long ua), .second, .val (.long ub), .second, .val (.long uc), .second, .val (.int tk), .val (.ref b1), .val (.int (fh (fch ua))), .val (.int (fh (fch ub))), .val (.int (fh (fch uc))), .val (.int 2), .unset, .unset, .unset, .unset] [])) rfl (hb hby at_56) (by decide) (by decide)
  obtain ⟨b375, g375⟩ : ∃ z, z = T120.heap.size := ⟨_, rfl⟩
  rw [← g375] at A375 D375 st375
  refine GoW.st st375 ?_
  have g_b375 : n0 ≤ b375 := Nat.le_trans (own_le O120) (Nat.le_of_eq g375.symm)
  have sf_b375 : Safe Z EL T120.vm T120.heap b375 := Safe.new (Nat.le_of_eq g375.symm)
  have ne376 : b1 ≠ b375 := Nat.ne_of_lt (Nat.lt_of_lt_of_le f122.lt (Nat.le_of_eq g375.symm))
  have ne377 : rr_4 ≠ b375 := Nat.ne_of_lt (Nat.lt_of_lt_of_le f123.lt (Nat.le_of_eq g375.symm))
  have ne378 : tb_4 ≠ b375 := Nat.ne_of_lt (Nat.lt_of_lt_of_le f126.lt (Nat.le_of_eq g375.symm))
  have ne379 : rr_22 ≠ b375 := Nat.ne_of_lt (Nat.lt_of_lt_of_le f127.lt (Nat.le_of_eq g375.symm))
  have ne380 : tb_22 ≠ b375 := Nat.ne_of_lt (Nat.lt_of_lt_of_le f130.lt (Nat.le_of_eq g375.symm))
  have ne381 : rr_50 ≠ b375 := Nat.ne_of_lt (Nat.lt_of_lt_of_le f131.lt (Nat.le_of_eq g375.symm))
  have ne382 : tb_50 ≠ b375 := Nat.ne_of_lt (Nat.lt_of_lt_of_le f134.lt (Nat.le_of_eq g375.symm))
  have f383 := Safe.ext E375 CH120.1 f121
  have f384 := f122.ext E375
  have f385 := f123.ext E375
  have f386 := f124.ext E375
  have f387 := f125.ext E375
  have f388 := f126.ext E375
  have f389 := f127.ext E375
  have f390 := f128.ext E375
  have f391 := f129.ext E375
  have f392 := f130.ext E375
  have f393 := f131.ext E375
  have f394 := f132.ext E375
  have f395 := f133.ext E375
  have f396 := f134.ext E375
  have f397 := f135.ext E375
  have f398 := Safe.ext E375 CH120.1 sf_b375
  have CH375 := CH120.trans (CHr.ext E375 CH120.1)
  have hk375 : Array.size T120.heap ≤ Array.size h375 := Nat.le_trans (Nat.le_refl _) E375.1
  have O375 := O120.ext E375
  have f399 : Fld Z h375 b375 "com/example/reportwire/reportwire/Arguments" "optionsGiven" "Ljava/util/Set;" .null := D375 (Or.inr (wdx hw 114 rfl)) (ty := (.object "java/util/Set")) (by decide)
  have f400 : Fld Z h375 b375 "com/example/reportwire/reportwire/Arguments" "args" "[Ljava/lang/String;" .null := D375 (Or.inr (wdx hw 125 rfl)) (ty := (.array (.object "java/lang/String"))) (by decide)
  have f401 : Fld Z h375 b375 "com/example/reportwire/reportwire/Arguments" "next" "I" (.int 0) := D375 (Or.inl (wdx hw 132 rfl)) (ty := .int) (by decide)
  show GoW _ _ _ _ _ _ _ _ _ (T375.setTop (mkF m 59 #[.val (.long ua), .second, .val (.long ub), .second, .val (.long uc), .second, .val (.int tk), .val (.ref b1), .val (.int (fh (fch ua))), .val (.int (fh (fch ub))), .val (.int (fh (fch uc))), .val (.int 2), .unset, .unset, .unset, .unset] [(.ref b375)]))
  refine GoW.st (fun _ => XS.dup X375.here hx rfl (hb hby at_59) rfl rfl) ?_
  refine GoW.st (fun _ => XS.aload X375.here hx rfl (hb hby at_60) rfl rfl) ?_
  show GoW _ _ _ _ _ _ _ _ _ (T375.setTop (mkF m 62 #[.val (.long ua), .second, .val (.long ub), .second, .val (.long uc), .second, .val (.int tk), .val (.ref b1), .val (.int (fh (fch ua))), .val (.int (fh (fch ub))), .val (.int (fh (fch uc))), .val (.int 2), .unset, .unset, .unset, .unset] [(.ref b1), (.ref b375), (.ref b375)]))
  obtain ⟨_, _, ⟨T402, L402, k402, n402⟩, -, X402, ⟨Lc402, hQ402, l402, y402, z402⟩, st402⟩ := X375.specialBack hx (y := mn11) rfl hown120 (mvT hZ120 (wdx hw 71 rfl)) (mvT hZ120 (wdx hw 72 rfl)) (mvT hZ120 (wdx hw 73 rfl)) (by decide) (backOf (W := 1) (rm14_3 l Z a0 hw [] b375 b1 k1 rr_4 rr_22 rr_50 h375 n0 O375 A375 f399 f400 f401 f384 f397 g_b375 (Ne.symm ne376)) hZ120 (wdx hw 73 rfl) (wdx hw 70 rfl) (by decide) (by decide)) (g := (mkF m 62 #[.val (.long ua), .second, .val (.long ub), .second, .val (.long uc), .second, .val (.int tk), .val (.ref b1), .val (.int (fh (fch ua))), .val (.int (fh (fch ub))), .val (.int (fh (fch uc))), .val (.int 2), .unset, .unset, .unset, .unset] [(.ref b1), (.ref b375), (.ref b375)])) rfl (by rw [hml]; rfl) (Steps.refl _) (a := b375) (argsL := [(.ref b1)]) (rest := [(.ref b375)]) (lenOf pd___Ljava_lang_String__V rfl) rfl (by show 2 * 0 + _ ≤ _; exact Nat.le_of_eq rfl) (hb hby at_62) (fun _ _ => ⟨rfl, e375, (by exact lee rfl), (by exact lee rfl)⟩)
  dsimp only [Pt.U, Pt.locs, Pt.cells, Pt.slots] at X402 l402 y402 z402 st402 hQ402
  subst l402 y402 z402
  obtain ⟨na_402, kn_402, rfl, Nq402, Kq402, f403, f404, f405, szn_402⟩ := hQ402
  have N402 := Fr.app N120 Nq402
  refine GoW.tr st402 ?_
  have f406 := Safe.keep Kq402 (allS f398 all0) CH375.1 f383
  have f407 := f384.keep Kq402
  have f408 := f385.keep Kq402
  have f409 := f386.keep Kq402 (ninS ne377 nin0)
  have f410 := f387.keep Kq402 (ninS ne377 nin0)
  have f411 := f388.keep Kq402 (ninS ne378 nin0)
  have f412 := f389.keep Kq402
  have f413 := f390.keep Kq402 (ninS ne379 nin0)
  have f414 := f391.keep Kq402 (ninS ne379 nin0)
  have f415 := f392.keep Kq402 (ninS ne380 nin0)
  have f416 := f393.keep Kq402
  have f417 := f394.keep Kq402 (ninS ne381 nin0)
  have f418 := f395.keep Kq402 (ninS ne381 nin0)
  have f419 := f396.keep Kq402 (ninS ne382 nin0)
  have f420 := f397.keep Kq402 (ninS ne376 nin0)
  have f421 := Safe.keep Kq402 (allS f398 all0) CH375.1 f398
  have f422 := A375.keep Kq402
  have CH402 := CH375.trans (CHr.keep Kq402 (allS f398 all0) CH375.1)
  have hk402 : Array.size T120.heap ≤ Array.size T402.heap := Nat.le_trans hk375 Kq402.1
  have O402 := O375.keep Kq402 (allS g_b375 all0)
  have g_na_402 : n0 ≤ na_402 := Nat.le_trans (own_le O375) szn_402
  have sf_na_402 : Safe Z EL T120.vm T402.heap na_402 := Safe.keep Kq402 (allS f398 all0) CH375.1 (Safe.new szn_402)
  have ne423 : b1 ≠ na_402 := Nat.ne_of_lt (Nat.lt_of_lt_of_le f384.lt szn_402)
  have ne424 : rr_4 ≠ na_402 := Nat.ne_of_lt (Nat.lt_of_lt_of_le f385.lt szn_402)
  have ne425 : tb_4 ≠ na_402 := Nat.ne_of_lt (Nat.lt_of_lt_of_le f388.lt szn_402)
  have ne426 : rr_22 ≠ na_402 := Nat.ne_of_lt (Nat.lt_of_lt_of_le f389.lt szn_402)
  have ne427 : tb_22 ≠ na_402 := Nat.ne_of_lt (Nat.lt_of_lt_of_le f392.lt szn_402)
  have ne428 : rr_50 ≠ na_402 := Nat.ne_of_lt (Nat.lt_of_lt_of_le f393.lt szn_402)
  have ne429 : tb_50 ≠ na_402 := Nat.ne_of_lt (Nat.lt_of_lt_of_le f396.lt szn_402)
  have ne430 : b375 ≠ na_402 := Nat.ne_of_lt (Nat.lt_of_lt_of_le A375.lt szn_402)
  show GoW _ _ _ _ _ _ _ _ _ (T402.setTop (mkF m 65 #[.val (.long ua), .second, .val (.long ub), .second, .val (.long uc), .second, .val (.int tk), .val (.ref b1), .val (.int (fh (fch ua))), .val (.int (fh (fch ub))), .val (.int (fh (fch uc))), .val (.int 2), .unset, .unset, .unset, .unset] [(.ref b375)]))
  refine GoW.st (fun _ => XS.astore X402.here hx rfl (hb hby at_65) rfl rfl (l' := #[.val (.long ua), .second, .val (.long ub), .second, .val (.long uc), .second, .val (.int tk), .val (.ref b1), .val (.int (fh (fch ua))), .val (.int (fh (fch ub))), .val (.int (fh (fch uc))), .val (.int 2), .val (.ref b375), .unset, .unset, .unset]) rfl) ?_
  refine GoW.st (fun _ => XS.aload X402.here hx rfl (hb hby at_67) rfl rfl) ?_
  show GoW _ _ _ _ _ _ _ _ _ (T402.setTop (mkF m 69 #[.val (.long ua), .second, .val (.long ub), .second, .val (.long uc), .second, .val (.int tk), .val (.ref b1), .val (.int (fh (fch ua))), .val (.int (fh (fch ub))), .val (.int (fh (fch uc))), .val (.int 2), .val (.ref b375), .unset, .unset, .unset] [(.ref b375)]))
  obtain ⟨cq431, kq431, q431a, q431b, q431c⟩ := isOf hZ120 rfl f422
  obtain ⟨_, _, ⟨T431, L431, k431, n431⟩, -, Xr431, hSr431, hgr431, ⟨Lc431, hQ431, l431, y431, z431, C431⟩, st431⟩ := X402.virtualBackS hx (y := mn0) (z := mn0) hown120 (mvT hZ120 (wdx hw 126 rfl)) (mvT hZ120 (wdx hw 127 rfl)) (notFace_of_selects (args := #[]) (mvT hZ120 (wdx hw 129 rfl))) (mvT hZ120 (wdx hw 129 rfl)) (mvT hZ120 (wdx hw 128 rfl)) (by decide) (own_back (W := 0) (rm20_0 l Z a0 hw [] b375 na_402 kn_402 cs rr_4 rr_22 rr_50 tb_4 kt_4 (fbl (fch ua)) tb_22 kt_22 (fbl (fch ub)) tb_50 kt_50 (fbl (fch uc)) T402.heap n0 O402 f403 f404 f405 f408 f410 f409 f411 f412 f414 f413 f415 f416 f418 f417 f419 S_cs q_cs (own_fl7 _) (own_fl7 _) (own_fl7 _)) hZ120 (wdx hw 130 rfl) (wdx hw 70 rfl) (by decide) (by decide) hEL CH402.1 all0) q431a q431c (g := (mkF m 69 #[.val (.long ua), .second, .val (.long ub), .second, .val (.long uc), .second, .val (.int tk), .val (.ref b1), .val (.int (fh (fch ua))), .val (.int (fh (fch ub))), .val (.int (fh (fch uc))), .val (.int 2), .val (.ref b375), .unset, .unset, .unset] [(.ref b375)])) rfl (by rw [hml]; rfl) (Steps.refl _) (argsL := []) (rest := []) (lenOf pd___Z rfl) rfl (by show 2 * 0 + _ ≤ _; exact Nat.le_of_eq rfl) (hb hby at_69) (fun _ _ => ⟨rfl, rfl, (by exact lee rfl), (by exact lee rfl)⟩)
  dsimp only [Pt.U, Pt.locs, Pt.cells, Pt.slots] at Xr431 hSr431 hgr431 l431 y431 z431 C431 st431 hQ431
  subst l431 y431 z431
  obtain ⟨X431, hS431, hZ431, hown431⟩ := rebS hS120 hk402 Xr431 hSr431 hgr431 hZ120 hown120
  obtain ⟨rfl, Nq431, Kq431⟩ := hQ431
  have N431 := Fr.app N402 Nq431
  refine GoW.tr st431 ?_
  have f432 : Safe Z EL T431.vm T431.heap b1 := C431.safe f407.lt f406
  have f433 := f407.keep Kq431
  have f434 := f408.keep Kq431
  have f435 := f409.keep Kq431 nin0
  have f436 := f410.keep Kq431 nin0
  have f437 := f411.keep Kq431 nin0
  have f438 := f412.keep Kq431
  have f439 := f413.keep Kq431 nin0
  have f440 := f414.keep Kq431 nin0
  have f441 := f415.keep Kq431 nin0
  have f442 := f416.keep Kq431
  have f443 := f417.keep Kq431 nin0
  have f444 := f418.keep Kq431 nin0
  have f445 := f419.keep Kq431 nin0
  have f446 := f420.keep Kq431 nin0
  have f447 : Safe Z EL T431.vm T431.heap b375 := C431.safe f422.lt f421
  have f448 := f422.keep Kq431
  have f449 := f403.keep Kq431 nin0
  have f450 := f404.keep Kq431 nin0
  have f451 := f405.keep Kq431 nin0
  have f452 : Safe Z EL T431.vm T431.heap na_402 := C431.safe f405.lt sf_na_402
  have CH431 := CH402.trans C431
  have O431 := O402.keep Kq431 all0
  show GoW _ _ _ _ _ _ _ _ _ (T431.setTop (mkF m 72 #[.val (.long ua), .second, .val (.long ub), .second, .val (.long uc), .second, .val (.int tk), .val (.ref b1), .val (.int (fh (fch ua))), .val (.int (fh (fch ub))), .val (.int (fh (fch uc))), .val (.int 2), .val (.ref b375), .unset, .unset, .unset] [(.int (fo3 (fh (fbl (fch ua))) (fh (fbl (fch ub))) (fh (fbl (fch uc)))))]))
  refine GoW.st (fun _ => XS.istore X431.here hx rfl (hb hby at_72) rfl (l' := #[.val (.long ua), .second, .val (.long ub), .second, .val (.long uc), .second, .val (.int tk), .val (.ref b1), .val (.int (fh (fch ua))), .val (.int (fh (fch ub))), .val (.int (fh (fch uc))), .val (.int 2), .val (.ref b375), .val (.int (fo3 (fh (fbl (fch ua))) (fh (fbl (fch ub))) (fh (fbl (fch uc))))), .unset, .unset]) rfl) ?_
  refine GoW.st (fun _ => XS.iload X431.here hx rfl (hb hby at_74) rfl) ?_
  show GoW _ _ _ _ _ _ _ _ _ (T431.setTop (mkF m 76 #[.val (.long ua), .second, .val (.long ub), .second, .val (.long uc), .second, .val (.int tk), .val (.ref b1), .val (.int (fh (fch ua))), .val (.int (fh (fch ub))), .val (.int (fh (fch uc))), .val (.int 2), .val (.ref b375), .val (.int (fo3 (fh (fbl (fch ua))) (fh (fbl (fch ub))) (fh (fbl (fch uc))))), .unset, .unset] [(.int 2)]))
  refine GoW.st (fun _ => XS.ifNo X431.here hx rfl (hb hby at_76) rfl (XT.i0_le_f (by decide))) ?_
  refine GoW.st (fun _ => XS.aload X431.here hx rfl (hb hby at_79) rfl rfl) ?_
  show GoW _ _ _ _ _ _ _ _ _ (T431.setTop (mkF m 81 #[.val (.long ua), .second, .val (.long ub), .second, .val (.long uc), .second, .val (.int tk), .val (.ref b1), .val (.int (fh (fch ua))), .val (.int (fh (fch ub))), .val (.int (fh (fch uc))), .val (.int 2), .val (.ref b375), .val (.int (fo3 (fh (fbl (fch ua))) (fh (fbl (fch ub))) (fh (fbl (fch uc))))), .unset, .unset] [(.ref b375)]))
  obtain ⟨cq453, kq453, q453a, q453b, q453c⟩ := isOf hZ431 rfl f448
  obtain ⟨_, _, ⟨T453, L453, k453, n453⟩, -, X453, ⟨Lc453, hQ453, l453, y453, z453⟩, st453⟩ := X431.virtualBack hx (y := mn2) (z := mn2) hown431 (mvT hZ431 (wdx hw 143 rfl)) (mvT hZ431 (wdx hw 144 rfl)) (notFace_of_selects (args := #[]) (mvT hZ431 (wdx hw 146 rfl))) (mvT hZ431 (wdx hw 146 rfl)) (mvT hZ431 (wdx hw 145 rfl)) (by decide) (backOf (W := 0) (rm23_3_0 l Z a0 hw [] b375 na_402 kn_402 rr_4 rr_22 rr_50 T431.heap n0 O431 f448 f449 f450 f451 g_b375 ne430) hZ431 (wdx hw 147 rfl) (wdx hw 70 rfl) (by decide) (by decide)) q453a q453c (g := (mkF m 81 #[.val (.long ua), .second, .val (.long ub), .second, .val (.long uc), .second, .val (.int tk), .val (.ref b1), .val (.int (fh (fch ua))), .val (.int (fh (fch ub))), .val (.int (fh (fch uc))), .val (.int 2), .val (.ref b375), .val (.int (fo3 (fh (fbl (fch ua))) (fh (fbl (fch ub))) (fh (fbl (fch uc))))), .unset, .unset] [(.ref b375)])) rfl (by rw [hml]; rfl) (Steps.refl _) (argsL := []) (rest := []) (lenOf pd___Ljava_lang_String_ rfl) rfl (by show 2 * 0 + _ ≤ _; exact Nat.le_of_eq rfl) (hb hby at_81) (fun _ _ => ⟨rfl, rfl, (by exact lee rfl), (by exact lee rfl)⟩)
  dsimp only [Pt.U, Pt.locs, Pt.cells, Pt.slots] at X453 l453 y453 z453 st453 hQ453
  subst l453 y453 z453
  obtain ⟨rfl, Nq453, Kq453, f454, f455⟩ := hQ453
  have N453 := Fr.app N431 Nq453
  refine GoW.tr st453 ?_
  have f456 := Safe.keep Kq453 (allS f447 all0) CH431.1 f432
  have f457 := f433.keep Kq453
  have f458 := f434.keep Kq453
  have f459 := f435.keep Kq453 (ninS ne377 nin0)
  have f460 := f436.keep Kq453 (ninS ne377 nin0)
  have f461 := f437.keep Kq453 (ninS ne378 nin0)
  have f462 := f438.keep Kq453
  have f463 := f439.keep Kq453 (ninS ne379 nin0)
  have f464 := f440.keep Kq453 (ninS ne379 nin0)
  have f465 := f441.keep Kq453 (ninS ne380 nin0)
  have f466 := f442.keep Kq453
  have f467 := f443.keep Kq453 (ninS ne381 nin0)
  have f468 := f444.keep Kq453 (ninS ne381 nin0)
  have f469 := f445.keep Kq453 (ninS ne382 nin0)
  have f470 := f446.keep Kq453 (ninS ne376 nin0)
  have f471 := Safe.keep Kq453 (allS f447 all0) CH431.1 f447
  have f472 := f448.keep Kq453
  have f473 := f451.keep Kq453 (ninS (Ne.symm ne430) nin0)
  have f474 := Safe.keep Kq453 (allS f447 all0) CH431.1 f452
  have CH453 := CH431.trans (CHr.keep Kq453 (allS f447 all0) CH431.1)
  have hk453 : Array.size T431.heap ≤ Array.size T453.heap := Nat.le_trans (Nat.le_refl _) Kq453.1
  have O453 := O431.keep Kq453 (allS g_b375 all0)
  show GoW _ _ _ _ _ _ _ _ _ (T453.setTop (mkF m 84 #[.val (.long ua), .second, .val (.long ub), .second, .val (.long uc), .second, .val (.int tk), .val (.ref b1), .val (.int (fh (fch ua))), .val (.int (fh (fch ub))), .val (.int (fh (fch uc))), .val (.int 2), .val (.ref b375), .val (.int (fo3 (fh (fbl (fch ua))) (fh (fbl (fch ub))) (fh (fbl (fch uc))))), .unset, .unset] [(.ref rr_4)]))
  refine GoW.st (fun _ => XS.pop X453.here hx rfl (hb hby at_84) rfl rfl) ?_
  refine GoW.st (fun _ => XS.iload X453.here hx rfl (hb hby at_85) rfl) ?_
  refine GoW.st (fun _ => XS.iconst X453.here hx rfl (hb hby at_87)) ?_
  show GoW _ _ _ _ _ _ _ _ _ (T453.setTop (mkF m 88 #[.val (.long ua), .second, .val (.long ub), .second, .val (.long uc), .second, .val (.int tk), .val (.ref b1), .val (.int (fh (fch ua))), .val (.int (fh (fch ub))), .val (.int (fh (fch uc))), .val (.int 2), .val (.ref b375), .val (.int (fo3 (fh (fbl (fch ua))) (fh (fbl (fch ub))) (fh (fbl (fch uc))))), .unset, .unset] [(.int 1), (.int 2)]))
  refine GoW.st (fun _ => XS.icmpNo X453.here hx rfl (hb hby at_88) rfl (XT.ii_le_f (by decide))) ?_
  refine GoW.st (fun _ => XS.aload X453.here hx rfl (hb hby at_91) rfl rfl) ?_
  show GoW _ _ _ _ _ _ _ _ _ (T453.setTop (mkF m 93 #[.val (.long ua), .second, .val (.long ub), .second, .val (.long uc), .second, .val (.int tk), .val (.ref b1), .val (.int (fh (fch ua))), .val (.int (fh (fch ub))), .val (.int (fh (fch uc))), .val (.int 2), .val (.ref b375), .val (.int (fo3 (fh (fbl (fch ua))) (fh (fbl (fch ub))) (fh (fbl (fch uc))))), .unset, .unset] [(.ref b375)]))
  obtain ⟨cq475, kq475, q475a, q475b, q475c⟩ := isOf hZ431 rfl f472
  obtain ⟨_, _, ⟨T475, L475, k475, n475⟩, -, X475, ⟨Lc475, hQ475, l475, y475, z475⟩, st475⟩ := X453.virtualBack hx (y := mn2) (z := mn2) hown431 (mvT hZ431 (wdx hw 143 rfl)) (mvT hZ431 (wdx hw 144 rfl)) (notFace_of_selects (args := #[]) (mvT hZ431 (wdx hw 146 rfl))) (mvT hZ431 (wdx hw 146 rfl)) (mvT hZ431 (wdx hw 145 rfl)) (by decide) (backOf (W := 0) (rm23_3_1 l Z a0 hw [] b375 na_402 kn_402 rr_4 rr_22 rr_50 T453.heap n0 O453 f472 f454 f455 f473 g_b375 ne430) hZ431 (wdx hw 147 rfl) (wdx hw 70 rfl) (by decide) (by decide)) q475a q475c (g := (mkF m 93 #[.val (.long ua), .second, .val (.long ub), .second, .val (.long uc), .second, .val (.int tk), .val (.ref b1), .val (.int (fh (fch ua))), .val (.int (fh (fch ub))), .val (.int (fh (fch uc))), .val (.int 2), .val (.ref b375), .val (.int (fo3 (fh (fbl (fch ua))) (fh (fbl (fch ub))) (fh (fbl (fch uc))))), .unset, .unset] [(.ref b375)])) rfl (by rw [hml]; rfl) (Steps.refl _) (argsL := []) (rest := []) (lenOf pd___Ljava_lang_String_ rfl) rfl (by show 2 * 0 + _ ≤ _; exact Nat.le_of_eq rfl) (hb hby at_93) (fun _ _ => ⟨rfl, rfl, (by exact lee rfl), (by exact lee rfl)⟩)
  dsimp only [Pt.U, Pt.locs, Pt.cells, Pt.slots] at X475 l475 y475 z475 st475 hQ475
  subst l475 y475 z475
  obtain ⟨rfl, Nq475, Kq475, f476, f477⟩ := hQ475
  have N475 := Fr.app N453 Nq475
  refine GoW.tr st475 ?_
  have f478 := Safe.keep Kq475 (allS f471 all0) CH453.1 f456
  have f479 := f457.keep Kq475
  have f480 := f458.keep Kq475
  have f481 := f459.keep Kq475 (ninS ne377 nin0)
  have f482 := f460.keep Kq475 (ninS ne377 nin0)
  have f483 := f461.keep Kq475 (ninS ne378 nin0)
  have f484 := f462.keep Kq475
  have f485 := f463.keep Kq475 (ninS ne379 nin0)
  have f486 := f464.keep Kq475 (ninS ne379 nin0)
  have f487 := f465.keep Kq475 (ninS ne380 nin0)
  have f488 := f466.keep Kq475
  have f489 := f467.keep Kq475 (ninS ne381 nin0)
  have f490 := f468.keep Kq475 (ninS ne381 nin0)
  have f491 := f469.keep Kq475 (ninS ne382 nin0)
  have f492 := f470.keep Kq475 (ninS ne376 nin0)
  have f493 := Safe.keep Kq475 (allS f471 all0) CH453.1 f471
  have f494 := f472.keep Kq475
  have f495 := f473.keep Kq475 (ninS (Ne.symm ne430) nin0)
  have f496 := Safe.keep Kq475 (allS f471 all0) CH453.1 f474
  have CH475 := CH453.trans (CHr.keep Kq475 (allS f471 all0) CH453.1)
  have hk475 : Array.size T431.heap ≤ Array.size T475.heap := Nat.le_trans hk453 Kq475.1
  have O475 := O453.keep Kq475 (allS g_b375 all0)
  show GoW _ _ _ _ _ _ _ _ _ (T475.setTop (mkF m 96 #[.val (.long ua), .second, .val (.long ub), .second, .val (.long uc), .second, .val (.int tk), .val (.ref b1), .val (.int (fh (fch ua))), .val (.int (fh (fch ub))), .val (.int (fh (fch uc))), .val (.int 2), .val (.ref b375), .val (.int (fo3 (fh (fbl (fch ua))) (fh (fbl (fch ub))) (fh (fbl (fch uc))))), .unset, .unset] [(.ref rr_22)]))
  refine GoW.st (fun _ => XS.pop X475.here hx rfl (hb hby at_96) rfl rfl) ?_
  refine GoW.st (fun _ => XS.iload X475.here hx rfl (hb hby at_97) rfl) ?_
  refine GoW.st (fun _ => XS.iconst X475.here hx rfl (hb hby at_99)) ?_
  show GoW _ _ _ _ _ _ _ _ _ (T475.setTop (mkF m 100 #[.val (.long ua), .second, .val (.long ub), .second, .val (.long uc), .second, .val (.int tk), .val (.ref b1), .val (.int (fh (fch ua))), .val (.int (fh (fch ub))), .val (.int (fh (fch uc))), .val (.int 2), .val (.ref b375), .val (.int (fo3 (fh (fbl (fch ua))) (fh (fbl (fch ub))) (fh (fbl (fch uc))))), .unset, .unset] [(.int 2), (.int 2)]))
  refine GoW.st (fun _ => XS.icmpYes X475.here hx rfl (pc0 := 100) (pc' := 109) rfl (hb hby at_100) rfl (XT.ii_le_t (by decide)) (by decide) (by decide)) ?_
  refine GoW.st (fun _ => XS.aload X475.here hx rfl (hb hby at_109) rfl rfl) ?_
  show GoW _ _ _ _ _ _ _ _ _ (T475.setTop (mkF m 111 #[.val (.long ua), .second, .val (.long ub), .second, .val (.long uc), .second, .val (.int tk), .val (.ref b1), .val (.int (fh (fch ua))), .val (.int (fh (fch ub))), .val (.int (fh (fch uc))), .val (.int 2), .val (.ref b375), .val (.int (fo3 (fh (fbl (fch ua))) (fh (fbl (fch ub))) (fh (fbl (fch uc))))), .unset, .unset] [(.ref b375)]))
  obtain ⟨cq497, kq497, q497a, q497b, q497c⟩ := isOf hZ431 rfl f494
  obtain ⟨_, _, ⟨T497, L497, k497, n497⟩, -, Xr497, hSr497, hgr497, ⟨Lc497, hQ497, l497, y497, z497, C497⟩, st497⟩ := X475.virtualBackS hx (y := mn0) (z := mn0) hown431 (mvT hZ431 (wdx hw 126 rfl)) (mvT hZ431 (wdx hw 127 rfl)) (notFace_of_selects (args := #[]) (mvT hZ431 (wdx hw 129 rfl))) (mvT hZ431 (wdx hw 129 rfl)) (mvT hZ431 (wdx hw 128 rfl)) (by decide) (own_back (W := 0) (rm20_2 l Z a0 hw [] b375 na_402 kn_402 cs rr_4 rr_22 rr_50 tb_4 kt_4 (fbl (fch ua)) tb_22 kt_22 (fbl (fch ub)) tb_50 kt_50 (fbl (fch uc)) T475.heap n0 O475 f476 f477 f495 f480 f482 f481 f483 f484 f486 f485 f487 f488 f490 f489 f491 S_cs q_cs (own_fl7 _) (own_fl7 _) (own_fl7 _)) hZ431 (wdx hw 130 rfl) (wdx hw 70 rfl) (by decide) (by decide) hEL CH475.1 all0) q497a q497c (g := (mkF m 111 #[.val (.long ua), .second, .val (.long ub), .second, .val (.long uc), .second, .val (.int tk), .val (.ref b1), .val (.int (fh (fch ua))), .val (.int (fh (fch ub))), .val (.int (fh (fch uc))), .val (.int 2), .val (.ref b375), .val (.int (fo3 (fh (fbl (fch ua))) (fh (fbl (fch ub))) (fh (fbl (fch uc))))), .unset, .unset] [(.ref b375)])) rfl (by rw [hml]; rfl) (Steps.refl _) (argsL := []) (rest := []) (lenOf pd___Z rfl) rfl (by show 2 * 0 + _ ≤ _; exact Nat.le_of_eq rfl) (hb hby at_111) (fun _ _ => ⟨rfl, rfl, (by exact lee rfl), (by exact lee rfl)⟩)
  dsimp only [Pt.U, Pt.locs, Pt.cells, Pt.slots] at Xr497 hSr497 hgr497 l497 y497 z497 C497 st497 hQ497
  subst l497 y497 z497
  obtain ⟨X497, hS497, hZ497, hown497⟩ := rebS hS431 hk475 Xr497 hSr497 hgr497 hZ431 hown431
  obtain ⟨rfl, Nq497, Kq497⟩ := hQ497
  have N497 := Fr.app N475 Nq497
  refine GoW.tr st497 ?_
  have f498 : Safe Z EL T497.vm T497.heap b1 := C497.safe f479.lt f478
  have f499 := f479.keep Kq497
  have f500 := f480.keep Kq497
  have f501 := f481.keep Kq497 nin0
  have f502 := f482.keep Kq497 nin0
  have f503 := f483.keep Kq497 nin0
  have f504 := f484.keep Kq497
  have f505 := f485.keep Kq497 nin0
  have f506 := f486.keep Kq497 nin0
  have f507 := f487.keep Kq497 nin0
  have f508 := f488.keep Kq497
  have f509 := f489.keep Kq497 nin0
  have f510 := f490.keep Kq497 nin0
  have f511 := f491.keep Kq497 nin0
  have f512 := f492.keep Kq497 nin0
  have f513 : Safe Z EL T497.vm T497.heap b375 := C497.safe f494.lt f493
  have f514 := f494.keep Kq497
  have f515 := f495.keep Kq497 nin0
  have f516 : Safe Z EL T497.vm T497.heap na_402 := C497.safe f495.lt f496
  have f517 := f476.keep Kq497 nin0
  have f518 := f477.keep Kq497 nin0
  have CH497 := CH475.trans C497
  have O497 := O475.keep Kq497 all0
  show GoW _ _ _ _ _ _ _ _ _ (T497.setTop (mkF m 114 #[.val (.long ua), .second, .val (.long ub), .second, .val (.long uc), .second, .val (.int tk), .val (.ref b1), .val (.int (fh (fch ua))), .val (.int (fh (fch ub))), .val (.int (fh (fch uc))), .val (.int 2), .val (.ref b375), .val (.int (fo3 (fh (fbl (fch ua))) (fh (fbl (fch ub))) (fh (fbl (fch uc))))), .unset, .unset] [(.int (fo3 (0 : Int32) (0 : Int32) (fh (fbl (fch uc)))))]))
  refine GoW.st (fun _ => XS.istore X497.here hx rfl (hb hby at_114) rfl (l' := #[.val (.long ua), .second, .val (.long ub), .second, .val (.long uc), .second, .val (.int tk), .val (.ref b1), .val (.int (fh (fch ua))), .val (.int (fh (fch ub))), .val (.int (fh (fch uc))), .val (.int 2), .val (.ref b375), .val (.int (fo3 (fh (fbl (fch ua))) (fh (fbl (fch ub))) (fh (fbl (fch uc))))), .val (.int (fo3 (0 : Int32) (0 : Int32) (fh (fbl (fch uc))))), .unset]) rfl) ?_
  show GoW _ _ _ _ _ _ _ _ _ (T497.setTop (mkF m 116 #[.val (.long ua), .second, .val (.long ub), .second, .val (.long uc), .second, .val (.int tk), .val (.ref b1), .val (.int (fh (fch ua))), .val (.int (fh (fch ub))), .val (.int (fh (fch uc))), .val (.int 2), .val (.ref b375), .val (.int (fo3 (fh (fbl (fch ua))) (fh (fbl (fch ub))) (fh (fbl (fch uc))))), .val (.int (fo3 (0 : Int32) (0 : Int32) (fh (fbl (fch uc))))), .unset] []))
  have J519 : ∀ (TJ519' : State) (lJ519' : List Loc) (XJ519' : Stand p l e room_1 (s.setVm T497.vm) m #[(.long ua), (.long ub), (.long uc), (.int tk)] below meth c TJ519' lJ519' 37 269) (eJ519' : TJ519'.heap = T497.heap) (NJ519' : Fr n0 lJ519') (xe : Int32) (r_xe : xe = (fo3 (0 : Int32) (0 : Int32) (fh (fch uc)))), GoW p e below s 48 3328 Z EL (Q0 Z ua ub uc tk cs vf h0 n0) (TJ519'.setTop (mkF m 154 #[.val (.long ua), .second, .val (.long ub), .second, .val (.long uc), .second, .val (.int tk), .val (.ref b1), .val (.int (fh (fch ua))), .val (.int (fh (fch ub))), .val (.int (fh (fch uc))), .val (.int 2), .val (.ref b375), .val (.int (fo3 (fh (fbl (fch ua))) (fh (fbl (fch ub))) (fh (fbl (fch uc))))), .val (.int (fo3 (0 : Int32) (0 : Int32) (fh (fbl (fch uc))))), .unset] [(.int xe)])) := by
   intro TJ519' lJ519' XJ519' eJ519' NJ519' xe r_xe
   show GoW _ _ _ _ _ _ _ _ _ (TJ519'.setTop (mkF m 154 #[.val (.long ua), .second, .val (.long ub), .second, .val (.long uc), .second, .val (.int tk), .val (.ref b1), .val (.int (fh (fch ua))), .val (.int (fh (fch ub))), .val (.int (fh (fch uc))), .val (.int 2), .val (.ref b375), .val (.int (fo3 (fh (fbl (fch ua))) (fh (fbl (fch ub))) (fh (fbl (fch uc))))), .val (.int (fo3 (0 : Int32) (0 : Int32) (fh (fbl (fch uc))))), .unset] [(.int xe)]))
   refine GoW.st (fun _ => XS.istore XJ519'.here hx rfl (hb hby at_154) rfl (l' := #[.val (.long ua), .second, .val (.long ub), .second, .val (.long uc), .second, .val (.int tk), .val (.ref b1), .val (.int (fh (fch ua))), .val (.int (fh (fch ub))), .val (.int (fh (fch uc))), .val (.int 2), .val (.ref b375), .val (.int (fo3 (fh (fbl (fch ua))) (fh (fbl (fch ub))) (fh (fbl (fch uc))))), .val (.int (fo3 (0 : Int32) (0 : Int32) (fh (fbl (fch uc))))), .val (.int xe)]) rfl) ?_
   refine GoW.st (fun _ => XS.iload XJ519'.here hx rfl (hb hby at_156) rfl) ?_
   show GoW _ _ _ _ _ _ _ _ _ (TJ519'.setTop (mkF m 158 #[.val (.long ua), .second, .val (.long ub), .second, .val (.long uc), .second, .val (.int tk), .val (.ref b1), .val (.int (fh (fch ua))), .val (.int (fh (fch ub))), .val (.int (fh (fch uc))), .val (.int 2), .val (.ref b375), .val (.int (fo3 (fh (fbl (fch ua))) (fh (fbl (fch ub))) (fh (fbl (fch uc))))), .val (.int (fo3 (0 : Int32) (0 : Int32) (fh (fbl (fch uc))))), .val (.int xe)] [(.int (fo3 (fh (fbl (fch ua))) (fh (fbl (fch ub))) (fh (fbl (fch uc)))))]))
   have J520 : ∀ (TJ520' : State) (lJ520' : List Loc) (XJ520' : Stand p l e room_1 (s.setVm T497.vm) m #[(.long ua), (.long ub), (.long uc), (.int tk)] below meth c TJ520' lJ520' 37 269) (eJ520' : TJ520'.heap = T497.heap) (NJ520' : Fr n0 lJ520') (xw : Int32) (r_xw : xw = (fo3 (fh (fch ua)) (fh (fch ub)) (fh (fch uc)))), GoW p e below s 48 3328 Z EL (Q0 Z ua ub uc tk cs vf h0 n0) (TJ520'.setTop (mkF m 178 #[.val (.long ua), .second, .val (.long ub), .second, .val (.long uc), .second, .val (.int tk), .val (.ref b1), .val (.int (fh (fch ua))), .val (.int (fh (fch ub))), .val (.int (fh (fch uc))), .val (.int 2), .val (.ref b375), .val (.int (fo3 (fh (fbl (fch ua))) (fh (fbl (fch ub))) (fh (fbl (fch uc))))), .val (.int (fo3 (0 : Int32) (0 : Int32) (fh (fbl (fch uc))))), .val (.int xe)] [(.int xw), (.int (fo3 (fh (fbl (fch ua))) (fh (fbl (fch ub))) (fh (fbl (fch uc)))))])) := by
    intro TJ520' lJ520' XJ520' eJ520' NJ520' xw r_xw
    show GoW _ _ _ _ _ _ _ _ _ (TJ520'.setTop (mkF m 178 #[.val (.long ua), .second, .val (.long ub), .second, .val (.long uc), .second, .val (.int tk), .val (.ref b1), .val (.int (fh (fch ua))), .val (.int (fh (fch ub))), .val (.int (fh (fch uc))), .val (.int 2), .val (.ref b375), .val (.int (fo3 (fh (fbl (fch ua))) (fh (fbl (fch ub))) (fh (fbl (fch uc))))), .val (.int (fo3 (0 : Int32) (0 : Int32) (fh (fbl (fch uc))))), .val (.int xe)] [(.int xw), (.int (fo3 (fh (fbl (fch ua))) (fh (fbl (fch ub))) (fh (fbl (fch uc)))))]))
    refine GoW.st (fun _ => XS.icmpNo XJ520'.here hx rfl (hb hby at_178) rfl (XT.ii_ne_f (by rw [r_xw, own_fh, own_fh, own_fh]))) ?_
    refine GoW.st (fun _ => XS.iload XJ520'.here hx rfl (hb hby at_181) rfl) ?_
    refine GoW.st (fun _ => XS.iload XJ520'.here hx rfl (hb hby at_183) rfl) ?_
    show GoW _ _ _ _ _ _ _ _ _ (TJ520'.setTop (mkF m 185 #[.val (.long ua), .second, .val (.long ub), .second, .val (.long uc), .second, .val (.int tk), .val (.ref b1), .val (.int (fh (fch ua))), .val (.int (fh (fch ub))), .val (.int (fh (fch uc))), .val (.int 2), .val (.ref b375), .val (.int (fo3 (fh (fbl (fch ua))) (fh (fbl (fch ub))) (fh (fbl (fch uc))))), .val (.int (fo3 (0 : Int32) (0 : Int32) (fh (fbl (fch uc))))), .val (.int xe)] [(.int xe), (.int (fo3 (0 : Int32) (0 : Int32) (fh (fbl (fch uc)))))]))
    refine GoW.st (fun _ => XS.icmpNo XJ520'.here hx rfl (hb hby at_185) rfl (XT.ii_ne_f (by rw [r_xe] <;> simp only [own_fh]))) ?_
    refine GoW.st (fun _ => XS.aload XJ520'.here hx rfl (hb hby at_188) rfl rfl) ?_
    show GoW _ _ _ _ _ _ _ _ _ (TJ520'.setTop (mkF m 190 #[.val (.long ua), .second, .val (.long ub), .second, .val (.long uc), .second, .val (.int tk), .val (.ref b1), .val (.int (fh (fch ua))), .val (.int (fh (fch ub))), .val (.int (fh (fch uc))), .val (.int 2), .val (.ref b375), .val (.int (fo3 (fh (fbl (fch ua))) (fh (fbl (fch ub))) (fh (fbl (fch uc))))), .val (.int (fo3 (0 : Int32) (0 : Int32) (fh (fbl (fch uc))))), .val (.int xe)] [(.ref b375)]))
    obtain ⟨cq521, kq521, q521a, q521b, q521c⟩ := isOf hZ497 eJ520' f514
    obtain ⟨_, _, ⟨T521, L521, k521, n521⟩, -, X521, ⟨Lc521, hQ521, l521, y521, z521⟩, st521⟩ := XJ520'.virtualBack hx (y := mn1) (z := mn1) hown497 (mvT hZ497 (wdx hw 158 rfl)) (mvT hZ497 (wdx hw 154 rfl)) (notFace_of_selects (args := #[]) (mvT hZ497 (wdx hw 156 rfl))) (mvT hZ497 (wdx hw 156 rfl)) (mvT hZ497 (wdx hw 155 rfl)) (by decide) (backOf (W := 0) (rm25_3_2 l Z a0 hw [] b375 na_402 kn_402 rr_4 rr_22 rr_50 T497.heap n0 O497 f517 f518 f515) hZ497 (wdx hw 157 rfl) (wdx hw 70 rfl) (by decide) (by decide)) q521a q521c (g := (mkF m 190 #[.val (.long ua), .second, .val (.long ub), .second, .val (.long uc), .second, .val (.int tk), .val (.ref b1), .val (.int (fh (fch ua))), .val (.int (fh (fch ub))), .val (.int (fh (fch uc))), .val (.int 2), .val (.ref b375), .val (.int (fo3 (fh (fbl (fch ua))) (fh (fbl (fch ub))) (fh (fbl (fch uc))))), .val (.int (fo3 (0 : Int32) (0 : Int32) (fh (fbl (fch uc))))), .val (.int xe)] [(.ref b375)])) rfl (by rw [hml]; rfl) (Steps.refl _) (argsL := []) (rest := []) (lenOf pd___Z rfl) rfl (by show 2 * 0 + _ ≤ _; exact Nat.le_of_eq rfl) (hb hby at_190) (fun _ _ => ⟨rfl, eJ520', (by exact lee rfl), (by exact lee rfl)⟩)
    dsimp only [Pt.U, Pt.locs, Pt.cells, Pt.slots] at X521 l521 y521 z521 st521 hQ521
    subst l521 y521 z521
    obtain ⟨rfl, Nq521, eq521⟩ := hQ521
    have N521 := Fr.app NJ520' Nq521
    refine GoW.tr st521 ?_
    show GoW _ _ _ _ _ _ _ _ _ (T521.setTop (mkF m 193 #[.val (.long ua), .second, .val (.long ub), .second, .val (.long uc), .second, .val (.int tk), .val (.ref b1), .val (.int (fh (fch ua))), .val (.int (fh (fch ub))), .val (.int (fh (fch uc))), .val (.int 2), .val (.ref b375), .val (.int (fo3 (fh (fbl (fch ua))) (fh (fbl (fch ub))) (fh (fbl (fch uc))))), .val (.int (fo3 (0 : Int32) (0 : Int32) (fh (fbl (fch uc))))), .val (.int xe)] [(.int 1)]))
    refine GoW.st (fun _ => XS.iload X521.here hx rfl (hb hby at_193) rfl) ?_
    refine GoW.st (fun _ => XS.iconst X521.here hx rfl (hb hby at_195)) ?_
    show GoW _ _ _ _ _ _ _ _ _ (T521.setTop (mkF m 196 #[.val (.long ua), .second, .val (.long ub), .second, .val (.long uc), .second, .val (.int tk), .val (.ref b1), .val (.int (fh (fch ua))), .val (.int (fh (fch ub))), .val (.int (fh (fch uc))), .val (.int 2), .val (.ref b375), .val (.int (fo3 (fh (fbl (fch ua))) (fh (fbl (fch ub))) (fh (fbl (fch uc))))), .val (.int (fo3 (0 : Int32) (0 : Int32) (fh (fbl (fch uc))))), .val (.int xe)] [(.int 3), (.int 2), (.int 1)]))
    refine GoW.st (fun _ => XS.icmpNo X521.here hx rfl (hb hby at_196) rfl (XT.ii_ge_f (by decide))) ?_
    refine GoW.st (fun _ => XS.iconst X521.here hx rfl (hb hby at_199)) ?_
    show GoW _ _ _ _ _ _ _ _ _ (T521.setTop (mkF m 200 #[.val (.long ua), .second, .val (.long ub), .second, .val (.long uc), .second, .val (.int tk), .val (.ref b1), .val (.int (fh (fch ua))), .val (.int (fh (fch ub))), .val (.int (fh (fch uc))), .val (.int 2), .val (.ref b375), .val (.int (fo3 (fh (fbl (fch ua))) (fh (fbl (fch ub))) (fh (fbl (fch uc))))), .val (.int (fo3 (0 : Int32) (0 : Int32) (fh (fbl (fch uc))))), .val (.int xe)] [(.int 1), (.int 1)]))
    refine GoW.st (fun _ => XS.goto X521.here hx rfl (pc0 := 200) (pc' := 204) rfl (hb hby at_200) (by decide) (by decide)) ?_
    show GoW _ _ _ _ _ _ _ _ _ (T521.setTop (mkF m 204 #[.val (.long ua), .second, .val (.long ub), .second, .val (.long uc), .second, .val (.int tk), .val (.ref b1), .val (.int (fh (fch ua))), .val (.int (fh (fch ub))), .val (.int (fh (fch uc))), .val (.int 2), .val (.ref b375), .val (.int (fo3 (fh (fbl (fch ua))) (fh (fbl (fch ub))) (fh (fbl (fch uc))))), .val (.int (fo3 (0 : Int32) (0 : Int32) (fh (fbl (fch uc))))), .val (.int xe)] [(.int 1), (.int 1)]))
    refine GoW.st (fun _ => XS.icmpNo X521.here hx rfl (hb hby at_204) rfl (XT.ii_ne_f (by decide))) ?_
    refine GoW.st (fun _ => XS.iconst X521.here hx rfl (hb hby at_207)) ?_
    show GoW _ _ _ _ _ _ _ _ _ (T521.setTop (mkF m 208 #[.val (.long ua), .second, .val (.long ub), .second, .val (.long uc), .second, .val (.int tk), .val (.ref b1), .val (.int (fh (fch ua))), .val (.int (fh (fch ub))), .val (.int (fh (fch uc))), .val (.int 2), .val (.ref b375), .val (.int (fo3 (fh (fbl (fch ua))) (fh (fbl (fch ub))) (fh (fbl (fch uc))))), .val (.int (fo3 (0 : Int32) (0 : Int32) (fh (fbl (fch uc))))), .val (.int xe)] [(.int 1)]))
    refine GoW.st (fun _ => XS.goto X521.here hx rfl (pc0 := 208) (pc' := 212) rfl (hb hby at_208) (by decide) (by decide)) ?_
    show GoW _ _ _ _ _ _ _ _ _ (T521.setTop (mkF m 212 #[.val (.long ua), .second, .val (.long ub), .second, .val (.long uc), .second, .val (.int tk), .val (.ref b1), .val (.int (fh (fch ua))), .val (.int (fh (fch ub))), .val (.int (fh (fch uc))), .val (.int 2), .val (.ref b375), .val (.int (fo3 (fh (fbl (fch ua))) (fh (fbl (fch ub))) (fh (fbl (fch uc))))), .val (.int (fo3 (0 : Int32) (0 : Int32) (fh (fbl (fch uc))))), .val (.int xe)] [(.int 1)]))
    refine GoW.retB X521 hx hlk hS497 (by rw [eq521]; exact (Nat.le_refl _)) hZ497 hEL CH497 (t := .boolean) Bd.returns (by simp) (hb hby at_212) (by decide) (by decide) eq521 ?_
    exact ⟨rfl, N521, trivial⟩
   refine GoW.st (fun _ => XS.iload XJ519'.here hx rfl (hb hby at_158) rfl) ?_
   show GoW _ _ _ _ _ _ _ _ _ (TJ519'.setTop (mkF m 160 #[.val (.long ua), .second, .val (.long ub), .second, .val (.long uc), .second, .val (.int tk), .val (.ref b1), .val (.int (fh (fch ua))), .val (.int (fh (fch ub))), .val (.int (fh (fch uc))), .val (.int 2), .val (.ref b375), .val (.int (fo3 (fh (fbl (fch ua))) (fh (fbl (fch ub))) (fh (fbl (fch uc))))), .val (.int (fo3 (0 : Int32) (0 : Int32) (fh (fbl (fch uc))))), .val (.int xe)] [(.int (fh (fch ua))), (.int (fo3 (fh (fbl (fch ua))) (fh (fbl (fch ub))) (fh (fbl (fch uc)))))]))
   by_cases hc522 : (fh (fch ua)) = (0 : Int32)
   ·refine GoW.st (fun _ => XS.ifNo XJ519'.here hx rfl (hb hby at_160) rfl (XT.i0_ne_f hc522)) ?_
    refine GoW.st (fun _ => XS.iload XJ519'.here hx rfl (hb hby at_163) rfl) ?_
    show GoW _ _ _ _ _ _ _ _ _ (TJ519'.setTop (mkF m 165 #[.val (.long ua), .second, .val (.long ub), .second, .val (.long uc), .second, .val (.int tk), .val (.ref b1), .val (.int (fh (fch ua))), .val (.int (fh (fch ub))), .val (.int (fh (fch uc))), .val (.int 2), .val (.ref b375), .val (.int (fo3 (fh (fbl (fch ua))) (fh (fbl (fch ub))) (fh (fbl (fch uc))))), .val (.int (fo3 (0 : Int32) (0 : Int32) (fh (fbl (fch uc))))), .val (.int xe)] [(.int (fh (fch ub))), (.int (fo3 (fh (fbl (fch ua))) (fh (fbl (fch ub))) (fh (fbl (fch uc)))))]))
    by_cases hc523 : (fh (fch ub)) = (0 : Int32)
    ·refine GoW.st (fun _ => XS.ifNo XJ519'.here hx rfl (hb hby at_165) rfl (XT.i0_ne_f hc523)) ?_
     refine GoW.st (fun _ => XS.iload XJ519'.here hx rfl (hb hby at_168) rfl) ?_
     show GoW _ _ _ _ _ _ _ _ _ (TJ519'.setTop (mkF m 170 #[.val (.long ua), .second, .val (.long ub), .second, .val (.long uc), .second, .val (.int tk), .val (.ref b1), .val (.int (fh (fch ua))), .val (.int (fh (fch ub))), .val (.int (fh (fch uc))), .val (.int 2), .val (.ref b375), .val (.int (fo3 (fh (fbl (fch ua))) (fh (fbl (fch ub))) (fh (fbl (fch uc))))), .val (.int (fo3 (0 : Int32) (0 : Int32) (fh (fbl (fch uc))))), .val (.int xe)] [(.int (fh (fch uc))), (.int (fo3 (fh (fbl (fch ua))) (fh (fbl (fch ub))) (fh (fbl (fch uc)))))]))
     by_cases hc524 : (fh (fch uc)) = (0 : Int32)
     ·refine GoW.st (fun _ => XS.ifYes XJ519'.here hx rfl (pc0 := 170) (pc' := 177) rfl (hb hby at_170) rfl (XT.i0_eq_t hc524) (by decide) (by decide)) ?_
      refine GoW.st (fun _ => XS.iconst XJ519'.here hx rfl (hb hby at_177)) ?_
      show GoW _ _ _ _ _ _ _ _ _ (TJ519'.setTop (mkF m 178 #[.val (.long ua), .second, .val (.long ub), .second, .val (.long uc), .second, .val (.int tk), .val (.ref b1), .val (.int (fh (fch ua))), .val (.int (fh (fch ub))), .val (.int (fh (fch uc))), .val (.int 2), .val (.ref b375), .val (.int (fo3 (fh (fbl (fch ua))) (fh (fbl (fch ub))) (fh (fbl (fch uc))))), .val (.int (fo3 (0 : Int32) (0 : Int32) (fh (fbl (fch uc))))), .val (.int xe)] [(.int 0), (.int (fo3 (fh (fbl (fch ua))) (fh (fbl (fch ub))) (fh (fbl (fch uc)))))]))
      exact J520 TJ519' _ XJ519' eJ519' NJ519' (0 : Int32) (by simp [fo3, hc522, hc523, hc524])
     ·refine GoW.st (fun _ => XS.ifNo XJ519'.here hx rfl (hb hby at_170) rfl (XT.i0_eq_f hc524)) ?_
      refine GoW.st (fun _ => XS.iconst XJ519'.here hx rfl (hb hby at_173)) ?_
      show GoW _ _ _ _ _ _ _ _ _ (TJ519'.setTop (mkF m 174 #[.val (.long ua), .second, .val (.long ub), .second, .val (.long uc), .second, .val (.int tk), .val (.ref b1), .val (.int (fh (fch ua))), .val (.int (fh (fch ub))), .val (.int (fh (fch uc))), .val (.int 2), .val (.ref b375), .val (.int (fo3 (fh (fbl (fch ua))) (fh (fbl (fch ub))) (fh (fbl (fch uc))))), .val (.int (fo3 (0 : Int32) (0 : Int32) (fh (fbl (fch uc))))), .val (.int xe)] [(.int 1), (.int (fo3 (fh (fbl (fch ua))) (fh (fbl (fch ub))) (fh (fbl (fch uc)))))]))
      refine GoW.st (fun _ => XS.goto XJ519'.here hx rfl (pc0 := 174) (pc' := 178) rfl (hb hby at_174) (by decide) (by decide)) ?_
      show GoW _ _ _ _ _ _ _ _ _ (TJ519'.setTop (mkF m 178 #[.val (.long ua), .second, .val (.long ub), .second, .val (.long uc), .second, .val (.int tk), .val (.ref b1), .val (.int (fh (fch ua))), .val (.int (fh (fch ub))), .val (.int (fh (fch uc))), .val (.int 2), .val (.ref b375), .val (.int (fo3 (fh (fbl (fch ua))) (fh (fbl (fch ub))) (fh (fbl (fch uc))))), .val (.int (fo3 (0 : Int32) (0 : Int32) (fh (fbl (fch uc))))), .val (.int xe)] [(.int 1), (.int (fo3 (fh (fbl (fch ua))) (fh (fbl (fch ub))) (fh (fbl (fch uc)))))]))
      exact J520 TJ519' _ XJ519' eJ519' NJ519' (1 : Int32) (by simp [fo3, hc522, hc523, hc524])
    ·refine GoW.st (fun _ => XS.ifYes XJ519'.here hx rfl (pc0 := 165) (pc' := 173) rfl (hb hby at_165) rfl (XT.i0_ne_t hc523) (by decide) (by decide)) ?_
     refine GoW.st (fun _ => XS.iconst XJ519'.here hx rfl (hb hby at_173)) ?_
     show GoW _ _ _ _ _ _ _ _ _ (TJ519'.setTop (mkF m 174 #[.val (.long ua), .second, .val (.long ub), .second, .val (.long uc), .second, .val (.int tk), .val (.ref b1), .val (.int (fh (fch ua))), .val (.int (fh (fch ub))), .val (.int (fh (fch uc))), .val (.int 2), .val (.ref b375), .val (.int (fo3 (fh (fbl (fch ua))) (fh (fbl (fch ub))) (fh (fbl (fch uc))))), .val (.int (fo3 (0 : Int32) (0 : Int32) (fh (fbl (fch uc))))), .val (.int xe)] [(.int 1), (.int (fo3 (fh (fbl (fch ua))) (fh (fbl (fch ub))) (fh (fbl (fch uc)))))]))
     refine GoW.st (fun _ => XS.goto XJ519'.here hx rfl (pc0 := 174) (pc' := 178) rfl (hb hby at_174) (by decide) (by decide)) ?_
     show GoW _ _ _ _ _ _ _ _ _ (TJ519'.setTop (mkF m 178 #[.val (.long ua), .second, .val (.long ub), .second, .val (.long uc), .second, .val (.int tk), .val (.ref b1), .val (.int (fh (fch ua))), .val (.int (fh (fch ub))), .val (.int (fh (fch uc))), .val (.int 2), .val (.ref b375), .val (.int (fo3 (fh (fbl (fch ua))) (fh (fbl (fch ub))) (fh (fbl (fch uc))))), .val (.int (fo3 (0 : Int32) (0 : Int32) (fh (fbl (fch uc))))), .val (.int xe)] [(.int 1), (.int (fo3 (fh (fbl (fch ua))) (fh (fbl (fch ub))) (fh (fbl (fch uc)))))]))
     exact J520 TJ519' _ XJ519' eJ519' NJ519' (1 : Int32) (by simp [fo3, hc522, hc523])
   ·refine GoW.st (fun _ => XS.ifYes XJ519'.here hx rfl (pc0 := 160) (pc' := 173) rfl (hb hby at_160) rfl (XT.i0_ne_t hc522) (by decide) (by decide)) ?_
    refine GoW.st (fun _ => XS.iconst XJ519'.here hx rfl (hb hby at_173)) ?_
    show GoW _ _ _ _ _ _ _ _ _ (TJ519'.setTop (mkF m 174 #[.val (.long ua), .second, .val (.long ub), .second, .val (.long uc), .second, .val (.int tk), .val (.ref b1), .val (.int (fh (fch ua))), .val (.int (fh (fch ub))), .val (.int (fh (fch uc))), .val (.int 2), .val (.ref b375), .val (.int (fo3 (fh (fbl (fch ua))) (fh (fbl (fch ub))) (fh (fbl (fch uc))))), .val (.int (fo3 (0 : Int32) (0 : Int32) (fh (fbl (fch uc))))), .val (.int xe)] [(.int 1), (.int (fo3 (fh (fbl (fch ua))) (fh (fbl (fch ub))) (fh (fbl (fch uc)))))]))
    refine GoW.st (fun _ => XS.goto XJ519'.here hx rfl (pc0 := 174) (pc' := 178) rfl (hb hby at_174) (by decide) (by decide)) ?_
    show GoW _ _ _ _ _ _ _ _ _ (TJ519'.setTop (mkF m 178 #[.val (.long ua), .second, .val (.long ub), .second, .val (.long uc), .second, .val (.int tk), .val (.ref b1), .val (.int (fh (fch ua))), .val (.int (fh (fch ub))), .val (.int (fh (fch uc))), .val (.int 2), .val (.ref b375), .val (.int (fo3 (fh (fbl (fch ua))) (fh (fbl (fch ub))) (fh (fbl (fch uc))))), .val (.int (fo3 (0 : Int32) (0 : Int32) (fh (fbl (fch uc))))), .val (.int xe)] [(.int 1), (.int (fo3 (fh (fbl (fch ua))) (fh (fbl (fch ub))) (fh (fbl (fch uc)))))]))
    exact J520 TJ519' _ XJ519' eJ519' NJ519' (1 : Int32) (by simp [fo3, hc522])
  refine GoW.st (fun _ => XS.iload X497.here hx rfl (hb hby at_116) rfl) ?_
  refine GoW.st (fun _ => XS.iconst X497.here hx rfl (hb hby at_118)) ?_
  show GoW _ _ _ _ _ _ _ _ _ (T497.setTop (mkF m 119 #[.val (.long ua), .second, .val (.long ub), .second, .val (.long uc), .second, .val (.int tk), .val (.ref b1), .val (.int (fh (fch ua))), .val (.int (fh (fch ub))), .val (.int (fh (fch uc))), .val (.int 2), .val (.ref b375), .val (.int (fo3 (fh (fbl (fch ua))) (fh (fbl (fch ub))) (fh (fbl (fch uc))))), .val (.int (fo3 (0 : Int32) (0 : Int32) (fh (fbl (fch uc))))), .unset] [(.int 1), (.int 2)]))
  refine GoW.st (fun _ => XS.icmpYes X497.here hx rfl (pc0 := 119) (pc' := 127) rfl (hb hby at_119) rfl (XT.ii_ge_t (by decide)) (by decide) (by decide)) ?_
  refine GoW.st (fun _ => XS.iload X497.here hx rfl (hb hby at_127) rfl) ?_
  refine GoW.st (fun _ => XS.iconst X497.here hx rfl (hb hby at_129)) ?_
  show GoW _ _ _ _ _ _ _ _ _ (T497.setTop (mkF m 130 #[.val (.long ua), .second, .val (.long ub), .second, .val (.long uc), .second, .val (.int tk), .val (.ref b1), .val (.int (fh (fch ua))), .val (.int (fh (fch ub))), .val (.int (fh (fch uc))), .val (.int 2), .val (.ref b375), .val (.int (fo3 (fh (fbl (fch ua))) (fh (fbl (fch ub))) (fh (fbl (fch uc))))), .val (.int (fo3 (0 : Int32) (0 : Int32) (fh (fbl (fch uc))))), .unset] [(.int 2), (.int 2)]))
  refine GoW.st (fun _ => XS.icmpYes X497.here hx rfl (pc0 := 130) (pc' := 138) rfl (hb hby at_130) rfl (XT.ii_ge_t (by decide)) (by decide) (by decide)) ?_
  refine GoW.st (fun _ => XS.iload X497.here hx rfl (hb hby at_138) rfl) ?_
  refine GoW.st (fun _ => XS.iconst X497.here hx rfl (hb hby at_140)) ?_
  show GoW _ _ _ _ _ _ _ _ _ (T497.setTop (mkF m 141 #[.val (.long ua), .second, .val (.long ub), .second, .val (.long uc), .second, .val (.int tk), .val (.ref b1), .val (.int (fh (fch ua))), .val (.int (fh (fch ub))), .val (.int (fh (fch uc))), .val (.int 2), .val (.ref b375), .val (.int (fo3 (fh (fbl (fch ua))) (fh (fbl (fch ub))) (fh (fbl (fch uc))))), .val (.int (fo3 (0 : Int32) (0 : Int32) (fh (fbl (fch uc))))), .unset] [(.int 3), (.int 2)]))
  refine GoW.st (fun _ => XS.icmpNo X497.here hx rfl (hb hby at_141) rfl (XT.ii_ge_f (by decide))) ?_
  refine GoW.st (fun _ => XS.iload X497.here hx rfl (hb hby at_144) rfl) ?_
  show GoW _ _ _ _ _ _ _ _ _ (T497.setTop (mkF m 146 #[.val (.long ua), .second, .val (.long ub), .second, .val (.long uc), .second, .val (.int tk), .val (.ref b1), .val (.int (fh (fch ua))), .val (.int (fh (fch ub))), .val (.int (fh (fch uc))), .val (.int 2), .val (.ref b375), .val (.int (fo3 (fh (fbl (fch ua))) (fh (fbl (fch ub))) (fh (fbl (fch uc))))), .val (.int (fo3 (0 : Int32) (0 : Int32) (fh (fbl (fch uc))))), .unset] [(.int (fh (fch uc)))]))
  by_cases hc525 : (fh (fch uc)) = (0 : Int32)
  ·refine GoW.st (fun _ => XS.ifYes X497.here hx rfl (pc0 := 146) (pc' := 153) rfl (hb hby at_146) rfl (XT.i0_eq_t hc525) (by decide) (by decide)) ?_
   refine GoW.st (fun _ => XS.iconst X497.here hx rfl (hb hby at_153)) ?_
   show GoW _ _ _ _ _ _ _ _ _ (T497.setTop (mkF m 154 #[.val (.long ua), .second, .val (.long ub), .second, .val (.long uc), .second, .val (.int tk), .val (.ref b1), .val (.int (fh (fch ua))), .val (.int (fh (fch ub))), .val (.int (fh (fch uc))), .val (.int 2), .val (.ref b375), .val (.int (fo3 (fh (fbl (fch ua))) (fh (fbl (fch ub))) (fh (fbl (fch uc))))), .val (.int (fo3 (0 : Int32) (0 : Int32) (fh (fbl (fch uc))))), .unset] [(.int 0)]))
   exact J519 T497 _ X497 rfl N497 (0 : Int32) (by simp [fo3, hc525])
  ·refine GoW.st (fun _ => XS.ifNo X497.here hx rfl (hb hby at_146) rfl (XT.i0_eq_f hc525)) ?_
   refine GoW.st (fun _ => XS.iconst X497.here hx rfl (hb hby at_149)) ?_
   show GoW _ _ _ _ _ _ _ _ _ (T497.setTop (mkF m 150 #[.val (.long ua), .second, .val (.long ub), .second, .val (.long uc), .second, .val (.int tk), .val (.ref b1), .val (.int (fh (fch ua))), .val (.int (fh (fch ub))), .val (.int (fh (fch uc))), .val (.int 2), .val (.ref b375), .val (.int (fo3 (fh (fbl (fch ua))) (fh (fbl (fch ub))) (fh (fbl (fch uc))))), .val (.int (fo3 (0 : Int32) (0 : Int32) (fh (fbl (fch uc))))), .unset] [(.int 1)]))
   refine GoW.st (fun _ => XS.goto X497.here hx rfl (pc0 := 150) (pc' := 154) rfl (hb hby at_150) (by decide) (by decide)) ?_
   show GoW _ _ _ _ _ _ _ _ _ (T497.setTop (mkF m 154 #[.val (.long ua), .second, .val (.long ub), .second, .val (.long uc), .second, .val (.int tk), .val (.ref b1), .val (.int (fh (fch ua))), .val (.int (fh (fch ub))), .val (.int (fh (fch uc))), .val (.int 2), .val (.ref b375), .val (.int (fo3 (fh (fbl (fch ua))) (fh (fbl (fch ub))) (fh (fbl (fch uc))))), .val (.int (fo3 (0 : Int32) (0 : Int32) (fh (fbl (fch uc))))), .unset] [(.int 1)]))
   exact J519 T497 _ X497 rfl N497 (1 : Int32) (by simp [fo3, hc525])
 ·rw [hi]
  show GoW _ _ _ _ _ _ _ _ _ (T120.setTop (mkF m 56 #[.val (.long ua), .second, .val (.long ub), .second, .val (.long uc), .second, .val (.int tk), .val (.ref b1), .val (.int (fh (fch ua))), .val (.int (fh (fch ub))), .val (.int (fh (fch uc))), .val (.int 3), .unset, .unset, .unset, .unset] []))
  obtain ⟨T526, h526, X526, e526, E526, A526, D526, -, st526⟩ := newO X120 hx hZ120 hown120 (wdx hw 68 rfl) (wdx hw 69 rfl) (wdx hw 70 rfl) rfl (g := (mkF m 56 #[.val (.long ua), .second, .val (.long ub), .second, .val (.long uc), .second, .val (.int tk), .val (.ref b1), .val (.int (fh (fch ua))), .val (.int (fh (fch ub))), .val (.int (fh (fch uc))), .val (.int 3), .unset, .unset, .unset, .unset] [])) rfl (hb hby at_56) (by decide) (by decide)
  obtain ⟨b526, g526⟩ : ∃ z, z = T120.heap.size := ⟨_, rfl⟩
  rw [← g526] at A526 D526 st526
  refine GoW.st st526 ?_
  have g_b526 : n0 ≤ b526 := Nat.le_trans (own_le O120) (Nat.le_of_eq g526.symm)
  have sf_b526 : Safe Z EL T120.vm T120.heap b526 := Safe.new (Nat.le_of_eq g526.symm)
  have ne527 : b1 ≠ b526 := Nat.ne_of_lt (Nat.lt_of_lt_of_le f122.lt (Nat.le_of_eq g526.symm))
  have ne528 : rr_4 ≠ b526 := Nat.ne_of_lt (Nat.lt_of_lt_of_le f123.lt (Nat.le_of_eq g526.symm))
  have ne529 : tb_4 ≠ b526 := Nat.ne_of_lt (Nat.lt_of_lt_of_le f126.lt (Nat.le_of_eq g526.symm))
  have ne530 : rr_22 ≠ b526 := Nat.ne_of_lt (Nat.lt_of_lt_of_le f127.lt (Nat.le_of_eq g526.symm))
  have ne531 : tb_22 ≠ b526 := Nat.ne_of_lt (Nat.lt_of_lt_of_le f130.lt (Nat.le_of_eq g526.symm))
  have ne532 : rr_50 ≠ b526 := Nat.ne_of_lt (Nat.lt_of_lt_of_le f131.lt (Nat.le_of_eq g526.symm))
  have ne533 : tb_50 ≠ b526 := Nat.ne_of_lt (Nat.lt_of_lt_of_le f134.lt (Nat.le_of_eq g526.symm))
  have f534 := Safe.ext E526 CH120.1 f121
  have f535 := f122.ext E526
  have f536 := f123.ext E526
  have f537 := f124.ext E526
  have f538 := f125.ext E526
  have f539 := f126.ext E526
  have f540 := f127.ext E526
  have f541 := f128.ext E526
  have f542 := f129.ext E526
  have f543 := f130.ext E526
  have f544 := f131.ext E526
  have f545 := f132.ext E526
  have f546 := f133.ext E526
  have f547 := f134.ext E526
  have f548 := f135.ext E526
  have f549 := Safe.ext E526 CH120.1 sf_b526
  have CH526 := CH120.trans (CHr.ext E526 CH120.1)
  have hk526 : Array.size T120.heap ≤ Array.size h526 := Nat.le_trans (Nat.le_refl _) E526.1
  have O526 := O120.ext E526
  have f550 : Fld Z h526 b526 "com/example/reportwire/reportwire/Arguments" "optionsGiven" "Ljava/util/Set;" .null := D526 (Or.inr (wdx hw 114 rfl)) (ty := (.object "java/util/Set")) (by decide)
  have f551 : Fld Z h526 b526 "com/example/reportwire/reportwire/Arguments" "args" "[Ljava/lang/String;" .null := D526 (Or.inr (wdx hw 125 rfl)) (ty := (.array (.object "java/lang/String"))) (by decide)
  have f552 : Fld Z h526 b526 "com/example/reportwire/reportwire/Arguments" "next" "I" (.int 0) := D526 (Or.inl (wdx hw 132 rfl)) (ty := .int) (by decide)
  show GoW _ _ _ _ _ _ _ _ _ (T526.setTop (mkF m 59 #[.val (.long ua), .second, .val (.long ub), .second, .val (.long uc), .second, .val (.int tk), .val (.ref b1), .val (.int (fh (fch ua))), .val (.int (fh (fch ub))), .val (.int (fh (fch uc))), .val (.int 3), .unset, .unset, .unset, .unset] [(.ref b526)]))
  refine GoW.st (fun _ => XS.dup X526.here hx rfl (hb hby at_59) rfl rfl) ?_
  refine GoW.st (fun _ => XS.aload X526.here hx rfl (hb hby at_60) rfl rfl) ?_
  show GoW _ _ _ _ _ _ _ _ _ (T526.setTop (mkF m 62 #[.val (.long ua), .second, .val (.long ub), .second, .val (.long uc), .second, .val (.int tk), .val (.ref b1), .val (.int (fh (fch ua))), .val (.int (fh (fch ub))), .val (.int (fh (fch uc))), .val (.int 3), .unset, .unset, .unset, .unset] [(.ref b1), (.ref b526), (.ref b526)]))
  obtain ⟨_, _, ⟨T553, L553, k553, n553⟩, -, X553, ⟨Lc553, hQ553, l553, y553, z553⟩, st553⟩ := X526.specialBack hx (y := mn11) rfl hown120 (mvT hZ120 (wdx hw 71 rfl)) (mvT hZ120 (wdx hw 72 rfl)) (mvT hZ120 (wdx hw 73 rfl)) (by decide) (backOf (W := 1) (rm14_3 l Z a0 hw [] b526 b1 k1 rr_4 rr_22 rr_50 h526 n0 O526 A526 f550 f551 f552 f535 f548 g_b526 (Ne.symm ne527)) hZ120 (wdx hw 73 rfl) (wdx hw 70 rfl) (by decide) (by decide)) (g := (mkF m 62 #[.val (.long ua), .second, .val (.long ub), .second, .val (.long uc), .second, .val (.int tk), .val (.ref b1), .val (.int (fh (fch ua))), .val (.int (fh (fch ub))), .val (.int (fh (fch uc))), .val (.int 3), .unset, .unset, .unset, .unset] [(.ref b1), (.ref b526), (.ref b526)])) rfl (by rw [hml]; rfl) (Steps.refl _) (a := b526) (argsL := [(.ref b1)]) (rest := [(.ref b526)]) (lenOf pd___Ljava_lang_String__V rfl) rfl (by show 2 * 0 + _ ≤ _; exact Nat.le_of_eq rfl) (hb hby at_62) (fun _ _ => ⟨rfl, e526, (by exact lee rfl), (by exact lee rfl)⟩)
  dsimp only [Pt.U, Pt.locs, Pt.cells, Pt.slots] at X553 l553 y553 z553 st553 hQ553
  subst l553 y553 z553
  obtain ⟨na_553, kn_553, rfl, Nq553, Kq553, f554, f555, f556, szn_553⟩ := hQ553
  have N553 := Fr.app N120 Nq553
  refine GoW.tr st553 ?_
  have f557 := Safe.keep Kq553 (allS f549 all0) CH526.1 f534
  have f558 := f535.keep Kq553
  have f559 := f536.keep Kq553
  have f560 := f537.keep Kq553 (ninS ne528 nin0)
  have f561 := f538.keep Kq553 (ninS ne528 nin0)
  have f562 := f539.keep Kq553 (ninS ne529 nin0)
  have f563 := f540.keep Kq553
  have f564 := f541.keep Kq553 (ninS ne530 nin0)
  have f565 := f542.keep Kq553 (ninS ne530 nin0)
  have f566 := f543.keep Kq553 (ninS ne531 nin0)
  have f567 := f544.keep Kq553
  have f568 := f545.keep Kq553 (ninS ne532 nin0)
  have f569 := f546.keep Kq553 (ninS ne532 nin0)
  have f570 := f547.keep Kq553 (ninS ne533 nin0)
  have f571 := f548.keep Kq553 (ninS ne527 nin0)
  have f572 := Safe.keep Kq553 (allS f549 all0) CH526.1 f549
  have f573 := A526.keep Kq553
  have CH553 := CH526.trans (CHr.keep Kq553 (allS f549 all0) CH526.1)
  have hk553 : Array.size T120.heap ≤ Array.size T553.heap := Nat.le_trans hk526 Kq553.1
  have O553 := O526.keep Kq553 (allS g_b526 all0)
  have g_na_553 : n0 ≤ na_553 := Nat.le_trans (own_le O526) szn_553
  have sf_na_553 : Safe Z EL T120.vm T553.heap na_553 := Safe.keep Kq553 (allS f549 all0) CH526.1 (Safe.new szn_553)
  have ne574 : b1 ≠ na_553 := Nat.ne_of_lt (Nat.lt_of_lt_of_le f535.lt szn_553)
  have ne575 : rr_4 ≠ na_553 := Nat.ne_of_lt (Nat.lt_of_lt_of_le f536.lt szn_553)
  have ne576 : tb_4 ≠ na_553 := Nat.ne_of_lt (Nat.lt_of_lt_of_le f539.lt szn_553)
  have ne577 : rr_22 ≠ na_553 := Nat.ne_of_lt (Nat.lt_of_lt_of_le f540.lt szn_553)
  have ne578 : tb_22 ≠ na_553 := Nat.ne_of_lt (Nat.lt_of_lt_of_le f543.lt szn_553)
  have ne579 : rr_50 ≠ na_553 := Nat.ne_of_lt (Nat.lt_of_lt_of_le f544.lt szn_553)
  have ne580 : tb_50 ≠ na_553 := Nat.ne_of_lt (Nat.lt_of_lt_of_le f547.lt szn_553)
  have ne581 : b526 ≠ na_553 := Nat.ne_of_lt (Nat.lt_of_lt_of_le A526.lt szn_553)
  show GoW _ _ _ _ _ _ _ _ _ (T553.setTop (mkF m 65 #[.val (.long ua), .second, .val (.long ub), .second, .val (.long uc), .second, .val (.int tk), .val (.ref b1), .val (.int (fh (fch ua))), .val (.int (fh (fch ub))), .val (.int (fh (fch uc))), .val (.int 3), .unset, .unset, .unset, .unset] [(.ref b526)]))
  refine GoW.st (fun _ => XS.astore X553.here hx rfl (hb hby at_65) rfl rfl (l' := #[.val (.long ua), .second, .val (.long ub), .second, .val (.long uc), .second, .val (.int tk), .val (.ref b1), .val (.int (fh (fch ua))), .val (.int (fh (fch ub))), .val (.int (fh (fch uc))), .val (.int 3), .val (.ref b526), .unset, .unset, .unset]) rfl) ?_
  refine GoW.st (fun _ => XS.aload X553.here hx rfl (hb hby at_67) rfl rfl) ?_
  show GoW _ _ _ _ _ _ _ _ _ (T553.setTop (mkF m 69 #[.val (.long ua), .second, .val (.long ub), .second, .val (.long uc), .second, .val (.int tk), .val (.ref b1), .val (.int (fh (fch ua))), .val (.int (fh (fch ub))), .val (.int (fh (fch uc))), .val (.int 3), .val (.ref b526), .unset, .unset, .unset] [(.ref b526)]))
  obtain ⟨cq582, kq582, q582a, q582b, q582c⟩ := isOf hZ120 rfl f573
  obtain ⟨_, _, ⟨T582, L582, k582, n582⟩, -, Xr582, hSr582, hgr582, ⟨Lc582, hQ582, l582, y582, z582, C582⟩, st582⟩ := X553.virtualBackS hx (y := mn0) (z := mn0) hown120 (mvT hZ120 (wdx hw 126 rfl)) (mvT hZ120 (wdx hw 127 rfl)) (notFace_of_selects (args := #[]) (mvT hZ120 (wdx hw 129 rfl))) (mvT hZ120 (wdx hw 129 rfl)) (mvT hZ120 (wdx hw 128 rfl)) (by decide) (own_back (W := 0) (rm20_0 l Z a0 hw [] b526 na_553 kn_553 cs rr_4 rr_22 rr_50 tb_4 kt_4 (fbl (fch ua)) tb_22 kt_22 (fbl (fch ub)) tb_50 kt_50 (fbl (fch uc)) T553.heap n0 O553 f554 f555 f556 f559 f561 f560 f562 f563 f565 f564 f566 f567 f569 f568 f570 S_cs q_cs (own_fl7 _) (own_fl7 _) (own_fl7 _)) hZ120 (wdx hw 130 rfl) (wdx hw 70 rfl) (by decide) (by decide) hEL CH553.1 all0) q582a q582c (g := (mkF m 69 #[.val (.long ua), .second, .val (.long ub), .second, .val (.long uc), .second, .val (.int tk), .val (.ref b1), .val (.int (fh (fch ua))), .val (.int (fh (fch ub))), .val (.int (fh (fch uc))), .val (.int 3), .val (.ref b526), .unset, .unset, .unset] [(.ref b526)])) rfl (by rw [hml]; rfl) (Steps.refl _) (argsL := []) (rest := []) (lenOf pd___Z rfl) rfl (by show 2 * 0 + _ ≤ _; exact Nat.le_of_eq rfl) (hb hby at_69) (fun _ _ => ⟨rfl, rfl, (by exact lee rfl), (by exact lee rfl)⟩)
  dsimp only [Pt.U, Pt.locs, Pt.cells, Pt.slots] at Xr582 hSr582 hgr582 l582 y582 z582 C582 st582 hQ582
  subst l582 y582 z582
  obtain ⟨X582, hS582, hZ582, hown582⟩ := rebS hS120 hk553 Xr582 hSr582 hgr582 hZ120 hown120
  obtain ⟨rfl, Nq582, Kq582⟩ := hQ582
  have N582 := Fr.app N553 Nq582
  refine GoW.tr st582 ?_
  have f583 : Safe Z EL T582.vm T582.heap b1 := C582.safe f558.lt f557
  have f584 := f558.keep Kq582
  have f585 := f559.keep Kq582
  have f586 := f560.keep Kq582 nin0
  have f587 := f561.keep Kq582 nin0
  have f588 := f562.keep Kq582 nin0
  have f589 := f563.keep Kq582
  have f590 := f564.keep Kq582 nin0
  have f591 := f565.keep Kq582 nin0
  have f592 := f566.keep Kq582 nin0
  have f593 := f567.keep Kq582
  have f594 := f568.keep Kq582 nin0
  have f595 := f569.keep Kq582 nin0
  have f596 := f570.keep Kq582 nin0
  have f597 := f571.keep Kq582 nin0
  have f598 : Safe Z EL T582.vm T582.heap b526 := C582.safe f573.lt f572
  have f599 := f573.keep Kq582
  have f600 := f554.keep Kq582 nin0
  have f601 := f555.keep Kq582 nin0
  have f602 := f556.keep Kq582 nin0
  have f603 : Safe Z EL T582.vm T582.heap na_553 := C582.safe f556.lt sf_na_553
  have CH582 := CH553.trans C582
  have O582 := O553.keep Kq582 all0
  show GoW _ _ _ _ _ _ _ _ _ (T582.setTop (mkF m 72 #[.val (.long ua), .second, .val (.long ub), .second, .val (.long uc), .second, .val (.int tk), .val (.ref b1), .val (.int (fh (fch ua))), .val (.int (fh (fch ub))), .val (.int (fh (fch uc))), .val (.int 3), .val (.ref b526), .unset, .unset, .unset] [(.int (fo3 (fh (fbl (fch ua))) (fh (fbl (fch ub))) (fh (fbl (fch uc)))))]))
  refine GoW.st (fun _ => XS.istore X582.here hx rfl (hb hby at_72) rfl (l' := #[.val (.long ua), .second, .val (.long ub), .second, .val (.long uc), .second, .val (.int tk), .val (.ref b1), .val (.int (fh (fch ua))), .val (.int (fh (fch ub))), .val (.int (fh (fch uc))), .val (.int 3), .val (.ref b526), .val (.int (fo3 (fh (fbl (fch ua))) (fh (fbl (fch ub))) (fh (fbl (fch uc))))), .unset, .unset]) rfl) ?_
  refine GoW.st (fun _ => XS.iload X582.here hx rfl (hb hby at_74) rfl) ?_
  show GoW _ _ _ _ _ _ _ _ _ (T582.setTop (mkF m 76 #[.val (.long ua), .second, .val (.long ub), .second, .val (.long uc), .second, .val (.int tk), .val (.ref b1), .val (.int (fh (fch ua))), .val (.int (fh (fch ub))), .val (.int (fh (fch uc))), .val (.int 3), .val (.ref b526), .val (.int (fo3 (fh (fbl (fch ua))) (fh (fbl (fch ub))) (fh (fbl (fch uc))))), .unset, .unset] [(.int 3)]))
  refine GoW.st (fun _ => XS.ifNo X582.here hx rfl (hb hby at_76) rfl (XT.i0_le_f (by decide))) ?_
  refine GoW.st (fun _ => XS.aload X582.here hx rfl (hb hby at_79) rfl rfl) ?_
  show GoW _ _ _ _ _ _ _ _ _ (T582.setTop (mkF m 81 #[.val (.long ua), .second, .val (.long ub), .second, .val (.long uc), .second, .val (.int tk), .val (.ref b1), .val (.int (fh (fch ua))), .val (.int (fh (fch ub))), .val (.int (fh (fch uc))), .val (.int 3), .val (.ref b526), .val (.int (fo3 (fh (fbl (fch ua))) (fh (fbl (fch ub))) (fh (fbl (fch uc))))), .unset, .unset] [(.ref b526)]))
  obtain ⟨cq604, kq604, q604a, q604b, q604c⟩ := isOf hZ582 rfl f599
  obtain ⟨_, _, ⟨T604, L604, k604, n604⟩, -, X604, ⟨Lc604, hQ604, l604, y604, z604⟩, st604⟩ := X582.virtualBack hx (y := mn2) (z := mn2) hown582 (mvT hZ582 (wdx hw 143 rfl)) (mvT hZ582 (wdx hw 144 rfl)) (notFace_of_selects (args := #[]) (mvT hZ582 (wdx hw 146 rfl))) (mvT hZ582 (wdx hw 146 rfl)) (mvT hZ582 (wdx hw 145 rfl)) (by decide) (backOf (W := 0) (rm23_3_0 l Z a0 hw [] b526 na_553 kn_553 rr_4 rr_22 rr_50 T582.heap n0 O582 f599 f600 f601 f602 g_b526 ne581) hZ582 (wdx hw 147 rfl) (wdx hw 70 rfl) (by decide) (by decide)) q604a q604c (g := (mkF m 81 #[.val (.long ua), .second, .val (.long ub), .second, .val (.long uc), .second, .val (.int tk), .val (.ref b1), .val (.int (fh (fch ua))), .val (.int (fh (fch ub))), .val (.int (fh (fch uc))), .val (.int 3), .val (.ref b526), .val (.int (fo3 (fh (fbl (fch ua))) (fh (fbl (fch ub))) (fh (fbl (fch uc))))), .unset, .unset] [(.ref b526)])) rfl (by rw [hml]; rfl) (Steps.refl _) (argsL := []) (rest := []) (lenOf pd___Ljava_lang_String_ rfl) rfl (by show 2 * 0 + _ ≤ _; exact Nat.le_of_eq rfl) (hb hby at_81) (fun _ _ => ⟨rfl, rfl, (by exact lee rfl), (by exact lee rfl)⟩)
  dsimp only [Pt.U, Pt.locs, Pt.cells, Pt.slots] at X604 l604 y604 z604 st604 hQ604
  subst l604 y604 z604
  obtain ⟨rfl, Nq604, Kq604, f605, f606⟩ := hQ604
  have N604 := Fr.app N582 Nq604
  refine GoW.tr st604 ?_
  have f607 := Safe.keep Kq604 (allS f598 all0) CH582.1 f583
  have f608 := f584.keep Kq604
  have f609 := f585.keep Kq604
  have f610 := f586.keep Kq604 (ninS ne528 nin0)
  have f611 := f587.keep Kq604 (ninS ne528 nin0)
  have f612 := f588.keep Kq604 (ninS ne529 nin0)
  have f613 := f589.keep Kq604
  have f614 := f590.keep Kq604 (ninS ne530 nin0)
  have f615 := f591.keep Kq604 (ninS ne530 nin0)
  have f616 := f592.keep Kq604 (ninS ne531 nin0)
  have f617 := f593.keep Kq604
  have f618 := f594.keep Kq604 (ninS ne532 nin0)
  have f619 := f595.keep Kq604 (ninS ne532 nin0)
  have f620 := f596.keep Kq604 (ninS ne533 nin0)
  have f621 := f597.keep Kq604 (ninS ne527 nin0)
  have f622 := Safe.keep Kq604 (allS f598 all0) CH582.1 f598
  have f623 := f599.keep Kq604
  have f624 := f602.keep Kq604 (ninS (Ne.symm ne581) nin0)
  have f625 := Safe.keep Kq604 (allS f598 all0) CH582.1 f603
  have CH604 := CH582.trans (CHr.keep Kq604 (allS f598 all0) CH582.1)
  have hk604 : Array.size T582.heap ≤ Array.size T604.heap := Nat.le_trans (Nat.le_refl _) Kq604.1
  have O604 := O582.keep Kq604 (allS g_b526 all0)
  show GoW _ _ _ _ _ _ _ _ _ (T604.setTop (mkF m 84 #[.val (.long ua), .second, .val (.long ub), .second, .val (.long uc), .second, .val (.int tk), .val (.ref b1), .val (.int (fh (fch ua))), .val (.int (fh (fch ub))), .val (.int (fh (fch uc))), .val (.int 3), .val (.ref b526), .val (.int (fo3 (fh (fbl (fch ua))) (fh (fbl (fch ub))) (fh (fbl (fch uc))))), .unset, .unset] [(.ref rr_4)]))
  refine GoW.st (fun _ => XS.pop X604.here hx rfl (hb hby at_84) rfl rfl) ?_
  refine GoW.st (fun _ => XS.iload X604.here hx rfl (hb hby at_85) rfl) ?_
  refine GoW.st (fun _ => XS.iconst X604.here hx rfl (hb hby at_87)) ?_
  show GoW _ _ _ _ _ _ _ _ _ (T604.setTop (mkF m 88 #[.val (.long ua), .second, .val (.long ub), .second, .val (.long uc), .second, .val (.int tk), .val (.ref b1), .val (.int (fh (fch ua))), .val (.int (fh (fch ub))), .val (.int (fh (fch uc))), .val (.int 3), .val (.ref b526), .val (.int (fo3 (fh (fbl (fch ua))) (fh (fbl (fch ub))) (fh (fbl (fch uc))))), .unset, .unset] [(.int 1), (.int 3)]))
  refine GoW.st (fun _ => XS.icmpNo X604.here hx rfl (hb hby at_88) rfl (XT.ii_le_f (by decide))) ?_
  refine GoW.st (fun _ => XS.aload X604.here hx rfl (hb hby at_91) rfl rfl) ?_
  show GoW _ _ _ _ _ _ _ _ _ (T604.setTop (mkF m 93 #[.val (.long ua), .second, .val (.long ub), .second, .val (.long uc), .second, .val (.int tk), .val (.ref b1), .val (.int (fh (fch ua))), .val (.int (fh (fch ub))), .val (.int (fh (fch uc))), .val (.int 3), .val (.ref b526), .val (.int (fo3 (fh (fbl (fch ua))) (fh (fbl (fch ub))) (fh (fbl (fch uc))))), .unset, .unset] [(.ref b526)]))
  obtain ⟨cq626, kq626, q626a, q626b, q626c⟩ := isOf hZ582 rfl f623
  obtain ⟨_, _, ⟨T626, L626, k626, n626⟩, -, X626, ⟨Lc626, hQ626, l626, y626, z626⟩, st626⟩ := X604.virtualBack hx (y := mn2) (z := mn2) hown582 (mvT hZ582 (wdx hw 143 rfl)) (mvT hZ582 (wdx hw 144 rfl)) (notFace_of_selects (args := #[]) (mvT hZ582 (wdx hw 146 rfl))) (mvT hZ582 (wdx hw 146 rfl)) (mvT hZ582 (wdx hw 145 rfl)) (by decide) (backOf (W := 0) (rm23_3_1 l Z a0 hw [] b526 na_553 kn_553 rr_4 rr_22 rr_50 T604.heap n0 O604 f623 f605 f606 f624 g_b526 ne581) hZ582 (wdx hw 147 rfl) (wdx hw 70 rfl) (by decide) (by decide)) q626a q626c (g := (mkF m 93 #[.val (.long ua), .second, .val (.long ub), .second, .val (.long uc), .second, .val (.int tk), .val (.ref b1), .val (.int (fh (fch ua))), .val (.int (fh (fch ub))), .val (.int (fh (fch uc))), .val (.int 3), .val (.ref b526), .val (.int (fo3 (fh (fbl (fch ua))) (fh (fbl (fch ub))) (fh (fbl (fch uc))))), .unset, .unset] [(.ref b526)])) rfl (by rw [hml]; rfl) (Steps.refl _) (argsL := []) (rest := []) (lenOf pd___Ljava_lang_String_ rfl) rfl (by show 2 * 0 + _ ≤ _; exact Nat.le_of_eq rfl) (hb hby at_93) (fun _ _ => ⟨rfl, rfl, (by exact lee rfl), (by exact lee rfl)⟩)
  dsimp only [Pt.U, Pt.locs, Pt.cells, Pt.slots] at X626 l626 y626 z626 st626 hQ626
  subst l626 y626 z626
  obtain ⟨rfl, Nq626, Kq626, f627, f628⟩ := hQ626
  have N626 := Fr.app N604 Nq626
  refine GoW.tr st626 ?_
  have f629 := Safe.keep Kq626 (allS f622 all0) CH604.1 f607
  have f630 := f608.keep Kq626
  have f631 := f609.keep Kq626
  have f632 := f610.keep Kq626 (ninS ne528 nin0)
  have f633 := f611.keep Kq626 (ninS ne528 nin0)
  have f634 := f612.keep Kq626 (ninS ne529 nin0)
  have f635 := f613.keep Kq626
  have f636 := f614.keep Kq626 (ninS ne530 nin0)
  have f637 := f615.keep Kq626 (ninS ne530 nin0)
  have f638 := f616.keep Kq626 (ninS ne531 nin0)
  have f639 := f617.keep Kq626
  have f640 := f618.keep Kq626 (ninS ne532 nin0)
  have f641 := f619.keep Kq626 (ninS ne532 nin0)
  have f642 := f620.keep Kq626 (ninS ne533 nin0)
  have f643 := f621.keep Kq626 (ninS ne527 nin0)
  have f644 := Safe.keep Kq626 (allS f622 all0) CH604.1 f622
  have f645 := f623.keep Kq626
  have f646 := f624.keep Kq626 (ninS (Ne.symm ne581) nin0)
  have f647 := Safe.keep Kq626 (allS f622 all0) CH604.1 f625
  have CH626 := CH604.trans (CHr.keep Kq626 (allS f622 all0) CH604.1)
  have hk626 : Array.size T582.heap ≤ Array.size T626.heap := Nat.le_trans hk604 Kq626.1
  have O626 := O604.keep Kq626 (allS g_b526 all0)
  show GoW _ _ _ _ _ _ _ _ _ (T626.setTop (mkF m 96 #[.val (.long ua), .second, .val (.long ub), .second, .val (.long uc), .second, .val (.int tk), .val (.ref b1), .val (.int (fh (fch ua))), .val (.int (fh (fch ub))), .val (.int (fh (fch uc))), .val (.int 3), .val (.ref b526), .val (.int (fo3 (fh (fbl (fch ua))) (fh (fbl (fch ub))) (fh (fbl (fch uc))))), .unset, .unset] [(.ref rr_22)]))
  refine GoW.st (fun _ => XS.pop X626.here hx rfl (hb hby at_96) rfl rfl) ?_
  refine GoW.st (fun _ => XS.iload X626.here hx rfl (hb hby at_97) rfl) ?_
  refine GoW.st (fun _ => XS.iconst X626.here hx rfl (hb hby at_99)) ?_
  show GoW _ _ _ _ _ _ _ _ _ (T626.setTop (mkF m 100 #[.val (.long ua), .second, .val (.long ub), .second, .val (.long uc), .second, .val (.int tk), .val (.ref b1), .val (.int (fh (fch ua))), .val (.int (fh (fch ub))), .val (.int (fh (fch uc))), .val (.int 3), .val (.ref b526), .val (.int (fo3 (fh (fbl (fch ua))) (fh (fbl (fch ub))) (fh (fbl (fch uc))))), .unset, .unset] [(.int 2), (.int 3)]))
  refine GoW.st (fun _ => XS.icmpNo X626.here hx rfl (hb hby at_100) rfl (XT.ii_le_f (by decide))) ?_
  refine GoW.st (fun _ => XS.aload X626.here hx rfl (hb hby at_103) rfl rfl) ?_
  show GoW _ _ _ _ _ _ _ _ _ (T626.setTop (mkF m 105 #[.val (.long ua), .second, .val (.long ub), .second, .val (.long uc), .second, .val (.int tk), .val (.ref b1), .val (.int (fh (fch ua))), .val (.int (fh (fch ub))), .val (.int (fh (fch uc))), .val (.int 3), .val (.ref b526), .val (.int (fo3 (fh (fbl (fch ua))) (fh (fbl (fch ub))) (fh (fbl (fch uc))))), .unset, .unset] [(.ref b526)]))
  obtain ⟨cq648, kq648, q648a, q648b, q648c⟩ := isOf hZ582 rfl f645
  obtain ⟨_, _, ⟨T648, L648, k648, n648⟩, -, X648, ⟨Lc648, hQ648, l648, y648, z648⟩, st648⟩ := X626.virtualBack hx (y := mn2) (z := mn2) hown582 (mvT hZ582 (wdx hw 143 rfl)) (mvT hZ582 (wdx hw 144 rfl)) (notFace_of_selects (args := #[]) (mvT hZ582 (wdx hw 146 rfl))) (mvT hZ582 (wdx hw 146 rfl)) (mvT hZ582 (wdx hw 145 rfl)) (by decide) (backOf (W := 0) (rm23_3_2 l Z a0 hw [] b526 na_553 kn_553 rr_4 rr_22 rr_50 T626.heap n0 O626 f645 f627 f628 f646 g_b526 ne581) hZ582 (wdx hw 147 rfl) (wdx hw 70 rfl) (by decide) (by decide)) q648a q648c (g := (mkF m 105 #[.val (.long ua), .second, .val (.long ub), .second, .val (.long uc), .second, .val (.int tk), .val (.ref b1), .val (.int (fh (fch ua))), .val (.int (fh (fch ub))), .val (.int (fh (fch uc))), .val (.int 3), .val (.ref b526), .val (.int (fo3 (fh (fbl (fch ua))) (fh (fbl (fch ub))) (fh (fbl (fch uc))))), .unset, .unset] [(.ref b526)])) rfl (by rw [hml]; rfl) (Steps.refl _) (argsL := []) (rest := []) (lenOf pd___Ljava_lang_String_ rfl) rfl (by show 2 * 0 + _ ≤ _; exact Nat.le_of_eq rfl) (hb hby at_105) (fun _ _ => ⟨rfl, rfl, (by exact lee rfl), (by exact lee rfl)⟩)
  dsimp only [Pt.U, Pt.locs, Pt.cells, Pt.slots] at X648 l648 y648 z648 st648 hQ648
  subst l648 y648 z648
  obtain ⟨rfl, Nq648, Kq648, f649, f650⟩ := hQ648
  have N648 := Fr.app N626 Nq648
  refine GoW.tr st648 ?_
  have f651 := Safe.keep Kq648 (allS f644 all0) CH626.1 f629
  have f652 := f630.keep Kq648
  have f653 := f631.keep Kq648
  have f654 := f632.keep Kq648 (ninS ne528 nin0)
  have f655 := f633.keep Kq648 (ninS ne528 nin0)
  have f656 := f634.keep Kq648 (ninS ne529 nin0)
  have f657 := f635.keep Kq648
  have f658 := f636.keep Kq648 (ninS ne530 nin0)
  have f659 := f637.keep Kq648 (ninS ne530 nin0)
  have f660 := f638.keep Kq648 (ninS ne531 nin0)
  have f661 := f639.keep Kq648
  have f662 := f640.keep Kq648 (ninS ne532 nin0)
  have f663 := f641.keep Kq648 (ninS ne532 nin0)
  have f664 := f642.keep Kq648 (ninS ne533 nin0)
  have f665 := f643.keep Kq648 (ninS ne527 nin0)
  have f666 := Safe.keep Kq648 (allS f644 all0) CH626.1 f644
  have f667 := f645.keep Kq648
  have f668 := f646.keep Kq648 (ninS (Ne.symm ne581) nin0)
  have f669 := Safe.keep Kq648 (allS f644 all0) CH626.1 f647
  have CH648 := CH626.trans (CHr.keep Kq648 (allS f644 all0) CH626.1)
  have hk648 : Array.size T582.heap ≤ Array.size T648.heap := Nat.le_trans hk626 Kq648.1
  have O648 := O626.keep Kq648 (allS g_b526 all0)
  show GoW _ _ _ _ _ _ _ _ _ (T648.setTop (mkF m 108 #[.val (.long ua), .second, .val (.long ub), .second, .val (.long uc), .second, .val (.int tk), .val (.ref b1), .val (.int (fh (fch ua))), .val (.int (fh (fch ub))), .val (.int (fh (fch uc))), .val (.int 3), .val (.ref b526), .val (.int (fo3 (fh (fbl (fch ua))) (fh (fbl (fch ub))) (fh (fbl (fch uc))))), .unset, .unset] [(.ref rr_50)]))
  refine GoW.st (fun _ => XS.pop X648.here hx rfl (hb hby at_108) rfl rfl) ?_
  refine GoW.st (fun _ => XS.aload X648.here hx rfl (hb hby at_109) rfl rfl) ?_
  show GoW _ _ _ _ _ _ _ _ _ (T648.setTop (mkF m 111 #[.val (.long ua), .second, .val (.long ub), .second, .val (.long uc), .second, .val (.int tk), .val (.ref b1), .val (.int (fh (fch ua))), .val (.int (fh (fch ub))), .val (.int (fh (fch uc))), .val (.int 3), .val (.ref b526), .val (.int (fo3 (fh (fbl (fch ua))) (fh (fbl (fch ub))) (fh (fbl (fch uc))))), .unset, .unset] [(.ref b526)]))
  obtain ⟨cq670, kq670, q670a, q670b, q670c⟩ := isOf hZ582 rfl f667
  obtain ⟨_, _, ⟨T670, L670, k670, n670⟩, -, Xr670, hSr670, hgr670, ⟨Lc670, hQ670, l670, y670, z670, C670⟩, st670⟩ := X648.virtualBackS hx (y := mn0) (z := mn0) hown582 (mvT hZ582 (wdx hw 126 rfl)) (mvT hZ582 (wdx hw 127 rfl)) (notFace_of_selects (args := #[]) (mvT hZ582 (wdx hw 129 rfl))) (mvT hZ582 (wdx hw 129 rfl)) (mvT hZ582 (wdx hw 128 rfl)) (by decide) (own_back (W := 0) (rm20_3 l Z a0 hw [] b526 na_553 kn_553 cs rr_4 rr_22 rr_50 tb_4 kt_4 (fbl (fch ua)) tb_22 kt_22 (fbl (fch ub)) tb_50 kt_50 (fbl (fch uc)) T648.heap n0 O648 f649 f650 f668 f653 f655 f654 f656 f657 f659 f658 f660 f661 f663 f662 f664 S_cs q_cs (own_fl7 _) (own_fl7 _) (own_fl7 _)) hZ582 (wdx hw 130 rfl) (wdx hw 70 rfl) (by decide) (by decide) hEL CH648.1 all0) q670a q670c (g := (mkF m 111 #[.val (.long ua), .second, .val (.long ub), .second, .val (.long uc), .second, .val (.int tk), .val (.ref b1), .val (.int (fh (fch ua))), .val (.int (fh (fch ub))), .val (.int (fh (fch uc))), .val (.int 3), .val (.ref b526), .val (.int (fo3 (fh (fbl (fch ua))) (fh (fbl (fch ub))) (fh (fbl (fch uc))))), .unset, .unset] [(.ref b526)])) rfl (by rw [hml]; rfl) (Steps.refl _) (argsL := []) (rest := []) (lenOf pd___Z rfl) rfl (by show 2 * 0 + _ ≤ _; exact Nat.le_of_eq rfl) (hb hby at_111) (fun _ _ => ⟨rfl, rfl, (by exact lee rfl), (by exact lee rfl)⟩)
  dsimp only [Pt.U, Pt.locs, Pt.cells, Pt.slots] at Xr670 hSr670 hgr670 l670 y670 z670 C670 st670 hQ670
  subst l670 y670 z670
  obtain ⟨X670, hS670, hZ670, hown670⟩ := rebS hS582 hk648 Xr670 hSr670 hgr670 hZ582 hown582
  obtain ⟨rfl, Nq670, Kq670⟩ := hQ670
  have N670 := Fr.app N648 Nq670
  refine GoW.tr st670 ?_
  have f671 : Safe Z EL T670.vm T670.heap b1 := C670.safe f652.lt f651
  have f672 := f652.keep Kq670
  have f673 := f653.keep Kq670
  have f674 := f654.keep Kq670 nin0
  have f675 := f655.keep Kq670 nin0
  have f676 := f656.keep Kq670 nin0
  have f677 := f657.keep Kq670
  have f678 := f658.keep Kq670 nin0
  have f679 := f659.keep Kq670 nin0
  have f680 := f660.keep Kq670 nin0
  have f681 := f661.keep Kq670
  have f682 := f662.keep Kq670 nin0
  have f683 := f663.keep Kq670 nin0
  have f684 := f664.keep Kq670 nin0
  have f685 := f665.keep Kq670 nin0
  have f686 : Safe Z EL T670.vm T670.heap b526 := C670.safe f667.lt f666
  have f687 := f667.keep Kq670
  have f688 := f668.keep Kq670 nin0
  have f689 : Safe Z EL T670.vm T670.heap na_553 := C670.safe f668.lt f669
  have f690 := f649.keep Kq670 nin0
  have f691 := f650.keep Kq670 nin0
  have CH670 := CH648.trans C670
  have O670 := O648.keep Kq670 all0
  show GoW _ _ _ _ _ _ _ _ _ (T670.setTop (mkF m 114 #[.val (.long ua), .second, .val (.long ub), .second, .val (.long uc), .second, .val (.int tk), .val (.ref b1), .val (.int (fh (fch ua))), .val (.int (fh (fch ub))), .val (.int (fh (fch uc))), .val (.int 3), .val (.ref b526), .val (.int (fo3 (fh (fbl (fch ua))) (fh (fbl (fch ub))) (fh (fbl (fch uc))))), .unset, .unset] [(.int (fo3 (0 : Int32) (0 : Int32) (0 : Int32)))]))
  refine GoW.st (fun _ => XS.istore X670.here hx rfl (hb hby at_114) rfl (l' := #[.val (.long ua), .second, .val (.long ub), .second, .val (.long uc), .second, .val (.int tk), .val (.ref b1), .val (.int (fh (fch ua))), .val (.int (fh (fch ub))), .val (.int (fh (fch uc))), .val (.int 3), .val (.ref b526), .val (.int (fo3 (fh (fbl (fch ua))) (fh (fbl (fch ub))) (fh (fbl (fch uc))))), .val (.int (fo3 (0 : Int32) (0 : Int32) (0 : Int32))), .unset]) rfl) ?_
  show GoW _ _ _ _ _ _ _ _ _ (T670.setTop (mkF m 116 #[.val (.long ua), .second, .val (.long ub), .second, .val (.long uc), .second, .val (.int tk), .val (.ref b1), .val (.int (fh (fch ua))), .val (.int (fh (fch ub))), .val (.int (fh (fch uc))), .val (.int 3), .val (.ref b526), .val (.int (fo3 (fh (fbl (fch ua))) (fh (fbl (fch ub))) (fh (fbl (fch uc))))), .val (.int (fo3 (0 : Int32) (0 : Int32) (0 : Int32))), .unset] []))
  have J692 : ∀ (TJ692' : State) (lJ692' : List Loc) (XJ692' : Stand p l e room_1 (s.setVm T670.vm) m #[(.long ua), (.long ub), (.long uc), (.int tk)] below meth c TJ692' lJ692' 35 241) (eJ692' : TJ692'.heap = T670.heap) (NJ692' : Fr n0 lJ692') (xe : Int32) (r_xe : xe = (fo3 (0 : Int32) (0 : Int32) (0 : Int32))), GoW p e below s 48 3328 Z EL (Q0 Z ua ub uc tk cs vf h0 n0) (TJ692'.setTop (mkF m 154 #[.val (.long ua), .second, .val (.long ub), .second, .val (.long uc), .second, .val (.int tk), .val (.ref b1), .val (.int (fh (fch ua))), .val (.int (fh (fch ub))), .val (.int (fh (fch uc))), .val (.int 3), .val (.ref b526), .val (.int (fo3 (fh (fbl (fch ua))) (fh (fbl (fch ub))) (fh (fbl (fch uc))))), .val (.int (fo3 (0 : Int32) (0 : Int32) (0 : Int32))), .unset] [(.int xe)])) := by
   intro TJ692' lJ692' XJ692' eJ692' NJ692' xe r_xe
   show GoW _ _ _ _ _ _ _ _ _ (TJ692'.setTop (mkF m 154 #[.val (.long ua), .second, .val (.long ub), .second, .val (.long uc), .second, .val (.int tk), .val (.ref b1), .val (.int (fh (fch ua))), .val (.int (fh (fch ub))), .val (.int (fh (fch uc))), .val (.int 3), .val (.ref b526), .val (.int (fo3 (fh (fbl (fch ua))) (fh (fbl (fch ub))) (fh (fbl (fch uc))))), .val (.int (fo3 (0 : Int32) (0 : Int32) (0 : Int32))), .unset] [(.int xe)]))
   refine GoW.st (fun _ => XS.istore XJ692'.here hx rfl (hb hby at_154) rfl (l' := #[.val (.long ua), .second, .val (.long ub), .second, .val (.long uc), .second, .val (.int tk), .val (.ref b1), .val (.int (fh (fch ua))), .val (.int (fh (fch ub))), .val (.int (fh (fch uc))), .val (.int 3), .val (.ref b526), .val (.int (fo3 (fh (fbl (fch ua))) (fh (fbl (fch ub))) (fh (fbl (fch uc))))), .val (.int (fo3 (0 : Int32) (0 : Int32) (0 : Int32))), .val (.int xe)]) rfl) ?_
   refine GoW.st (fun _ => XS.iload XJ692'.here hx rfl (hb hby at_156) rfl) ?_
   show GoW _ _ _ _ _ _ _ _ _ (TJ692'.setTop (mkF m 158 #[.val (.long ua), .second, .val (.long ub), .second, .val (.long uc), .second, .val (.int tk), .val (.ref b1), .val (.int (fh (fch ua))), .val (.int (fh (fch ub))), .val (.int (fh (fch uc))), .val (.int 3), .val (.ref b526), .val (.int (fo3 (fh (fbl (fch ua))) (fh (fbl (fch ub))) (fh (fbl (fch uc))))), .val (.int (fo3 (0 : Int32) (0 : Int32) (0 : Int32))), .val (.int xe)] [(.int (fo3 (fh (fbl (fch ua))) (fh (fbl (fch ub))) (fh (fbl (fch uc)))))]))
   have J693 : ∀ (TJ693' : State) (lJ693' : List Loc) (XJ693' : Stand p l e room_1 (s.setVm T670.vm) m #[(.long ua), (.long ub), (.long uc), (.int tk)] below meth c TJ693' lJ693' 35 241) (eJ693' : TJ693'.heap = T670.heap) (NJ693' : Fr n0 lJ693') (xw : Int32) (r_xw : xw = (fo3 (fh (fch ua)) (fh (fch ub)) (fh (fch uc)))), GoW p e below s 48 3328 Z EL (Q0 Z ua ub uc tk cs vf h0 n0) (TJ693'.setTop (mkF m 178 #[.val (.long ua), .second, .val (.long ub), .second, .val (.long uc), .second, .val (.int tk), .val (.ref b1), .val (.int (fh (fch ua))), .val (.int (fh (fch ub))), .val (.int (fh (fch uc))), .val (.int 3), .val (.ref b526), .val (.int (fo3 (fh (fbl (fch ua))) (fh (fbl (fch ub))) (fh (fbl (fch uc))))), .val (.int (fo3 (0 : Int32) (0 : Int32) (0 : Int32))), .val (.int xe)] [(.int xw), (.int (fo3 (fh (fbl (fch ua))) (fh (fbl (fch ub))) (fh (fbl (fch uc)))))])) := by
    intro TJ693' lJ693' XJ693' eJ693' NJ693' xw r_xw
    show GoW _ _ _ _ _ _ _ _ _ (TJ693'.setTop (mkF m 178 #[.val (.long ua), .second, .val (.long ub), .second, .val (.long uc), .second, .val (.int tk), .val (.ref b1), .val (.int (fh (fch ua))), .val (.int (fh (fch ub))), .val (.int (fh (fch uc))), .val (.int 3), .val (.ref b526), .val (.int (fo3 (fh (fbl (fch ua))) (fh (fbl (fch ub))) (fh (fbl (fch uc))))), .val (.int (fo3 (0 : Int32) (0 : Int32) (0 : Int32))), .val (.int xe)] [(.int xw), (.int (fo3 (fh (fbl (fch ua))) (fh (fbl (fch ub))) (fh (fbl (fch uc)))))]))
    refine GoW.st (fun _ => XS.icmpNo XJ693'.here hx rfl (hb hby at_178) rfl (XT.ii_ne_f (by rw [r_xw, own_fh, own_fh, own_fh]))) ?_
    refine GoW.st (fun _ => XS.iload XJ693'.here hx rfl (hb hby at_181) rfl) ?_
    refine GoW.st (fun _ => XS.iload XJ693'.here hx rfl (hb hby at_183) rfl) ?_
    show GoW _ _ _ _ _ _ _ _ _ (TJ693'.setTop (mkF m 185 #[.val (.long ua), .second, .val (.long ub), .second, .val (.long uc), .second, .val (.int tk), .val (.ref b1), .val (.int (fh (fch ua))), .val (.int (fh (fch ub))), .val (.int (fh (fch uc))), .val (.int 3), .val (.ref b526), .val (.int (fo3 (fh (fbl (fch ua))) (fh (fbl (fch ub))) (fh (fbl (fch uc))))), .val (.int (fo3 (0 : Int32) (0 : Int32) (0 : Int32))), .val (.int xe)] [(.int xe), (.int (fo3 (0 : Int32) (0 : Int32) (0 : Int32)))]))
    refine GoW.st (fun _ => XS.icmpNo XJ693'.here hx rfl (hb hby at_185) rfl (XT.ii_ne_f (by rw [r_xe] <;> simp only [own_fh]))) ?_
    refine GoW.st (fun _ => XS.aload XJ693'.here hx rfl (hb hby at_188) rfl rfl) ?_
    show GoW _ _ _ _ _ _ _ _ _ (TJ693'.setTop (mkF m 190 #[.val (.long ua), .second, .val (.long ub), .second, .val (.long uc), .second, .val (.int tk), .val (.ref b1), .val (.int (fh (fch ua))), .val (.int (fh (fch ub))), .val (.int (fh (fch uc))), .val (.int 3), .val (.ref b526), .val (.int (fo3 (fh (fbl (fch ua))) (fh (fbl (fch ub))) (fh (fbl (fch uc))))), .val (.int (fo3 (0 : Int32) (0 : Int32) (0 : Int32))), .val (.int xe)] [(.ref b526)]))
    obtain ⟨cq694, kq694, q694a, q694b, q694c⟩ := isOf hZ670 eJ693' f687
    obtain ⟨_, _, ⟨T694, L694, k694, n694⟩, -, X694, ⟨Lc694, hQ694, l694, y694, z694⟩, st694⟩ := XJ693'.virtualBack hx (y := mn1) (z := mn1) hown670 (mvT hZ670 (wdx hw 158 rfl)) (mvT hZ670 (wdx hw 154 rfl)) (notFace_of_selects (args := #[]) (mvT hZ670 (wdx hw 156 rfl))) (mvT hZ670 (wdx hw 156 rfl)) (mvT hZ670 (wdx hw 155 rfl)) (by decide) (backOf (W := 0) (rm25_3_3 l Z a0 hw [] b526 na_553 kn_553 rr_4 rr_22 rr_50 T670.heap n0 O670 f690 f691 f688) hZ670 (wdx hw 157 rfl) (wdx hw 70 rfl) (by decide) (by decide)) q694a q694c (g := (mkF m 190 #[.val (.long ua), .second, .val (.long ub), .second, .val (.long uc), .second, .val (.int tk), .val (.ref b1), .val (.int (fh (fch ua))), .val (.int (fh (fch ub))), .val (.int (fh (fch uc))), .val (.int 3), .val (.ref b526), .val (.int (fo3 (fh (fbl (fch ua))) (fh (fbl (fch ub))) (fh (fbl (fch uc))))), .val (.int (fo3 (0 : Int32) (0 : Int32) (0 : Int32))), .val (.int xe)] [(.ref b526)])) rfl (by rw [hml]; rfl) (Steps.refl _) (argsL := []) (rest := []) (lenOf pd___Z rfl) rfl (by show 2 * 0 + _ ≤ _; exact Nat.le_of_eq rfl) (hb hby at_190) (fun _ _ => ⟨rfl, eJ693', (by exact lee rfl), (by exact lee rfl)⟩)
    dsimp only [Pt.U, Pt.locs, Pt.cells, Pt.slots] at X694 l694 y694 z694 st694 hQ694
    subst l694 y694 z694
    obtain ⟨rfl, Nq694, eq694⟩ := hQ694
    have N694 := Fr.app NJ693' Nq694
    refine GoW.tr st694 ?_
    show GoW _ _ _ _ _ _ _ _ _ (T694.setTop (mkF m 193 #[.val (.long ua), .second, .val (.long ub), .second, .val (.long uc), .second, .val (.int tk), .val (.ref b1), .val (.int (fh (fch ua))), .val (.int (fh (fch ub))), .val (.int (fh (fch uc))), .val (.int 3), .val (.ref b526), .val (.int (fo3 (fh (fbl (fch ua))) (fh (fbl (fch ub))) (fh (fbl (fch uc))))), .val (.int (fo3 (0 : Int32) (0 : Int32) (0 : Int32))), .val (.int xe)] [(.int 0)]))
    refine GoW.st (fun _ => XS.iload X694.here hx rfl (hb hby at_193) rfl) ?_
    refine GoW.st (fun _ => XS.iconst X694.here hx rfl (hb hby at_195)) ?_
    show GoW _ _ _ _ _ _ _ _ _ (T694.setTop (mkF m 196 #[.val (.long ua), .second, .val (.long ub), .second, .val (.long uc), .second, .val (.int tk), .val (.ref b1), .val (.int (fh (fch ua))), .val (.int (fh (fch ub))), .val (.int (fh (fch uc))), .val (.int 3), .val (.ref b526), .val (.int (fo3 (fh (fbl (fch ua))) (fh (fbl (fch ub))) (fh (fbl (fch uc))))), .val (.int (fo3 (0 : Int32) (0 : Int32) (0 : Int32))), .val (.int xe)] [(.int 3), (.int 3), (.int 0)]))
    refine GoW.st (fun _ => XS.icmpYes X694.here hx rfl (pc0 := 196) (pc' := 203) rfl (hb hby at_196) rfl (XT.ii_ge_t (by decide)) (by decide) (by decide)) ?_
    refine GoW.st (fun _ => XS.iconst X694.here hx rfl (hb hby at_203)) ?_
    show GoW _ _ _ _ _ _ _ _ _ (T694.setTop (mkF m 204 #[.val (.long ua), .second, .val (.long ub), .second, .val (.long uc), .second, .val (.int tk), .val (.ref b1), .val (.int (fh (fch ua))), .val (.int (fh (fch ub))), .val (.int (fh (fch uc))), .val (.int 3), .val (.ref b526), .val (.int (fo3 (fh (fbl (fch ua))) (fh (fbl (fch ub))) (fh (fbl (fch uc))))), .val (.int (fo3 (0 : Int32) (0 : Int32) (0 : Int32))), .val (.int xe)] [(.int 0), (.int 0)]))
    refine GoW.st (fun _ => XS.icmpNo X694.here hx rfl (hb hby at_204) rfl (XT.ii_ne_f (by decide))) ?_
    refine GoW.st (fun _ => XS.iconst X694.here hx rfl (hb hby at_207)) ?_
    show GoW _ _ _ _ _ _ _ _ _ (T694.setTop (mkF m 208 #[.val (.long ua), .second, .val (.long ub), .second, .val (.long uc), .second, .val (.int tk), .val (.ref b1), .val (.int (fh (fch ua))), .val (.int (fh (fch ub))), .val (.int (fh (fch uc))), .val (.int 3), .val (.ref b526), .val (.int (fo3 (fh (fbl (fch ua))) (fh (fbl (fch ub))) (fh (fbl (fch uc))))), .val (.int (fo3 (0 : Int32) (0 : Int32) (0 : Int32))), .val (.int xe)] [(.int 1)]))
    refine GoW.st (fun _ => XS.goto X694.here hx rfl (pc0 := 208) (pc' := 212) rfl (hb hby at_208) (by decide) (by decide)) ?_
    show GoW _ _ _ _ _ _ _ _ _ (T694.setTop (mkF m 212 #[.val (.long ua), .second, .val (.long ub), .second, .val (.long uc), .second, .val (.int tk), .val (.ref b1), .val (.int (fh (fch ua))), .val (.int (fh (fch ub))), .val (.int (fh (fch uc))), .val (.int 3), .val (.ref b526), .val (.int (fo3 (fh (fbl (fch ua))) (fh (fbl (fch ub))) (fh (fbl (fch uc))))), .val (.int (fo3 (0 : Int32) (0 : Int32) (0 : Int32))), .val (.int xe)] [(.int 1)]))
    refine GoW.retB X694 hx hlk hS670 (by rw [eq694]; exact (Nat.le_refl _)) hZ670 hEL CH670 (t := .boolean) Bd.returns (by simp) (hb hby at_212) (by decide) (by decide) eq694 ?_
    exact ⟨rfl, N694, trivial⟩
   refine GoW.st (fun _ => XS.iload XJ692'.here hx rfl (hb hby at_158) rfl) ?_
   show GoW _ _ _ _ _ _ _ _ _ (TJ692'.setTop (mkF m 160 #[.val (.long ua), .second, .val (.long ub), .second, .val (.long uc), .second, .val (.int tk), .val (.ref b1), .val (.int (fh (fch ua))), .val (.int (fh (fch ub))), .val (.int (fh (fch uc))), .val (.int 3), .val (.ref b526), .val (.int (fo3 (fh (fbl (fch ua))) (fh (fbl (fch ub))) (fh (fbl (fch uc))))), .val (.int (fo3 (0 : Int32) (0 : Int32) (0 : Int32))), .val (.int xe)] [(.int (fh (fch ua))), (.int (fo3 (fh (fbl (fch ua))) (fh (fbl (fch ub))) (fh (fbl (fch uc)))))]))
   by_cases hc695 : (fh (fch ua)) = (0 : Int32)
   ·refine GoW.st (fun _ => XS.ifNo XJ692'.here hx rfl (hb hby at_160) rfl (XT.i0_ne_f hc695)) ?_
    refine GoW.st (fun _ => XS.iload XJ692'.here hx rfl (hb hby at_163) rfl) ?_
    show GoW _ _ _ _ _ _ _ _ _ (TJ692'.setTop (mkF m 165 #[.val (.long ua), .second, .val (.long ub), .second, .val (.long uc), .second, .val (.int tk), .val (.ref b1), .val (.int (fh (fch ua))), .val (.int (fh (fch ub))), .val (.int (fh (fch uc))), .val (.int 3), .val (.ref b526), .val (.int (fo3 (fh (fbl (fch ua))) (fh (fbl (fch ub))) (fh (fbl (fch uc))))), .val (.int (fo3 (0 : Int32) (0 : Int32) (0 : Int32))), .val (.int xe)] [(.int (fh (fch ub))), (.int (fo3 (fh (fbl (fch ua))) (fh (fbl (fch ub))) (fh (fbl (fch uc)))))]))
    by_cases hc696 : (fh (fch ub)) = (0 : Int32)
    ·refine GoW.st (fun _ => XS.ifNo XJ692'.here hx rfl (hb hby at_165) rfl (XT.i0_ne_f hc696)) ?_
     refine GoW.st (fun _ => XS.iload XJ692'.here hx rfl (hb hby at_168) rfl) ?_
     show GoW _ _ _ _ _ _ _ _ _ (TJ692'.setTop (mkF m 170 #[.val (.long ua), .second, .val (.long ub), .second, .val (.long uc), .second, .val (.int tk), .val (.ref b1), .val (.int (fh (fch ua))), .val (.int (fh (fch ub))), .val (.int (fh (fch uc))), .val (.int 3), .val (.ref b526), .val (.int (fo3 (fh (fbl (fch ua))) (fh (fbl (fch ub))) (fh (fbl (fch uc))))), .val (.int (fo3 (0 : Int32) (0 : Int32) (0 : Int32))), .val (.int xe)] [(.int (fh (fch uc))), (.int (fo3 (fh (fbl (fch ua))) (fh (fbl (fch ub))) (fh (fbl (fch uc)))))]))
     by_cases hc697 : (fh (fch uc)) = (0 : Int32)
     ·refine GoW.st (fun _ => XS.ifYes XJ692'.here hx rfl (pc0 := 170) (pc' := 177) rfl (hb hby at_170) rfl (XT.i0_eq_t hc697) (by decide) (by decide)) ?_
      refine GoW.st (fun _ => XS.iconst XJ692'.here hx rfl (hb hby at_177)) ?_
      show GoW _ _ _ _ _ _ _ _ _ (TJ692'.setTop (mkF m 178 #[.val (.long ua), .second, .val (.long ub), .second, .val (.long uc), .second, .val (.int tk), .val (.ref b1), .val (.int (fh (fch ua))), .val (.int (fh (fch ub))), .val (.int (fh (fch uc))), .val (.int 3), .val (.ref b526), .val (.int (fo3 (fh (fbl (fch ua))) (fh (fbl (fch ub))) (fh (fbl (fch uc))))), .val (.int (fo3 (0 : Int32) (0 : Int32) (0 : Int32))), .val (.int xe)] [(.int 0), (.int (fo3 (fh (fbl (fch ua))) (fh (fbl (fch ub))) (fh (fbl (fch uc)))))]))
      exact J693 TJ692' _ XJ692' eJ692' NJ692' (0 : Int32) (by simp [fo3, hc695, hc696, hc697])
     ·refine GoW.st (fun _ => XS.ifNo XJ692'.here hx rfl (hb hby at_170) rfl (XT.i0_eq_f hc697)) ?_
      refine GoW.st (fun _ => XS.iconst XJ692'.here hx rfl (hb hby at_173)) ?_
      show GoW _ _ _ _ _ _ _ _ _ (TJ692'.setTop (mkF m 174 #[.val (.long ua), .second, .val (.long ub), .second, .val (.long uc), .second, .val (.int tk), .val (.ref b1), .val (.int (fh (fch ua))), .val (.int (fh (fch ub))), .val (.int (fh (fch uc))), .val (.int 3), .val (.ref b526), .val (.int (fo3 (fh (fbl (fch ua))) (fh (fbl (fch ub))) (fh (fbl (fch uc))))), .val (.int (fo3 (0 : Int32) (0 : Int32) (0 : Int32))), .val (.int xe)] [(.int 1), (.int (fo3 (fh (fbl (fch ua))) (fh (fbl (fch ub))) (fh (fbl (fch uc)))))]))
      refine GoW.st (fun _ => XS.goto XJ692'.here hx rfl (pc0 := 174) (pc' := 178) rfl (hb hby at_174) (by decide) (by decide)) ?_
      show GoW _ _ _ _ _ _ _ _ _ (TJ692'.setTop (mkF m 178 #[.val (.long ua), .second, .val (.long ub), .second, .val (.long uc), .second, .val (.int tk), .val (.ref b1), .val (.int (fh (fch ua))), .val (.int (fh (fch ub))), .val (.int (fh (fch uc))), .val (.int 3), .val (.ref b526), .val (.int (fo3 (fh (fbl (fch ua))) (fh (fbl (fch ub))) (fh (fbl (fch uc))))), .val (.int (fo3 (0 : Int32) (0 : Int32) (0 : Int32))), .val (.int xe)] [(.int 1), (.int (fo3 (fh (fbl (fch ua))) (fh (fbl (fch ub))) (fh (fbl (fch uc)))))]))
      exact J693 TJ692' _ XJ692' eJ692' NJ692' (1 : Int32) (by simp [fo3, hc695, hc696, hc697])
    ·refine GoW.st (fun _ => XS.ifYes XJ692'.here hx rfl (pc0 := 165) (pc' := 173) rfl (hb hby at_165) rfl (XT.i0_ne_t hc696) (by decide) (by decide)) ?_
     refine GoW.st (fun _ => XS.iconst XJ692'.here hx rfl (hb hby at_173)) ?_
     show GoW _ _ _ _ _ _ _ _ _ (TJ692'.setTop (mkF m 174 #[.val (.long ua), .second, .val (.long ub), .second, .val (.long uc), .second, .val (.int tk), .val (.ref b1), .val (.int (fh (fch ua))), .val (.int (fh (fch ub))), .val (.int (fh (fch uc))), .val (.int 3), .val (.ref b526), .val (.int (fo3 (fh (fbl (fch ua))) (fh (fbl (fch ub))) (fh (fbl (fch uc))))), .val (.int (fo3 (0 : Int32) (0 : Int32) (0 : Int32))), .val (.int xe)] [(.int 1), (.int (fo3 (fh (fbl (fch ua))) (fh (fbl (fch ub))) (fh (fbl (fch uc)))))]))
     refine GoW.st (fun _ => XS.goto XJ692'.here hx rfl (pc0 := 174) (pc' := 178) rfl (hb hby at_174) (by decide) (by decide)) ?_
     show GoW _ _ _ _ _ _ _ _ _ (TJ692'.setTop (mkF m 178 #[.val (.long ua), .second, .val (.long ub), .second, .val (.long uc), .second, .val (.int tk), .val (.ref b1), .val (.int (fh (fch ua))), .val (.int (fh (fch ub))), .val (.int (fh (fch uc))), .val (.int 3), .val (.ref b526), .val (.int (fo3 (fh (fbl (fch ua))) (fh (fbl (fch ub))) (fh (fbl (fch uc))))), .val (.int (fo3 (0 : Int32) (0 : Int32) (0 : Int32))), .val (.int xe)] [(.int 1), (.int (fo3 (fh (fbl (fch ua))) (fh (fbl (fch ub))) (fh (fbl (fch uc)))))]))
     exact J693 TJ692' _ XJ692' eJ692' NJ692' (1 : Int32) (by simp [fo3, hc695, hc696])
   ·refine GoW.st (fun _ => XS.ifYes XJ692'.here hx rfl (pc0 := 160) (pc' := 173) rfl (hb hby at_160) rfl (XT.i0_ne_t hc695) (by decide) (by decide)) ?_
    refine GoW.st (fun _ => XS.iconst XJ692'.here hx rfl (hb hby at_173)) ?_
    show GoW _ _ _ _ _ _ _ _ _ (TJ692'.setTop (mkF m 174 #[.val (.long ua), .second, .val (.long ub), .second, .val (.long uc), .second, .val (.int tk), .val (.ref b1), .val (.int (fh (fch ua))), .val (.int (fh (fch ub))), .val (.int (fh (fch uc))), .val (.int 3), .val (.ref b526), .val (.int (fo3 (fh (fbl (fch ua))) (fh (fbl (fch ub))) (fh (fbl (fch uc))))), .val (.int (fo3 (0 : Int32) (0 : Int32) (0 : Int32))), .val (.int xe)] [(.int 1), (.int (fo3 (fh (fbl (fch ua))) (fh (fbl (fch ub))) (fh (fbl (fch uc)))))]))
    refine GoW.st (fun _ => XS.goto XJ692'.here hx rfl (pc0 := 174) (pc' := 178) rfl (hb hby at_174) (by decide) (by decide)) ?_
    show GoW _ _ _ _ _ _ _ _ _ (TJ692'.setTop (mkF m 178 #[.val (.long ua), .second, .val (.long ub), .second, .val (.long uc), .second, .val (.int tk), .val (.ref b1), .val (.int (fh (fch ua))), .val (.int (fh (fch ub))), .val (.int (fh (fch uc))), .val (.int 3), .val (.ref b526), .val (.int (fo3 (fh (fbl (fch ua))) (fh (fbl (fch ub))) (fh (fbl (fch uc))))), .val (.int (fo3 (0 : Int32) (0 : Int32) (0 : Int32))), .val (.int xe)] [(.int 1), (.int (fo3 (fh (fbl (fch ua))) (fh (fbl (fch ub))) (fh (fbl (fch uc)))))]))
    exact J693 TJ692' _ XJ692' eJ692' NJ692' (1 : Int32) (by simp [fo3, hc695])
  refine GoW.st (fun _ => XS.iload X670.here hx rfl (hb hby at_116) rfl) ?_
  refine GoW.st (fun _ => XS.iconst X670.here hx rfl (hb hby at_118)) ?_
  show GoW _ _ _ _ _ _ _ _ _ (T670.setTop (mkF m 119 #[.val (.long ua), .second, .val (.long ub), .second, .val (.long uc), .second, .val (.int tk), .val (.ref b1), .val (.int (fh (fch ua))), .val (.int (fh (fch ub))), .val (.int (fh (fch uc))), .val (.int 3), .val (.ref b526), .val (.int (fo3 (fh (fbl (fch ua))) (fh (fbl (fch ub))) (fh (fbl (fch uc))))), .val (.int (fo3 (0 : Int32) (0 : Int32) (0 : Int32))), .unset] [(.int 1), (.int 3)]))
  refine GoW.st (fun _ => XS.icmpYes X670.here hx rfl (pc0 := 119) (pc' := 127) rfl (hb hby at_119) rfl (XT.ii_ge_t (by decide)) (by decide) (by decide)) ?_
  refine GoW.st (fun _ => XS.iload X670.here hx rfl (hb hby at_127) rfl) ?_
  refine GoW.st (fun _ => XS.iconst X670.here hx rfl (hb hby at_129)) ?_
  show GoW _ _ _ _ _ _ _ _ _ (T670.setTop (mkF m 130 #[.val (.long ua), .second, .val (.long ub), .second, .val (.long uc), .second, .val (.int tk), .val (.ref b1), .val (.int (fh (fch ua))), .val (.int (fh (fch ub))), .val (.int (fh (fch uc))), .val (.int 3), .val (.ref b526), .val (.int (fo3 (fh (fbl (fch ua))) (fh (fbl (fch ub))) (fh (fbl (fch uc))))), .val (.int (fo3 (0 : Int32) (0 : Int32) (0 : Int32))), .unset] [(.int 2), (.int 3)]))
  refine GoW.st (fun _ => XS.icmpYes X670.here hx rfl (pc0 := 130) (pc' := 138) rfl (hb hby at_130) rfl (XT.ii_ge_t (by decide)) (by decide) (by decide)) ?_
  refine GoW.st (fun _ => XS.iload X670.here hx rfl (hb hby at_138) rfl) ?_
  refine GoW.st (fun _ => XS.iconst X670.here hx rfl (hb hby at_140)) ?_
  show GoW _ _ _ _ _ _ _ _ _ (T670.setTop (mkF m 141 #[.val (.long ua), .second, .val (.long ub), .second, .val (.long uc), .second, .val (.int tk), .val (.ref b1), .val (.int (fh (fch ua))), .val (.int (fh (fch ub))), .val (.int (fh (fch uc))), .val (.int 3), .val (.ref b526), .val (.int (fo3 (fh (fbl (fch ua))) (fh (fbl (fch ub))) (fh (fbl (fch uc))))), .val (.int (fo3 (0 : Int32) (0 : Int32) (0 : Int32))), .unset] [(.int 3), (.int 3)]))
  refine GoW.st (fun _ => XS.icmpYes X670.here hx rfl (pc0 := 141) (pc' := 153) rfl (hb hby at_141) rfl (XT.ii_ge_t (by decide)) (by decide) (by decide)) ?_
  refine GoW.st (fun _ => XS.iconst X670.here hx rfl (hb hby at_153)) ?_
  show GoW _ _ _ _ _ _ _ _ _ (T670.setTop (mkF m 154 #[.val (.long ua), .second, .val (.long ub), .second, .val (.long uc), .second, .val (.int tk), .val (.ref b1), .val (.int (fh (fch ua))), .val (.int (fh (fch ub))), .val (.int (fh (fch uc))), .val (.int 3), .val (.ref b526), .val (.int (fo3 (fh (fbl (fch ua))) (fh (fbl (fch ub))) (fh (fbl (fch uc))))), .val (.int (fo3 (0 : Int32) (0 : Int32) (0 : Int32))), .unset] [(.int 0)]))
  exact J692 T670 _ X670 rfl N670 (0 : Int32) (by simp [fo3, fo3])
set_option maxRecDepth 65536 in
set_option maxHeartbeats 40000000 in
theorem comes_1 {Post : Tables → Env → Array Value → State → Outcome → State → Prop} (hpost : ∀ tb e args s v u, (limb_1_1.after args s (.returned v) u = true ∧ limb_1_2.after args s (.returned v) u = true ∧ True) → ReturnedEndW s (.returned v) u (Jvm.fieldLocs frame_1_writes args s ++ Jvm.arrayLocs frame_1_arrays args s ++ Jvm.staticLocs frame_1_statics s) 48 3328 → Post tb e args s (.returned v) u) :
    ArmFor flags0 classFile x code maxLocals ret World_1 tables_1 room_1 Calls_1 rest_1 Pre_1 Post := by
  intro l hfl _ _ p e ha hc hk s m args below hf hA hF happ hP
  obtain ⟨hcalls, hrest, hpre⟩ := hP
  obtain ⟨-, -, -, hnamed, -, -, -, hat⟩ := (Spec.applies_iff hf).mp happ
  obtain ⟨hg, hn⟩ := and_e (Cond.before_iff.mp (show (Jvm.Cond.and given_1 narrow_1).before args s = true from hpre))
  obtain ⟨hcnt, hg0⟩ := and_e hg
  obtain ⟨ha0, hg1⟩ := and_e hg0
  obtain ⟨ha1, hg2⟩ := and_e hg1
  obtain ⟨ha2, hg3⟩ := and_e hg2
  have ha3 := hg3
  obtain ⟨w0, w1, w2, w3, rfl⟩ : ∃ w0 w1 w2 w3 : Value, args = #[w0, w1, w2, w3] := by
    have hs : args.size = 4 := by simpa [Cond.value, given_1] using hcnt
    obtain ⟨L⟩ := args
    match L, hs with
    | [w0, w1, w2, w3], _ => exact ⟨w0, w1, w2, w3, rfl⟩
  have hw := fun d (hd : d ∈ tables_1) => atoms_spec (ws := Jvm.Cond.code x code maxLocals ret :: tables_1) hat d (List.mem_cons_of_mem _ hd)
  have hfit : Fit s := fun {y c} hc i hi => by
    obtain ⟨ha, rfl⟩ := Array.getElem?_eq_some_iff.mp hc
    have q := List.all_eq_true.mp ((Array.all_eq_true_iff_forall_mem.mp hF) _ (Array.getElem_mem ha)) i (List.mem_range.mpr hi)
    simpa [Array.getElem?_eq_getElem hi] using q
  obtain ⟨hsets, hown0⟩ := atoms_of _ (rest_1_c_eq ▸ (show rest_1_c.before _ s = true from hrest))
  have hr0 := Cond.before_iff.mp hown0
  obtain ⟨i0, ei0⟩ := isL_v ha0
  obtain rfl : w0 = (.long i0) := Option.some.inj ei0
  obtain ⟨i1, ei1⟩ := isL_v ha1
  obtain rfl : w1 = (.long i1) := Option.some.inj ei1
  obtain ⟨i2, ei2⟩ := isL_v ha2
  obtain rfl : w2 = (.long i2) := Option.some.inj ei2
  obtain ⟨i3, ei3⟩ := is_v ha3
  obtain rfl : w3 = (.int i3) := Option.some.inj ei3
  obtain ⟨cs, S_cs, q_cs⟩ := own_cs (Cond.before_iff.mp (hsets _ (List.mem_of_getElem? (i := 1) rfl))) (Cond.before_iff.mp (hsets _ (List.mem_of_getElem? (i := 2) rfl))) (hsets _ (List.mem_of_getElem? (i := 0) rfl))
  obtain ⟨vf, S_sf, q_sf⟩ := own_rf (Cond.before_iff.mp (hsets _ (List.mem_of_getElem? (i := 8) rfl))) (hsets _ (List.mem_of_getElem? (i := 7) rfl))
  have hCH0 : CHv s EL s.vm s.heap := CHv.start (own_EW hw) (fun q hq => hcalls.1 q ((by decide +kernel : ∀ z ∈ EL, z ∈ consts_1) q hq)) (hsets _ (List.mem_of_getElem? (i := 2) rfl)) (hw _ (List.mem_of_getElem? (i := 28) rfl)) (hw _ (List.mem_of_getElem? (i := 10) rfl))
  obtain ⟨n, o, h1, h2, h3, _, L, rfl, ⟨rfl, N, -⟩, -, hq⟩ := rm0 l s _ hw tables_1 i0 i1 i2 i3 cs vf s.heap s.heap.size (Old.start s) S_cs q_cs S_sf q_sf p e ha hc hk s m _ below hf ((Spec.applies_iff_loose hf).mp happ).1 ⟨rfl, State.Warmed39.refl s, rfl, hCH0, all0⟩ trivial
  refine ⟨n, _, h1, h2, h3, hpost _ _ _ _ _ _ ⟨Cond.after_iff.mpr rfl, Cond.after_iff.mpr (eq_i res_at (Term.int_eval (1)) rfl), trivial⟩ ⟨hq.1, hq.2.1, hq.2.2.1, (hq.2.2.2.sift fun y hy => Or.inr (N y hy)).mono (by decide) (by decide)⟩⟩
theorem main_1_1 : Claimed_1_1 := comes_1 fun _ _ _ _ _ _ h hF => ⟨h.1, hF⟩
theorem main_1_2 : Claimed_1_2 := comes_1 fun _ _ _ _ _ _ h hF => ⟨h.2.1, hF⟩
end Jvm.Pilot.@@N@@
namespace Jvm.Pilot.@@N@@
open Jvm Jvm.ClassFile Sem Op Lib Jvm.Free Jvm.Stand Jvm.Pilot.@@N@@.Jvm.D
/-! MADE BY PROGRAM (witnessworld.py) out of the Statement's table words and the real class files: 30 classes; the members and pool entries that the words name. The judged class is class 1, her method 4. -/
namespace start1
open Jvm.ClassFile
def u (s : String) : CpInfo := .utf8 (stringToUtf16 s)
/-- a pool by its gaps: so many unusable entries, then the entry; so many at the end -/
def gap : Nat → List CpInfo → List CpInfo
  | 0, r => r
  | n + 1, r => .unusable :: gap n r
def poolList (es : List (Nat × CpInfo)) (last : Nat) : List CpInfo := es.foldr (fun e r => gap e.1 (e.2 :: r)) (gap last [])
def pool (es : List (Nat × CpInfo)) (last : Nat) : Array CpInfo := ⟨poolList es last⟩
def fileOf (pool : Array CpInfo) (this : Nat) (attrs : Array Attribute := #[]) (ms : Array MethodInfo := #[]) (fl : Nat := 33) (sup : Nat := 0) (ifs : Array Nat := #[]) (fds : Array FieldInfo := #[]) : ClassFile where
  minorVersion := 0
  majorVersion := 65
  constantPool := pool
  accessFlags := fl
  thisClass := this
  superClass := sup
  interfaces := ifs
  fields := fds
  methods := ms
  attributes := attrs
def plain (name : String) (sup : Option ClassId) : Class where
  name := name
  kind := .ordinary
  loader := none
  accessFlags := 33
  super := sup
  interfaces := #[]
  cf := none
  fields := #[]
  methods := #[]
  instanceTypes := #[]
  staticTypes := #[]
  resolved := #[]
  callSites := []
  init := .initialized
  statics := none
  mirror := none

def pool0 : Array CpInfo := pool [(5, u "<init>"), (0, u "()V"), (1, .class_ 10), (1, u "java/lang/Object"), (85, u "clone"), (0, u "()Ljava/lang/Object;")] 26

def k0c0 : Code := { maxStack := 0, maxLocals := 1, code := object_method_1_code, exceptionTable := #[], attributes := #[] }
def k0m0 : Method := { name := "<init>", desc := "()V", sig := { parameters := [], returnType := none }, accessFlags := 1, code := some k0c0 }
def k0m1 : Method := { name := "clone", desc := "()Ljava/lang/Object;", sig := { parameters := [], returnType := some (.object "java/lang/Object") }, accessFlags := 260, code := none }
/-- java/lang/Object -/
def k0 : Class := { plain "java/lang/Object" none with
  accessFlags := 33
  interfaces := #[]
  cf := some (fileOf pool0 8 #[] #[{ accessFlags := 1, nameIndex := 5, descriptorIndex := 6, attributes := #[] }, { accessFlags := 260, nameIndex := 96, descriptorIndex := 97, attributes := #[] }] 33 0 #[] #[])
  fields := #[]
  methods := #[k0m0, k0m1]
  instanceTypes := #[]
  staticTypes := #[]
  resolved := Array.replicate 124 none
  statics := none }

def pool1 : Array CpInfo := pool [(2, .class_ 4), (1, u "java/lang/Object"), (0, u "<init>"), (0, u "()V"), (0, .long 255), (1, .long 7), (1, .long 2147483647), (1, .long 6), (1, .class_ 16), (0, u "java/lang/String"), (0, .methodref 15 18), (0, .nameAndType 5 19), (0, u "([C)V"), (0, .methodref 15 21), (0, .nameAndType 22 23), (0, u "valueOf"), (0, u "(C)Ljava/lang/String;"), (0, .methodref 25 26), (0, .class_ 27), (0, .nameAndType 28 29), (0, u "com/example/reportwire/reportwire/ArgumentsAsksForHelpPinLaw"), (0, u "ch"), (0, u "(JI)C"), (0, .string 31), (0, u "--help"), (0, .methodref 15 33), (0, .nameAndType 34 35), (0, u "charAt"), (0, u "(I)C"), (0, .methodref 25 37), (0, .nameAndType 38 39), (0, u "makeArg"), (0, u "(J)Ljava/lang/String;"), (0, .methodref 25 41), (0, .nameAndType 42 43), (0, u "isHelp"), (0, u "(J)Z"), (0, .integer 2147483647), (0, .class_ 46), (0, u "com/example/reportwire/reportwire/Arguments"), (0, .methodref 45 48), (0, .nameAndType 5 49), (0, u "([Ljava/lang/String;)V"), (0, .methodref 45 51), (0, .nameAndType 52 53), (0, u "asksForHelp"), (0, u "()Z"), (0, .methodref 45 55), (0, .nameAndType 56 57), (0, u "next"), (0, u "()Ljava/lang/String;"), (0, .methodref 45 59), (0, .nameAndType 60 53), (0, u "hasNext"), (3, u "law"), (0, u "(JJJI)Z")] 4

def k1m0 : Method := { name := "<init>", desc := "()V", sig := { parameters := [], returnType := none }, accessFlags := 2, code := none }
def k1c1 : Code := { maxStack := 5, maxLocals := 3, code := method_2_code, exceptionTable := #[], attributes := #[] }
def k1m1 : Method := { name := "ch", desc := "(JI)C", sig := { parameters := [.long, .int], returnType := some .char }, accessFlags := 10, code := some k1c1 }
def k1c2 : Code := { maxStack := 8, maxLocals := 6, code := method_3_code, exceptionTable := #[], attributes := #[] }
def k1m2 : Method := { name := "makeArg", desc := "(J)Ljava/lang/String;", sig := { parameters := [.long], returnType := some (.object "java/lang/String") }, accessFlags := 10, code := some k1c2 }
def k1c3 : Code := { maxStack := 4, maxLocals := 5, code := method_4_code, exceptionTable := #[], attributes := #[] }
def k1m3 : Method := { name := "isHelp", desc := "(J)Z", sig := { parameters := [.long], returnType := some .boolean }, accessFlags := 10, code := some k1c3 }
def k1c4 : Code := { maxStack := 5, maxLocals := 16, code := code, exceptionTable := #[], attributes := #[] }
def k1m4 : Method := { name := "law", desc := "(JJJI)Z", sig := { parameters := [.long, .long, .long, .int], returnType := some .boolean }, accessFlags := 9, code := some k1c4 }
/-- com/example/reportwire/reportwire/ArgumentsAsksForHelpPinLaw -/
def k1 : Class := { plain "com/example/reportwire/reportwire/ArgumentsAsksForHelpPinLaw" (some 0) with
  accessFlags := 49
  interfaces := #[]
  cf := some (fileOf pool1 25 #[] #[{ accessFlags := 2, nameIndex := 5, descriptorIndex := 6, attributes := #[] }, { accessFlags := 10, nameIndex := 28, descriptorIndex := 29, attributes := #[] }, { accessFlags := 10, nameIndex := 38, descriptorIndex := 39, attributes := #[] }, { accessFlags := 10, nameIndex := 42, descriptorIndex := 43, attributes := #[] }, { accessFlags := 9, nameIndex := 64, descriptorIndex := 65, attributes := #[] }] 49 2 #[] #[])
  fields := #[]
  methods := #[k1m0, k1m1, k1m2, k1m3, k1m4]
  instanceTypes := #[]
  staticTypes := #[]
  resolved := Array.replicate 70 none
  statics := none }

def pool2 : Array CpInfo := pool [(1, .class_ 2), (0, u "java/io/Serializable"), (0, .class_ 4), (0, u "java/lang/Object")] 2

/-- java/io/Serializable -/
def k2 : Class := { plain "java/io/Serializable" (some 0) with
  accessFlags := 1537
  interfaces := #[]
  cf := some (fileOf pool2 1 #[] #[] 1537 3 #[] #[])
  fields := #[]
  methods := #[]
  instanceTypes := #[]
  staticTypes := #[]
  resolved := Array.replicate 7 none
  statics := none }

def pool3 : Array CpInfo := pool [(1, .class_ 2), (0, u "java/lang/Comparable"), (0, .class_ 4), (0, u "java/lang/Object")] 7

/-- java/lang/Comparable -/
def k3 : Class := { plain "java/lang/Comparable" (some 0) with
  accessFlags := 1537
  interfaces := #[]
  cf := some (fileOf pool3 1 #[] #[] 1537 3 #[] #[])
  fields := #[]
  methods := #[]
  instanceTypes := #[]
  staticTypes := #[]
  resolved := Array.replicate 12 none
  statics := none }

def pool4 : Array CpInfo := pool [(2, .class_ 4), (1, u "java/lang/CharSequence"), (42, .class_ 48), (0, u "java/lang/CharSequence$1CodePointIterator"), (10, .class_ 60), (0, u "java/lang/CharSequence$1CharIterator"), (5, .class_ 67), (0, u "java/lang/Object")] 63

/-- java/lang/CharSequence -/
def k4 : Class := { plain "java/lang/CharSequence" (some 0) with
  accessFlags := 1537
  interfaces := #[]
  cf := some (fileOf pool4 2 #[.nestMembers #[47, 59]] #[] 1537 66 #[] #[])
  fields := #[]
  methods := #[]
  instanceTypes := #[]
  staticTypes := #[]
  resolved := Array.replicate 131 none
  statics := none }

def pool5 : Array CpInfo := pool [(1, .class_ 2), (0, u "java/lang/constant/Constable"), (0, .class_ 4), (0, u "java/lang/Object")] 6

/-- java/lang/constant/Constable -/
def k5 : Class := { plain "java/lang/constant/Constable" (some 0) with
  accessFlags := 1537
  interfaces := #[]
  cf := some (fileOf pool5 1 #[] #[] 1537 3 #[] #[])
  fields := #[]
  methods := #[]
  instanceTypes := #[]
  staticTypes := #[]
  resolved := Array.replicate 11 none
  statics := none }

def pool6 : Array CpInfo := pool [(1, .class_ 2), (0, u "java/lang/constant/ConstantDesc"), (0, .class_ 4), (0, u "java/lang/Object")] 32

/-- java/lang/constant/ConstantDesc -/
def k6 : Class := { plain "java/lang/constant/ConstantDesc" (some 0) with
  accessFlags := 1537
  interfaces := #[]
  cf := some (fileOf pool6 1 #[] #[] 1537 3 #[] #[])
  fields := #[]
  methods := #[]
  instanceTypes := #[]
  staticTypes := #[]
  resolved := Array.replicate 37 none
  statics := none }

def pool7 : Array CpInfo := pool [(1, .methodref 2 3), (0, .class_ 4), (0, .nameAndType 5 6), (0, u "java/lang/Object"), (0, u "<init>"), (0, u "()V"), (0, .string 8), (0, u ""), (0, .fieldref 10 11), (0, .class_ 12), (0, .nameAndType 13 14), (0, u "java/lang/String"), (0, u "value"), (0, u "[B"), (0, .fieldref 10 16), (0, .nameAndType 17 18), (0, u "coder"), (0, u "B"), (2, u "hash"), (0, u "I"), (2, u "hashIsZero"), (0, u "Z"), (0, .methodref 10 28), (0, .nameAndType 5 29), (0, u "([CIILjava/lang/Void;)V"), (8, .fieldref 10 39), (0, .nameAndType 40 26), (0, u "COMPACT_STRINGS"), (1, .class_ 44), (1, u "java/lang/StringUTF16"), (0, u "compress"), (1, .methodref 42 48), (0, .nameAndType 49 50), (0, u "coderFromArrayLen"), (0, u "([BI)B"), (2, u "toBytes"), (53, .class_ 109), (1, u "java/lang/StringLatin1"), (32, u "()Z"), (34, .methodref 42 178), (0, .nameAndType 45 179), (0, u "([CII)[B"), (29, .methodref 10 210), (0, .nameAndType 5 211), (0, u "([BB)V"), (151, u "([BI)C"), (5, u "(C)Z"), (21, u "(II)V"), (35, u "(I)C"), (64, .methodref 10 493), (0, .nameAndType 494 142), (0, u "isLatin1"), (0, .methodref 107 496), (0, .nameAndType 497 363), (0, u "charAt"), (3, u "checkIndex"), (39, .methodref 107 542), (0, .nameAndType 543 544), (0, u "equals"), (0, u "([B[B)Z"), (28, u "(Ljava/lang/Object;)Z"), (1, .class_ 576), (0, u "java/lang/CharSequence"), (22, u "CASE_INSENSITIVE_ORDER"), (0, u "Ljava/util/Comparator;"), (181, u "valueOf"), (0, u "(C)Ljava/lang/String;"), (226, u "([C)V"), (4, .methodref 107 1016), (0, .nameAndType 1017 369), (0, u "canEncode"), (0, .methodref 107 1019), (0, .nameAndType 53 1020), (0, u "(C)[B"), (32, .fieldref 1054 1055), (0, .class_ 1056), (0, .nameAndType 1057 1058), (0, u "jdk/internal/util/Preconditions"), (0, u "SIOOBE_FORMATTER"), (0, u "Ljava/util/function/BiFunction;"), (0, .methodref 1054 1060), (0, .nameAndType 501 1061), (0, u "(IILjava/util/function/BiFunction;)I"), (39, u "serialPersistentFields"), (0, u "[Ljava/io/ObjectStreamField;"), (0, .class_ 1104), (0, u "java/lang/String$CaseInsensitiveComparator"), (1, .class_ 1107), (0, u "java/io/Serializable"), (0, .class_ 1109), (0, u "java/lang/Comparable"), (0, .class_ 1111), (0, u "java/lang/constant/Constable"), (0, .class_ 1113), (0, u "java/lang/constant/ConstantDesc"), (2, u "serialVersionUID"), (0, u "J"), (3, u "REPL"), (0, u "C"), (2, u "LATIN1"), (1, u "UTF16")] 323

def k7m0 : Method := { name := "<init>", desc := "()V", sig := { parameters := [], returnType := none }, accessFlags := 1, code := none }
def k7c1 : Code := { maxStack := 5, maxLocals := 2, code := jdk_42_method_3_code, exceptionTable := #[], attributes := #[] }
def k7m1 : Method := { name := "<init>", desc := "([C)V", sig := { parameters := [(.array .char)], returnType := none }, accessFlags := 1, code := some k7c1 }
def k7c2 : Code := { maxStack := 2, maxLocals := 2, code := jdk_42_method_56_code, exceptionTable := #[], attributes := #[] }
def k7m2 : Method := { name := "charAt", desc := "(I)C", sig := { parameters := [.int], returnType := some .char }, accessFlags := 1, code := some k7c2 }
def k7c3 : Code := { maxStack := 2, maxLocals := 3, code := jdk_42_method_66_code, exceptionTable := #[], attributes := #[] }
def k7m3 : Method := { name := "equals", desc := "(Ljava/lang/Object;)Z", sig := { parameters := [(.object "java/lang/Object")], returnType := some .boolean }, accessFlags := 1, code := some k7c3 }
def k7c4 : Code := { maxStack := 4, maxLocals := 1, code := jdk_42_method_139_code, exceptionTable := #[], attributes := #[] }
def k7m4 : Method := { name := "valueOf", desc := "(C)Ljava/lang/String;", sig := { parameters := [.char], returnType := some (.object "java/lang/String") }, accessFlags := 9, code := some k7c4 }
def k7c5 : Code := { maxStack := 4, maxLocals := 6, code := jdk_42_method_149_code, exceptionTable := #[], attributes := #[] }
def k7m5 : Method := { name := "<init>", desc := "([CIILjava/lang/Void;)V", sig := { parameters := [(.array .char), .int, .int, (.object "java/lang/Void")], returnType := none }, accessFlags := 2, code := some k7c5 }
def k7c6 : Code := { maxStack := 2, maxLocals := 3, code := jdk_42_method_151_code, exceptionTable := #[], attributes := #[] }
def k7m6 : Method := { name := "<init>", desc := "([BB)V", sig := { parameters := [(.array .byte), .byte], returnType := none }, accessFlags := 0, code := some k7c6 }
def k7c7 : Code := { maxStack := 1, maxLocals := 1, code := jdk_42_method_154_code, exceptionTable := #[], attributes := #[] }
def k7m7 : Method := { name := "isLatin1", desc := "()Z", sig := { parameters := [], returnType := some .boolean }, accessFlags := 0, code := some k7c7 }
def k7c8 : Code := { maxStack := 3, maxLocals := 2, code := jdk_42_method_155_code, exceptionTable := #[], attributes := #[] }
def k7m8 : Method := { name := "checkIndex", desc := "(II)V", sig := { parameters := [.int, .int], returnType := none }, accessFlags := 8, code := some k7c8 }
/-- java/lang/String -/
def k7 : Class := { plain "java/lang/String" (some 0) with
  accessFlags := 49
  interfaces := #[2, 3, 4, 5, 6]
  cf := some (fileOf pool7 10 #[.nestMembers #[1103]] #[{ accessFlags := 1, nameIndex := 5, descriptorIndex := 6, attributes := #[] }, { accessFlags := 1, nameIndex := 5, descriptorIndex := 1010, attributes := #[] }, { accessFlags := 1, nameIndex := 497, descriptorIndex := 427, attributes := #[] }, { accessFlags := 1, nameIndex := 543, descriptorIndex := 573, attributes := #[] }, { accessFlags := 9, nameIndex := 782, descriptorIndex := 783, attributes := #[] }, { accessFlags := 2, nameIndex := 5, descriptorIndex := 29, attributes := #[] }, { accessFlags := 0, nameIndex := 5, descriptorIndex := 211, attributes := #[] }, { accessFlags := 0, nameIndex := 494, descriptorIndex := 142, attributes := #[] }, { accessFlags := 8, nameIndex := 501, descriptorIndex := 391, attributes := #[] }] 49 2 #[1106, 1108, 575, 1110, 1112] #[{ accessFlags := 18, nameIndex := 13, descriptorIndex := 14, attributes := #[] }, { accessFlags := 18, nameIndex := 17, descriptorIndex := 18, attributes := #[] }, { accessFlags := 2, nameIndex := 21, descriptorIndex := 22, attributes := #[] }, { accessFlags := 2, nameIndex := 25, descriptorIndex := 26, attributes := #[] }, { accessFlags := 26, nameIndex := 1116, descriptorIndex := 1117, attributes := #[] }, { accessFlags := 24, nameIndex := 40, descriptorIndex := 26, attributes := #[] }, { accessFlags := 26, nameIndex := 1101, descriptorIndex := 1102, attributes := #[] }, { accessFlags := 26, nameIndex := 1121, descriptorIndex := 1122, attributes := #[] }, { accessFlags := 25, nameIndex := 599, descriptorIndex := 600, attributes := #[] }, { accessFlags := 24, nameIndex := 1125, descriptorIndex := 18, attributes := #[] }, { accessFlags := 24, nameIndex := 1127, descriptorIndex := 18, attributes := #[] }])
  fields := #[{ name := "value", type := (.array .byte), accessFlags := 18, slot := 0, constantValue := 0 }, { name := "coder", type := .byte, accessFlags := 18, slot := 1, constantValue := 0 }, { name := "hash", type := .int, accessFlags := 2, slot := 2, constantValue := 0 }, { name := "hashIsZero", type := .boolean, accessFlags := 2, slot := 3, constantValue := 0 }, { name := "serialVersionUID", type := .long, accessFlags := 26, slot := 0, constantValue := 0 }, { name := "COMPACT_STRINGS", type := .boolean, accessFlags := 24, slot := 1, constantValue := 0 }, { name := "serialPersistentFields", type := (.array (.object "java/io/ObjectStreamField")), accessFlags := 26, slot := 2, constantValue := 0 }, { name := "REPL", type := .char, accessFlags := 26, slot := 3, constantValue := 0 }, { name := "CASE_INSENSITIVE_ORDER", type := (.object "java/util/Comparator"), accessFlags := 25, slot := 4, constantValue := 0 }, { name := "LATIN1", type := .byte, accessFlags := 24, slot := 5, constantValue := 0 }, { name := "UTF16", type := .byte, accessFlags := 24, slot := 6, constantValue := 0 }]
  methods := #[k7m0, k7m1, k7m2, k7m3, k7m4, k7m5, k7m6, k7m7, k7m8]
  instanceTypes := #[(.array .byte), .byte, .int, .boolean]
  staticTypes := #[.long, .boolean, (.array (.object "java/io/ObjectStreamField")), .char, (.object "java/util/Comparator"), .byte, .byte]
  resolved := Array.replicate 1451 none
  statics := some 0 }

def pool8 : Array CpInfo := pool [(6, .class_ 8), (1, u "java/lang/Object"), (0, u "<init>"), (0, u "()V"), (1, .class_ 14), (1, u "java/lang/StringUTF16"), (31, u "$assertionsDisabled"), (0, u "Z"), (13, u "HI_BYTE_SHIFT"), (0, u "I"), (2, u "LO_BYTE_SHIFT"), (49, .methodref 12 116), (0, .nameAndType 117 118), (0, u "compress"), (0, u "([CI[BII)I"), (3, u "([CII)[B"), (138, u "coderFromArrayLen"), (0, u "([BI)B"), (106, .class_ 371), (1, u "java/lang/StringUTF16$LinesSpliterator"), (58, u "MAX_LENGTH"), (196, .class_ 628), (0, u "java/lang/StringUTF16$CodePointsSpliterator"), (0, .class_ 630), (0, u "java/lang/StringUTF16$CharsSpliterator")] 4

def k8m0 : Method := { name := "<init>", desc := "()V", sig := { parameters := [], returnType := none }, accessFlags := 0, code := none }
def k8c1 : Code := { maxStack := 2, maxLocals := 2, code := jdk_52_method_15_code, exceptionTable := #[], attributes := #[] }
def k8m1 : Method := { name := "coderFromArrayLen", desc := "([BI)B", sig := { parameters := [(.array .byte), .int], returnType := some .byte }, accessFlags := 8, code := some k8c1 }
def k8c2 : Code := { maxStack := 5, maxLocals := 6, code := jdk_52_method_16_code, exceptionTable := #[], attributes := #[] }
def k8m2 : Method := { name := "compress", desc := "([CII)[B", sig := { parameters := [(.array .char), .int, .int], returnType := some (.array .byte) }, accessFlags := 9, code := some k8c2 }
def k8c3 : Code := { maxStack := 3, maxLocals := 7, code := jdk_52_method_21_code, exceptionTable := #[], attributes := #[] }
def k8m3 : Method := { name := "compress", desc := "([CI[BII)I", sig := { parameters := [(.array .char), .int, (.array .byte), .int, .int], returnType := some .int }, accessFlags := 9, code := some k8c3 }
/-- java/lang/StringUTF16 -/
def k8 : Class := { plain "java/lang/StringUTF16" (some 0) with
  accessFlags := 48
  interfaces := #[]
  cf := some (fileOf pool8 12 #[.nestMembers #[627, 629, 369]] #[{ accessFlags := 0, nameIndex := 9, descriptorIndex := 10, attributes := #[] }, { accessFlags := 8, nameIndex := 261, descriptorIndex := 262, attributes := #[] }, { accessFlags := 9, nameIndex := 117, descriptorIndex := 122, attributes := #[] }, { accessFlags := 9, nameIndex := 117, descriptorIndex := 118, attributes := #[] }] 48 6 #[] #[{ accessFlags := 26, nameIndex := 61, descriptorIndex := 62, attributes := #[] }, { accessFlags := 26, nameIndex := 65, descriptorIndex := 62, attributes := #[] }, { accessFlags := 24, nameIndex := 430, descriptorIndex := 62, attributes := #[] }, { accessFlags := 4120, nameIndex := 46, descriptorIndex := 47, attributes := #[] }])
  fields := #[{ name := "HI_BYTE_SHIFT", type := .int, accessFlags := 26, slot := 0, constantValue := 0 }, { name := "LO_BYTE_SHIFT", type := .int, accessFlags := 26, slot := 1, constantValue := 0 }, { name := "MAX_LENGTH", type := .int, accessFlags := 24, slot := 2, constantValue := 0 }, { name := "$assertionsDisabled", type := .boolean, accessFlags := 4120, slot := 3, constantValue := 0 }]
  methods := #[k8m0, k8m1, k8m2, k8m3]
  instanceTypes := #[]
  staticTypes := #[.int, .int, .int, .boolean]
  resolved := Array.replicate 635 none
  statics := none }

def pool9 : Array CpInfo := pool [(1, .class_ 2), (0, u "java/lang/String"), (1, .class_ 6), (1, u "java/lang/Object"), (0, u "<init>"), (0, u "()V"), (0, .methodref 1 10), (0, .nameAndType 11 12), (0, u "checkIndex"), (0, u "(II)V"), (1, .class_ 16), (1, u "java/lang/StringLatin1"), (36, u "([BI)C"), (36, u "canEncode"), (14, u "(C)Z"), (15, u "$assertionsDisabled"), (0, u "Z"), (98, .class_ 223), (1, u "java/lang/StringLatin1$LinesSpliterator"), (28, u "charAt"), (28, u "equals"), (0, u "([B[B)Z"), (97, u "toBytes"), (1, u "(C)[B"), (7, .class_ 391), (0, u "java/lang/StringLatin1$CharsSpliterator")] 3

def k9m0 : Method := { name := "<init>", desc := "()V", sig := { parameters := [], returnType := none }, accessFlags := 0, code := none }
def k9c1 : Code := { maxStack := 2, maxLocals := 2, code := jdk_43_method_2_code, exceptionTable := #[], attributes := #[] }
def k9m1 : Method := { name := "charAt", desc := "([BI)C", sig := { parameters := [(.array .byte), .int], returnType := some .char }, accessFlags := 9, code := some k9c1 }
def k9c2 : Code := { maxStack := 2, maxLocals := 1, code := jdk_43_method_3_code, exceptionTable := #[], attributes := #[] }
def k9m2 : Method := { name := "canEncode", desc := "(C)Z", sig := { parameters := [.char], returnType := some .boolean }, accessFlags := 9, code := some k9c2 }
def k9c3 : Code := { maxStack := 3, maxLocals := 3, code := jdk_43_method_13_code, exceptionTable := #[], attributes := #[] }
def k9m3 : Method := { name := "equals", desc := "([B[B)Z", sig := { parameters := [(.array .byte), (.array .byte)], returnType := some .boolean }, accessFlags := 9, code := some k9c3 }
def k9c4 : Code := { maxStack := 4, maxLocals := 1, code := jdk_43_method_46_code, exceptionTable := #[], attributes := #[] }
def k9m4 : Method := { name := "toBytes", desc := "(C)[B", sig := { parameters := [.char], returnType := some (.array .byte) }, accessFlags := 9, code := some k9c4 }
/-- java/lang/StringLatin1 -/
def k9 : Class := { plain "java/lang/StringLatin1" (some 0) with
  accessFlags := 48
  interfaces := #[]
  cf := some (fileOf pool9 14 #[.nestMembers #[390, 221]] #[{ accessFlags := 0, nameIndex := 7, descriptorIndex := 8, attributes := #[] }, { accessFlags := 9, nameIndex := 252, descriptorIndex := 53, attributes := #[] }, { accessFlags := 9, nameIndex := 90, descriptorIndex := 105, attributes := #[] }, { accessFlags := 9, nameIndex := 281, descriptorIndex := 282, attributes := #[] }, { accessFlags := 9, nameIndex := 380, descriptorIndex := 382, attributes := #[] }] 48 4 #[] #[{ accessFlags := 4120, nameIndex := 121, descriptorIndex := 122, attributes := #[] }])
  fields := #[{ name := "$assertionsDisabled", type := .boolean, accessFlags := 4120, slot := 0, constantValue := 0 }]
  methods := #[k9m0, k9m1, k9m2, k9m3, k9m4]
  instanceTypes := #[]
  staticTypes := #[.boolean]
  resolved := Array.replicate 395 none
  statics := none }

def pool10 : Array CpInfo := pool [(2, .class_ 4), (1, u "java/lang/Object"), (0, u "<init>"), (0, u "()V"), (17, .class_ 26), (1, u "jdk/internal/util/Preconditions"), (6, u "checkIndex"), (21, .class_ 56), (0, u "jdk/internal/util/Preconditions$4"), (57, .class_ 115), (0, u "jdk/internal/util/Preconditions$1"), (7, u "SIOOBE_FORMATTER"), (0, u "Ljava/util/function/BiFunction;"), (0, .class_ 126), (0, u "jdk/internal/util/Preconditions$2"), (3, u "AIOOBE_FORMATTER"), (0, .class_ 132), (0, u "jdk/internal/util/Preconditions$3"), (3, u "IOOBE_FORMATTER"), (41, u "(IILjava/util/function/BiFunction;)I")] 15

def k10m0 : Method := { name := "<init>", desc := "()V", sig := { parameters := [], returnType := none }, accessFlags := 1, code := none }
def k10c1 : Code := { maxStack := 3, maxLocals := 3, code := jdk_41_method_11_code, exceptionTable := #[], attributes := #[] }
def k10m1 : Method := { name := "checkIndex", desc := "(IILjava/util/function/BiFunction;)I", sig := { parameters := [.int, .int, (.object "java/util/function/BiFunction")], returnType := some .int }, accessFlags := 9, code := some k10c1 }
/-- jdk/internal/util/Preconditions -/
def k10 : Class := { plain "jdk/internal/util/Preconditions" (some 0) with
  accessFlags := 33
  interfaces := #[]
  cf := some (fileOf pool10 24 #[.nestMembers #[55, 131, 125, 114]] #[{ accessFlags := 1, nameIndex := 5, descriptorIndex := 6, attributes := #[] }, { accessFlags := 9, nameIndex := 33, descriptorIndex := 178, attributes := #[] }] 33 2 #[] #[{ accessFlags := 25, nameIndex := 123, descriptorIndex := 124, attributes := #[] }, { accessFlags := 25, nameIndex := 130, descriptorIndex := 124, attributes := #[] }, { accessFlags := 25, nameIndex := 136, descriptorIndex := 124, attributes := #[] }])
  fields := #[{ name := "SIOOBE_FORMATTER", type := (.object "java/util/function/BiFunction"), accessFlags := 25, slot := 0, constantValue := 0 }, { name := "AIOOBE_FORMATTER", type := (.object "java/util/function/BiFunction"), accessFlags := 25, slot := 1, constantValue := 0 }, { name := "IOOBE_FORMATTER", type := (.object "java/util/function/BiFunction"), accessFlags := 25, slot := 2, constantValue := 0 }]
  methods := #[k10m0, k10m1]
  instanceTypes := #[]
  staticTypes := #[(.object "java/util/function/BiFunction"), (.object "java/util/function/BiFunction"), (.object "java/util/function/BiFunction")]
  resolved := Array.replicate 194 none
  statics := some 1 }

def pool11 : Array CpInfo := pool [(1, .methodref 2 3), (0, .class_ 4), (0, .nameAndType 5 6), (0, u "java/lang/Object"), (0, u "<init>"), (0, u "()V"), (0, .class_ 8), (0, u "java/util/HashSet"), (0, .methodref 7 3), (0, .fieldref 11 12), (0, .class_ 13), (0, .nameAndType 14 15), (0, u "com/example/reportwire/reportwire/Arguments"), (0, u "optionsGiven"), (0, u "Ljava/util/Set;"), (0, .methodref 17 18), (0, .class_ 19), (0, .nameAndType 20 21), (0, u "[Ljava/lang/String;"), (0, u "clone"), (0, u "()Ljava/lang/Object;"), (0, .fieldref 11 23), (0, .nameAndType 24 19), (0, u "args"), (2, u "command"), (0, u "Ljava/lang/String;"), (4, u "()Ljava/lang/String;"), (1, .class_ 37), (1, u "java/lang/String"), (22, .fieldref 11 61), (0, .nameAndType 62 63), (0, u "next"), (0, u "I"), (0, .string 65), (0, u "--help"), (0, .methodref 35 67), (0, .nameAndType 68 69), (0, u "equals"), (0, u "(Ljava/lang/Object;)Z"), (0, .methodref 11 71), (0, .nameAndType 72 73), (0, u "hasNext"), (0, u "()Z"), (2, .methodref 11 77), (0, .nameAndType 78 33), (0, u "peek"), (301, u "HELP_OPTION"), (1, u "DATE_TIME_FORM"), (2, u "([Ljava/lang/String;)V"), (6, u "asksForHelp")] 127

def k11c0 : Code := { maxStack := 3, maxLocals := 2, code := prog_7_method_1_code, exceptionTable := #[], attributes := #[] }
def k11m0 : Method := { name := "<init>", desc := "([Ljava/lang/String;)V", sig := { parameters := [(.array (.object "java/lang/String"))], returnType := none }, accessFlags := 128, code := some k11c0 }
def k11c1 : Code := { maxStack := 2, maxLocals := 1, code := prog_7_method_7_code, exceptionTable := #[], attributes := #[] }
def k11m1 : Method := { name := "hasNext", desc := "()Z", sig := { parameters := [], returnType := some .boolean }, accessFlags := 0, code := some k11c1 }
def k11c2 : Code := { maxStack := 2, maxLocals := 2, code := prog_7_method_8_code, exceptionTable := #[], attributes := #[] }
def k11m2 : Method := { name := "asksForHelp", desc := "()Z", sig := { parameters := [], returnType := some .boolean }, accessFlags := 0, code := some k11c2 }
def k11c3 : Code := { maxStack := 3, maxLocals := 1, code := prog_7_method_9_code, exceptionTable := #[], attributes := #[] }
def k11m3 : Method := { name := "peek", desc := "()Ljava/lang/String;", sig := { parameters := [], returnType := some (.object "java/lang/String") }, accessFlags := 0, code := some k11c3 }
def k11c4 : Code := { maxStack := 3, maxLocals := 2, code := prog_7_method_10_code, exceptionTable := #[], attributes := #[] }
def k11m4 : Method := { name := "next", desc := "()Ljava/lang/String;", sig := { parameters := [], returnType := some (.object "java/lang/String") }, accessFlags := 0, code := some k11c4 }
/-- com/example/reportwire/reportwire/Arguments -/
def k11 : Class := { plain "com/example/reportwire/reportwire/Arguments" (some 0) with
  accessFlags := 48
  interfaces := #[]
  cf := some (fileOf pool11 11 #[] #[{ accessFlags := 128, nameIndex := 5, descriptorIndex := 385, attributes := #[] }, { accessFlags := 0, nameIndex := 72, descriptorIndex := 73, attributes := #[] }, { accessFlags := 0, nameIndex := 392, descriptorIndex := 73, attributes := #[] }, { accessFlags := 0, nameIndex := 78, descriptorIndex := 33, attributes := #[] }, { accessFlags := 0, nameIndex := 62, descriptorIndex := 33, attributes := #[] }] 48 2 #[] #[{ accessFlags := 24, nameIndex := 380, descriptorIndex := 28, attributes := #[] }, { accessFlags := 24, nameIndex := 382, descriptorIndex := 28, attributes := #[] }, { accessFlags := 18, nameIndex := 24, descriptorIndex := 19, attributes := #[] }, { accessFlags := 18, nameIndex := 14, descriptorIndex := 15, attributes := #[] }, { accessFlags := 2, nameIndex := 62, descriptorIndex := 63, attributes := #[] }, { accessFlags := 2, nameIndex := 27, descriptorIndex := 28, attributes := #[] }])
  fields := #[{ name := "HELP_OPTION", type := (.object "java/lang/String"), accessFlags := 24, slot := 0, constantValue := 0 }, { name := "DATE_TIME_FORM", type := (.object "java/lang/String"), accessFlags := 24, slot := 1, constantValue := 0 }, { name := "args", type := (.array (.object "java/lang/String")), accessFlags := 18, slot := 0, constantValue := 0 }, { name := "optionsGiven", type := (.object "java/util/Set"), accessFlags := 18, slot := 1, constantValue := 0 }, { name := "next", type := .int, accessFlags := 2, slot := 2, constantValue := 0 }, { name := "command", type := (.object "java/lang/String"), accessFlags := 2, slot := 3, constantValue := 0 }]
  methods := #[k11m0, k11m1, k11m2, k11m3, k11m4]
  instanceTypes := #[(.array (.object "java/lang/String")), (.object "java/util/Set"), .int, (.object "java/lang/String")]
  staticTypes := #[(.object "java/lang/String"), (.object "java/lang/String")]
  resolved := Array.replicate 520 none
  statics := none }

def pool12 : Array CpInfo := pool [(8, .class_ 10), (1, u "java/lang/Iterable"), (24, .class_ 36), (0, u "java/lang/Object")] 25

/-- java/lang/Iterable -/
def k12 : Class := { plain "java/lang/Iterable" (some 0) with
  accessFlags := 1537
  interfaces := #[]
  cf := some (fileOf pool12 8 #[] #[] 1537 35 #[] #[])
  fields := #[]
  methods := #[]
  instanceTypes := #[]
  staticTypes := #[]
  resolved := Array.replicate 62 none
  statics := none }

def pool13 : Array CpInfo := pool [(10, .class_ 12), (1, u "java/util/Collection"), (47, .class_ 61), (0, u "java/lang/Object"), (0, .class_ 63), (0, u "java/lang/Iterable")] 51

/-- java/util/Collection -/
def k13 : Class := { plain "java/util/Collection" (some 0) with
  accessFlags := 1537
  interfaces := #[12]
  cf := some (fileOf pool13 10 #[] #[] 1537 60 #[62] #[])
  fields := #[]
  methods := #[]
  instanceTypes := #[]
  staticTypes := #[]
  resolved := Array.replicate 115 none
  statics := none }

def pool14 : Array CpInfo := pool [(1, .methodref 2 3), (0, .class_ 4), (0, .nameAndType 5 6), (0, u "java/lang/Object"), (0, u "<init>"), (0, u "()V"), (1, .class_ 10), (1, u "java/util/AbstractCollection"), (66, .class_ 78), (0, u "java/util/Collection")] 81

def k14c0 : Code := { maxStack := 1, maxLocals := 1, code := jdk_22_method_1_code, exceptionTable := #[], attributes := #[] }
def k14m0 : Method := { name := "<init>", desc := "()V", sig := { parameters := [], returnType := none }, accessFlags := 4, code := some k14c0 }
/-- java/util/AbstractCollection -/
def k14 : Class := { plain "java/util/AbstractCollection" (some 0) with
  accessFlags := 1057
  interfaces := #[13]
  cf := some (fileOf pool14 8 #[] #[{ accessFlags := 4, nameIndex := 5, descriptorIndex := 6, attributes := #[] }] 1057 2 #[77] #[])
  fields := #[]
  methods := #[k14m0]
  instanceTypes := #[]
  staticTypes := #[]
  resolved := Array.replicate 160 none
  statics := none }

def pool15 : Array CpInfo := pool [(26, .class_ 27), (0, u "java/lang/Object"), (5, .class_ 34), (0, u "java/util/Set"), (1, .class_ 38), (1, u "java/util/Collection")] 105

/-- java/util/Set -/
def k15 : Class := { plain "java/util/Set" (some 0) with
  accessFlags := 1537
  interfaces := #[13]
  cf := some (fileOf pool15 33 #[] #[] 1537 26 #[36] #[])
  fields := #[]
  methods := #[]
  instanceTypes := #[]
  staticTypes := #[]
  resolved := Array.replicate 144 none
  statics := none }

def pool16 : Array CpInfo := pool [(1, .methodref 2 3), (0, .class_ 4), (0, .nameAndType 5 6), (0, u "java/util/AbstractCollection"), (0, u "<init>"), (0, u "()V"), (0, .class_ 8), (0, u "java/util/Set"), (7, .class_ 17), (0, u "java/util/AbstractSet")] 78

def k16c0 : Code := { maxStack := 1, maxLocals := 1, code := jdk_91_method_1_code, exceptionTable := #[], attributes := #[] }
def k16m0 : Method := { name := "<init>", desc := "()V", sig := { parameters := [], returnType := none }, accessFlags := 4, code := some k16c0 }
/-- java/util/AbstractSet -/
def k16 : Class := { plain "java/util/AbstractSet" (some 14) with
  accessFlags := 1057
  interfaces := #[15]
  cf := some (fileOf pool16 16 #[] #[{ accessFlags := 4, nameIndex := 5, descriptorIndex := 6, attributes := #[] }] 1057 2 #[7] #[])
  fields := #[]
  methods := #[k16m0]
  instanceTypes := #[]
  staticTypes := #[]
  resolved := Array.replicate 96 none
  statics := none }

def pool17 : Array CpInfo := pool [(1, .class_ 2), (0, u "java/lang/Cloneable"), (0, .class_ 4), (0, u "java/lang/Object")] 2

/-- java/lang/Cloneable -/
def k17 : Class := { plain "java/lang/Cloneable" (some 0) with
  accessFlags := 1537
  interfaces := #[]
  cf := some (fileOf pool17 1 #[] #[] 1537 3 #[] #[])
  fields := #[]
  methods := #[]
  instanceTypes := #[]
  staticTypes := #[]
  resolved := Array.replicate 7 none
  statics := none }

def pool18 : Array CpInfo := pool [(1, .methodref 2 3), (0, .class_ 4), (0, .nameAndType 5 6), (0, u "java/util/AbstractSet"), (0, u "<init>"), (0, u "()V"), (0, .class_ 8), (0, u "java/util/HashMap"), (0, .methodref 7 3), (0, .fieldref 11 12), (0, .class_ 13), (0, .nameAndType 14 15), (0, u "java/util/HashSet"), (0, u "map"), (0, u "Ljava/util/HashMap;"), (34, .class_ 52), (1, u "java/util/Set"), (13, u "PRESENT"), (0, u "Ljava/lang/Object;"), (158, .class_ 227), (0, u "java/lang/Cloneable"), (0, .class_ 229), (0, u "java/io/Serializable"), (0, u "serialVersionUID"), (0, u "J")] 71

def k18c0 : Code := { maxStack := 3, maxLocals := 1, code := jdk_93_method_1_code, exceptionTable := #[], attributes := #[] }
def k18m0 : Method := { name := "<init>", desc := "()V", sig := { parameters := [], returnType := none }, accessFlags := 1, code := some k18c0 }
/-- java/util/HashSet -/
def k18 : Class := { plain "java/util/HashSet" (some 16) with
  accessFlags := 33
  interfaces := #[15, 17, 2]
  cf := some (fileOf pool18 11 #[] #[{ accessFlags := 1, nameIndex := 5, descriptorIndex := 6, attributes := #[] }] 33 2 #[50, 226, 228] #[{ accessFlags := 24, nameIndex := 230, descriptorIndex := 231, attributes := #[] }, { accessFlags := 128, nameIndex := 14, descriptorIndex := 15, attributes := #[] }, { accessFlags := 24, nameIndex := 66, descriptorIndex := 67, attributes := #[] }])
  fields := #[{ name := "serialVersionUID", type := .long, accessFlags := 24, slot := 0, constantValue := 0 }, { name := "map", type := (.object "java/util/HashMap"), accessFlags := 128, slot := 0, constantValue := 0 }, { name := "PRESENT", type := (.object "java/lang/Object"), accessFlags := 24, slot := 1, constantValue := 0 }]
  methods := #[k18m0]
  instanceTypes := #[(.object "java/util/HashMap")]
  staticTypes := #[.long, (.object "java/lang/Object")]
  resolved := Array.replicate 303 none
  statics := none }

def pool19 : Array CpInfo := pool [(2, .class_ 4), (1, u "java/util/Map"), (31, .class_ 37), (0, u "java/util/Map$Entry"), (55, .class_ 94), (0, u "java/lang/Object")] 168

/-- java/util/Map -/
def k19 : Class := { plain "java/util/Map" (some 0) with
  accessFlags := 1537
  interfaces := #[]
  cf := some (fileOf pool19 2 #[.nestMembers #[36]] #[] 1537 93 #[] #[])
  fields := #[]
  methods := #[]
  instanceTypes := #[]
  staticTypes := #[]
  resolved := Array.replicate 263 none
  statics := none }

def pool20 : Array CpInfo := pool [(1, .methodref 2 3), (0, .class_ 4), (0, .nameAndType 5 6), (0, u "java/lang/Object"), (0, u "<init>"), (0, u "()V"), (1, .class_ 10), (1, u "java/util/AbstractMap"), (42, .class_ 54), (0, u "java/util/Map"), (9, u "keySet"), (0, u "Ljava/util/Set;"), (0, .class_ 67), (0, u "java/util/AbstractMap$1"), (5, u "values"), (0, u "Ljava/util/Collection;"), (0, .class_ 76), (0, u "java/util/AbstractMap$2"), (104, .class_ 182), (0, u "java/util/AbstractMap$ViewCollection"), (0, .class_ 184), (0, u "java/util/AbstractMap$SimpleImmutableEntry"), (0, .class_ 186), (0, u "java/util/AbstractMap$SimpleEntry"), (0, .class_ 188), (0, u "java/util/AbstractMap$2$1"), (0, .class_ 190), (0, u "java/util/AbstractMap$1$1")] 5

def k20c0 : Code := { maxStack := 1, maxLocals := 1, code := jdk_71_method_1_code, exceptionTable := #[], attributes := #[] }
def k20m0 : Method := { name := "<init>", desc := "()V", sig := { parameters := [], returnType := none }, accessFlags := 4, code := some k20c0 }
/-- java/util/AbstractMap -/
def k20 : Class := { plain "java/util/AbstractMap" (some 0) with
  accessFlags := 1057
  interfaces := #[19]
  cf := some (fileOf pool20 8 #[.nestMembers #[181, 183, 185, 75, 187, 66, 189]] #[{ accessFlags := 4, nameIndex := 5, descriptorIndex := 6, attributes := #[] }] 1057 2 #[53] #[{ accessFlags := 128, nameIndex := 64, descriptorIndex := 65, attributes := #[] }, { accessFlags := 128, nameIndex := 73, descriptorIndex := 74, attributes := #[] }])
  fields := #[{ name := "keySet", type := (.object "java/util/Set"), accessFlags := 128, slot := 0, constantValue := 0 }, { name := "values", type := (.object "java/util/Collection"), accessFlags := 128, slot := 1, constantValue := 0 }]
  methods := #[k20m0]
  instanceTypes := #[(.object "java/util/Set"), (.object "java/util/Collection")]
  staticTypes := #[]
  resolved := Array.replicate 196 none
  statics := none }

def pool21 : Array CpInfo := pool [(40, .class_ 41), (0, u "java/util/HashMap"), (1, .methodref 44 45), (0, .class_ 46), (0, .nameAndType 47 48), (0, u "java/util/AbstractMap"), (0, u "<init>"), (0, u "()V"), (32, .fieldref 40 82), (0, .nameAndType 83 84), (0, u "loadFactor"), (0, u "F"), (5, u "threshold"), (0, u "I"), (0, .float 1061158912), (8, .class_ 103), (1, u "java/util/Map"), (0, u "size"), (2, u "table"), (0, u "[Ljava/util/HashMap$Node;"), (14, u "entrySet"), (39, .class_ 165), (1, u "java/util/HashMap$Node"), (14, .class_ 181), (0, u "java/util/HashMap$TreeNode"), (22, u "modCount"), (37, u "Ljava/util/Set;"), (0, .class_ 244), (0, u "java/util/HashMap$KeySet"), (18, .class_ 264), (0, u "java/util/HashMap$Values"), (3, .class_ 269), (0, u "java/util/HashMap$EntrySet"), (76, .class_ 348), (1, u "java/util/HashMap$UnsafeHolder"), (43, .class_ 393), (0, u "java/lang/Cloneable"), (0, .class_ 395), (0, u "java/io/Serializable"), (0, u "serialVersionUID"), (0, u "J"), (3, u "DEFAULT_INITIAL_CAPACITY"), (1, u "MAXIMUM_CAPACITY"), (0, u "DEFAULT_LOAD_FACTOR"), (0, u "TREEIFY_THRESHOLD"), (1, u "UNTREEIFY_THRESHOLD"), (1, u "MIN_TREEIFY_CAPACITY"), (186, .class_ 597), (0, u "java/util/HashMap$EntrySpliterator"), (0, .class_ 599), (0, u "java/util/HashMap$ValueSpliterator"), (0, .class_ 601), (0, u "java/util/HashMap$KeySpliterator"), (0, .class_ 603), (0, u "java/util/HashMap$HashMapSpliterator"), (0, .class_ 605), (0, u "java/util/HashMap$EntryIterator"), (0, .class_ 607), (0, u "java/util/HashMap$ValueIterator"), (0, .class_ 609), (0, u "java/util/HashMap$KeyIterator"), (0, .class_ 611), (0, u "java/util/HashMap$HashIterator")] 17

def k21c0 : Code := { maxStack := 2, maxLocals := 1, code := jdk_69_method_7_code, exceptionTable := #[], attributes := #[] }
def k21m0 : Method := { name := "<init>", desc := "()V", sig := { parameters := [], returnType := none }, accessFlags := 1, code := some k21c0 }
/-- java/util/HashMap -/
def k21 : Class := { plain "java/util/HashMap" (some 20) with
  accessFlags := 33
  interfaces := #[19, 17, 2]
  cf := some (fileOf pool21 40 #[.nestMembers #[180, 596, 598, 600, 602, 604, 606, 608, 610, 346, 268, 263, 243, 163]] #[{ accessFlags := 1, nameIndex := 47, descriptorIndex := 48, attributes := #[] }] 33 44 #[101, 392, 394] #[{ accessFlags := 26, nameIndex := 396, descriptorIndex := 397, attributes := #[] }, { accessFlags := 24, nameIndex := 401, descriptorIndex := 91, attributes := #[] }, { accessFlags := 24, nameIndex := 403, descriptorIndex := 91, attributes := #[] }, { accessFlags := 24, nameIndex := 404, descriptorIndex := 84, attributes := #[] }, { accessFlags := 24, nameIndex := 405, descriptorIndex := 91, attributes := #[] }, { accessFlags := 24, nameIndex := 407, descriptorIndex := 91, attributes := #[] }, { accessFlags := 24, nameIndex := 409, descriptorIndex := 91, attributes := #[] }, { accessFlags := 128, nameIndex := 107, descriptorIndex := 108, attributes := #[] }, { accessFlags := 128, nameIndex := 123, descriptorIndex := 242, attributes := #[] }, { accessFlags := 128, nameIndex := 104, descriptorIndex := 91, attributes := #[] }, { accessFlags := 128, nameIndex := 204, descriptorIndex := 91, attributes := #[] }, { accessFlags := 0, nameIndex := 90, descriptorIndex := 91, attributes := #[] }, { accessFlags := 16, nameIndex := 83, descriptorIndex := 84, attributes := #[] }])
  fields := #[{ name := "serialVersionUID", type := .long, accessFlags := 26, slot := 0, constantValue := 0 }, { name := "DEFAULT_INITIAL_CAPACITY", type := .int, accessFlags := 24, slot := 1, constantValue := 0 }, { name := "MAXIMUM_CAPACITY", type := .int, accessFlags := 24, slot := 2, constantValue := 0 }, { name := "DEFAULT_LOAD_FACTOR", type := .float, accessFlags := 24, slot := 3, constantValue := 0 }, { name := "TREEIFY_THRESHOLD", type := .int, accessFlags := 24, slot := 4, constantValue := 0 }, { name := "UNTREEIFY_THRESHOLD", type := .int, accessFlags := 24, slot := 5, constantValue := 0 }, { name := "MIN_TREEIFY_CAPACITY", type := .int, accessFlags := 24, slot := 6, constantValue := 0 }, { name := "table", type := (.array (.object "java/util/HashMap$Node")), accessFlags := 128, slot := 2, constantValue := 0 }, { name := "entrySet", type := (.object "java/util/Set"), accessFlags := 128, slot := 3, constantValue := 0 }, { name := "size", type := .int, accessFlags := 128, slot := 4, constantValue := 0 }, { name := "modCount", type := .int, accessFlags := 128, slot := 5, constantValue := 0 }, { name := "threshold", type := .int, accessFlags := 0, slot := 6, constantValue := 0 }, { name := "loadFactor", type := .float, accessFlags := 16, slot := 7, constantValue := 0 }]
  methods := #[k21m0]
  instanceTypes := #[(.object "java/util/Set"), (.object "java/util/Collection"), (.array (.object "java/util/HashMap$Node")), (.object "java/util/Set"), .int, .int, .int, .float]
  staticTypes := #[.long, .int, .int, .float, .int, .int, .int]
  resolved := Array.replicate 629 none
  statics := none }

def pool22 : Array CpInfo := pool [(9, u "<init>"), (6, .class_ 18), (1, u "java/lang/Object"), (0, u "()V"), (1, .class_ 23), (1, u "jdk/internal/util/ArraysSupport"), (0, u "LOG2_ARRAY_LONG_INDEX_SCALE"), (0, u "I"), (2, u "U"), (0, u "Ljdk/internal/misc/Unsafe;"), (8, u "BIG_ENDIAN"), (0, u "Z"), (8, u "LOG2_BYTE_BIT_SIZE"), (4, u "LOG2_ARRAY_INT_INDEX_SCALE"), (54, u "JLA"), (0, u "Ljdk/internal/access/JavaLangAccess;"), (11, u "LOG2_ARRAY_BOOLEAN_INDEX_SCALE"), (9, u "LOG2_ARRAY_BYTE_INDEX_SCALE"), (5, u "LOG2_ARRAY_CHAR_INDEX_SCALE"), (5, u "LOG2_ARRAY_SHORT_INDEX_SCALE"), (18, u "LOG2_ARRAY_FLOAT_INDEX_SCALE"), (24, u "LOG2_ARRAY_DOUBLE_INDEX_SCALE"), (89, u "T_BOOLEAN"), (2, u "T_CHAR"), (1, u "T_FLOAT"), (1, u "T_DOUBLE"), (1, u "T_BYTE"), (1, u "T_SHORT"), (1, u "T_INT"), (1, u "T_LONG"), (1, u "SOFT_MAX_ARRAY_LENGTH")] 83

def k22m0 : Method := { name := "<init>", desc := "()V", sig := { parameters := [], returnType := none }, accessFlags := 2, code := none }
/-- jdk/internal/util/ArraysSupport -/
def k22 : Class := { plain "jdk/internal/util/ArraysSupport" (some 0) with
  accessFlags := 33
  interfaces := #[]
  cf := some (fileOf pool22 21 #[] #[{ accessFlags := 2, nameIndex := 9, descriptorIndex := 19, attributes := #[] }] 33 16 #[] #[{ accessFlags := 24, nameIndex := 28, descriptorIndex := 29, attributes := #[] }, { accessFlags := 26, nameIndex := 38, descriptorIndex := 39, attributes := #[] }, { accessFlags := 25, nameIndex := 121, descriptorIndex := 25, attributes := #[] }, { accessFlags := 25, nameIndex := 131, descriptorIndex := 25, attributes := #[] }, { accessFlags := 25, nameIndex := 137, descriptorIndex := 25, attributes := #[] }, { accessFlags := 25, nameIndex := 143, descriptorIndex := 25, attributes := #[] }, { accessFlags := 25, nameIndex := 53, descriptorIndex := 25, attributes := #[] }, { accessFlags := 25, nameIndex := 24, descriptorIndex := 25, attributes := #[] }, { accessFlags := 25, nameIndex := 162, descriptorIndex := 25, attributes := #[] }, { accessFlags := 25, nameIndex := 187, descriptorIndex := 25, attributes := #[] }, { accessFlags := 26, nameIndex := 48, descriptorIndex := 25, attributes := #[] }, { accessFlags := 25, nameIndex := 277, descriptorIndex := 25, attributes := #[] }, { accessFlags := 25, nameIndex := 280, descriptorIndex := 25, attributes := #[] }, { accessFlags := 25, nameIndex := 282, descriptorIndex := 25, attributes := #[] }, { accessFlags := 25, nameIndex := 284, descriptorIndex := 25, attributes := #[] }, { accessFlags := 25, nameIndex := 286, descriptorIndex := 25, attributes := #[] }, { accessFlags := 25, nameIndex := 288, descriptorIndex := 25, attributes := #[] }, { accessFlags := 25, nameIndex := 290, descriptorIndex := 25, attributes := #[] }, { accessFlags := 25, nameIndex := 292, descriptorIndex := 25, attributes := #[] }, { accessFlags := 26, nameIndex := 108, descriptorIndex := 109, attributes := #[] }, { accessFlags := 25, nameIndex := 294, descriptorIndex := 25, attributes := #[] }])
  fields := #[{ name := "U", type := (.object "jdk/internal/misc/Unsafe"), accessFlags := 24, slot := 0, constantValue := 0 }, { name := "BIG_ENDIAN", type := .boolean, accessFlags := 26, slot := 1, constantValue := 0 }, { name := "LOG2_ARRAY_BOOLEAN_INDEX_SCALE", type := .int, accessFlags := 25, slot := 2, constantValue := 0 }, { name := "LOG2_ARRAY_BYTE_INDEX_SCALE", type := .int, accessFlags := 25, slot := 3, constantValue := 0 }, { name := "LOG2_ARRAY_CHAR_INDEX_SCALE", type := .int, accessFlags := 25, slot := 4, constantValue := 0 }, { name := "LOG2_ARRAY_SHORT_INDEX_SCALE", type := .int, accessFlags := 25, slot := 5, constantValue := 0 }, { name := "LOG2_ARRAY_INT_INDEX_SCALE", type := .int, accessFlags := 25, slot := 6, constantValue := 0 }, { name := "LOG2_ARRAY_LONG_INDEX_SCALE", type := .int, accessFlags := 25, slot := 7, constantValue := 0 }, { name := "LOG2_ARRAY_FLOAT_INDEX_SCALE", type := .int, accessFlags := 25, slot := 8, constantValue := 0 }, { name := "LOG2_ARRAY_DOUBLE_INDEX_SCALE", type := .int, accessFlags := 25, slot := 9, constantValue := 0 }, { name := "LOG2_BYTE_BIT_SIZE", type := .int, accessFlags := 26, slot := 10, constantValue := 0 }, { name := "T_BOOLEAN", type := .int, accessFlags := 25, slot := 11, constantValue := 0 }, { name := "T_CHAR", type := .int, accessFlags := 25, slot := 12, constantValue := 0 }, { name := "T_FLOAT", type := .int, accessFlags := 25, slot := 13, constantValue := 0 }, { name := "T_DOUBLE", type := .int, accessFlags := 25, slot := 14, constantValue := 0 }, { name := "T_BYTE", type := .int, accessFlags := 25, slot := 15, constantValue := 0 }, { name := "T_SHORT", type := .int, accessFlags := 25, slot := 16, constantValue := 0 }, { name := "T_INT", type := .int, accessFlags := 25, slot := 17, constantValue := 0 }, { name := "T_LONG", type := .int, accessFlags := 25, slot := 18, constantValue := 0 }, { name := "JLA", type := (.object "jdk/internal/access/JavaLangAccess"), accessFlags := 26, slot := 19, constantValue := 0 }, { name := "SOFT_MAX_ARRAY_LENGTH", type := .int, accessFlags := 25, slot := 20, constantValue := 0 }]
  methods := #[k22m0]
  instanceTypes := #[]
  staticTypes := #[(.object "jdk/internal/misc/Unsafe"), .boolean, .int, .int, .int, .int, .int, .int, .int, .int, .int, .int, .int, .int, .int, .int, .int, .int, .int, (.object "jdk/internal/access/JavaLangAccess"), .int]
  resolved := Array.replicate 378 none
  statics := none }

/-- the primitive byte -/
def k23 : Class := { plain "byte" none with kind := .primitive 'B', accessFlags := 0x411 }
/-- [B -/
def k24 : Class := { plain "[B" (some 0) with kind := .array 23 .byte, interfaces := #[17, 2], accessFlags := 1041 }

/-- the primitive char -/
def k25 : Class := { plain "char" none with kind := .primitive 'C', accessFlags := 0x411 }
/-- [C -/
def k26 : Class := { plain "[C" (some 0) with kind := .array 25 .char, interfaces := #[17, 2], accessFlags := 1041 }

/-- the primitive int -/
def k27 : Class := { plain "int" none with kind := .primitive 'I', accessFlags := 0x411 }
/-- [I -/
def k28 : Class := { plain "[I" (some 0) with kind := .array 27 .int, interfaces := #[17, 2], accessFlags := 1041 }

/-- [Ljava/lang/String; -/
def k29 : Class := { plain "[Ljava/lang/String;" (some 0) with kind := .array 7 (.object "java/lang/String"), interfaces := #[17, 2], accessFlags := 1041 }

def heap : Heap := #[{ cls := 7, slots := #[.long 0, .int 1, .null, .int 0, .null, .int 0, .int 0], vm := .statics 7 },
  { cls := 10, slots := #[.null, .null, .null], vm := .statics 10 }]
def classes : Array Class := #[k0, k1, k2, k3, k4, k5, k6, k7, k8, k9, k10, k11, k12, k13, k14, k15, k16, k17, k18, k19, k20, k21, k22, k23, k24, k25, k26, k27, k28, k29]
def interned : List (Array UInt16 × Addr) := []
def slotsUsed : Nat := 10
def theMethod : MethodId := ⟨1, 4⟩
def args0 : Array Value := #[.long 5, .long 5, .long 5, .int 5]
def aboutOver (below : List Frame) : State where
  vm := { classes := classes, interned := interned.toArray }
  heap := heap
  slotsUsed := slotsUsed
  threads := #[{ frames := .invoking theMethod args0 :: below }]
def below0 : List Frame := [.native { method := ⟨0, 0⟩, args := #[] }]
def about1 : State := aboutOver below0
def p0 : Program := .bare "" "" ""
def e0 : Env := launch0.env 0 0 0
theorem w_frames : about1.frames = Frame.invoking theMethod args0 :: below0 := rfl
set_option maxRecDepth 65536 in
theorem w_args : argsFit about1.vm theMethod args0 = true := by decide +kernel
set_option maxRecDepth 65536 in
theorem w_heap : heapFits about1 = true := by decide +kernel
set_option maxRecDepth 65536 in
theorem w_runnable : about1.curStatus? = some .runnable := by decide +kernel
set_option maxRecDepth 65536 in
theorem w_alone : about1.alone = true := by decide +kernel
set_option maxRecDepth 65536 in
theorem w_named : about1.methodNamed? x = some theMethod := by decide +kernel
set_option maxRecDepth 65536 in
theorem w_hears : about1.hears theMethod below0 = true := by decide +kernel
set_option maxRecDepth 65536 in
theorem w_ripe : about1.ripe theMethod args0 below0 = true := by decide +kernel
theorem w_running : about1.status = .running := rfl
set_option maxRecDepth 65536 in
theorem w_room : about1.hasRoom e0.platform room_1 = true :=
  launch0.hasRoom_least _ room_1 (by decide +kernel) (by decide +kernel) (by decide +kernel) (by decide +kernel) (by decide +kernel) (by decide +kernel)
theorem allAtoms_all (ts : List Jvm.Cond) (a : Array Jvm.Value) (st : Jvm.State) : (allAtoms ts).before a st = ts.all (fun c => c.before a st) := by
  induction ts with
  | nil => rfl
  | cons c t ih =>
    show (Jvm.Cond.and c (allAtoms t)).before a st = _
    rw [Jvm.Cond.before_and, ih, List.all_cons]
def words1 : List Jvm.Cond := Jvm.Cond.code x code maxLocals ret :: tables_1
/-- a 'code' word, met by the world's own term for the bytes: nothing is compared byte by byte -/
theorem code_word {y : MethodName} {bytes : ByteArray} {mx : Nat} {rt : Option FieldType} {a : Array Value} {s : State} {m : MethodId} {meth : Method} {c : Code} (h1 : s.methodNamed? y = some m) (h2 : s.vm.method? m = some meth) (h3 : meth.code = some c) (h4 : c.code = bytes)
    (h5 : (c.maxLocals == mx && c.exceptionTable.isEmpty && decide (c.maxStack ≤ mostOperands) && decide (meth.sig.returnType = rt) && !meth.locks && decide (parseMethodDescriptor y.desc = some meth.sig)) = true) : (Jvm.Cond.code y bytes mx rt).before a s = true := by
  simp only [Bool.and_eq_true, beq_iff_eq, Bool.not_eq_true', decide_eq_true_eq] at h5
  obtain ⟨⟨⟨⟨⟨g1, g2⟩, g3⟩, g4⟩, g5⟩, g6⟩ := h5
  simp [Cond.before, Cond.holds, Cond.value, h1, h2, h3, h4, g1, g2, g3, g4, g5, g6]
def isCode : Jvm.Cond → Bool
  | .code _ _ _ _ => true
  | _ => false
theorem all_split {L : List Jvm.Cond} {P : Jvm.Cond → Bool} (h1 : L.all (fun c => isCode c || P c) = true) (h2 : ∀ c ∈ L.filter isCode, P c = true) : L.all P = true := by
  refine List.all_eq_true.mpr fun c hc => ?_
  have h := List.all_eq_true.mp h1 c hc
  rcases Bool.eq_false_or_eq_true (isCode c) with hi | hi
  · exact h2 c (List.mem_filter.mpr ⟨hc, hi⟩)
  · simpa [hi] using h
set_option maxRecDepth 65536 in
theorem w_c0 : (Jvm.Cond.code x code maxLocals ret).before args0 about1 = true := code_word (m := ⟨1, 4⟩) (meth := k1m4) (c := k1c4) (by decide +kernel) rfl rfl rfl (by decide +kernel)
set_option maxRecDepth 65536 in
theorem w_c1 : (Jvm.Cond.code ({ cls := "com/example/reportwire/reportwire/ArgumentsAsksForHelpPinLaw", name := "makeArg", desc := "(J)Ljava/lang/String;" } : Jvm.MethodName) method_3_code (6 : Nat) (Option.some (Jvm.ClassFile.FieldType.object "java/lang/String"))).before args0 about1 = true := code_word (m := ⟨1, 2⟩) (meth := k1m2) (c := k1c2) (by decide +kernel) rfl rfl rfl (by decide +kernel)
set_option maxRecDepth 65536 in
theorem w_c2 : (Jvm.Cond.code ({ cls := "java/lang/String", name := "<init>", desc := "([C)V" } : Jvm.MethodName) jdk_42_method_3_code (2 : Nat) (Option.none : Option Jvm.ClassFile.FieldType)).before args0 about1 = true := code_word (m := ⟨7, 1⟩) (meth := k7m1) (c := k7c1) (by decide +kernel) rfl rfl rfl (by decide +kernel)
set_option maxRecDepth 65536 in
theorem w_c3 : (Jvm.Cond.code ({ cls := "java/lang/String", name := "<init>", desc := "([CIILjava/lang/Void;)V" } : Jvm.MethodName) jdk_42_method_149_code (6 : Nat) (Option.none : Option Jvm.ClassFile.FieldType)).before args0 about1 = true := code_word (m := ⟨7, 5⟩) (meth := k7m5) (c := k7c5) (by decide +kernel) rfl rfl rfl (by decide +kernel)
set_option maxRecDepth 65536 in
theorem w_c4 : (Jvm.Cond.code ({ cls := "java/lang/Object", name := "<init>", desc := "()V" } : Jvm.MethodName) object_method_1_code (1 : Nat) (Option.none : Option Jvm.ClassFile.FieldType)).before args0 about1 = true := code_word (m := ⟨0, 0⟩) (meth := k0m0) (c := k0c0) (by decide +kernel) rfl rfl rfl (by decide +kernel)
set_option maxRecDepth 65536 in
theorem w_c5 : (Jvm.Cond.code ({ cls := "java/lang/StringUTF16", name := "compress", desc := "([CII)[B" } : Jvm.MethodName) jdk_52_method_16_code (6 : Nat) (Option.some (Jvm.ClassFile.FieldType.array Jvm.ClassFile.FieldType.byte))).before args0 about1 = true := code_word (m := ⟨8, 2⟩) (meth := k8m2) (c := k8c2) (by decide +kernel) rfl rfl rfl (by decide +kernel)
set_option maxRecDepth 65536 in
theorem w_c6 : (Jvm.Cond.code ({ cls := "java/lang/StringUTF16", name := "compress", desc := "([CI[BII)I" } : Jvm.MethodName) jdk_52_method_21_code (7 : Nat) (Option.some Jvm.ClassFile.FieldType.int)).before args0 about1 = true := code_word (m := ⟨8, 3⟩) (meth := k8m3) (c := k8c3) (by decide +kernel) rfl rfl rfl (by decide +kernel)
set_option maxRecDepth 65536 in
theorem w_c7 : (Jvm.Cond.code ({ cls := "java/lang/StringUTF16", name := "coderFromArrayLen", desc := "([BI)B" } : Jvm.MethodName) jdk_52_method_15_code (2 : Nat) (Option.some Jvm.ClassFile.FieldType.byte)).before args0 about1 = true := code_word (m := ⟨8, 1⟩) (meth := k8m1) (c := k8c1) (by decide +kernel) rfl rfl rfl (by decide +kernel)
set_option maxRecDepth 65536 in
theorem w_c8 : (Jvm.Cond.code ({ cls := "com/example/reportwire/reportwire/ArgumentsAsksForHelpPinLaw", name := "isHelp", desc := "(J)Z" } : Jvm.MethodName) method_4_code (5 : Nat) (Option.some Jvm.ClassFile.FieldType.boolean)).before args0 about1 = true := code_word (m := ⟨1, 3⟩) (meth := k1m3) (c := k1c3) (by decide +kernel) rfl rfl rfl (by decide +kernel)
set_option maxRecDepth 65536 in
theorem w_c9 : (Jvm.Cond.code ({ cls := "java/lang/String", name := "charAt", desc := "(I)C" } : Jvm.MethodName) jdk_42_method_56_code (2 : Nat) (Option.some Jvm.ClassFile.FieldType.char)).before args0 about1 = true := code_word (m := ⟨7, 2⟩) (meth := k7m2) (c := k7c2) (by decide +kernel) rfl rfl rfl (by decide +kernel)
set_option maxRecDepth 65536 in
theorem w_c10 : (Jvm.Cond.code ({ cls := "java/lang/String", name := "isLatin1", desc := "()Z" } : Jvm.MethodName) jdk_42_method_154_code (1 : Nat) (Option.some Jvm.ClassFile.FieldType.boolean)).before args0 about1 = true := code_word (m := ⟨7, 7⟩) (meth := k7m7) (c := k7c7) (by decide +kernel) rfl rfl rfl (by decide +kernel)
set_option maxRecDepth 65536 in
theorem w_c11 : (Jvm.Cond.code ({ cls := "java/lang/StringLatin1", name := "charAt", desc := "([BI)C" } : Jvm.MethodName) jdk_43_method_2_code (2 : Nat) (Option.some Jvm.ClassFile.FieldType.char)).before args0 about1 = true := code_word (m := ⟨9, 1⟩) (meth := k9m1) (c := k9c1) (by decide +kernel) rfl rfl rfl (by decide +kernel)
set_option maxRecDepth 65536 in
theorem w_c12 : (Jvm.Cond.code ({ cls := "java/lang/String", name := "checkIndex", desc := "(II)V" } : Jvm.MethodName) jdk_42_method_155_code (2 : Nat) (Option.none : Option Jvm.ClassFile.FieldType)).before args0 about1 = true := code_word (m := ⟨7, 8⟩) (meth := k7m8) (c := k7c8) (by decide +kernel) rfl rfl rfl (by decide +kernel)
set_option maxRecDepth 65536 in
theorem w_c13 : (Jvm.Cond.code ({ cls := "jdk/internal/util/Preconditions", name := "checkIndex", desc := "(IILjava/util/function/BiFunction;)I" } : Jvm.MethodName) jdk_41_method_11_code (3 : Nat) (Option.some Jvm.ClassFile.FieldType.int)).before args0 about1 = true := code_word (m := ⟨10, 1⟩) (meth := k10m1) (c := k10c1) (by decide +kernel) rfl rfl rfl (by decide +kernel)
set_option maxRecDepth 65536 in
theorem w_c14 : (Jvm.Cond.code ({ cls := "com/example/reportwire/reportwire/Arguments", name := "<init>", desc := "([Ljava/lang/String;)V" } : Jvm.MethodName) prog_7_method_1_code (2 : Nat) (Option.none : Option Jvm.ClassFile.FieldType)).before args0 about1 = true := code_word (m := ⟨11, 0⟩) (meth := k11m0) (c := k11c0) (by decide +kernel) rfl rfl rfl (by decide +kernel)
set_option maxRecDepth 65536 in
theorem w_c15 : (Jvm.Cond.code ({ cls := "java/util/HashSet", name := "<init>", desc := "()V" } : Jvm.MethodName) jdk_93_method_1_code (1 : Nat) (Option.none : Option Jvm.ClassFile.FieldType)).before args0 about1 = true := code_word (m := ⟨18, 0⟩) (meth := k18m0) (c := k18c0) (by decide +kernel) rfl rfl rfl (by decide +kernel)
set_option maxRecDepth 65536 in
theorem w_c16 : (Jvm.Cond.code ({ cls := "java/util/AbstractSet", name := "<init>", desc := "()V" } : Jvm.MethodName) jdk_91_method_1_code (1 : Nat) (Option.none : Option Jvm.ClassFile.FieldType)).before args0 about1 = true := code_word (m := ⟨16, 0⟩) (meth := k16m0) (c := k16c0) (by decide +kernel) rfl rfl rfl (by decide +kernel)
set_option maxRecDepth 65536 in
theorem w_c17 : (Jvm.Cond.code ({ cls := "java/util/AbstractCollection", name := "<init>", desc := "()V" } : Jvm.MethodName) jdk_22_method_1_code (1 : Nat) (Option.none : Option Jvm.ClassFile.FieldType)).before args0 about1 = true := code_word (m := ⟨14, 0⟩) (meth := k14m0) (c := k14c0) (by decide +kernel) rfl rfl rfl (by decide +kernel)
set_option maxRecDepth 65536 in
theorem w_c18 : (Jvm.Cond.code ({ cls := "java/util/HashMap", name := "<init>", desc := "()V" } : Jvm.MethodName) jdk_69_method_7_code (1 : Nat) (Option.none : Option Jvm.ClassFile.FieldType)).before args0 about1 = true := code_word (m := ⟨21, 0⟩) (meth := k21m0) (c := k21c0) (by decide +kernel) rfl rfl rfl (by decide +kernel)
set_option maxRecDepth 65536 in
theorem w_c19 : (Jvm.Cond.code ({ cls := "java/util/AbstractMap", name := "<init>", desc := "()V" } : Jvm.MethodName) jdk_71_method_1_code (1 : Nat) (Option.none : Option Jvm.ClassFile.FieldType)).before args0 about1 = true := code_word (m := ⟨20, 0⟩) (meth := k20m0) (c := k20c0) (by decide +kernel) rfl rfl rfl (by decide +kernel)
set_option maxRecDepth 65536 in
theorem w_c20 : (Jvm.Cond.code ({ cls := "com/example/reportwire/reportwire/Arguments", name := "asksForHelp", desc := "()Z" } : Jvm.MethodName) prog_7_method_8_code (2 : Nat) (Option.some Jvm.ClassFile.FieldType.boolean)).before args0 about1 = true := code_word (m := ⟨11, 2⟩) (meth := k11m2) (c := k11c2) (by decide +kernel) rfl rfl rfl (by decide +kernel)
set_option maxRecDepth 65536 in
theorem w_c21 : (Jvm.Cond.code ({ cls := "java/lang/String", name := "equals", desc := "(Ljava/lang/Object;)Z" } : Jvm.MethodName) jdk_42_method_66_code (3 : Nat) (Option.some Jvm.ClassFile.FieldType.boolean)).before args0 about1 = true := code_word (m := ⟨7, 3⟩) (meth := k7m3) (c := k7c3) (by decide +kernel) rfl rfl rfl (by decide +kernel)
set_option maxRecDepth 65536 in
theorem w_c22 : (Jvm.Cond.code ({ cls := "java/lang/StringLatin1", name := "equals", desc := "([B[B)Z" } : Jvm.MethodName) jdk_43_method_13_code (3 : Nat) (Option.some Jvm.ClassFile.FieldType.boolean)).before args0 about1 = true := code_word (m := ⟨9, 3⟩) (meth := k9m3) (c := k9c3) (by decide +kernel) rfl rfl rfl (by decide +kernel)
set_option maxRecDepth 65536 in
theorem w_c23 : (Jvm.Cond.code ({ cls := "com/example/reportwire/reportwire/Arguments", name := "next", desc := "()Ljava/lang/String;" } : Jvm.MethodName) prog_7_method_10_code (2 : Nat) (Option.some (Jvm.ClassFile.FieldType.object "java/lang/String"))).before args0 about1 = true := code_word (m := ⟨11, 4⟩) (meth := k11m4) (c := k11c4) (by decide +kernel) rfl rfl rfl (by decide +kernel)
set_option maxRecDepth 65536 in
theorem w_c24 : (Jvm.Cond.code ({ cls := "com/example/reportwire/reportwire/Arguments", name := "peek", desc := "()Ljava/lang/String;" } : Jvm.MethodName) prog_7_method_9_code (1 : Nat) (Option.some (Jvm.ClassFile.FieldType.object "java/lang/String"))).before args0 about1 = true := code_word (m := ⟨11, 3⟩) (meth := k11m3) (c := k11c3) (by decide +kernel) rfl rfl rfl (by decide +kernel)
set_option maxRecDepth 65536 in
theorem w_c25 : (Jvm.Cond.code ({ cls := "com/example/reportwire/reportwire/Arguments", name := "hasNext", desc := "()Z" } : Jvm.MethodName) prog_7_method_7_code (1 : Nat) (Option.some Jvm.ClassFile.FieldType.boolean)).before args0 about1 = true := code_word (m := ⟨11, 1⟩) (meth := k11m1) (c := k11c1) (by decide +kernel) rfl rfl rfl (by decide +kernel)
set_option maxRecDepth 65536 in
theorem w_c26 : (Jvm.Cond.code ({ cls := "com/example/reportwire/reportwire/ArgumentsAsksForHelpPinLaw", name := "ch", desc := "(JI)C" } : Jvm.MethodName) method_2_code (3 : Nat) (Option.some Jvm.ClassFile.FieldType.char)).before args0 about1 = true := code_word (m := ⟨1, 1⟩) (meth := k1m1) (c := k1c1) (by decide +kernel) rfl rfl rfl (by decide +kernel)
set_option maxRecDepth 65536 in
theorem w_c27 : (Jvm.Cond.code ({ cls := "java/lang/String", name := "valueOf", desc := "(C)Ljava/lang/String;" } : Jvm.MethodName) jdk_42_method_139_code (1 : Nat) (Option.some (Jvm.ClassFile.FieldType.object "java/lang/String"))).before args0 about1 = true := code_word (m := ⟨7, 4⟩) (meth := k7m4) (c := k7c4) (by decide +kernel) rfl rfl rfl (by decide +kernel)
set_option maxRecDepth 65536 in
theorem w_c28 : (Jvm.Cond.code ({ cls := "java/lang/StringLatin1", name := "canEncode", desc := "(C)Z" } : Jvm.MethodName) jdk_43_method_3_code (1 : Nat) (Option.some Jvm.ClassFile.FieldType.boolean)).before args0 about1 = true := code_word (m := ⟨9, 2⟩) (meth := k9m2) (c := k9c2) (by decide +kernel) rfl rfl rfl (by decide +kernel)
set_option maxRecDepth 65536 in
theorem w_c29 : (Jvm.Cond.code ({ cls := "java/lang/StringLatin1", name := "toBytes", desc := "(C)[B" } : Jvm.MethodName) jdk_43_method_46_code (1 : Nat) (Option.some (Jvm.ClassFile.FieldType.array Jvm.ClassFile.FieldType.byte))).before args0 about1 = true := code_word (m := ⟨9, 4⟩) (meth := k9m4) (c := k9c4) (by decide +kernel) rfl rfl rfl (by decide +kernel)
set_option maxRecDepth 65536 in
theorem w_c30 : (Jvm.Cond.code ({ cls := "java/lang/String", name := "<init>", desc := "([BB)V" } : Jvm.MethodName) jdk_42_method_151_code (3 : Nat) (Option.none : Option Jvm.ClassFile.FieldType)).before args0 about1 = true := code_word (m := ⟨7, 6⟩) (meth := k7m6) (c := k7c6) (by decide +kernel) rfl rfl rfl (by decide +kernel)
def codes1 : List Jvm.Cond := [Jvm.Cond.code x code maxLocals ret, Jvm.Cond.code ({ cls := "com/example/reportwire/reportwire/ArgumentsAsksForHelpPinLaw", name := "makeArg", desc := "(J)Ljava/lang/String;" } : Jvm.MethodName) method_3_code (6 : Nat) (Option.some (Jvm.ClassFile.FieldType.object "java/lang/String")), Jvm.Cond.code ({ cls := "java/lang/String", name := "<init>", desc := "([C)V" } : Jvm.MethodName) jdk_42_method_3_code (2 : Nat) (Option.none : Option Jvm.ClassFile.FieldType), Jvm.Cond.code ({ cls := "java/lang/String", name := "<init>", desc := "([CIILjava/lang/Void;)V" } : Jvm.MethodName) jdk_42_method_149_code (6 : Nat) (Option.none : Option Jvm.ClassFile.FieldType), Jvm.Cond.code ({ cls := "java/lang/Object", name := "<init>", desc := "()V" } : Jvm.MethodName) object_method_1_code (1 : Nat) (Option.none : Option Jvm.ClassFile.FieldType), Jvm.Cond.code ({ cls := "java/lang/StringUTF16", name := "compress", desc := "([CII)[B" } : Jvm.MethodName) jdk_52_method_16_code (6 : Nat) (Option.some (Jvm.ClassFile.FieldType.array Jvm.ClassFile.FieldType.byte)), Jvm.Cond.code ({ cls := "java/lang/StringUTF16", name := "compress", desc := "([CI[BII)I" } : Jvm.MethodName) jdk_52_method_21_code (7 : Nat) (Option.some Jvm.ClassFile.FieldType.int), Jvm.Cond.code ({ cls := "java/lang/StringUTF16", name := "coderFromArrayLen", desc := "([BI)B" } : Jvm.MethodName) jdk_52_method_15_code (2 : Nat) (Option.some Jvm.ClassFile.FieldType.byte), Jvm.Cond.code ({ cls := "com/example/reportwire/reportwire/ArgumentsAsksForHelpPinLaw", name := "isHelp", desc := "(J)Z" } : Jvm.MethodName) method_4_code (5 : Nat) (Option.some Jvm.ClassFile.FieldType.boolean), Jvm.Cond.code ({ cls := "java/lang/String", name := "charAt", desc := "(I)C" } : Jvm.MethodName) jdk_42_method_56_code (2 : Nat) (Option.some Jvm.ClassFile.FieldType.char), Jvm.Cond.code ({ cls := "java/lang/String", name := "isLatin1", desc := "()Z" } : Jvm.MethodName) jdk_42_method_154_code (1 : Nat) (Option.some Jvm.ClassFile.FieldType.boolean), Jvm.Cond.code ({ cls := "java/lang/StringLatin1", name := "charAt", desc := "([BI)C" } : Jvm.MethodName) jdk_43_method_2_code (2 : Nat) (Option.some Jvm.ClassFile.FieldType.char), Jvm.Cond.code ({ cls := "java/lang/String", name := "checkIndex", desc := "(II)V" } : Jvm.MethodName) jdk_42_method_155_code (2 : Nat) (Option.none : Option Jvm.ClassFile.FieldType), Jvm.Cond.code ({ cls := "jdk/internal/util/Preconditions", name := "checkIndex", desc := "(IILjava/util/function/BiFunction;)I" } : Jvm.MethodName) jdk_41_method_11_code (3 : Nat) (Option.some Jvm.ClassFile.FieldType.int), Jvm.Cond.code ({ cls := "com/example/reportwire/reportwire/Arguments", name := "<init>", desc := "([Ljava/lang/String;)V" } : Jvm.MethodName) prog_7_method_1_code (2 : Nat) (Option.none : Option Jvm.ClassFile.FieldType), Jvm.Cond.code ({ cls := "java/util/HashSet", name := "<init>", desc := "()V" } : Jvm.MethodName) jdk_93_method_1_code (1 : Nat) (Option.none : Option Jvm.ClassFile.FieldType), Jvm.Cond.code ({ cls := "java/util/AbstractSet", name := "<init>", desc := "()V" } : Jvm.MethodName) jdk_91_method_1_code (1 : Nat) (Option.none : Option Jvm.ClassFile.FieldType), Jvm.Cond.code ({ cls := "java/util/AbstractCollection", name := "<init>", desc := "()V" } : Jvm.MethodName) jdk_22_method_1_code (1 : Nat) (Option.none : Option Jvm.ClassFile.FieldType), Jvm.Cond.code ({ cls := "java/util/HashMap", name := "<init>", desc := "()V" } : Jvm.MethodName) jdk_69_method_7_code (1 : Nat) (Option.none : Option Jvm.ClassFile.FieldType), Jvm.Cond.code ({ cls := "java/util/AbstractMap", name := "<init>", desc := "()V" } : Jvm.MethodName) jdk_71_method_1_code (1 : Nat) (Option.none : Option Jvm.ClassFile.FieldType), Jvm.Cond.code ({ cls := "com/example/reportwire/reportwire/Arguments", name := "asksForHelp", desc := "()Z" } : Jvm.MethodName) prog_7_method_8_code (2 : Nat) (Option.some Jvm.ClassFile.FieldType.boolean), Jvm.Cond.code ({ cls := "java/lang/String", name := "equals", desc := "(Ljava/lang/Object;)Z" } : Jvm.MethodName) jdk_42_method_66_code (3 : Nat) (Option.some Jvm.ClassFile.FieldType.boolean), Jvm.Cond.code ({ cls := "java/lang/StringLatin1", name := "equals", desc := "([B[B)Z" } : Jvm.MethodName) jdk_43_method_13_code (3 : Nat) (Option.some Jvm.ClassFile.FieldType.boolean), Jvm.Cond.code ({ cls := "com/example/reportwire/reportwire/Arguments", name := "next", desc := "()Ljava/lang/String;" } : Jvm.MethodName) prog_7_method_10_code (2 : Nat) (Option.some (Jvm.ClassFile.FieldType.object "java/lang/String")), Jvm.Cond.code ({ cls := "com/example/reportwire/reportwire/Arguments", name := "peek", desc := "()Ljava/lang/String;" } : Jvm.MethodName) prog_7_method_9_code (1 : Nat) (Option.some (Jvm.ClassFile.FieldType.object "java/lang/String")), Jvm.Cond.code ({ cls := "com/example/reportwire/reportwire/Arguments", name := "hasNext", desc := "()Z" } : Jvm.MethodName) prog_7_method_7_code (1 : Nat) (Option.some Jvm.ClassFile.FieldType.boolean), Jvm.Cond.code ({ cls := "com/example/reportwire/reportwire/ArgumentsAsksForHelpPinLaw", name := "ch", desc := "(JI)C" } : Jvm.MethodName) method_2_code (3 : Nat) (Option.some Jvm.ClassFile.FieldType.char), Jvm.Cond.code ({ cls := "java/lang/String", name := "valueOf", desc := "(C)Ljava/lang/String;" } : Jvm.MethodName) jdk_42_method_139_code (1 : Nat) (Option.some (Jvm.ClassFile.FieldType.object "java/lang/String")), Jvm.Cond.code ({ cls := "java/lang/StringLatin1", name := "canEncode", desc := "(C)Z" } : Jvm.MethodName) jdk_43_method_3_code (1 : Nat) (Option.some Jvm.ClassFile.FieldType.boolean), Jvm.Cond.code ({ cls := "java/lang/StringLatin1", name := "toBytes", desc := "(C)[B" } : Jvm.MethodName) jdk_43_method_46_code (1 : Nat) (Option.some (Jvm.ClassFile.FieldType.array Jvm.ClassFile.FieldType.byte)), Jvm.Cond.code ({ cls := "java/lang/String", name := "<init>", desc := "([BB)V" } : Jvm.MethodName) jdk_42_method_151_code (3 : Nat) (Option.none : Option Jvm.ClassFile.FieldType)]
set_option maxRecDepth 65536 in
theorem codes_eq : words1.filter isCode = codes1 := rfl
theorem w_codes : ∀ c ∈ words1.filter isCode, c.before args0 about1 = true := by
  rw [codes_eq]
  intro c hc
  simp only [codes1, List.mem_cons, List.not_mem_nil, or_false] at hc
  rcases hc with rfl | rfl | rfl | rfl | rfl | rfl | rfl | rfl | rfl | rfl | rfl | rfl | rfl | rfl | rfl | rfl | rfl | rfl | rfl | rfl | rfl | rfl | rfl | rfl | rfl | rfl | rfl | rfl | rfl | rfl | rfl
  · exact w_c0
  · exact w_c1
  · exact w_c2
  · exact w_c3
  · exact w_c4
  · exact w_c5
  · exact w_c6
  · exact w_c7
  · exact w_c8
  · exact w_c9
  · exact w_c10
  · exact w_c11
  · exact w_c12
  · exact w_c13
  · exact w_c14
  · exact w_c15
  · exact w_c16
  · exact w_c17
  · exact w_c18
  · exact w_c19
  · exact w_c20
  · exact w_c21
  · exact w_c22
  · exact w_c23
  · exact w_c24
  · exact w_c25
  · exact w_c26
  · exact w_c27
  · exact w_c28
  · exact w_c29
  · exact w_c30
set_option maxRecDepth 65536 in
theorem w_t1 : (words1.take 24).all (fun c => isCode c || c.before args0 about1) = true := by decide +kernel
set_option maxRecDepth 65536 in
theorem w_t2 : ((words1.drop 24).take 24).all (fun c => isCode c || c.before args0 about1) = true := by decide +kernel
set_option maxRecDepth 65536 in
theorem w_t3 : (((words1.drop 24).drop 24).take 24).all (fun c => isCode c || c.before args0 about1) = true := by decide +kernel
set_option maxRecDepth 65536 in
theorem w_t4 : ((((words1.drop 24).drop 24).drop 24).take 24).all (fun c => isCode c || c.before args0 about1) = true := by decide +kernel
set_option maxRecDepth 65536 in
theorem w_t5 : (((((words1.drop 24).drop 24).drop 24).drop 24).take 24).all (fun c => isCode c || c.before args0 about1) = true := by decide +kernel
set_option maxRecDepth 65536 in
theorem w_t6 : ((((((words1.drop 24).drop 24).drop 24).drop 24).drop 24).take 24).all (fun c => isCode c || c.before args0 about1) = true := by decide +kernel
set_option maxRecDepth 65536 in
theorem w_t7 : (((((((words1.drop 24).drop 24).drop 24).drop 24).drop 24).drop 24).take 24).all (fun c => isCode c || c.before args0 about1) = true := by decide +kernel
set_option maxRecDepth 65536 in
theorem w_t8 : (((((((words1.drop 24).drop 24).drop 24).drop 24).drop 24).drop 24).drop 24).all (fun c => isCode c || c.before args0 about1) = true := by decide +kernel
theorem w_tables : (allAtoms (Jvm.Cond.code x code maxLocals ret :: tables_1)).before args0 about1 = true := by
  rw [allAtoms_all]
  show words1.all (fun c => c.before args0 about1) = true
  refine all_split ?_ w_codes
  rw [← List.take_append_drop 24 words1, List.all_append, w_t1, ← List.take_append_drop 24 (words1.drop 24), List.all_append, w_t2, ← List.take_append_drop 24 ((words1.drop 24).drop 24), List.all_append, w_t3, ← List.take_append_drop 24 (((words1.drop 24).drop 24).drop 24), List.all_append, w_t4, ← List.take_append_drop 24 ((((words1.drop 24).drop 24).drop 24).drop 24), List.all_append, w_t5, ← List.take_append_drop 24 (((((words1.drop 24).drop 24).drop 24).drop 24).drop 24), List.all_append, w_t6, ← List.take_append_drop 24 ((((((words1.drop 24).drop 24).drop 24).drop 24).drop 24).drop 24), List.all_append, w_t7, w_t8]
  rfl
set_option maxRecDepth 65536 in
theorem w_rest : rest_1_c.before args0 about1 = true := by decide +kernel
set_option maxRecDepth 65536 in
theorem w_case : (Jvm.Cond.and given_1 narrow_1).before args0 about1 = true := by decide +kernel
set_option maxRecDepth 65536 in
theorem w_consts : constsHeld consts_1 about1 := Jvm.Lit.constsHeldB_iff.mp (by decide +kernel)
theorem w_applies : (headSpec (Jvm.Cond.code x code maxLocals ret :: tables_1) room_1).applies x e0.platform about1 = true :=
  (Spec.applies_iff w_frames).mpr ⟨w_running, w_runnable, w_alone, w_named, w_hears, w_ripe, w_room, w_tables⟩
theorem atStart : AtStart classFile x code maxLocals ret World_1 tables_1 room_1 Calls_1 rest_1 Pre_1 launch0 p0 e0 about1 theMethod args0 below0 :=
  ⟨lists_1, trivial, launch0.admits_env _ _ _, launch0.least_env, fairChoices_fair.cas, fairChoices_fair.clock, w_frames, w_args, w_heap, w_applies, ⟨w_consts, trivial⟩, w_rest, w_case⟩
end start1
theorem witness_1 : WitnessClaimed_1 := ⟨start1.p0, start1.e0, start1.about1, start1.theMethod, start1.args0, start1.below0, start1.atStart⟩
end Jvm.Pilot.@@N@@
