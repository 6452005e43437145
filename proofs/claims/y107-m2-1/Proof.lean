import JvmDerived
import JvmDerived.Pilot.@@N@@Statement
import JvmDerived.Pilot.@@N@@Code
set_option linter.unusedVariables false
set_option linter.unusedSimpArgs false
namespace Jvm.Pilot.@@N@@
open Jvm Jvm.ClassFile Sem Op Lib Jvm.Free Jvm.Stand Jvm.LawKit Jvm.RoadKit Bundle Jvm.Pilot.@@N@@.Jvm.D
theorem wdx {a0 : Array Value} {Z : State} (hw : ∀ d ∈ tables_1, d.before a0 Z = true) (i : Nat) {d : Jvm.Cond} (h : tables_1[i]? = some d) : d.before a0 Z = true := hw d (List.mem_of_getElem? h)
/-! the walk in one predicate: from S the run comes to an end at which Q holds -/
def Go (p : Program) (e : Env) (below : List Frame) (s : State) (rc rs : Nat) (Q : Option Value → Heap → List Loc → Prop) (S : State) : Prop :=
  ∃ t o, Steps p.tables e below S t ∧ t.status = .running ∧ Ended t below o ∧ ∃ v L, o = .returned v ∧ Q v t.heap L ∧ FrameEnd s o t L rc rs
section Pre
variable {p : Program} {l : Launch} {e : Env} {R : Room} {s : State} {m : MethodId} {args : Array Value} {below : List Frame} {meth : Method} {c : Code} {T : State} {locs : List Loc} {cells slots rc rs : Nat} {Q : Option Value → Heap → List Loc → Prop} {S S' : State} {h : Heap} {Z : State} {n0 : Nat}
theorem Go.st (k : ∀ t, Steps p.tables e below S' t → Steps p.tables e below S t) (g : Go p e below s rc rs Q S') : Go p e below s rc rs Q S := by
  obtain ⟨t, o, h, r⟩ := g; exact ⟨t, o, k t h, r⟩
theorem Go.tr (k : Steps p.tables e below S S') (g : Go p e below s rc rs Q S') : Go p e below s rc rs Q S := by
  obtain ⟨t, o, h, r⟩ := g; exact ⟨t, o, k.trans h, r⟩
theorem Go.ret (X : Stand p l e R s m args below meth c T locs cells slots) (hx : p.tables.exec = Jvm.exec) (hlk : meth.locks = false) {pc : Nat} {Ls : Array Slot} {w : Value} {t : FieldType} {i : Instr} {rest : List Value} (hret : meth.sig.returnType = some t) (hn : narrow t w = w)
    (hi : (i = .ireturn ∧ (t = .int ∨ t = .boolean ∨ t = .byte ∨ t = .char ∨ t = .short) ∧ ∃ z, w = .int z) ∨ (i = .lreturn ∧ t = .long ∧ ∃ z, w = .long z) ∨ (i = .dreturn ∧ t = .double ∧ ∃ z, w = .double z) ∨ (i = .freturn ∧ t = .float ∧ ∃ z, w = .float z) ∨ (i = .areturn ∧ t.isReference = true ∧ w.isRef = true))
    (hd : decode c.code pc = .ok (i, 1)) (hc : cells ≤ rc) (hs : slots ≤ rs) (hh : T.heap = h) (hq : Q (some w) h locs) : Go p e below s rc rs Q (T.setTop (mkF m pc Ls (w :: rest))) := by
  obtain ⟨fs, hr, hrun, hended, hW, hsame⟩ := X.leave (v := some w) (fun h => by rw [hret] at h; cases h) hlk
  subst hh
  exact ⟨_, _, retOut X hx hret hn hi hd hr, hrun, hended, _, _, rfl, hq, ⟨_, rfl⟩, hW, hsame.mono hc hs⟩
theorem Go.retB (X : Stand p l e R s m args below meth c T locs cells slots) (hx : p.tables.exec = Jvm.exec) (hlk : meth.locks = false) {pc : Nat} {Ls : Array Slot} {z : Int32} {t : FieldType} {rest : List Value} (hret : meth.sig.returnType = some t) (ht : t = .boolean ∨ t = .byte ∨ t = .char ∨ t = .short)
    (hd : decode c.code pc = .ok (.ireturn, 1)) (hc : cells ≤ rc) (hs : slots ≤ rs) (hh : T.heap = h) (hq : Q (some (.int (nar t z))) h locs) : Go p e below s rc rs Q (T.setTop (mkF m pc Ls (.int z :: rest))) := by
  obtain ⟨fs, hr, hrun, hended, hW, hsame⟩ := X.leave (v := some (.int (nar t z))) (fun h => by rw [hret] at h; cases h) hlk
  subst hh
  exact ⟨_, _, retN X hx hret ht hd hr, hrun, hended, _, _, rfl, hq, ⟨_, rfl⟩, hW, hsame.mono hc hs⟩
theorem Go.retV (X : Stand p l e R s m args below meth c T locs cells slots) (hx : p.tables.exec = Jvm.exec) (hlk : meth.locks = false) {pc : Nat} {Ls : Array Slot} (hret : meth.sig.returnType = none)
    (hd : decode c.code pc = .ok (.return_, 1)) (hc : cells ≤ rc) (hs : slots ≤ rs) (hh : T.heap = h) (hq : Q none h locs) : Go p e below s rc rs Q (T.setTop (mkF m pc Ls [])) := by
  obtain ⟨fs, hr, hrun, hended, hW, hsame⟩ := X.leave (v := none) (fun _ => rfl) hlk
  subst hh
  exact ⟨_, _, X.returnOut hx hret hd hr, hrun, hended, _, _, rfl, hq, ⟨_, rfl⟩, hW, hsame.mono hc hs⟩
theorem own_le (O : Old Z n0 h) : n0 ≤ h.size := O.1 ▸ O.2.1
theorem own_nb (b : Bool) : nar .boolean (if b then 1 else 0) = if b then 1 else 0 := by cases b <;> rfl
end Pre
/-! the same where String constants may be loaded for the first time: the tables go on -/
def GoW (p : Program) (e : Env) (below : List Frame) (s : State) (rc rs : Nat) (Z : State) (EL : List (String × Nat)) (Q : Option Value → Heap → List Loc → Prop) (S : State) : Prop :=
  ∃ t o, Steps p.tables e below S t ∧ t.status = .running ∧ Ended t below o ∧ ∃ v L, o = .returned v ∧ Q v t.heap L ∧ CHr Z EL s.vm s.heap t.vm t.heap ∧ ReturnedEndW s o t L rc rs
section PreW
variable {p : Program} {l : Launch} {e : Env} {R : Room} {s : State} {m : MethodId} {args : Array Value} {below : List Frame} {meth : Method} {c : Code} {T : State} {locs : List Loc} {cells slots rc rs : Nat} {Q : Option Value → Heap → List Loc → Prop} {S S' : State} {h : Heap} {Z : State} {n0 k0 : Nat} {vm0 : Vm} {EL : List (String × Nat)} {a0 : Array Value}
theorem GoW.st (k : ∀ t, Steps p.tables e below S' t → Steps p.tables e below S t) (g : GoW p e below s rc rs Z EL Q S') : GoW p e below s rc rs Z EL Q S := by
  obtain ⟨t, o, h, r⟩ := g; exact ⟨t, o, k t h, r⟩
theorem GoW.tr (k : Steps p.tables e below S S') (g : GoW p e below s rc rs Z EL Q S') : GoW p e below s rc rs Z EL Q S := by
  obtain ⟨t, o, h, r⟩ := g; exact ⟨t, o, k.trans h, r⟩
theorem own_rm {o : Outcome} {t : State} {L : List Loc} {k n k' n' : Nat} (h : ReturnedEndW s o t L k n) (h1 : k ≤ k') (h2 : n ≤ n') : ReturnedEndW s o t L k' n' := ⟨h.1, h.2.1, h.2.2.1, h.2.2.2.mono h1 h2⟩
theorem GoW.ret (X : Stand p l e R (s.setVm vm0) m args below meth c T locs cells slots) (hx : p.tables.exec = Jvm.exec) (hlk : meth.locks = false) (hS : s.Since vm0 k0) (hk : k0 ≤ T.heap.size) (hZ : Z.Warmed39 vm0) (hEL : EW Z a0 EL) (hCH : CHr Z EL s.vm s.heap vm0 h) {pc : Nat} {Ls : Array Slot} {w : Value} {t : FieldType} {i : Instr} {rest : List Value} (hret : meth.sig.returnType = some t) (hn : narrow t w = w)
    (hi : (i = .ireturn ∧ (t = .int ∨ t = .boolean ∨ t = .byte ∨ t = .char ∨ t = .short) ∧ ∃ z, w = .int z) ∨ (i = .lreturn ∧ t = .long ∧ ∃ z, w = .long z) ∨ (i = .dreturn ∧ t = .double ∧ ∃ z, w = .double z) ∨ (i = .freturn ∧ t = .float ∧ ∃ z, w = .float z) ∨ (i = .areturn ∧ t.isReference = true ∧ w.isRef = true))
    (hd : decode c.code pc = .ok (i, 1)) (hc : cells ≤ rc) (hs : slots ≤ rs) (hh : T.heap = h) (hq : Q (some w) h locs) : GoW p e below s rc rs Z EL Q (T.setTop (mkF m pc Ls (w :: rest))) := by
  obtain ⟨fs, hr, hrun, hended, hW⟩ := X.leaveW hS hk (v := some w) (fun h => by rw [hret] at h; cases h) hlk
  subst hh
  have hCHt := hCH.trans (CHv.at X hZ hEL hCH.1)
  exact ⟨_, _, retOut X hx hret hn hi hd hr, hrun, hended, _, _, rfl, hq, hCHt, own_rm hW hc hs⟩
theorem GoW.retB (X : Stand p l e R (s.setVm vm0) m args below meth c T locs cells slots) (hx : p.tables.exec = Jvm.exec) (hlk : meth.locks = false) (hS : s.Since vm0 k0) (hk : k0 ≤ T.heap.size) (hZ : Z.Warmed39 vm0) (hEL : EW Z a0 EL) (hCH : CHr Z EL s.vm s.heap vm0 h) {pc : Nat} {Ls : Array Slot} {z : Int32} {t : FieldType} {rest : List Value} (hret : meth.sig.returnType = some t) (ht : t = .boolean ∨ t = .byte ∨ t = .char ∨ t = .short)
    (hd : decode c.code pc = .ok (.ireturn, 1)) (hc : cells ≤ rc) (hs : slots ≤ rs) (hh : T.heap = h) (hq : Q (some (.int (nar t z))) h locs) : GoW p e below s rc rs Z EL Q (T.setTop (mkF m pc Ls (.int z :: rest))) := by
  obtain ⟨fs, hr, hrun, hended, hW⟩ := X.leaveW hS hk (v := some (.int (nar t z))) (fun h => by rw [hret] at h; cases h) hlk
  subst hh
  have hCHt := hCH.trans (CHv.at X hZ hEL hCH.1)
  exact ⟨_, _, retN X hx hret ht hd hr, hrun, hended, _, _, rfl, hq, hCHt, own_rm hW hc hs⟩
theorem GoW.retV (X : Stand p l e R (s.setVm vm0) m args below meth c T locs cells slots) (hx : p.tables.exec = Jvm.exec) (hlk : meth.locks = false) (hS : s.Since vm0 k0) (hk : k0 ≤ T.heap.size) (hZ : Z.Warmed39 vm0) (hEL : EW Z a0 EL) (hCH : CHr Z EL s.vm s.heap vm0 h) {pc : Nat} {Ls : Array Slot} (hret : meth.sig.returnType = none)
    (hd : decode c.code pc = .ok (.return_, 1)) (hc : cells ≤ rc) (hs : slots ≤ rs) (hh : T.heap = h) (hq : Q none h locs) : GoW p e below s rc rs Z EL Q (T.setTop (mkF m pc Ls [])) := by
  obtain ⟨fs, hr, hrun, hended, hW⟩ := X.leaveW hS hk (v := none) (fun _ => rfl) hlk
  subst hh
  have hCHt := hCH.trans (CHv.at X hZ hEL hCH.1)
  exact ⟨_, _, X.returnOut hx hret hd hr, hrun, hended, _, _, rfl, hq, hCHt, own_rm hW hc hs⟩
theorem own_back {y : MethodName} {bytes : ByteArray} {maxL : Nat} {ret : Option FieldType} {rm : Room} {len W : Nat} {as' : Array Value} {Q : Option Value → Heap → List Loc → Prop} {xs : List Addr}
    (hM : MetFree l y (head1 [Jvm.Cond.code y bytes maxL ret] rm) (fun a U => a = as' ∧ Z.Warmed39 U.vm ∧ U.heap = h ∧ CHv Z EL U.vm h ∧ ∀ y ∈ xs, Safe Z EL U.vm h y) (fun _ _ _ _ _ => True) (fun _ U o U' => ∃ v L, o = .returned v ∧ Q v U'.heap L ∧ CHr Z EL U.vm U.heap U'.vm U'.heap ∧ ReturnedEndW U o U' L rm.cells rm.slots))
    (hZ : Z.Warmed39 vm0) (wc : (Jvm.Cond.code y bytes maxL ret).before a0 Z = true) (wz : (Jvm.Cond.initialized y.cls).before a0 Z = true) (hf : rm.frames + 1 ≤ R.frames) (hl : W + (maxL + 11) + rm.locals ≤ R.locals) (hEL : EW Z a0 EL) (H : CHv Z EL vm0 h) (hs : ∀ y ∈ xs, y < h.size ∧ Safe Z EL vm0 h y) :
    BackS l R p e below (s.setVm vm0) args y len W (fun A a => a = as' ∧ A.U.heap = h ∧ A.cells + rm.cells ≤ R.cells ∧ A.slots + rm.slots ≤ R.slots)
      (fun A _ v B => ∃ L, Q v B.U.heap L ∧ B.locs = A.locs ++ L ∧ B.cells = A.cells + rm.cells ∧ B.slots = A.slots + rm.slots ∧ CHr Z EL vm0 h B.U.vm B.U.heap) :=
  BackS.of_freeW (bytes := bytes) (maxL := maxL) (ret := ret) (E := fun _ first o t L k n => k = rm.cells ∧ n = rm.slots ∧ (∃ v, o = .returned v ∧ Q v t.heap L) ∧ CHr Z EL first.vm first.heap t.vm t.heap) hM hf hl
    (fun m meth c A a Y hp => have hU : Z.Warmed39 A.U.vm := wtrans (s := s.setVm vm0) hZ Y.warmed
      ⟨by show (Jvm.Cond.and _ .tt).before a A.U = true; rw [Cond.before_and, mv hU wc]; rfl, mv hU wc, mv hU wz, hp.2.2.1, hp.2.2.2⟩)
    (fun m meth c A a g mk Y hp => ⟨hp.1, wtrans (s := s.setVm vm0) hZ Y.warmed, hp.2.1, (CHv.at Y hZ hEL H).1, fun y hy => (CHv.at Y hZ hEL H).safe (hs y hy).1 (hs y hy).2⟩) (fun _ _ _ _ _ _ _ _ _ => trivial)
    (fun _ _ _ _ ⟨v, L, h1, h2, h3, h4⟩ => ⟨L, _, _, h4, rfl, rfl, ⟨v, h1, h2⟩, h3⟩)
    (fun m meth c A a g mk v t L k n Y hp _ _ ⟨e1, e2, ⟨v', e3, e4⟩, e5⟩ => by
      cases e3; subst e1 e2
      refine ⟨L, e4, rfl, rfl, rfl, (CHv.at Y hZ hEL H).trans ?_⟩
      rw [← hp.2.1]; exact e5)
end PreW
def EL : List (String × Nat) := [("java/lang/String", 7)]
theorem own_wS {a0 : Array Value} {Z : State} (hw : ∀ d ∈ tables_1, d.before a0 Z = true) : ∀ d ∈ Bundle.stringAtoms, d.before a0 Z = true := fun d hd => by
  simp only [Bundle.stringAtoms, List.mem_cons, List.not_mem_nil, or_false] at hd
  rcases hd with rfl | rfl | rfl | rfl | rfl | rfl | rfl
  · exact (wdx hw 12 rfl)
  · exact (wdx hw 11 rfl)
  · exact (wdx hw 25 rfl)
  · exact (wdx hw 26 rfl)
  · exact (wdx hw 27 rfl)
  · exact (wdx hw 28 rfl)
  · exact (wdx hw 29 rfl)
theorem own_EW {a0 : Array Value} {Z : State} (hw : ∀ d ∈ tables_1, d.before a0 Z = true) : EW Z a0 EL := (EW.cons (wdx hw 24 rfl) (by decide) EW.nil)
theorem own_ch (u : Int32) : ¬ (255 : Int32) < (u &&& (255 : Int32)).toUInt32.toUInt16.toUInt32.toInt32 := by
  rw [i2c_mask, Int32.lt_iff_toInt_lt]
  have := c_mask u 255 8 (by decide) (by decide)
  have e : (255 : Int32).toInt = 255 := rfl
  omega
theorem own_cn (u : Int32) : ¬ (255 : Int32) < nar .char ((u &&& (255 : Int32)).toUInt32.toUInt16.toUInt32.toInt32) := by
  have e : nar .char ((u &&& (255 : Int32)).toUInt32.toUInt16.toUInt32.toInt32) = (u &&& (255 : Int32)).toUInt32.toUInt16.toUInt32.toInt32 := by
    rw [i2c_mask]; exact i2c_mask u
  rw [e]; exact own_ch u
theorem own_cs {s : State} {args : Array Value} {C n d : String} (h1 : (Jvm.Cond.isInt (Term.static C n d)).value args s none s [] = some true) (h2 : (Jvm.Cond.not (Jvm.Cond.eq (Term.static C n d) (Term.int 0))).value args s none s [] = some true) (hi : (Jvm.Cond.initializedFor C n d).before args s = true) : ∃ z : Int32, Sta s s.heap C n d (.int z) ∧ ¬ z = 0 := by
  obtain ⟨z, ev⟩ := is_v h1
  refine ⟨z, Sta.start ev (Or.inl hi), fun q => ?_⟩
  subst q
  have h3 : (Jvm.Cond.eq (Term.static C n d) (Term.int 0)).value args s none s [] = some true := eq_i ev rfl rfl
  rw [Cond.value, h3] at h2
  cases h2
theorem own_c4 (u : Int32) : u &&& (3 : Int32) = 0 ∨ u &&& (3 : Int32) = 1 ∨ u &&& (3 : Int32) = 2 ∨ u &&& (3 : Int32) = 3 := by
  have h := c_mask u 3 2 (by decide) (by decide)
  generalize u &&& (3 : Int32) = y at *
  have : y.toInt = 0 ∨ y.toInt = 1 ∨ y.toInt = 2 ∨ y.toInt = 3 := by omega
  rcases this with h | h | h | h
  · exact Or.inl (Int32.toInt_inj.mp h)
  · exact Or.inr (Or.inl (Int32.toInt_inj.mp h))
  · exact Or.inr (Or.inr (Or.inl (Int32.toInt_inj.mp h)))
  · exact Or.inr (Or.inr (Or.inr (Int32.toInt_inj.mp h)))
theorem own_vs {Z : State} {h : Heap} {b : Addr} {k : ClassId} {la lb : List Int32} {d : Value} (e : la = lb) (F : Arv Z h b k .byte (Int32.ofNat (List.length lb)) (List.map Value.int lb) d) : Arv Z h b k .byte (Int32.ofNat (List.length la)) (List.map Value.int la) d := e ▸ F
theorem own_l2 (la : List Int32) (h : la.length ≤ 2) : la = [] ∨ (∃ u, la = [u]) ∨ ∃ u v, la = [u, v] := by
  match la, h with
  | [], _ => exact Or.inl rfl
  | [u], _ => exact Or.inr (Or.inl ⟨u, rfl⟩)
  | [u, v], _ => exact Or.inr (Or.inr ⟨u, v, rfl⟩)
  | _ :: _ :: _ :: _, h => simp at h
theorem own_b1 {P : Prop} [Decidable P] (h : ¬ (if P then (1 : Int32) else 0) = 0) : (if P then (1 : Int32) else 0) = 1 := by
  by_cases q : P
  · exact if_pos q
  · exact absurd (if_neg q) h
theorem own_by (u v : Int32) (hu : 0 ≤ u.toInt ∧ u.toInt ≤ 255) (hv : 0 ≤ v.toInt ∧ v.toInt ≤ 255) : (nar .byte (u.toInt8.toInt32) = nar .byte (v.toInt8.toInt32)) = (u = v) := by
  refine propext ⟨fun h => ?_, fun h => by rw [h]⟩
  change u.toInt8.toInt32.toInt8.toInt32 = v.toInt8.toInt32.toInt8.toInt32 at h
  have h1 := c_i2b u; have h2 := c_i2b v; have h3 := c_i2b (u.toInt8.toInt32); have h4 := c_i2b (v.toInt8.toInt32)
  rw [h] at h3
  apply Int32.toInt_inj.mp
  omega
theorem own_m8 (u : Int32) : 0 ≤ (u &&& (255 : Int32)).toInt ∧ (u &&& (255 : Int32)).toInt ≤ 255 := by
  have := c_mask u 255 8 (by decide) (by decide)
  omega
theorem own_nc (u : Int32) : nar .char (u &&& (255 : Int32)) = u &&& (255 : Int32) := i2c_mask u
theorem own_ncc (u : Int32) : nar .char ((u &&& (255 : Int32)).toUInt32.toUInt16.toUInt32.toInt32) = u &&& (255 : Int32) := by rw [i2c_mask]; exact i2c_mask u
theorem own_le8 (u : Int32) : ¬ (255 : Int32) < nar .char (u &&& (255 : Int32)) := by
  rw [own_nc, Int32.lt_iff_toInt_lt]
  have := own_m8 u
  have e : (255 : Int32).toInt = 255 := rfl
  omega
theorem own_nsa {a0 : Array Value} {Z : State} {O K : String} {kk : Nat} (w : (Jvm.Cond.noSuperclass O).before a0 Z = true) (wk : (Jvm.Cond.instantiable K kk).before a0 Z = true) (hn : O ≠ K) : NS Z O K := by
  obtain ⟨c, k, h1, h2, h3, -, -⟩ := Cond.noSuperclass_spec w
  obtain ⟨u, k2, g1, -⟩ := Cond.instantiable_spec wk
  have ne := ids_ne h1 g1 hn
  refine ⟨c, u, h1, g1, fun fuel => ?_⟩
  cases fuel with
  | zero => rfl
  | succ f => simp [Vm.isSubclassAux, ne, h2, h3]
theorem own_nsb {a0 : Array Value} {Z : State} {C S K : String} {kk : Nat} (w : (Jvm.Cond.superclass C S).before a0 Z = true) (wk : (Jvm.Cond.instantiable K kk).before a0 Z = true) (n : NS Z C K) (hn : C ≠ K) : ∃ c t, Z.vm.findClass C = some c ∧ Z.vm.findClass K = some t ∧ Z.vm.assignable c t = false := by
  obtain ⟨c, u, h0, g0, n3⟩ := n
  obtain ⟨q1, k, kp, h1, h2, h3, h4, h5, -, h7⟩ := Cond.superclass_spec h0 w
  obtain ⟨u2, k', g1, g2, g3, g4, -⟩ := Cond.instantiable_spec wk
  cases g0.symm.trans g1
  have ne := ids_ne h0 g0 hn
  have g5 : k'.isInterface = false := by
    cases hi : k'.isInterface
    · rfl
    · rw [hi] at g4; cases g4
  refine ⟨c, u, h0, g0, ?_⟩
  show Z.vm.assignableAux (255 + 1) c u = false
  simp [Vm.assignableAux, ne, h2, g2, h5, g3, g5, Vm.isSubclass, n3]
def fc0 (u : Int32) : Int32 := (u &&& (255 : Int32))
def fc1 (u : Int32) : Int32 := (((u.toUInt32 >>> ((8 : Int32) &&& 31).toUInt32).toInt32) &&& (255 : Int32))
def fln (u : Int32) : Int32 := ((((u.toUInt32 >>> ((16 : Int32) &&& 31).toUInt32).toInt32) &&& (255 : Int32)) % (3 : Int32))
def fb (u : Int32) : Int32 := nar .byte ((nar .char u).toInt8.toInt32)
def fls (u : Int32) : List Int32 := if fln u = 0 then [] else if fln u = 1 then [fb (fc0 u)] else [fb (fc0 u), fb (fc1 u)]
def fsame (u v : Int32) : Int32 := if fln u = fln v then (if fln u = 0 then 1 else if fc0 u = fc0 v then (if fln u = 1 then 1 else if fc1 u = fc1 v then 1 else 0) else 0) else 0
theorem own_ln (u : Int32) : fln u = 0 ∨ fln u = 1 ∨ fln u = 2 := by
  unfold fln
  generalize (u.toUInt32 >>> ((16 : Int32) &&& 31).toUInt32).toInt32 = w
  have hp := own_m8 w
  have hm := (c_irem (w &&& (255 : Int32)) 3 3 rfl).1 hp.1
  generalize (w &&& (255 : Int32)) % (3 : Int32) = y at *
  have : y.toInt = 0 ∨ y.toInt = 1 ∨ y.toInt = 2 := by omega
  rcases this with h | h | h
  · exact Or.inl (Int32.toInt_inj.mp h)
  · exact Or.inr (Or.inl (Int32.toInt_inj.mp h))
  · exact Or.inr (Or.inr (Int32.toInt_inj.mp h))
theorem own_fb (u v : Int32) (hu : 0 ≤ u.toInt ∧ u.toInt ≤ 255) (hv : 0 ≤ v.toInt ∧ v.toInt ≤ 255) (eu : nar .char u = u) (ev : nar .char v = v) : (fb u = fb v) = (u = v) := by
  unfold fb; rw [eu, ev]; exact own_by u v hu hv
theorem own_f0 (u v : Int32) : (fb (fc0 u) = fb (fc0 v)) = (fc0 u = fc0 v) := own_fb _ _ (own_m8 u) (own_m8 v) (own_nc u) (own_nc v)
theorem own_f1 (u v : Int32) : (fb (fc1 u) = fb (fc1 v)) = (fc1 u = fc1 v) := own_fb _ _ (own_m8 _) (own_m8 _) (own_nc _) (own_nc _)
theorem own_same (u v : Int32) : fsame u v = if fls u = fls v then 1 else 0 := by
  unfold fsame fls
  rcases own_ln u with h | h | h <;> rcases own_ln v with k | k | k <;> simp [h, k, own_f0, own_f1]
  all_goals (split <;> simp_all)
theorem own_l3 (u : Int32) : (fls u).length ≤ 2 := by
  unfold fls
  split
  · simp
  · split <;> simp
theorem own_sy {A : Type} [DecidableEq A] (a b c d : A) : (if a = b then (if c = d then (1 : Int32) else 0) else 0) = (if b = a then (if d = c then (1 : Int32) else 0) else 0) := by
  simp only [eq_comm]
theorem d16_0 : decode jdk_52_method_21_code 0 = .ok (.iconst 0, 1) := by decide +kernel
theorem d16_1 : decode jdk_52_method_21_code 1 = .ok (.istore 5, 2) := by decide +kernel
theorem d16_3 : decode jdk_52_method_21_code 3 = .ok (.iload 5, 2) := by decide +kernel
theorem d16_5 : decode jdk_52_method_21_code 5 = .ok (.iload 4, 2) := by decide +kernel
theorem d16_7 : decode jdk_52_method_21_code 7 = .ok (.if_icmp .ge 37, 3) := by decide +kernel
theorem d16_10 : decode jdk_52_method_21_code 10 = .ok (.aload_n 0, 1) := by decide +kernel
theorem d16_11 : decode jdk_52_method_21_code 11 = .ok (.iload_n 1, 1) := by decide +kernel
theorem d16_12 : decode jdk_52_method_21_code 12 = .ok (.caload, 1) := by decide +kernel
theorem d16_13 : decode jdk_52_method_21_code 13 = .ok (.istore 6, 2) := by decide +kernel
theorem d16_15 : decode jdk_52_method_21_code 15 = .ok (.iload 6, 2) := by decide +kernel
theorem d16_17 : decode jdk_52_method_21_code 17 = .ok (.sipush 255, 3) := by decide +kernel
theorem d16_20 : decode jdk_52_method_21_code 20 = .ok (.if_icmp .le 6, 3) := by decide +kernel
theorem d16_26 : decode jdk_52_method_21_code 26 = .ok (.aload_n 2, 1) := by decide +kernel
theorem d16_27 : decode jdk_52_method_21_code 27 = .ok (.iload_n 3, 1) := by decide +kernel
theorem d16_28 : decode jdk_52_method_21_code 28 = .ok (.iload 6, 2) := by decide +kernel
theorem d16_30 : decode jdk_52_method_21_code 30 = .ok (.i2b, 1) := by decide +kernel
theorem d16_31 : decode jdk_52_method_21_code 31 = .ok (.bastore, 1) := by decide +kernel
theorem d16_32 : decode jdk_52_method_21_code 32 = .ok (.iinc 1 1, 3) := by decide +kernel
theorem d16_35 : decode jdk_52_method_21_code 35 = .ok (.iinc 3 1, 3) := by decide +kernel
theorem d16_38 : decode jdk_52_method_21_code 38 = .ok (.iinc 5 1, 3) := by decide +kernel
theorem d16_41 : decode jdk_52_method_21_code 41 = .ok (.goto (-38), 3) := by decide +kernel
theorem d16_44 : decode jdk_52_method_21_code 44 = .ok (.iload 4, 2) := by decide +kernel
theorem d16_46 : decode jdk_52_method_21_code 46 = .ok (.ireturn, 1) := by decide +kernel
theorem pn_java_lang_StringUTF16 : plainName "java/lang/StringUTF16" = true := by first | (simp [plainName, overriddenIn]; done) | decide +kernel
theorem ef_rm16_1 (m : MethodId) (aa : Addr) (bb : Addr) : entryFrame m #[(.ref aa), (.int (0 : Int32)), (.ref bb), (.int (0 : Int32)), (.int (1 : Int32))] 7 = mkF m 0 #[.val (.ref aa), .val (.int (0 : Int32)), .val (.ref bb), .val (.int (0 : Int32)), .val (.int (1 : Int32)), .unset, .unset] [] := by first | (simp [entryFrame, mkF, argsToLocals, Value.category]; done) | rfl
def Q16_1 (Z : State) (aa : Addr) (bb : Addr) (ka : ClassId) (kb : ClassId) (ca : Int32) (h0 : Heap) (n0 : Nat) (v : Option Value) (h : Heap) (L : List Loc) : Prop := v = some (.int (1 : Int32)) ∧ Fr n0 L ∧ Keep h0 h [bb] ∧ Arv Z h bb kb .byte (1 : Int32) [(.int (nar .byte (ca.toInt8.toInt32)))] (.int (0 : Int32))
set_option maxRecDepth 65536 in
set_option maxHeartbeats 40000000 in
theorem rm16_1 (l : Launch) (Z : State) (a0 : Array Value) (hw : ∀ d ∈ tables_1, d.before a0 Z = true) (ws : List Jvm.Cond) (aa : Addr) (bb : Addr) (ka : ClassId) (kb : ClassId) (ca : Int32) (h0 : Heap) (n0 : Nat) (O0 : Old Z n0 h0) (Va : Arv Z h0 aa ka .char (1 : Int32) [(.int ca)] (.int (0 : Int32))) (Vb : Arv Z h0 bb kb .byte (1 : Int32) [(.int (0 : Int32))] (.int (0 : Int32))) (q_ca : ¬ (255 : Int32) < ca) (g_b : n0 ≤ bb) (ne_ab : aa ≠ bb) :
    MetFree l (⟨"java/lang/StringUTF16", "compress", "([CI[BII)I"⟩ : MethodName) (head1 (Jvm.Cond.code (⟨"java/lang/StringUTF16", "compress", "([CI[BII)I"⟩ : MethodName) jdk_52_method_21_code 7 (some .int) :: ws) ({ frames := 0, cells := 0, slots := 0, locals := 0 } : Room)) (fun ay U => ay = #[(.ref aa), (.int (0 : Int32)), (.ref bb), (.int (0 : Int32)), (.int (1 : Int32))] ∧ Z.Warmed39 U.vm ∧ U.heap = h0) (fun _ _ _ _ _ => True) (fun _ U o U' => ∃ v L, o = .returned v ∧ Q16_1 Z aa bb ka kb ca h0 n0 v U'.heap L ∧ FrameEnd U o U' L ({ frames := 0, cells := 0, slots := 0, locals := 0 } : Room).cells ({ frames := 0, cells := 0, slots := 0, locals := 0 } : Room).slots) := by
  refine MetFree.of_bodySF (plainFor_of_name pn_java_lang_StringUTF16) hisR ?_
  intro p e s m args below meth c s₁ Bd hml0 hP hK
  obtain ⟨rfl, hZ, hh⟩ := hP
  have hx := Bd.exec
  have hby := Bd.bytes
  have hlk : meth.locks = false := BodyLoose.notSynchronized Bd
  have hml : c.maxLocals = 7 := hml0
  have hown : s.vm.findClass "java/lang/StringUTF16" = some m.cls := findClass_of_methodNamed Bd.named
  have hnm := (name_of_methodNamed Bd.named Bd.method).1
  have X0 : Stand p l e ({ frames := 0, cells := 0, slots := 0, locals := 0 } : Room) s m #[(.ref aa), (.int (0 : Int32)), (.ref bb), (.int (0 : Int32)), (.int (1 : Int32))] below meth c s₁ [] 0 0 := Stand.of_body Bd
  have e0 : s₁.heap = h0 := by rw [← hh, Bd.state]; rfl
  have N0 := Fr.nil n0
  suffices hgo : Go p e below s 0 0 (Q16_1 Z aa bb ka kb ca h0 n0) (s₁.setTop (mkF m 0 #[.val (.ref aa), .val (.int (0 : Int32)), .val (.ref bb), .val (.int (0 : Int32)), .val (.int (1 : Int32)), .unset, .unset] [])) by
    obtain ⟨t, o, h1, h2⟩ := hgo; exact ⟨t, o, castTop (ef_rm16_1 m aa bb) h1, h2⟩
  show Go p e below s _ _ _ (s₁.setTop (mkF m 0 #[.val (.ref aa), .val (.int (0 : Int32)), .val (.ref bb), .val (.int (0 : Int32)), .val (.int (1 : Int32)), .unset, .unset] []))
  refine Go.st (fun _ k' => XS.iconst X0.here hx rfl (hb hby d16_0) k') ?_
  show Go p e below s _ _ _ (s₁.setTop (mkF m 1 #[.val (.ref aa), .val (.int (0 : Int32)), .val (.ref bb), .val (.int (0 : Int32)), .val (.int (1 : Int32)), .unset, .unset] [(.int (0 : Int32))]))
  refine Go.st (fun _ k' => XS.istore X0.here hx rfl (hb hby d16_1) rfl (l' := #[.val (.ref aa), .val (.int (0 : Int32)), .val (.ref bb), .val (.int (0 : Int32)), .val (.int (1 : Int32)), .val (.int (0 : Int32)), .unset]) rfl k') ?_
  show Go p e below s _ _ _ (s₁.setTop (mkF m 3 #[.val (.ref aa), .val (.int (0 : Int32)), .val (.ref bb), .val (.int (0 : Int32)), .val (.int (1 : Int32)), .val (.int (0 : Int32)), .unset] []))
  refine Go.st (fun _ k' => XS.iload X0.here hx rfl (hb hby d16_3) rfl k') ?_
  show Go p e below s _ _ _ (s₁.setTop (mkF m 5 #[.val (.ref aa), .val (.int (0 : Int32)), .val (.ref bb), .val (.int (0 : Int32)), .val (.int (1 : Int32)), .val (.int (0 : Int32)), .unset] [(.int (0 : Int32))]))
  refine Go.st (fun _ k' => XS.iload X0.here hx rfl (hb hby d16_5) rfl k') ?_
  show Go p e below s _ _ _ (s₁.setTop (mkF m 7 #[.val (.ref aa), .val (.int (0 : Int32)), .val (.ref bb), .val (.int (0 : Int32)), .val (.int (1 : Int32)), .val (.int (0 : Int32)), .unset] [(.int (1 : Int32)), (.int (0 : Int32))]))
  refine Go.st (fun _ k' => XS.icmpNo X0.here hx rfl (hb hby d16_7) rfl (XT.ii_ge_f (by decide)) k') ?_
  show Go p e below s _ _ _ (s₁.setTop (mkF m 10 #[.val (.ref aa), .val (.int (0 : Int32)), .val (.ref bb), .val (.int (0 : Int32)), .val (.int (1 : Int32)), .val (.int (0 : Int32)), .unset] []))
  refine Go.st (fun _ k' => XS.aloadN X0.here hx rfl (hb hby d16_10) rfl rfl k') ?_
  show Go p e below s _ _ _ (s₁.setTop (mkF m 11 #[.val (.ref aa), .val (.int (0 : Int32)), .val (.ref bb), .val (.int (0 : Int32)), .val (.int (1 : Int32)), .val (.int (0 : Int32)), .unset] [(.ref aa)]))
  refine Go.st (fun _ k' => XS.iloadN X0.here hx rfl (hb hby d16_11) rfl k') ?_
  show Go p e below s _ _ _ (s₁.setTop (mkF m 12 #[.val (.ref aa), .val (.int (0 : Int32)), .val (.ref bb), .val (.int (0 : Int32)), .val (.int (1 : Int32)), .val (.int (0 : Int32)), .unset] [(.int (0 : Int32)), (.ref aa)]))
  obtain ⟨cl1, Ar1, qc1, Sz1, Nn1, Ha1, Gf1⟩ := id Va
  refine Go.st (fun _ k' => X0.caload hx (j := (0 : Int32)) (v := (.int ca)) (by rw [e0]; exact Ar1.1) (State.isArrayOf_alike hZ.alike Ar1.2.1) Ar1.2.2 (inb_of Sz1 ⟨by decide, by decide⟩) (Ha1.at (inb_of Sz1 ⟨by decide, by decide⟩) rfl) (g := (mkF m 12 #[.val (.ref aa), .val (.int (0 : Int32)), .val (.ref bb), .val (.int (0 : Int32)), .val (.int (1 : Int32)), .val (.int (0 : Int32)), .unset] [(.int (0 : Int32)), (.ref aa)])) rfl rfl (hb hby d16_12) _ k') ?_
  show Go p e below s _ _ _ (s₁.setTop (mkF m 13 #[.val (.ref aa), .val (.int (0 : Int32)), .val (.ref bb), .val (.int (0 : Int32)), .val (.int (1 : Int32)), .val (.int (0 : Int32)), .unset] [(.int ca)]))
  refine Go.st (fun _ k' => XS.istore X0.here hx rfl (hb hby d16_13) rfl (l' := #[.val (.ref aa), .val (.int (0 : Int32)), .val (.ref bb), .val (.int (0 : Int32)), .val (.int (1 : Int32)), .val (.int (0 : Int32)), .val (.int ca)]) rfl k') ?_
  show Go p e below s _ _ _ (s₁.setTop (mkF m 15 #[.val (.ref aa), .val (.int (0 : Int32)), .val (.ref bb), .val (.int (0 : Int32)), .val (.int (1 : Int32)), .val (.int (0 : Int32)), .val (.int ca)] []))
  refine Go.st (fun _ k' => XS.iload X0.here hx rfl (hb hby d16_15) rfl k') ?_
  show Go p e below s _ _ _ (s₁.setTop (mkF m 17 #[.val (.ref aa), .val (.int (0 : Int32)), .val (.ref bb), .val (.int (0 : Int32)), .val (.int (1 : Int32)), .val (.int (0 : Int32)), .val (.int ca)] [(.int ca)]))
  refine Go.st (fun _ k' => XS.sipush X0.here hx rfl (hb hby d16_17) k') ?_
  show Go p e below s _ _ _ (s₁.setTop (mkF m 20 #[.val (.ref aa), .val (.int (0 : Int32)), .val (.ref bb), .val (.int (0 : Int32)), .val (.int (1 : Int32)), .val (.int (0 : Int32)), .val (.int ca)] [(.int (255 : Int32)), (.int ca)]))
  refine Go.st (fun _ k' => XS.icmpYes X0.here hx rfl (pc0 := 20) (pc' := 26) rfl (hb hby d16_20) rfl (XT.ii_le_t q_ca) (by decide) (by decide) k') ?_
  show Go p e below s _ _ _ (s₁.setTop (mkF m 26 #[.val (.ref aa), .val (.int (0 : Int32)), .val (.ref bb), .val (.int (0 : Int32)), .val (.int (1 : Int32)), .val (.int (0 : Int32)), .val (.int ca)] []))
  refine Go.st (fun _ k' => XS.aloadN X0.here hx rfl (hb hby d16_26) rfl rfl k') ?_
  show Go p e below s _ _ _ (s₁.setTop (mkF m 27 #[.val (.ref aa), .val (.int (0 : Int32)), .val (.ref bb), .val (.int (0 : Int32)), .val (.int (1 : Int32)), .val (.int (0 : Int32)), .val (.int ca)] [(.ref bb)]))
  refine Go.st (fun _ k' => XS.iloadN X0.here hx rfl (hb hby d16_27) rfl k') ?_
  show Go p e below s _ _ _ (s₁.setTop (mkF m 28 #[.val (.ref aa), .val (.int (0 : Int32)), .val (.ref bb), .val (.int (0 : Int32)), .val (.int (1 : Int32)), .val (.int (0 : Int32)), .val (.int ca)] [(.int (0 : Int32)), (.ref bb)]))
  refine Go.st (fun _ k' => XS.iload X0.here hx rfl (hb hby d16_28) rfl k') ?_
  show Go p e below s _ _ _ (s₁.setTop (mkF m 30 #[.val (.ref aa), .val (.int (0 : Int32)), .val (.ref bb), .val (.int (0 : Int32)), .val (.int (1 : Int32)), .val (.int (0 : Int32)), .val (.int ca)] [(.int ca), (.int (0 : Int32)), (.ref bb)]))
  refine Go.st (fun _ k' => XS.i2b X0.here hx rfl (hb hby d16_30) rfl k') ?_
  show Go p e below s _ _ _ (s₁.setTop (mkF m 31 #[.val (.ref aa), .val (.int (0 : Int32)), .val (.ref bb), .val (.int (0 : Int32)), .val (.int (1 : Int32)), .val (.int (0 : Int32)), .val (.int ca)] [(.int (ca.toInt8.toInt32)), (.int (0 : Int32)), (.ref bb)]))
  obtain ⟨cl2, Ar2, qc2, Sz2, Nn2, Ha2, Gf2⟩ := id Vb
  obtain ⟨T2, h2, X2, e2, W2, st2⟩ := stB X0 hx hZ e0 Ar2 (j := (0 : Int32)) (inb_of Sz2 ⟨by decide, by decide⟩) (g := (mkF m 31 #[.val (.ref aa), .val (.int (0 : Int32)), .val (.ref bb), .val (.int (0 : Int32)), .val (.int (1 : Int32)), .val (.int (0 : Int32)), .val (.int ca)] [(.int (ca.toInt8.toInt32)), (.int (0 : Int32)), (.ref bb)])) rfl rfl (hb hby d16_31)
  refine Go.st st2 ?_
  have f4 : Arv Z h2 aa ka .char (1 : Int32) [(.int ca)] (.int (0 : Int32)) := Va.other W2 ne_ab
  have O2 : Old Z n0 h2 := O0.wr W2 g_b
  have N2 := Fr.snoc X2 N0 g_b
  have K2 : Keep h0 h2 [bb] := (Keep.refl h0 [bb]).wr W2 (Or.inl (by simp))
  have f3 : Arv Z h2 bb kb .byte (1 : Int32) [(.int (nar .byte (ca.toInt8.toInt32)))] (.int (0 : Int32)) := Arv.set Ar2 qc2 Sz2 Nn2 Ha2 Gf2 (fits_nar_byte _) W2 0 rfl (Nat.le_of_ble_eq_true rfl)
  show Go p e below s _ _ _ (T2.setTop (mkF m 32 #[.val (.ref aa), .val (.int (0 : Int32)), .val (.ref bb), .val (.int (0 : Int32)), .val (.int (1 : Int32)), .val (.int (0 : Int32)), .val (.int ca)] []))
  refine Go.st (fun _ k' => XS.iinc X2.here hx rfl (hb hby d16_32) rfl (l' := #[.val (.ref aa), .val (.int (1 : Int32)), .val (.ref bb), .val (.int (0 : Int32)), .val (.int (1 : Int32)), .val (.int (0 : Int32)), .val (.int ca)]) rfl k') ?_
  show Go p e below s _ _ _ (T2.setTop (mkF m 35 #[.val (.ref aa), .val (.int (1 : Int32)), .val (.ref bb), .val (.int (0 : Int32)), .val (.int (1 : Int32)), .val (.int (0 : Int32)), .val (.int ca)] []))
  refine Go.st (fun _ k' => XS.iinc X2.here hx rfl (hb hby d16_35) rfl (l' := #[.val (.ref aa), .val (.int (1 : Int32)), .val (.ref bb), .val (.int (1 : Int32)), .val (.int (1 : Int32)), .val (.int (0 : Int32)), .val (.int ca)]) rfl k') ?_
  show Go p e below s _ _ _ (T2.setTop (mkF m 38 #[.val (.ref aa), .val (.int (1 : Int32)), .val (.ref bb), .val (.int (1 : Int32)), .val (.int (1 : Int32)), .val (.int (0 : Int32)), .val (.int ca)] []))
  refine Go.st (fun _ k' => XS.iinc X2.here hx rfl (hb hby d16_38) rfl (l' := #[.val (.ref aa), .val (.int (1 : Int32)), .val (.ref bb), .val (.int (1 : Int32)), .val (.int (1 : Int32)), .val (.int (1 : Int32)), .val (.int ca)]) rfl k') ?_
  show Go p e below s _ _ _ (T2.setTop (mkF m 41 #[.val (.ref aa), .val (.int (1 : Int32)), .val (.ref bb), .val (.int (1 : Int32)), .val (.int (1 : Int32)), .val (.int (1 : Int32)), .val (.int ca)] []))
  refine Go.st (fun _ k' => XS.goto X2.here hx rfl (pc0 := 41) (pc' := 3) rfl (hb hby d16_41) (by decide) (by decide) k') ?_
  show Go p e below s _ _ _ (T2.setTop (mkF m 3 #[.val (.ref aa), .val (.int (1 : Int32)), .val (.ref bb), .val (.int (1 : Int32)), .val (.int (1 : Int32)), .val (.int (1 : Int32)), .val (.int ca)] []))
  refine Go.st (fun _ k' => XS.iload X2.here hx rfl (hb hby d16_3) rfl k') ?_
  show Go p e below s _ _ _ (T2.setTop (mkF m 5 #[.val (.ref aa), .val (.int (1 : Int32)), .val (.ref bb), .val (.int (1 : Int32)), .val (.int (1 : Int32)), .val (.int (1 : Int32)), .val (.int ca)] [(.int (1 : Int32))]))
  refine Go.st (fun _ k' => XS.iload X2.here hx rfl (hb hby d16_5) rfl k') ?_
  show Go p e below s _ _ _ (T2.setTop (mkF m 7 #[.val (.ref aa), .val (.int (1 : Int32)), .val (.ref bb), .val (.int (1 : Int32)), .val (.int (1 : Int32)), .val (.int (1 : Int32)), .val (.int ca)] [(.int (1 : Int32)), (.int (1 : Int32))]))
  refine Go.st (fun _ k' => XS.icmpYes X2.here hx rfl (pc0 := 7) (pc' := 44) rfl (hb hby d16_7) rfl (XT.ii_ge_t (by decide)) (by decide) (by decide) k') ?_
  show Go p e below s _ _ _ (T2.setTop (mkF m 44 #[.val (.ref aa), .val (.int (1 : Int32)), .val (.ref bb), .val (.int (1 : Int32)), .val (.int (1 : Int32)), .val (.int (1 : Int32)), .val (.int ca)] []))
  refine Go.st (fun _ k' => XS.iload X2.here hx rfl (hb hby d16_44) rfl k') ?_
  show Go p e below s _ _ _ (T2.setTop (mkF m 46 #[.val (.ref aa), .val (.int (1 : Int32)), .val (.ref bb), .val (.int (1 : Int32)), .val (.int (1 : Int32)), .val (.int (1 : Int32)), .val (.int ca)] [(.int (1 : Int32))]))
  refine Go.ret X2 hx hlk (t := .int) Bd.returns rfl (Or.inl ⟨rfl, Or.inl rfl, _, rfl⟩) (hb hby d16_46) (by decide) (by decide) e2 ?_
  exact ⟨rfl, N2, K2, f3⟩
theorem d15_0 : decode jdk_52_method_16_code 0 = .ok (.iload_n 2, 1) := by decide +kernel
theorem d15_1 : decode jdk_52_method_16_code 1 = .ok (.newarray .byte, 2) := by decide +kernel
theorem d15_3 : decode jdk_52_method_16_code 3 = .ok (.astore_n 3, 1) := by decide +kernel
theorem d15_4 : decode jdk_52_method_16_code 4 = .ok (.aload_n 0, 1) := by decide +kernel
theorem d15_5 : decode jdk_52_method_16_code 5 = .ok (.iload_n 1, 1) := by decide +kernel
theorem d15_6 : decode jdk_52_method_16_code 6 = .ok (.aload_n 3, 1) := by decide +kernel
theorem d15_7 : decode jdk_52_method_16_code 7 = .ok (.iconst 0, 1) := by decide +kernel
theorem d15_8 : decode jdk_52_method_16_code 8 = .ok (.iload_n 2, 1) := by decide +kernel
theorem pd___CI_BII_I : parseMethodDescriptor "([CI[BII)I" = some ⟨[(.array .char), .int, (.array .byte), .int, .int], some .int⟩ := by decide +kernel
theorem d15_9 : decode jdk_52_method_16_code 9 = .ok (.invokestatic 115, 3) := by decide +kernel
theorem d15_12 : decode jdk_52_method_16_code 12 = .ok (.istore 4, 2) := by decide +kernel
theorem d15_14 : decode jdk_52_method_16_code 14 = .ok (.iload 4, 2) := by decide +kernel
theorem d15_16 : decode jdk_52_method_16_code 16 = .ok (.iload_n 2, 1) := by decide +kernel
theorem d15_17 : decode jdk_52_method_16_code 17 = .ok (.if_icmp .eq 40, 3) := by decide +kernel
theorem d15_57 : decode jdk_52_method_16_code 57 = .ok (.aload_n 3, 1) := by decide +kernel
theorem d15_58 : decode jdk_52_method_16_code 58 = .ok (.areturn, 1) := by decide +kernel
theorem ef_rm15_1 (m : MethodId) (aa : Addr) : entryFrame m #[(.ref aa), (.int (0 : Int32)), (.int (1 : Int32))] 6 = mkF m 0 #[.val (.ref aa), .val (.int (0 : Int32)), .val (.int (1 : Int32)), .unset, .unset, .unset] [] := by first | (simp [entryFrame, mkF, argsToLocals, Value.category]; done) | rfl
def Q15_1 (Z : State) (aa : Addr) (ka : ClassId) (ca : Int32) (h0 : Heap) (n0 : Nat) (v : Option Value) (h : Heap) (L : List Loc) : Prop := ∃ (rr : Addr) (kr : ClassId), v = some (.ref rr) ∧ Fr n0 L ∧ Keep h0 h [] ∧ Arv Z h rr kr .byte (1 : Int32) [(.int (nar .byte (ca.toInt8.toInt32)))] (.int (0 : Int32)) ∧ h0.size ≤ rr
set_option maxRecDepth 65536 in
set_option maxHeartbeats 40000000 in
theorem rm15_1 (l : Launch) (Z : State) (a0 : Array Value) (hw : ∀ d ∈ tables_1, d.before a0 Z = true) (ws : List Jvm.Cond) (aa : Addr) (ka : ClassId) (ca : Int32) (h0 : Heap) (n0 : Nat) (O0 : Old Z n0 h0) (Va : Arv Z h0 aa ka .char (1 : Int32) [(.int ca)] (.int (0 : Int32))) (q_ca : ¬ (255 : Int32) < ca) :
    MetFree l (⟨"java/lang/StringUTF16", "compress", "([CII)[B"⟩ : MethodName) (head1 (Jvm.Cond.code (⟨"java/lang/StringUTF16", "compress", "([CII)[B"⟩ : MethodName) jdk_52_method_16_code 6 (some (.array .byte)) :: ws) ({ frames := 1, cells := 1, slots := 1, locals := 18 } : Room)) (fun ay U => ay = #[(.ref aa), (.int (0 : Int32)), (.int (1 : Int32))] ∧ Z.Warmed39 U.vm ∧ U.heap = h0) (fun _ _ _ _ _ => True) (fun _ U o U' => ∃ v L, o = .returned v ∧ Q15_1 Z aa ka ca h0 n0 v U'.heap L ∧ FrameEnd U o U' L ({ frames := 1, cells := 1, slots := 1, locals := 18 } : Room).cells ({ frames := 1, cells := 1, slots := 1, locals := 18 } : Room).slots) := by
  refine MetFree.of_bodySF (plainFor_of_name pn_java_lang_StringUTF16) hisR ?_
  intro p e s m args below meth c s₁ Bd hml0 hP hK
  obtain ⟨rfl, hZ, hh⟩ := hP
  have hx := Bd.exec
  have hby := Bd.bytes
  have hlk : meth.locks = false := BodyLoose.notSynchronized Bd
  have hml : c.maxLocals = 6 := hml0
  have hown : s.vm.findClass "java/lang/StringUTF16" = some m.cls := findClass_of_methodNamed Bd.named
  have hnm := (name_of_methodNamed Bd.named Bd.method).1
  have X0 : Stand p l e ({ frames := 1, cells := 1, slots := 1, locals := 18 } : Room) s m #[(.ref aa), (.int (0 : Int32)), (.int (1 : Int32))] below meth c s₁ [] 0 0 := Stand.of_body Bd
  have e0 : s₁.heap = h0 := by rw [← hh, Bd.state]; rfl
  have N0 := Fr.nil n0
  suffices hgo : Go p e below s 1 1 (Q15_1 Z aa ka ca h0 n0) (s₁.setTop (mkF m 0 #[.val (.ref aa), .val (.int (0 : Int32)), .val (.int (1 : Int32)), .unset, .unset, .unset] [])) by
    obtain ⟨t, o, h1, h2⟩ := hgo; exact ⟨t, o, castTop (ef_rm15_1 m aa) h1, h2⟩
  show Go p e below s _ _ _ (s₁.setTop (mkF m 0 #[.val (.ref aa), .val (.int (0 : Int32)), .val (.int (1 : Int32)), .unset, .unset, .unset] []))
  refine Go.st (fun _ k' => XS.iloadN X0.here hx rfl (hb hby d15_0) rfl k') ?_
  show Go p e below s _ _ _ (s₁.setTop (mkF m 1 #[.val (.ref aa), .val (.int (0 : Int32)), .val (.int (1 : Int32)), .unset, .unset, .unset] [(.int (1 : Int32))]))
  obtain ⟨T1, h1, k1, X1, e1, E1, A1, st1⟩ := newP X0 hx hZ (wdx hw 25 rfl) e0 (g := (mkF m 1 #[.val (.ref aa), .val (.int (0 : Int32)), .val (.int (1 : Int32)), .unset, .unset, .unset] [(.int (1 : Int32))])) rfl (hb hby d15_1) rfl (by decide) (cap := 1) (by decide) (by decide) (by decide) (by decide)
  obtain ⟨b1, g1⟩ : ∃ z, z = h0.size := ⟨_, rfl⟩
  rw [← g1] at A1 st1
  refine Go.st st1 ?_
  have g_b1 : n0 ≤ b1 := Nat.le_trans (own_le O0) (Nat.le_of_eq g1.symm)
  have z_b1 : h0.size ≤ b1 := Nat.le_of_eq g1.symm
  have ne2 : aa ≠ b1 := Nat.ne_of_lt (Nat.lt_of_lt_of_le Va.lt (Nat.le_of_eq g1.symm))
  have f3 : Arv Z h1 aa ka .char (1 : Int32) [(.int ca)] (.int (0 : Int32)) := Va.ext E1
  have O1 : Old Z n0 h1 := O0.ext E1
  have K1 : Keep h0 h1 [] := (Keep.refl h0 []).ext E1
  have f4 : Arv Z h1 b1 k1 .byte (1 : Int32) [(.int (0 : Int32))] (.int (0 : Int32)) := (Arv.new A1 (by decide)).pad (pad_rep [] (.int (0 : Int32)) 1)
  show Go p e below s _ _ _ (T1.setTop (mkF m 3 #[.val (.ref aa), .val (.int (0 : Int32)), .val (.int (1 : Int32)), .unset, .unset, .unset] [(.ref b1)]))
  refine Go.st (fun _ k' => XS.astoreN X1.here hx rfl (hb hby d15_3) rfl rfl (l' := #[.val (.ref aa), .val (.int (0 : Int32)), .val (.int (1 : Int32)), .val (.ref b1), .unset, .unset]) rfl k') ?_
  show Go p e below s _ _ _ (T1.setTop (mkF m 4 #[.val (.ref aa), .val (.int (0 : Int32)), .val (.int (1 : Int32)), .val (.ref b1), .unset, .unset] []))
  refine Go.st (fun _ k' => XS.aloadN X1.here hx rfl (hb hby d15_4) rfl rfl k') ?_
  show Go p e below s _ _ _ (T1.setTop (mkF m 5 #[.val (.ref aa), .val (.int (0 : Int32)), .val (.int (1 : Int32)), .val (.ref b1), .unset, .unset] [(.ref aa)]))
  refine Go.st (fun _ k' => XS.iloadN X1.here hx rfl (hb hby d15_5) rfl k') ?_
  show Go p e below s _ _ _ (T1.setTop (mkF m 6 #[.val (.ref aa), .val (.int (0 : Int32)), .val (.int (1 : Int32)), .val (.ref b1), .unset, .unset] [(.int (0 : Int32)), (.ref aa)]))
  refine Go.st (fun _ k' => XS.aloadN X1.here hx rfl (hb hby d15_6) rfl rfl k') ?_
  show Go p e below s _ _ _ (T1.setTop (mkF m 7 #[.val (.ref aa), .val (.int (0 : Int32)), .val (.int (1 : Int32)), .val (.ref b1), .unset, .unset] [(.ref b1), (.int (0 : Int32)), (.ref aa)]))
  refine Go.st (fun _ k' => XS.iconst X1.here hx rfl (hb hby d15_7) k') ?_
  show Go p e below s _ _ _ (T1.setTop (mkF m 8 #[.val (.ref aa), .val (.int (0 : Int32)), .val (.int (1 : Int32)), .val (.ref b1), .unset, .unset] [(.int (0 : Int32)), (.ref b1), (.int (0 : Int32)), (.ref aa)]))
  refine Go.st (fun _ k' => XS.iloadN X1.here hx rfl (hb hby d15_8) rfl k') ?_
  show Go p e below s _ _ _ (T1.setTop (mkF m 9 #[.val (.ref aa), .val (.int (0 : Int32)), .val (.int (1 : Int32)), .val (.ref b1), .unset, .unset] [(.int (1 : Int32)), (.int (0 : Int32)), (.ref b1), (.int (0 : Int32)), (.ref aa)]))
  obtain ⟨_, _, ⟨T5, L5, k5, n5⟩, -, X5, ⟨Lc5, hQ5, l5, y5, z5⟩, st5⟩ := Jvm.LawKit.callS X1 hx (y := (⟨"java/lang/StringUTF16", "compress", "([CI[BII)I"⟩ : MethodName)) hown (mvT hZ (wdx hw 84 rfl)) (mvT hZ (wdx hw 85 rfl)) (mvT hZ (wdx hw 82 rfl)) (mvT hZ (wdx hw 86 rfl)) (by decide) (backOf (W := 0) (rm16_1 l Z a0 hw [] aa b1 ka k1 ca h1 n0 O1 f3 f4 q_ca g_b1 ne2) hZ (wdx hw 86 rfl) (wdx hw 82 rfl) (by decide) (by decide)) (g := (mkF m 9 #[.val (.ref aa), .val (.int (0 : Int32)), .val (.int (1 : Int32)), .val (.ref b1), .unset, .unset] [(.int (1 : Int32)), (.int (0 : Int32)), (.ref b1), (.int (0 : Int32)), (.ref aa)])) rfl (by rw [hml]; rfl) (argsL := [(.ref aa), (.int (0 : Int32)), (.ref b1), (.int (0 : Int32)), (.int (1 : Int32))]) (rest := []) (lenOf pd___CI_BII_I rfl) rfl (by show 2 * 0 + _ ≤ _; exact Nat.le_of_eq rfl) (hb hby d15_9) (fun _ _ => ⟨rfl, e1, (by exact Nat.le_of_ble_eq_true rfl), (by exact Nat.le_of_ble_eq_true rfl)⟩)
  dsimp only [Pt.U, Pt.locs, Pt.cells, Pt.slots] at X5 l5 y5 z5 st5 hQ5
  subst l5 y5 z5
  obtain ⟨rfl, Nq5, Kq5, f6⟩ := hQ5
  have N5 := Fr.app N0 Nq5
  refine Go.st st5 ?_
  have f7 : Arv Z T5.heap aa ka .char (1 : Int32) [(.int ca)] (.int (0 : Int32)) := f3.keep Kq5 (ninS ne2 nin0)
  have O5 : Old Z n0 T5.heap := O1.keep Kq5 (allS g_b1 all0)
  have K5 : Keep h0 T5.heap [] := K1.trans Kq5 (allS (Or.inr z_b1) all0)
  show Go p e below s _ _ _ (T5.setTop (mkF m 12 #[.val (.ref aa), .val (.int (0 : Int32)), .val (.int (1 : Int32)), .val (.ref b1), .unset, .unset] [(.int (1 : Int32))]))
  refine Go.st (fun _ k' => XS.istore X5.here hx rfl (hb hby d15_12) rfl (l' := #[.val (.ref aa), .val (.int (0 : Int32)), .val (.int (1 : Int32)), .val (.ref b1), .val (.int (1 : Int32)), .unset]) rfl k') ?_
  show Go p e below s _ _ _ (T5.setTop (mkF m 14 #[.val (.ref aa), .val (.int (0 : Int32)), .val (.int (1 : Int32)), .val (.ref b1), .val (.int (1 : Int32)), .unset] []))
  refine Go.st (fun _ k' => XS.iload X5.here hx rfl (hb hby d15_14) rfl k') ?_
  show Go p e below s _ _ _ (T5.setTop (mkF m 16 #[.val (.ref aa), .val (.int (0 : Int32)), .val (.int (1 : Int32)), .val (.ref b1), .val (.int (1 : Int32)), .unset] [(.int (1 : Int32))]))
  refine Go.st (fun _ k' => XS.iloadN X5.here hx rfl (hb hby d15_16) rfl k') ?_
  show Go p e below s _ _ _ (T5.setTop (mkF m 17 #[.val (.ref aa), .val (.int (0 : Int32)), .val (.int (1 : Int32)), .val (.ref b1), .val (.int (1 : Int32)), .unset] [(.int (1 : Int32)), (.int (1 : Int32))]))
  refine Go.st (fun _ k' => XS.icmpYes X5.here hx rfl (pc0 := 17) (pc' := 57) rfl (hb hby d15_17) rfl (XT.ii_eq_t (by decide)) (by decide) (by decide) k') ?_
  show Go p e below s _ _ _ (T5.setTop (mkF m 57 #[.val (.ref aa), .val (.int (0 : Int32)), .val (.int (1 : Int32)), .val (.ref b1), .val (.int (1 : Int32)), .unset] []))
  refine Go.st (fun _ k' => XS.aloadN X5.here hx rfl (hb hby d15_57) rfl rfl k') ?_
  show Go p e below s _ _ _ (T5.setTop (mkF m 58 #[.val (.ref aa), .val (.int (0 : Int32)), .val (.int (1 : Int32)), .val (.ref b1), .val (.int (1 : Int32)), .unset] [(.ref b1)]))
  refine Go.ret X5 hx hlk (t := (.array .byte)) Bd.returns rfl (Or.inr (Or.inr (Or.inr (Or.inr ⟨rfl, rfl, rfl⟩)))) (hb hby d15_58) (by decide) (by decide) rfl ?_
  exact ⟨b1, k1, rfl, N5, K5, f6, z_b1⟩
theorem d17_0 : decode jdk_52_method_15_code 0 = .ok (.iload_n 1, 1) := by decide +kernel
theorem d17_1 : decode jdk_52_method_15_code 1 = .ok (.aload_n 0, 1) := by decide +kernel
theorem d17_2 : decode jdk_52_method_15_code 2 = .ok (.arraylength, 1) := by decide +kernel
theorem d17_3 : decode jdk_52_method_15_code 3 = .ok (.isub, 1) := by decide +kernel
theorem d17_4 : decode jdk_52_method_15_code 4 = .ok (.bipush 31, 2) := by decide +kernel
theorem d17_6 : decode jdk_52_method_15_code 6 = .ok (.iushr, 1) := by decide +kernel
theorem d17_7 : decode jdk_52_method_15_code 7 = .ok (.i2b, 1) := by decide +kernel
theorem d17_8 : decode jdk_52_method_15_code 8 = .ok (.ireturn, 1) := by decide +kernel
theorem ef_rm17_1 (m : MethodId) (bb : Addr) : entryFrame m #[(.ref bb), (.int (1 : Int32))] 2 = mkF m 0 #[.val (.ref bb), .val (.int (1 : Int32))] [] := by first | (simp [entryFrame, mkF, argsToLocals, Value.category]; done) | rfl
def Q17_1 (Z : State) (bb : Addr) (kb : ClassId) (ca : Int32) (h0 : Heap) (n0 : Nat) (v : Option Value) (h : Heap) (L : List Loc) : Prop := v = some (.int (0 : Int32)) ∧ Fr n0 L ∧ h = h0
set_option maxRecDepth 65536 in
set_option maxHeartbeats 40000000 in
theorem rm17_1 (l : Launch) (Z : State) (a0 : Array Value) (hw : ∀ d ∈ tables_1, d.before a0 Z = true) (ws : List Jvm.Cond) (bb : Addr) (kb : ClassId) (ca : Int32) (h0 : Heap) (n0 : Nat) (O0 : Old Z n0 h0) (Vb : Arv Z h0 bb kb .byte (1 : Int32) [(.int ca)] (.int (0 : Int32))) :
    MetFree l (⟨"java/lang/StringUTF16", "coderFromArrayLen", "([BI)B"⟩ : MethodName) (head1 (Jvm.Cond.code (⟨"java/lang/StringUTF16", "coderFromArrayLen", "([BI)B"⟩ : MethodName) jdk_52_method_15_code 2 (some .byte) :: ws) ({ frames := 0, cells := 0, slots := 0, locals := 0 } : Room)) (fun ay U => ay = #[(.ref bb), (.int (1 : Int32))] ∧ Z.Warmed39 U.vm ∧ U.heap = h0) (fun _ _ _ _ _ => True) (fun _ U o U' => ∃ v L, o = .returned v ∧ Q17_1 Z bb kb ca h0 n0 v U'.heap L ∧ FrameEnd U o U' L ({ frames := 0, cells := 0, slots := 0, locals := 0 } : Room).cells ({ frames := 0, cells := 0, slots := 0, locals := 0 } : Room).slots) := by
  refine MetFree.of_bodySF (plainFor_of_name pn_java_lang_StringUTF16) hisR ?_
  intro p e s m args below meth c s₁ Bd hml0 hP hK
  obtain ⟨rfl, hZ, hh⟩ := hP
  have hx := Bd.exec
  have hby := Bd.bytes
  have hlk : meth.locks = false := BodyLoose.notSynchronized Bd
  have hml : c.maxLocals = 2 := hml0
  have hown : s.vm.findClass "java/lang/StringUTF16" = some m.cls := findClass_of_methodNamed Bd.named
  have hnm := (name_of_methodNamed Bd.named Bd.method).1
  have X0 : Stand p l e ({ frames := 0, cells := 0, slots := 0, locals := 0 } : Room) s m #[(.ref bb), (.int (1 : Int32))] below meth c s₁ [] 0 0 := Stand.of_body Bd
  have e0 : s₁.heap = h0 := by rw [← hh, Bd.state]; rfl
  have N0 := Fr.nil n0
  suffices hgo : Go p e below s 0 0 (Q17_1 Z bb kb ca h0 n0) (s₁.setTop (mkF m 0 #[.val (.ref bb), .val (.int (1 : Int32))] [])) by
    obtain ⟨t, o, h1, h2⟩ := hgo; exact ⟨t, o, castTop (ef_rm17_1 m bb) h1, h2⟩
  show Go p e below s _ _ _ (s₁.setTop (mkF m 0 #[.val (.ref bb), .val (.int (1 : Int32))] []))
  refine Go.st (fun _ k' => XS.iloadN X0.here hx rfl (hb hby d17_0) rfl k') ?_
  show Go p e below s _ _ _ (s₁.setTop (mkF m 1 #[.val (.ref bb), .val (.int (1 : Int32))] [(.int (1 : Int32))]))
  refine Go.st (fun _ k' => XS.aloadN X0.here hx rfl (hb hby d17_1) rfl rfl k') ?_
  show Go p e below s _ _ _ (s₁.setTop (mkF m 2 #[.val (.ref bb), .val (.int (1 : Int32))] [(.ref bb), (.int (1 : Int32))]))
  obtain ⟨cl1, Ar1, qc1, Sz1, Nn1, Ha1, Gf1⟩ := id Vb
  refine Go.st (fun _ k' => X0.arraylength hx (by rw [e0]; exact Ar1.1) (State.isArrayOf_alike hZ.alike Ar1.2.1) (g := (mkF m 2 #[.val (.ref bb), .val (.int (1 : Int32))] [(.ref bb), (.int (1 : Int32))])) rfl rfl (hb hby d17_2) _ k') ?_
  rw [len_of Sz1 Nn1]
  show Go p e below s _ _ _ (s₁.setTop (mkF m 3 #[.val (.ref bb), .val (.int (1 : Int32))] [(.int (1 : Int32)), (.int (1 : Int32))]))
  refine Go.st (fun _ k' => XS.isub X0.here hx rfl (hb hby d17_3) rfl k') ?_
  show Go p e below s _ _ _ (s₁.setTop (mkF m 4 #[.val (.ref bb), .val (.int (1 : Int32))] [(.int (0 : Int32))]))
  refine Go.st (fun _ k' => XS.bipush X0.here hx rfl (hb hby d17_4) k') ?_
  show Go p e below s _ _ _ (s₁.setTop (mkF m 6 #[.val (.ref bb), .val (.int (1 : Int32))] [(.int (31 : Int32)), (.int (0 : Int32))]))
  refine Go.st (fun _ k' => XS.iushr X0.here hx rfl (hb hby d17_6) rfl k') ?_
  show Go p e below s _ _ _ (s₁.setTop (mkF m 7 #[.val (.ref bb), .val (.int (1 : Int32))] [(.int (((0 : Int32).toUInt32 >>> ((31 : Int32) &&& 31).toUInt32).toInt32))]))
  refine Go.st (fun _ k' => XS.i2b X0.here hx rfl (hb hby d17_7) rfl k') ?_
  show Go p e below s _ _ _ (s₁.setTop (mkF m 8 #[.val (.ref bb), .val (.int (1 : Int32))] [(.int ((((0 : Int32).toUInt32 >>> ((31 : Int32) &&& 31).toUInt32).toInt32).toInt8.toInt32))]))
  refine Go.retB X0 hx hlk (t := .byte) Bd.returns (by simp) (hb hby d17_8) (by decide) (by decide) e0 ?_
  exact ⟨rfl, N0, rfl⟩
theorem d4_0 : decode jdk_42_method_149_code 0 = .ok (.aload_n 0, 1) := by decide +kernel
theorem d4_1 : decode jdk_42_method_149_code 1 = .ok (.invokespecial 1, 3) := by decide +kernel
theorem d4_4 : decode jdk_42_method_149_code 4 = .ok (.iload_n 3, 1) := by decide +kernel
theorem d4_5 : decode jdk_42_method_149_code 5 = .ok (.ifCond .ne 22, 3) := by decide +kernel
theorem d4_27 : decode jdk_42_method_149_code 27 = .ok (.getstatic 38, 3) := by decide +kernel
theorem d4_30 : decode jdk_42_method_149_code 30 = .ok (.ifCond .eq 28, 3) := by decide +kernel
theorem d4_33 : decode jdk_42_method_149_code 33 = .ok (.aload_n 1, 1) := by decide +kernel
theorem d4_34 : decode jdk_42_method_149_code 34 = .ok (.iload_n 2, 1) := by decide +kernel
theorem d4_35 : decode jdk_42_method_149_code 35 = .ok (.iload_n 3, 1) := by decide +kernel
theorem pd___CII__B : parseMethodDescriptor "([CII)[B" = some ⟨[(.array .char), .int, .int], some (.array .byte)⟩ := by decide +kernel
theorem d4_36 : decode jdk_42_method_149_code 36 = .ok (.invokestatic 177, 3) := by decide +kernel
theorem d4_39 : decode jdk_42_method_149_code 39 = .ok (.astore 5, 2) := by decide +kernel
theorem d4_41 : decode jdk_42_method_149_code 41 = .ok (.aload_n 0, 1) := by decide +kernel
theorem d4_42 : decode jdk_42_method_149_code 42 = .ok (.aload 5, 2) := by decide +kernel
theorem d4_44 : decode jdk_42_method_149_code 44 = .ok (.iload_n 3, 1) := by decide +kernel
theorem pd___BI_B : parseMethodDescriptor "([BI)B" = some ⟨[(.array .byte), .int], some .byte⟩ := by decide +kernel
theorem d4_45 : decode jdk_42_method_149_code 45 = .ok (.invokestatic 47, 3) := by decide +kernel
theorem d4_48 : decode jdk_42_method_149_code 48 = .ok (.putfield 15, 3) := by decide +kernel
theorem d4_51 : decode jdk_42_method_149_code 51 = .ok (.aload_n 0, 1) := by decide +kernel
theorem d4_52 : decode jdk_42_method_149_code 52 = .ok (.aload 5, 2) := by decide +kernel
theorem d4_54 : decode jdk_42_method_149_code 54 = .ok (.putfield 9, 3) := by decide +kernel
theorem d4_57 : decode jdk_42_method_149_code 57 = .ok (.return_, 1) := by decide +kernel
theorem pn_java_lang_String : plainName "java/lang/String" = true := by first | (simp [plainName, overriddenIn]; done) | decide +kernel
theorem ef_rm4_1 (m : MethodId) (ob : Addr) (aa : Addr) : entryFrame m #[(.ref ob), (.ref aa), (.int (0 : Int32)), (.int (1 : Int32)), .null] 6 = mkF m 0 #[.val (.ref ob), .val (.ref aa), .val (.int (0 : Int32)), .val (.int (1 : Int32)), .val .null, .unset] [] := by first | (simp [entryFrame, mkF, argsToLocals, Value.category]; done) | rfl
def Q4_1 (Z : State) (ob : Addr) (aa : Addr) (ka : ClassId) (cs : Int32) (ca : Int32) (h0 : Heap) (n0 : Nat) (v : Option Value) (h : Heap) (L : List Loc) : Prop := ∃ (tb : Addr) (kt : ClassId), v = none ∧ Fr n0 L ∧ Keep h0 h [ob] ∧ Fld Z h ob "java/lang/String" "value" "[B" (.ref tb) ∧ Fld Z h ob "java/lang/String" "coder" "B" (.int (0 : Int32)) ∧ Arv Z h tb kt .byte (1 : Int32) [(.int (nar .byte (ca.toInt8.toInt32)))] (.int (0 : Int32)) ∧ h0.size ≤ tb
set_option maxRecDepth 65536 in
set_option maxHeartbeats 40000000 in
theorem rm4_1 (l : Launch) (Z : State) (a0 : Array Value) (hw : ∀ d ∈ tables_1, d.before a0 Z = true) (ws : List Jvm.Cond) (ob : Addr) (aa : Addr) (ka : ClassId) (cs : Int32) (ca : Int32) (h0 : Heap) (n0 : Nat) (O0 : Old Z n0 h0) (E_o : Exa Z h0 ob "java/lang/String") (Fv : Fld Z h0 ob "java/lang/String" "value" "[B" .null) (Fc : Fld Z h0 ob "java/lang/String" "coder" "B" (.int (0 : Int32))) (Va : Arv Z h0 aa ka .char (1 : Int32) [(.int ca)] (.int (0 : Int32))) (S_cs : Sta Z Z.heap "java/lang/String" "COMPACT_STRINGS" "Z" (.int cs)) (q_cs : ¬ cs = (0 : Int32)) (q_ca : ¬ (255 : Int32) < ca) (g_o : n0 ≤ ob) (ne_oa : ob ≠ aa) :
    MetFree l (⟨"java/lang/String", "<init>", "([CIILjava/lang/Void;)V"⟩ : MethodName) (head1 (Jvm.Cond.code (⟨"java/lang/String", "<init>", "([CIILjava/lang/Void;)V"⟩ : MethodName) jdk_42_method_149_code 6 none :: ws) ({ frames := 2, cells := 1, slots := 1, locals := 35 } : Room)) (fun ay U => ay = #[(.ref ob), (.ref aa), (.int (0 : Int32)), (.int (1 : Int32)), .null] ∧ Z.Warmed39 U.vm ∧ U.heap = h0) (fun _ _ _ _ _ => True) (fun _ U o U' => ∃ v L, o = .returned v ∧ Q4_1 Z ob aa ka cs ca h0 n0 v U'.heap L ∧ FrameEnd U o U' L ({ frames := 2, cells := 1, slots := 1, locals := 35 } : Room).cells ({ frames := 2, cells := 1, slots := 1, locals := 35 } : Room).slots) := by
  refine MetFree.of_bodySF (plainFor_of_name pn_java_lang_String) hisR ?_
  intro p e s m args below meth c s₁ Bd hml0 hP hK
  obtain ⟨rfl, hZ, hh⟩ := hP
  have hx := Bd.exec
  have hby := Bd.bytes
  have hlk : meth.locks = false := BodyLoose.notSynchronized Bd
  have hml : c.maxLocals = 6 := hml0
  have hown : s.vm.findClass "java/lang/String" = some m.cls := findClass_of_methodNamed Bd.named
  have hnm := (name_of_methodNamed Bd.named Bd.method).1
  have X0 : Stand p l e ({ frames := 2, cells := 1, slots := 1, locals := 35 } : Room) s m #[(.ref ob), (.ref aa), (.int (0 : Int32)), (.int (1 : Int32)), .null] below meth c s₁ [] 0 0 := Stand.of_body Bd
  have e0 : s₁.heap = h0 := by rw [← hh, Bd.state]; rfl
  have N0 := Fr.nil n0
  suffices hgo : Go p e below s 1 1 (Q4_1 Z ob aa ka cs ca h0 n0) (s₁.setTop (mkF m 0 #[.val (.ref ob), .val (.ref aa), .val (.int (0 : Int32)), .val (.int (1 : Int32)), .val .null, .unset] [])) by
    obtain ⟨t, o, h1, h2⟩ := hgo; exact ⟨t, o, castTop (ef_rm4_1 m ob aa) h1, h2⟩
  show Go p e below s _ _ _ (s₁.setTop (mkF m 0 #[.val (.ref ob), .val (.ref aa), .val (.int (0 : Int32)), .val (.int (1 : Int32)), .val .null, .unset] []))
  refine Go.st (fun _ k' => XS.aloadN X0.here hx rfl (hb hby d4_0) rfl rfl k') ?_
  show Go p e below s _ _ _ (s₁.setTop (mkF m 1 #[.val (.ref ob), .val (.ref aa), .val (.int (0 : Int32)), .val (.int (1 : Int32)), .val .null, .unset] [(.ref ob)]))
  obtain ⟨T1, X1, e1, st1⟩ := initO X0 hx hZ hown (wdx hw 21 rfl) (wdx hw 22 rfl) (wdx hw 23 rfl) e0 (g := (mkF m 1 #[.val (.ref ob), .val (.ref aa), .val (.int (0 : Int32)), .val (.int (1 : Int32)), .val .null, .unset] [(.ref ob)])) rfl (by rw [hml]; rfl) rfl (hb hby d4_1) (by decide) (W := 0) (by show 2 * 0 + _ ≤ _; exact Nat.le_of_eq rfl) (by decide)
  refine Go.st st1 ?_
  show Go p e below s _ _ _ (T1.setTop (mkF m 4 #[.val (.ref ob), .val (.ref aa), .val (.int (0 : Int32)), .val (.int (1 : Int32)), .val .null, .unset] []))
  refine Go.st (fun _ k' => XS.iloadN X1.here hx rfl (hb hby d4_4) rfl k') ?_
  show Go p e below s _ _ _ (T1.setTop (mkF m 5 #[.val (.ref ob), .val (.ref aa), .val (.int (0 : Int32)), .val (.int (1 : Int32)), .val .null, .unset] [(.int (1 : Int32))]))
  refine Go.st (fun _ k' => XS.ifYes X1.here hx rfl (pc0 := 5) (pc' := 27) rfl (hb hby d4_5) rfl (XT.i0_ne_t (by decide)) (by decide) (by decide) k') ?_
  show Go p e below s _ _ _ (T1.setTop (mkF m 27 #[.val (.ref ob), .val (.ref aa), .val (.int (0 : Int32)), .val (.int (1 : Int32)), .val .null, .unset] []))
  obtain ⟨T2, X2, e2, st2⟩ := getS2 X1 hx hZ hown (host := "") (Or.inl (wdx hw 67 rfl)) Via.refl e1 (S_cs.ext O0.2) (g := (mkF m 27 #[.val (.ref ob), .val (.ref aa), .val (.int (0 : Int32)), .val (.int (1 : Int32)), .val .null, .unset] [])) rfl (hb hby d4_27)
  refine Go.st st2 ?_
  show Go p e below s _ _ _ (T2.setTop (mkF m 30 #[.val (.ref ob), .val (.ref aa), .val (.int (0 : Int32)), .val (.int (1 : Int32)), .val .null, .unset] [(.int cs)]))
  refine Go.st (fun _ k' => XS.ifNo X2.here hx rfl (hb hby d4_30) rfl (XT.i0_eq_f q_cs) k') ?_
  show Go p e below s _ _ _ (T2.setTop (mkF m 33 #[.val (.ref ob), .val (.ref aa), .val (.int (0 : Int32)), .val (.int (1 : Int32)), .val .null, .unset] []))
  refine Go.st (fun _ k' => XS.aloadN X2.here hx rfl (hb hby d4_33) rfl rfl k') ?_
  show Go p e below s _ _ _ (T2.setTop (mkF m 34 #[.val (.ref ob), .val (.ref aa), .val (.int (0 : Int32)), .val (.int (1 : Int32)), .val .null, .unset] [(.ref aa)]))
  refine Go.st (fun _ k' => XS.iloadN X2.here hx rfl (hb hby d4_34) rfl k') ?_
  show Go p e below s _ _ _ (T2.setTop (mkF m 35 #[.val (.ref ob), .val (.ref aa), .val (.int (0 : Int32)), .val (.int (1 : Int32)), .val .null, .unset] [(.int (0 : Int32)), (.ref aa)]))
  refine Go.st (fun _ k' => XS.iloadN X2.here hx rfl (hb hby d4_35) rfl k') ?_
  show Go p e below s _ _ _ (T2.setTop (mkF m 36 #[.val (.ref ob), .val (.ref aa), .val (.int (0 : Int32)), .val (.int (1 : Int32)), .val .null, .unset] [(.int (1 : Int32)), (.int (0 : Int32)), (.ref aa)]))
  obtain ⟨_, _, ⟨T3, L3, k3, n3⟩, -, X3, ⟨Lc3, hQ3, l3, y3, z3⟩, st3⟩ := Jvm.LawKit.callS X2 hx (y := (⟨"java/lang/StringUTF16", "compress", "([CII)[B"⟩ : MethodName)) hown (mvT hZ (wdx hw 80 rfl)) (mvT hZ (wdx hw 81 rfl)) (mvT hZ (wdx hw 82 rfl)) (mvT hZ (wdx hw 83 rfl)) (by decide) (backOf (W := 0) (rm15_1 l Z a0 hw [] aa ka ca h0 n0 O0 Va q_ca) hZ (wdx hw 83 rfl) (wdx hw 82 rfl) (by decide) (by decide)) (g := (mkF m 36 #[.val (.ref ob), .val (.ref aa), .val (.int (0 : Int32)), .val (.int (1 : Int32)), .val .null, .unset] [(.int (1 : Int32)), (.int (0 : Int32)), (.ref aa)])) rfl (by rw [hml]; rfl) (argsL := [(.ref aa), (.int (0 : Int32)), (.int (1 : Int32))]) (rest := []) (lenOf pd___CII__B rfl) rfl (by show 2 * 0 + _ ≤ _; exact Nat.le_of_eq rfl) (hb hby d4_36) (fun _ _ => ⟨rfl, e2, (by exact Nat.le_of_ble_eq_true rfl), (by exact Nat.le_of_ble_eq_true rfl)⟩)
  dsimp only [Pt.U, Pt.locs, Pt.cells, Pt.slots] at X3 l3 y3 z3 st3 hQ3
  subst l3 y3 z3
  obtain ⟨rr_3, kr_3, rfl, Nq3, Kq3, f4, szr_3⟩ := hQ3
  have N3 := Fr.app N0 Nq3
  refine Go.st st3 ?_
  have f5 : Exa Z T3.heap ob "java/lang/String" := E_o.keep Kq3
  have f6 : Fld Z T3.heap ob "java/lang/String" "value" "[B" .null := Fv.keep Kq3 nin0
  have f7 : Fld Z T3.heap ob "java/lang/String" "coder" "B" (.int (0 : Int32)) := Fc.keep Kq3 nin0
  have f8 : Arv Z T3.heap aa ka .char (1 : Int32) [(.int ca)] (.int (0 : Int32)) := Va.keep Kq3 nin0
  have O3 : Old Z n0 T3.heap := O0.keep Kq3 all0
  have K3 : Keep h0 T3.heap [ob] := (Keep.refl h0 [ob]).trans Kq3 all0
  have g_rr_3 : n0 ≤ rr_3 := Nat.le_trans (own_le O0) szr_3
  have z_rr_3 : h0.size ≤ rr_3 := szr_3
  have ne9 : ob ≠ rr_3 := Nat.ne_of_lt (Nat.lt_of_lt_of_le E_o.lt szr_3)
  have ne10 : aa ≠ rr_3 := Nat.ne_of_lt (Nat.lt_of_lt_of_le Va.lt szr_3)
  show Go p e below s _ _ _ (T3.setTop (mkF m 39 #[.val (.ref ob), .val (.ref aa), .val (.int (0 : Int32)), .val (.int (1 : Int32)), .val .null, .unset] [(.ref rr_3)]))
  refine Go.st (fun _ k' => XS.astore X3.here hx rfl (hb hby d4_39) rfl rfl (l' := #[.val (.ref ob), .val (.ref aa), .val (.int (0 : Int32)), .val (.int (1 : Int32)), .val .null, .val (.ref rr_3)]) rfl k') ?_
  show Go p e below s _ _ _ (T3.setTop (mkF m 41 #[.val (.ref ob), .val (.ref aa), .val (.int (0 : Int32)), .val (.int (1 : Int32)), .val .null, .val (.ref rr_3)] []))
  refine Go.st (fun _ k' => XS.aloadN X3.here hx rfl (hb hby d4_41) rfl rfl k') ?_
  show Go p e below s _ _ _ (T3.setTop (mkF m 42 #[.val (.ref ob), .val (.ref aa), .val (.int (0 : Int32)), .val (.int (1 : Int32)), .val .null, .val (.ref rr_3)] [(.ref ob)]))
  refine Go.st (fun _ k' => XS.aload X3.here hx rfl (hb hby d4_42) rfl rfl k') ?_
  show Go p e below s _ _ _ (T3.setTop (mkF m 44 #[.val (.ref ob), .val (.ref aa), .val (.int (0 : Int32)), .val (.int (1 : Int32)), .val .null, .val (.ref rr_3)] [(.ref rr_3), (.ref ob)]))
  refine Go.st (fun _ k' => XS.iloadN X3.here hx rfl (hb hby d4_44) rfl k') ?_
  show Go p e below s _ _ _ (T3.setTop (mkF m 45 #[.val (.ref ob), .val (.ref aa), .val (.int (0 : Int32)), .val (.int (1 : Int32)), .val .null, .val (.ref rr_3)] [(.int (1 : Int32)), (.ref rr_3), (.ref ob)]))
  obtain ⟨_, _, ⟨T11, L11, k11, n11⟩, -, X11, ⟨Lc11, hQ11, l11, y11, z11⟩, st11⟩ := Jvm.LawKit.callS X3 hx (y := (⟨"java/lang/StringUTF16", "coderFromArrayLen", "([BI)B"⟩ : MethodName)) hown (mvT hZ (wdx hw 87 rfl)) (mvT hZ (wdx hw 88 rfl)) (mvT hZ (wdx hw 82 rfl)) (mvT hZ (wdx hw 89 rfl)) (by decide) (backOf (W := 1) (rm17_1 l Z a0 hw [] rr_3 kr_3 (nar .byte (ca.toInt8.toInt32)) T3.heap n0 O3 f4) hZ (wdx hw 89 rfl) (wdx hw 82 rfl) (by decide) (by decide)) (g := (mkF m 45 #[.val (.ref ob), .val (.ref aa), .val (.int (0 : Int32)), .val (.int (1 : Int32)), .val .null, .val (.ref rr_3)] [(.int (1 : Int32)), (.ref rr_3), (.ref ob)])) rfl (by rw [hml]; rfl) (argsL := [(.ref rr_3), (.int (1 : Int32))]) (rest := [(.ref ob)]) (lenOf pd___BI_B rfl) rfl (by show 2 * 0 + _ ≤ _; exact Nat.le_of_eq rfl) (hb hby d4_45) (fun _ _ => ⟨rfl, rfl, (by exact Nat.le_of_ble_eq_true rfl), (by exact Nat.le_of_ble_eq_true rfl)⟩)
  dsimp only [Pt.U, Pt.locs, Pt.cells, Pt.slots] at X11 l11 y11 z11 st11 hQ11
  subst l11 y11 z11
  obtain ⟨rfl, Nq11, eq11⟩ := hQ11
  have N11 := Fr.app N3 Nq11
  refine Go.st st11 ?_
  show Go p e below s _ _ _ (T11.setTop (mkF m 48 #[.val (.ref ob), .val (.ref aa), .val (.int (0 : Int32)), .val (.int (1 : Int32)), .val .null, .val (.ref rr_3)] [(.int (0 : Int32)), (.ref ob)]))
  obtain ⟨T12, h12, X12, e12, W12, st12⟩ := putFN X11 hx hZ hown (wdx hw 31 rfl) Via.refl eq11 f7 f5 (Or.inr ⟨(wdx hw 27 rfl), rfl, hnm⟩) (wdx hw 11 rfl) (ty := .byte) (v' := (.int (0 : Int32))) (by decide) rfl rfl (g := (mkF m 48 #[.val (.ref ob), .val (.ref aa), .val (.int (0 : Int32)), .val (.int (1 : Int32)), .val .null, .val (.ref rr_3)] [(.int (0 : Int32)), (.ref ob)])) rfl rfl (hb hby d4_48)
  refine Go.st st12 ?_
  have f13 : Exa Z h12 ob "java/lang/String" := f5.wr W12
  have f14 : Fld Z h12 ob "java/lang/String" "value" "[B" .null := f6.other W12 (Or.inr (slot_ne (Or.inr (wdx hw 26 rfl)) (Or.inr (wdx hw 27 rfl)) (by decide) (t := (.array .byte)) (t' := .byte) (by decide) (by decide)))
  have f15 : Fld Z h12 ob "java/lang/String" "coder" "B" (.int (0 : Int32)) := f7.same W12
  have f16 : Arv Z h12 aa ka .char (1 : Int32) [(.int ca)] (.int (0 : Int32)) := f8.other W12 (Ne.symm ne_oa)
  have f17 : Arv Z h12 rr_3 kr_3 .byte (1 : Int32) [(.int (nar .byte (ca.toInt8.toInt32)))] (.int (0 : Int32)) := f4.other W12 (Ne.symm ne9)
  have O12 : Old Z n0 h12 := O3.wr W12 g_o
  have N12 := Fr.snoc X12 N11 g_o
  have K12 : Keep h0 h12 [ob] := K3.wr W12 (Or.inl (by simp))
  show Go p e below s _ _ _ (T12.setTop (mkF m 51 #[.val (.ref ob), .val (.ref aa), .val (.int (0 : Int32)), .val (.int (1 : Int32)), .val .null, .val (.ref rr_3)] []))
  refine Go.st (fun _ k' => XS.aloadN X12.here hx rfl (hb hby d4_51) rfl rfl k') ?_
  show Go p e below s _ _ _ (T12.setTop (mkF m 52 #[.val (.ref ob), .val (.ref aa), .val (.int (0 : Int32)), .val (.int (1 : Int32)), .val .null, .val (.ref rr_3)] [(.ref ob)]))
  refine Go.st (fun _ k' => XS.aload X12.here hx rfl (hb hby d4_52) rfl rfl k') ?_
  show Go p e below s _ _ _ (T12.setTop (mkF m 54 #[.val (.ref ob), .val (.ref aa), .val (.int (0 : Int32)), .val (.int (1 : Int32)), .val .null, .val (.ref rr_3)] [(.ref rr_3), (.ref ob)]))
  obtain ⟨T18, h18, X18, e18, W18, st18⟩ := putF X12 hx hZ hown (host := "") (Or.inl (wdx hw 30 rfl)) Via.refl e12 f14 f13 (Or.inr ⟨(wdx hw 26 rfl), rfl, hnm⟩) (wdx hw 11 rfl) (ty := (.array .byte)) (by decide) rfl rfl (g := (mkF m 54 #[.val (.ref ob), .val (.ref aa), .val (.int (0 : Int32)), .val (.int (1 : Int32)), .val .null, .val (.ref rr_3)] [(.ref rr_3), (.ref ob)])) rfl rfl (hb hby d4_54)
  refine Go.st st18 ?_
  have f19 : Exa Z h18 ob "java/lang/String" := f13.wr W18
  have f20 : Fld Z h18 ob "java/lang/String" "value" "[B" (.ref rr_3) := f14.same W18
  have f21 : Fld Z h18 ob "java/lang/String" "coder" "B" (.int (0 : Int32)) := f15.other W18 (Or.inr (slot_ne (Or.inr (wdx hw 27 rfl)) (Or.inr (wdx hw 26 rfl)) (by decide) (t := .byte) (t' := (.array .byte)) (by decide) (by decide)))
  have f22 : Arv Z h18 aa ka .char (1 : Int32) [(.int ca)] (.int (0 : Int32)) := f16.other W18 (Ne.symm ne_oa)
  have f23 : Arv Z h18 rr_3 kr_3 .byte (1 : Int32) [(.int (nar .byte (ca.toInt8.toInt32)))] (.int (0 : Int32)) := f17.other W18 (Ne.symm ne9)
  have O18 : Old Z n0 h18 := O12.wr W18 g_o
  have N18 := Fr.snoc X18 N12 g_o
  have K18 : Keep h0 h18 [ob] := K12.wr W18 (Or.inl (by simp))
  show Go p e below s _ _ _ (T18.setTop (mkF m 57 #[.val (.ref ob), .val (.ref aa), .val (.int (0 : Int32)), .val (.int (1 : Int32)), .val .null, .val (.ref rr_3)] []))
  refine Go.retV X18 hx hlk Bd.returns (hb hby d4_57) (by decide) (by decide) e18 ?_
  exact ⟨rr_3, kr_3, rfl, N18, K18, f20, f21, f23, z_rr_3⟩
theorem d3_0 : decode jdk_42_method_3_code 0 = .ok (.aload_n 0, 1) := by decide +kernel
theorem d3_1 : decode jdk_42_method_3_code 1 = .ok (.aload_n 1, 1) := by decide +kernel
theorem d3_2 : decode jdk_42_method_3_code 2 = .ok (.iconst 0, 1) := by decide +kernel
theorem d3_3 : decode jdk_42_method_3_code 3 = .ok (.aload_n 1, 1) := by decide +kernel
theorem d3_4 : decode jdk_42_method_3_code 4 = .ok (.arraylength, 1) := by decide +kernel
theorem d3_5 : decode jdk_42_method_3_code 5 = .ok (.aconst_null, 1) := by decide +kernel
theorem pd___CIILjava_lang_Void__V : parseMethodDescriptor "([CIILjava/lang/Void;)V" = some ⟨[(.array .char), .int, .int, (.object "java/lang/Void")], none⟩ := by decide +kernel
theorem d3_6 : decode jdk_42_method_3_code 6 = .ok (.invokespecial 27, 3) := by decide +kernel
theorem d3_9 : decode jdk_42_method_3_code 9 = .ok (.return_, 1) := by decide +kernel
theorem ef_rm3_1 (m : MethodId) (ob : Addr) (aa : Addr) : entryFrame m #[(.ref ob), (.ref aa)] 2 = mkF m 0 #[.val (.ref ob), .val (.ref aa)] [] := by first | (simp [entryFrame, mkF, argsToLocals, Value.category]; done) | rfl
def Q3_1 (Z : State) (ob : Addr) (aa : Addr) (ka : ClassId) (cs : Int32) (ca : Int32) (h0 : Heap) (n0 : Nat) (v : Option Value) (h : Heap) (L : List Loc) : Prop := ∃ (tb : Addr) (kt : ClassId), v = none ∧ Fr n0 L ∧ Keep h0 h [ob] ∧ Fld Z h ob "java/lang/String" "value" "[B" (.ref tb) ∧ Fld Z h ob "java/lang/String" "coder" "B" (.int (0 : Int32)) ∧ Arv Z h tb kt .byte (1 : Int32) [(.int (nar .byte (ca.toInt8.toInt32)))] (.int (0 : Int32)) ∧ h0.size ≤ tb
set_option maxRecDepth 65536 in
set_option maxHeartbeats 40000000 in
theorem rm3_1 (l : Launch) (Z : State) (a0 : Array Value) (hw : ∀ d ∈ tables_1, d.before a0 Z = true) (ws : List Jvm.Cond) (ob : Addr) (aa : Addr) (ka : ClassId) (cs : Int32) (ca : Int32) (h0 : Heap) (n0 : Nat) (O0 : Old Z n0 h0) (E_o : Exa Z h0 ob "java/lang/String") (Fv : Fld Z h0 ob "java/lang/String" "value" "[B" .null) (Fc : Fld Z h0 ob "java/lang/String" "coder" "B" (.int (0 : Int32))) (Va : Arv Z h0 aa ka .char (1 : Int32) [(.int ca)] (.int (0 : Int32))) (S_cs : Sta Z Z.heap "java/lang/String" "COMPACT_STRINGS" "Z" (.int cs)) (q_cs : ¬ cs = (0 : Int32)) (q_ca : ¬ (255 : Int32) < ca) (g_o : n0 ≤ ob) (ne_oa : ob ≠ aa) :
    MetFree l (⟨"java/lang/String", "<init>", "([C)V"⟩ : MethodName) (head1 (Jvm.Cond.code (⟨"java/lang/String", "<init>", "([C)V"⟩ : MethodName) jdk_42_method_3_code 2 none :: ws) ({ frames := 3, cells := 1, slots := 1, locals := 52 } : Room)) (fun ay U => ay = #[(.ref ob), (.ref aa)] ∧ Z.Warmed39 U.vm ∧ U.heap = h0) (fun _ _ _ _ _ => True) (fun _ U o U' => ∃ v L, o = .returned v ∧ Q3_1 Z ob aa ka cs ca h0 n0 v U'.heap L ∧ FrameEnd U o U' L ({ frames := 3, cells := 1, slots := 1, locals := 52 } : Room).cells ({ frames := 3, cells := 1, slots := 1, locals := 52 } : Room).slots) := by
  refine MetFree.of_bodySF (plainFor_of_name pn_java_lang_String) hisR ?_
  intro p e s m args below meth c s₁ Bd hml0 hP hK
  obtain ⟨rfl, hZ, hh⟩ := hP
  have hx := Bd.exec
  have hby := Bd.bytes
  have hlk : meth.locks = false := BodyLoose.notSynchronized Bd
  have hml : c.maxLocals = 2 := hml0
  have hown : s.vm.findClass "java/lang/String" = some m.cls := findClass_of_methodNamed Bd.named
  have hnm := (name_of_methodNamed Bd.named Bd.method).1
  have X0 : Stand p l e ({ frames := 3, cells := 1, slots := 1, locals := 52 } : Room) s m #[(.ref ob), (.ref aa)] below meth c s₁ [] 0 0 := Stand.of_body Bd
  have e0 : s₁.heap = h0 := by rw [← hh, Bd.state]; rfl
  have N0 := Fr.nil n0
  suffices hgo : Go p e below s 1 1 (Q3_1 Z ob aa ka cs ca h0 n0) (s₁.setTop (mkF m 0 #[.val (.ref ob), .val (.ref aa)] [])) by
    obtain ⟨t, o, h1, h2⟩ := hgo; exact ⟨t, o, castTop (ef_rm3_1 m ob aa) h1, h2⟩
  show Go p e below s _ _ _ (s₁.setTop (mkF m 0 #[.val (.ref ob), .val (.ref aa)] []))
  refine Go.st (fun _ k' => XS.aloadN X0.here hx rfl (hb hby d3_0) rfl rfl k') ?_
  show Go p e below s _ _ _ (s₁.setTop (mkF m 1 #[.val (.ref ob), .val (.ref aa)] [(.ref ob)]))
  refine Go.st (fun _ k' => XS.aloadN X0.here hx rfl (hb hby d3_1) rfl rfl k') ?_
  show Go p e below s _ _ _ (s₁.setTop (mkF m 2 #[.val (.ref ob), .val (.ref aa)] [(.ref aa), (.ref ob)]))
  refine Go.st (fun _ k' => XS.iconst X0.here hx rfl (hb hby d3_2) k') ?_
  show Go p e below s _ _ _ (s₁.setTop (mkF m 3 #[.val (.ref ob), .val (.ref aa)] [(.int (0 : Int32)), (.ref aa), (.ref ob)]))
  refine Go.st (fun _ k' => XS.aloadN X0.here hx rfl (hb hby d3_3) rfl rfl k') ?_
  show Go p e below s _ _ _ (s₁.setTop (mkF m 4 #[.val (.ref ob), .val (.ref aa)] [(.ref aa), (.int (0 : Int32)), (.ref aa), (.ref ob)]))
  obtain ⟨cl1, Ar1, qc1, Sz1, Nn1, Ha1, Gf1⟩ := id Va
  refine Go.st (fun _ k' => X0.arraylength hx (by rw [e0]; exact Ar1.1) (State.isArrayOf_alike hZ.alike Ar1.2.1) (g := (mkF m 4 #[.val (.ref ob), .val (.ref aa)] [(.ref aa), (.int (0 : Int32)), (.ref aa), (.ref ob)])) rfl rfl (hb hby d3_4) _ k') ?_
  rw [len_of Sz1 Nn1]
  show Go p e below s _ _ _ (s₁.setTop (mkF m 5 #[.val (.ref ob), .val (.ref aa)] [(.int (1 : Int32)), (.int (0 : Int32)), (.ref aa), (.ref ob)]))
  refine Go.st (fun _ k' => XS.aconstNull X0.here hx rfl (hb hby d3_5) k') ?_
  show Go p e below s _ _ _ (s₁.setTop (mkF m 6 #[.val (.ref ob), .val (.ref aa)] [.null, (.int (1 : Int32)), (.int (0 : Int32)), (.ref aa), (.ref ob)]))
  obtain ⟨_, _, ⟨T2, L2, k2, n2⟩, -, X2, ⟨Lc2, hQ2, l2, y2, z2⟩, st2⟩ := X0.specialBack hx (y := (⟨"java/lang/String", "<init>", "([CIILjava/lang/Void;)V"⟩ : MethodName)) rfl hown (mvT hZ (wdx hw 17 rfl)) (mvT hZ (wdx hw 18 rfl)) (mvT hZ (wdx hw 20 rfl)) (by decide) (backOf (W := 0) (rm4_1 l Z a0 hw [] ob aa ka cs ca h0 n0 O0 E_o Fv Fc Va S_cs q_cs q_ca g_o ne_oa) hZ (wdx hw 20 rfl) (wdx hw 12 rfl) (by decide) (by decide)) (g := (mkF m 6 #[.val (.ref ob), .val (.ref aa)] [.null, (.int (1 : Int32)), (.int (0 : Int32)), (.ref aa), (.ref ob)])) rfl (by rw [hml]; rfl) (Steps.refl _) (a := ob) (argsL := [(.ref aa), (.int (0 : Int32)), (.int (1 : Int32)), .null]) (rest := []) (lenOf pd___CIILjava_lang_Void__V rfl) rfl (by show 2 * 0 + _ ≤ _; exact Nat.le_of_eq rfl) (hb hby d3_6) (fun _ _ => ⟨rfl, e0, (by exact Nat.le_of_ble_eq_true rfl), (by exact Nat.le_of_ble_eq_true rfl)⟩)
  dsimp only [Pt.U, Pt.locs, Pt.cells, Pt.slots] at X2 l2 y2 z2 st2 hQ2
  subst l2 y2 z2
  obtain ⟨tb_2, kt_2, rfl, Nq2, Kq2, f3, f4, f5, szt_2⟩ := hQ2
  have N2 := Fr.app N0 Nq2
  refine Go.tr st2 ?_
  have f6 : Exa Z T2.heap ob "java/lang/String" := E_o.keep Kq2
  have f7 : Arv Z T2.heap aa ka .char (1 : Int32) [(.int ca)] (.int (0 : Int32)) := Va.keep Kq2 (ninS (Ne.symm ne_oa) nin0)
  have O2 : Old Z n0 T2.heap := O0.keep Kq2 (allS g_o all0)
  have K2 : Keep h0 T2.heap [ob] := (Keep.refl h0 [ob]).trans Kq2 (allS (Or.inl (by simp)) all0)
  have g_tb_2 : n0 ≤ tb_2 := Nat.le_trans (own_le O0) szt_2
  have z_tb_2 : h0.size ≤ tb_2 := szt_2
  have ne8 : ob ≠ tb_2 := Nat.ne_of_lt (Nat.lt_of_lt_of_le E_o.lt szt_2)
  have ne9 : aa ≠ tb_2 := Nat.ne_of_lt (Nat.lt_of_lt_of_le Va.lt szt_2)
  show Go p e below s _ _ _ (T2.setTop (mkF m 9 #[.val (.ref ob), .val (.ref aa)] []))
  refine Go.retV X2 hx hlk Bd.returns (hb hby d3_9) (by decide) (by decide) rfl ?_
  exact ⟨tb_2, kt_2, rfl, N2, K2, f3, f4, f5, z_tb_2⟩
theorem ef_rm16_2 (m : MethodId) (aa : Addr) (bb : Addr) : entryFrame m #[(.ref aa), (.int (0 : Int32)), (.ref bb), (.int (0 : Int32)), (.int (2 : Int32))] 7 = mkF m 0 #[.val (.ref aa), .val (.int (0 : Int32)), .val (.ref bb), .val (.int (0 : Int32)), .val (.int (2 : Int32)), .unset, .unset] [] := by first | (simp [entryFrame, mkF, argsToLocals, Value.category]; done) | rfl
def Q16_2 (Z : State) (aa : Addr) (bb : Addr) (ka : ClassId) (kb : ClassId) (ca : Int32) (cb : Int32) (h0 : Heap) (n0 : Nat) (v : Option Value) (h : Heap) (L : List Loc) : Prop := v = some (.int (2 : Int32)) ∧ Fr n0 L ∧ Keep h0 h [bb] ∧ Arv Z h bb kb .byte (2 : Int32) [(.int (nar .byte (ca.toInt8.toInt32))), (.int (nar .byte (cb.toInt8.toInt32)))] (.int (0 : Int32))
set_option maxRecDepth 65536 in
set_option maxHeartbeats 40000000 in
theorem rm16_2 (l : Launch) (Z : State) (a0 : Array Value) (hw : ∀ d ∈ tables_1, d.before a0 Z = true) (ws : List Jvm.Cond) (aa : Addr) (bb : Addr) (ka : ClassId) (kb : ClassId) (ca : Int32) (cb : Int32) (h0 : Heap) (n0 : Nat) (O0 : Old Z n0 h0) (Va : Arv Z h0 aa ka .char (2 : Int32) [(.int ca), (.int cb)] (.int (0 : Int32))) (Vb : Arv Z h0 bb kb .byte (2 : Int32) [(.int (0 : Int32)), (.int (0 : Int32))] (.int (0 : Int32))) (q_ca : ¬ (255 : Int32) < ca) (q_cb : ¬ (255 : Int32) < cb) (g_b : n0 ≤ bb) (ne_ab : aa ≠ bb) :
    MetFree l (⟨"java/lang/StringUTF16", "compress", "([CI[BII)I"⟩ : MethodName) (head1 (Jvm.Cond.code (⟨"java/lang/StringUTF16", "compress", "([CI[BII)I"⟩ : MethodName) jdk_52_method_21_code 7 (some .int) :: ws) ({ frames := 0, cells := 0, slots := 0, locals := 0 } : Room)) (fun ay U => ay = #[(.ref aa), (.int (0 : Int32)), (.ref bb), (.int (0 : Int32)), (.int (2 : Int32))] ∧ Z.Warmed39 U.vm ∧ U.heap = h0) (fun _ _ _ _ _ => True) (fun _ U o U' => ∃ v L, o = .returned v ∧ Q16_2 Z aa bb ka kb ca cb h0 n0 v U'.heap L ∧ FrameEnd U o U' L ({ frames := 0, cells := 0, slots := 0, locals := 0 } : Room).cells ({ frames := 0, cells := 0, slots := 0, locals := 0 } : Room).slots) := by
  refine MetFree.of_bodySF (plainFor_of_name pn_java_lang_StringUTF16) hisR ?_
  intro p e s m args below meth c s₁ Bd hml0 hP hK
  obtain ⟨rfl, hZ, hh⟩ := hP
  have hx := Bd.exec
  have hby := Bd.bytes
  have hlk : meth.locks = false := BodyLoose.notSynchronized Bd
  have hml : c.maxLocals = 7 := hml0
  have hown : s.vm.findClass "java/lang/StringUTF16" = some m.cls := findClass_of_methodNamed Bd.named
  have hnm := (name_of_methodNamed Bd.named Bd.method).1
  have X0 : Stand p l e ({ frames := 0, cells := 0, slots := 0, locals := 0 } : Room) s m #[(.ref aa), (.int (0 : Int32)), (.ref bb), (.int (0 : Int32)), (.int (2 : Int32))] below meth c s₁ [] 0 0 := Stand.of_body Bd
  have e0 : s₁.heap = h0 := by rw [← hh, Bd.state]; rfl
  have N0 := Fr.nil n0
  suffices hgo : Go p e below s 0 0 (Q16_2 Z aa bb ka kb ca cb h0 n0) (s₁.setTop (mkF m 0 #[.val (.ref aa), .val (.int (0 : Int32)), .val (.ref bb), .val (.int (0 : Int32)), .val (.int (2 : Int32)), .unset, .unset] [])) by
    obtain ⟨t, o, h1, h2⟩ := hgo; exact ⟨t, o, castTop (ef_rm16_2 m aa bb) h1, h2⟩
  show Go p e below s _ _ _ (s₁.setTop (mkF m 0 #[.val (.ref aa), .val (.int (0 : Int32)), .val (.ref bb), .val (.int (0 : Int32)), .val (.int (2 : Int32)), .unset, .unset] []))
  refine Go.st (fun _ k' => XS.iconst X0.here hx rfl (hb hby d16_0) k') ?_
  show Go p e below s _ _ _ (s₁.setTop (mkF m 1 #[.val (.ref aa), .val (.int (0 : Int32)), .val (.ref bb), .val (.int (0 : Int32)), .val (.int (2 : Int32)), .unset, .unset] [(.int (0 : Int32))]))
  refine Go.st (fun _ k' => XS.istore X0.here hx rfl (hb hby d16_1) rfl (l' := #[.val (.ref aa), .val (.int (0 : Int32)), .val (.ref bb), .val (.int (0 : Int32)), .val (.int (2 : Int32)), .val (.int (0 : Int32)), .unset]) rfl k') ?_
  show Go p e below s _ _ _ (s₁.setTop (mkF m 3 #[.val (.ref aa), .val (.int (0 : Int32)), .val (.ref bb), .val (.int (0 : Int32)), .val (.int (2 : Int32)), .val (.int (0 : Int32)), .unset] []))
  refine Go.st (fun _ k' => XS.iload X0.here hx rfl (hb hby d16_3) rfl k') ?_
  show Go p e below s _ _ _ (s₁.setTop (mkF m 5 #[.val (.ref aa), .val (.int (0 : Int32)), .val (.ref bb), .val (.int (0 : Int32)), .val (.int (2 : Int32)), .val (.int (0 : Int32)), .unset] [(.int (0 : Int32))]))
  refine Go.st (fun _ k' => XS.iload X0.here hx rfl (hb hby d16_5) rfl k') ?_
  show Go p e below s _ _ _ (s₁.setTop (mkF m 7 #[.val (.ref aa), .val (.int (0 : Int32)), .val (.ref bb), .val (.int (0 : Int32)), .val (.int (2 : Int32)), .val (.int (0 : Int32)), .unset] [(.int (2 : Int32)), (.int (0 : Int32))]))
  refine Go.st (fun _ k' => XS.icmpNo X0.here hx rfl (hb hby d16_7) rfl (XT.ii_ge_f (by decide)) k') ?_
  show Go p e below s _ _ _ (s₁.setTop (mkF m 10 #[.val (.ref aa), .val (.int (0 : Int32)), .val (.ref bb), .val (.int (0 : Int32)), .val (.int (2 : Int32)), .val (.int (0 : Int32)), .unset] []))
  refine Go.st (fun _ k' => XS.aloadN X0.here hx rfl (hb hby d16_10) rfl rfl k') ?_
  show Go p e below s _ _ _ (s₁.setTop (mkF m 11 #[.val (.ref aa), .val (.int (0 : Int32)), .val (.ref bb), .val (.int (0 : Int32)), .val (.int (2 : Int32)), .val (.int (0 : Int32)), .unset] [(.ref aa)]))
  refine Go.st (fun _ k' => XS.iloadN X0.here hx rfl (hb hby d16_11) rfl k') ?_
  show Go p e below s _ _ _ (s₁.setTop (mkF m 12 #[.val (.ref aa), .val (.int (0 : Int32)), .val (.ref bb), .val (.int (0 : Int32)), .val (.int (2 : Int32)), .val (.int (0 : Int32)), .unset] [(.int (0 : Int32)), (.ref aa)]))
  obtain ⟨cl1, Ar1, qc1, Sz1, Nn1, Ha1, Gf1⟩ := id Va
  refine Go.st (fun _ k' => X0.caload hx (j := (0 : Int32)) (v := (.int ca)) (by rw [e0]; exact Ar1.1) (State.isArrayOf_alike hZ.alike Ar1.2.1) Ar1.2.2 (inb_of Sz1 ⟨by decide, by decide⟩) (Ha1.at (inb_of Sz1 ⟨by decide, by decide⟩) rfl) (g := (mkF m 12 #[.val (.ref aa), .val (.int (0 : Int32)), .val (.ref bb), .val (.int (0 : Int32)), .val (.int (2 : Int32)), .val (.int (0 : Int32)), .unset] [(.int (0 : Int32)), (.ref aa)])) rfl rfl (hb hby d16_12) _ k') ?_
  show Go p e below s _ _ _ (s₁.setTop (mkF m 13 #[.val (.ref aa), .val (.int (0 : Int32)), .val (.ref bb), .val (.int (0 : Int32)), .val (.int (2 : Int32)), .val (.int (0 : Int32)), .unset] [(.int ca)]))
  refine Go.st (fun _ k' => XS.istore X0.here hx rfl (hb hby d16_13) rfl (l' := #[.val (.ref aa), .val (.int (0 : Int32)), .val (.ref bb), .val (.int (0 : Int32)), .val (.int (2 : Int32)), .val (.int (0 : Int32)), .val (.int ca)]) rfl k') ?_
  show Go p e below s _ _ _ (s₁.setTop (mkF m 15 #[.val (.ref aa), .val (.int (0 : Int32)), .val (.ref bb), .val (.int (0 : Int32)), .val (.int (2 : Int32)), .val (.int (0 : Int32)), .val (.int ca)] []))
  refine Go.st (fun _ k' => XS.iload X0.here hx rfl (hb hby d16_15) rfl k') ?_
  show Go p e below s _ _ _ (s₁.setTop (mkF m 17 #[.val (.ref aa), .val (.int (0 : Int32)), .val (.ref bb), .val (.int (0 : Int32)), .val (.int (2 : Int32)), .val (.int (0 : Int32)), .val (.int ca)] [(.int ca)]))
  refine Go.st (fun _ k' => XS.sipush X0.here hx rfl (hb hby d16_17) k') ?_
  show Go p e below s _ _ _ (s₁.setTop (mkF m 20 #[.val (.ref aa), .val (.int (0 : Int32)), .val (.ref bb), .val (.int (0 : Int32)), .val (.int (2 : Int32)), .val (.int (0 : Int32)), .val (.int ca)] [(.int (255 : Int32)), (.int ca)]))
  refine Go.st (fun _ k' => XS.icmpYes X0.here hx rfl (pc0 := 20) (pc' := 26) rfl (hb hby d16_20) rfl (XT.ii_le_t q_ca) (by decide) (by decide) k') ?_
  show Go p e below s _ _ _ (s₁.setTop (mkF m 26 #[.val (.ref aa), .val (.int (0 : Int32)), .val (.ref bb), .val (.int (0 : Int32)), .val (.int (2 : Int32)), .val (.int (0 : Int32)), .val (.int ca)] []))
  refine Go.st (fun _ k' => XS.aloadN X0.here hx rfl (hb hby d16_26) rfl rfl k') ?_
  show Go p e below s _ _ _ (s₁.setTop (mkF m 27 #[.val (.ref aa), .val (.int (0 : Int32)), .val (.ref bb), .val (.int (0 : Int32)), .val (.int (2 : Int32)), .val (.int (0 : Int32)), .val (.int ca)] [(.ref bb)]))
  refine Go.st (fun _ k' => XS.iloadN X0.here hx rfl (hb hby d16_27) rfl k') ?_
  show Go p e below s _ _ _ (s₁.setTop (mkF m 28 #[.val (.ref aa), .val (.int (0 : Int32)), .val (.ref bb), .val (.int (0 : Int32)), .val (.int (2 : Int32)), .val (.int (0 : Int32)), .val (.int ca)] [(.int (0 : Int32)), (.ref bb)]))
  refine Go.st (fun _ k' => XS.iload X0.here hx rfl (hb hby d16_28) rfl k') ?_
  show Go p e below s _ _ _ (s₁.setTop (mkF m 30 #[.val (.ref aa), .val (.int (0 : Int32)), .val (.ref bb), .val (.int (0 : Int32)), .val (.int (2 : Int32)), .val (.int (0 : Int32)), .val (.int ca)] [(.int ca), (.int (0 : Int32)), (.ref bb)]))
  refine Go.st (fun _ k' => XS.i2b X0.here hx rfl (hb hby d16_30) rfl k') ?_
  show Go p e below s _ _ _ (s₁.setTop (mkF m 31 #[.val (.ref aa), .val (.int (0 : Int32)), .val (.ref bb), .val (.int (0 : Int32)), .val (.int (2 : Int32)), .val (.int (0 : Int32)), .val (.int ca)] [(.int (ca.toInt8.toInt32)), (.int (0 : Int32)), (.ref bb)]))
  obtain ⟨cl2, Ar2, qc2, Sz2, Nn2, Ha2, Gf2⟩ := id Vb
  obtain ⟨T2, h2, X2, e2, W2, st2⟩ := stB X0 hx hZ e0 Ar2 (j := (0 : Int32)) (inb_of Sz2 ⟨by decide, by decide⟩) (g := (mkF m 31 #[.val (.ref aa), .val (.int (0 : Int32)), .val (.ref bb), .val (.int (0 : Int32)), .val (.int (2 : Int32)), .val (.int (0 : Int32)), .val (.int ca)] [(.int (ca.toInt8.toInt32)), (.int (0 : Int32)), (.ref bb)])) rfl rfl (hb hby d16_31)
  refine Go.st st2 ?_
  have f4 : Arv Z h2 aa ka .char (2 : Int32) [(.int ca), (.int cb)] (.int (0 : Int32)) := Va.other W2 ne_ab
  have O2 : Old Z n0 h2 := O0.wr W2 g_b
  have N2 := Fr.snoc X2 N0 g_b
  have K2 : Keep h0 h2 [bb] := (Keep.refl h0 [bb]).wr W2 (Or.inl (by simp))
  have f3 : Arv Z h2 bb kb .byte (2 : Int32) [(.int (nar .byte (ca.toInt8.toInt32))), (.int (0 : Int32))] (.int (0 : Int32)) := Arv.set Ar2 qc2 Sz2 Nn2 Ha2 Gf2 (fits_nar_byte _) W2 0 rfl (Nat.le_of_ble_eq_true rfl)
  show Go p e below s _ _ _ (T2.setTop (mkF m 32 #[.val (.ref aa), .val (.int (0 : Int32)), .val (.ref bb), .val (.int (0 : Int32)), .val (.int (2 : Int32)), .val (.int (0 : Int32)), .val (.int ca)] []))
  refine Go.st (fun _ k' => XS.iinc X2.here hx rfl (hb hby d16_32) rfl (l' := #[.val (.ref aa), .val (.int (1 : Int32)), .val (.ref bb), .val (.int (0 : Int32)), .val (.int (2 : Int32)), .val (.int (0 : Int32)), .val (.int ca)]) rfl k') ?_
  show Go p e below s _ _ _ (T2.setTop (mkF m 35 #[.val (.ref aa), .val (.int (1 : Int32)), .val (.ref bb), .val (.int (0 : Int32)), .val (.int (2 : Int32)), .val (.int (0 : Int32)), .val (.int ca)] []))
  refine Go.st (fun _ k' => XS.iinc X2.here hx rfl (hb hby d16_35) rfl (l' := #[.val (.ref aa), .val (.int (1 : Int32)), .val (.ref bb), .val (.int (1 : Int32)), .val (.int (2 : Int32)), .val (.int (0 : Int32)), .val (.int ca)]) rfl k') ?_
  show Go p e below s _ _ _ (T2.setTop (mkF m 38 #[.val (.ref aa), .val (.int (1 : Int32)), .val (.ref bb), .val (.int (1 : Int32)), .val (.int (2 : Int32)), .val (.int (0 : Int32)), .val (.int ca)] []))
  refine Go.st (fun _ k' => XS.iinc X2.here hx rfl (hb hby d16_38) rfl (l' := #[.val (.ref aa), .val (.int (1 : Int32)), .val (.ref bb), .val (.int (1 : Int32)), .val (.int (2 : Int32)), .val (.int (1 : Int32)), .val (.int ca)]) rfl k') ?_
  show Go p e below s _ _ _ (T2.setTop (mkF m 41 #[.val (.ref aa), .val (.int (1 : Int32)), .val (.ref bb), .val (.int (1 : Int32)), .val (.int (2 : Int32)), .val (.int (1 : Int32)), .val (.int ca)] []))
  refine Go.st (fun _ k' => XS.goto X2.here hx rfl (pc0 := 41) (pc' := 3) rfl (hb hby d16_41) (by decide) (by decide) k') ?_
  show Go p e below s _ _ _ (T2.setTop (mkF m 3 #[.val (.ref aa), .val (.int (1 : Int32)), .val (.ref bb), .val (.int (1 : Int32)), .val (.int (2 : Int32)), .val (.int (1 : Int32)), .val (.int ca)] []))
  refine Go.st (fun _ k' => XS.iload X2.here hx rfl (hb hby d16_3) rfl k') ?_
  show Go p e below s _ _ _ (T2.setTop (mkF m 5 #[.val (.ref aa), .val (.int (1 : Int32)), .val (.ref bb), .val (.int (1 : Int32)), .val (.int (2 : Int32)), .val (.int (1 : Int32)), .val (.int ca)] [(.int (1 : Int32))]))
  refine Go.st (fun _ k' => XS.iload X2.here hx rfl (hb hby d16_5) rfl k') ?_
  show Go p e below s _ _ _ (T2.setTop (mkF m 7 #[.val (.ref aa), .val (.int (1 : Int32)), .val (.ref bb), .val (.int (1 : Int32)), .val (.int (2 : Int32)), .val (.int (1 : Int32)), .val (.int ca)] [(.int (2 : Int32)), (.int (1 : Int32))]))
  refine Go.st (fun _ k' => XS.icmpNo X2.here hx rfl (hb hby d16_7) rfl (XT.ii_ge_f (by decide)) k') ?_
  show Go p e below s _ _ _ (T2.setTop (mkF m 10 #[.val (.ref aa), .val (.int (1 : Int32)), .val (.ref bb), .val (.int (1 : Int32)), .val (.int (2 : Int32)), .val (.int (1 : Int32)), .val (.int ca)] []))
  refine Go.st (fun _ k' => XS.aloadN X2.here hx rfl (hb hby d16_10) rfl rfl k') ?_
  show Go p e below s _ _ _ (T2.setTop (mkF m 11 #[.val (.ref aa), .val (.int (1 : Int32)), .val (.ref bb), .val (.int (1 : Int32)), .val (.int (2 : Int32)), .val (.int (1 : Int32)), .val (.int ca)] [(.ref aa)]))
  refine Go.st (fun _ k' => XS.iloadN X2.here hx rfl (hb hby d16_11) rfl k') ?_
  show Go p e below s _ _ _ (T2.setTop (mkF m 12 #[.val (.ref aa), .val (.int (1 : Int32)), .val (.ref bb), .val (.int (1 : Int32)), .val (.int (2 : Int32)), .val (.int (1 : Int32)), .val (.int ca)] [(.int (1 : Int32)), (.ref aa)]))
  obtain ⟨cl5, Ar5, qc5, Sz5, Nn5, Ha5, Gf5⟩ := id f4
  refine Go.st (fun _ k' => X2.caload hx (j := (1 : Int32)) (v := (.int cb)) (by rw [e2]; exact Ar5.1) (State.isArrayOf_alike hZ.alike Ar5.2.1) Ar5.2.2 (inb_of Sz5 ⟨by decide, by decide⟩) (Ha5.at (inb_of Sz5 ⟨by decide, by decide⟩) rfl) (g := (mkF m 12 #[.val (.ref aa), .val (.int (1 : Int32)), .val (.ref bb), .val (.int (1 : Int32)), .val (.int (2 : Int32)), .val (.int (1 : Int32)), .val (.int ca)] [(.int (1 : Int32)), (.ref aa)])) rfl rfl (hb hby d16_12) _ k') ?_
  show Go p e below s _ _ _ (T2.setTop (mkF m 13 #[.val (.ref aa), .val (.int (1 : Int32)), .val (.ref bb), .val (.int (1 : Int32)), .val (.int (2 : Int32)), .val (.int (1 : Int32)), .val (.int ca)] [(.int cb)]))
  refine Go.st (fun _ k' => XS.istore X2.here hx rfl (hb hby d16_13) rfl (l' := #[.val (.ref aa), .val (.int (1 : Int32)), .val (.ref bb), .val (.int (1 : Int32)), .val (.int (2 : Int32)), .val (.int (1 : Int32)), .val (.int cb)]) rfl k') ?_
  show Go p e below s _ _ _ (T2.setTop (mkF m 15 #[.val (.ref aa), .val (.int (1 : Int32)), .val (.ref bb), .val (.int (1 : Int32)), .val (.int (2 : Int32)), .val (.int (1 : Int32)), .val (.int cb)] []))
  refine Go.st (fun _ k' => XS.iload X2.here hx rfl (hb hby d16_15) rfl k') ?_
  show Go p e below s _ _ _ (T2.setTop (mkF m 17 #[.val (.ref aa), .val (.int (1 : Int32)), .val (.ref bb), .val (.int (1 : Int32)), .val (.int (2 : Int32)), .val (.int (1 : Int32)), .val (.int cb)] [(.int cb)]))
  refine Go.st (fun _ k' => XS.sipush X2.here hx rfl (hb hby d16_17) k') ?_
  show Go p e below s _ _ _ (T2.setTop (mkF m 20 #[.val (.ref aa), .val (.int (1 : Int32)), .val (.ref bb), .val (.int (1 : Int32)), .val (.int (2 : Int32)), .val (.int (1 : Int32)), .val (.int cb)] [(.int (255 : Int32)), (.int cb)]))
  refine Go.st (fun _ k' => XS.icmpYes X2.here hx rfl (pc0 := 20) (pc' := 26) rfl (hb hby d16_20) rfl (XT.ii_le_t q_cb) (by decide) (by decide) k') ?_
  show Go p e below s _ _ _ (T2.setTop (mkF m 26 #[.val (.ref aa), .val (.int (1 : Int32)), .val (.ref bb), .val (.int (1 : Int32)), .val (.int (2 : Int32)), .val (.int (1 : Int32)), .val (.int cb)] []))
  refine Go.st (fun _ k' => XS.aloadN X2.here hx rfl (hb hby d16_26) rfl rfl k') ?_
  show Go p e below s _ _ _ (T2.setTop (mkF m 27 #[.val (.ref aa), .val (.int (1 : Int32)), .val (.ref bb), .val (.int (1 : Int32)), .val (.int (2 : Int32)), .val (.int (1 : Int32)), .val (.int cb)] [(.ref bb)]))
  refine Go.st (fun _ k' => XS.iloadN X2.here hx rfl (hb hby d16_27) rfl k') ?_
  show Go p e below s _ _ _ (T2.setTop (mkF m 28 #[.val (.ref aa), .val (.int (1 : Int32)), .val (.ref bb), .val (.int (1 : Int32)), .val (.int (2 : Int32)), .val (.int (1 : Int32)), .val (.int cb)] [(.int (1 : Int32)), (.ref bb)]))
  refine Go.st (fun _ k' => XS.iload X2.here hx rfl (hb hby d16_28) rfl k') ?_
  show Go p e below s _ _ _ (T2.setTop (mkF m 30 #[.val (.ref aa), .val (.int (1 : Int32)), .val (.ref bb), .val (.int (1 : Int32)), .val (.int (2 : Int32)), .val (.int (1 : Int32)), .val (.int cb)] [(.int cb), (.int (1 : Int32)), (.ref bb)]))
  refine Go.st (fun _ k' => XS.i2b X2.here hx rfl (hb hby d16_30) rfl k') ?_
  show Go p e below s _ _ _ (T2.setTop (mkF m 31 #[.val (.ref aa), .val (.int (1 : Int32)), .val (.ref bb), .val (.int (1 : Int32)), .val (.int (2 : Int32)), .val (.int (1 : Int32)), .val (.int cb)] [(.int (cb.toInt8.toInt32)), (.int (1 : Int32)), (.ref bb)]))
  obtain ⟨cl6, Ar6, qc6, Sz6, Nn6, Ha6, Gf6⟩ := id f3
  obtain ⟨T6, h6, X6, e6, W6, st6⟩ := stB X2 hx hZ e2 Ar6 (j := (1 : Int32)) (inb_of Sz6 ⟨by decide, by decide⟩) (g := (mkF m 31 #[.val (.ref aa), .val (.int (1 : Int32)), .val (.ref bb), .val (.int (1 : Int32)), .val (.int (2 : Int32)), .val (.int (1 : Int32)), .val (.int cb)] [(.int (cb.toInt8.toInt32)), (.int (1 : Int32)), (.ref bb)])) rfl rfl (hb hby d16_31)
  refine Go.st st6 ?_
  have f8 : Arv Z h6 aa ka .char (2 : Int32) [(.int ca), (.int cb)] (.int (0 : Int32)) := f4.other W6 ne_ab
  have O6 : Old Z n0 h6 := O2.wr W6 g_b
  have N6 := Fr.snoc X6 N2 g_b
  have K6 : Keep h0 h6 [bb] := K2.wr W6 (Or.inl (by simp))
  have f7 : Arv Z h6 bb kb .byte (2 : Int32) [(.int (nar .byte (ca.toInt8.toInt32))), (.int (nar .byte (cb.toInt8.toInt32)))] (.int (0 : Int32)) := Arv.set Ar6 qc6 Sz6 Nn6 Ha6 Gf6 (fits_nar_byte _) W6 1 rfl (Nat.le_of_ble_eq_true rfl)
  show Go p e below s _ _ _ (T6.setTop (mkF m 32 #[.val (.ref aa), .val (.int (1 : Int32)), .val (.ref bb), .val (.int (1 : Int32)), .val (.int (2 : Int32)), .val (.int (1 : Int32)), .val (.int cb)] []))
  refine Go.st (fun _ k' => XS.iinc X6.here hx rfl (hb hby d16_32) rfl (l' := #[.val (.ref aa), .val (.int (2 : Int32)), .val (.ref bb), .val (.int (1 : Int32)), .val (.int (2 : Int32)), .val (.int (1 : Int32)), .val (.int cb)]) rfl k') ?_
  show Go p e below s _ _ _ (T6.setTop (mkF m 35 #[.val (.ref aa), .val (.int (2 : Int32)), .val (.ref bb), .val (.int (1 : Int32)), .val (.int (2 : Int32)), .val (.int (1 : Int32)), .val (.int cb)] []))
  refine Go.st (fun _ k' => XS.iinc X6.here hx rfl (hb hby d16_35) rfl (l' := #[.val (.ref aa), .val (.int (2 : Int32)), .val (.ref bb), .val (.int (2 : Int32)), .val (.int (2 : Int32)), .val (.int (1 : Int32)), .val (.int cb)]) rfl k') ?_
  show Go p e below s _ _ _ (T6.setTop (mkF m 38 #[.val (.ref aa), .val (.int (2 : Int32)), .val (.ref bb), .val (.int (2 : Int32)), .val (.int (2 : Int32)), .val (.int (1 : Int32)), .val (.int cb)] []))
  refine Go.st (fun _ k' => XS.iinc X6.here hx rfl (hb hby d16_38) rfl (l' := #[.val (.ref aa), .val (.int (2 : Int32)), .val (.ref bb), .val (.int (2 : Int32)), .val (.int (2 : Int32)), .val (.int (2 : Int32)), .val (.int cb)]) rfl k') ?_
  show Go p e below s _ _ _ (T6.setTop (mkF m 41 #[.val (.ref aa), .val (.int (2 : Int32)), .val (.ref bb), .val (.int (2 : Int32)), .val (.int (2 : Int32)), .val (.int (2 : Int32)), .val (.int cb)] []))
  refine Go.st (fun _ k' => XS.goto X6.here hx rfl (pc0 := 41) (pc' := 3) rfl (hb hby d16_41) (by decide) (by decide) k') ?_
  show Go p e below s _ _ _ (T6.setTop (mkF m 3 #[.val (.ref aa), .val (.int (2 : Int32)), .val (.ref bb), .val (.int (2 : Int32)), .val (.int (2 : Int32)), .val (.int (2 : Int32)), .val (.int cb)] []))
  refine Go.st (fun _ k' => XS.iload X6.here hx rfl (hb hby d16_3) rfl k') ?_
  show Go p e below s _ _ _ (T6.setTop (mkF m 5 #[.val (.ref aa), .val (.int (2 : Int32)), .val (.ref bb), .val (.int (2 : Int32)), .val (.int (2 : Int32)), .val (.int (2 : Int32)), .val (.int cb)] [(.int (2 : Int32))]))
  refine Go.st (fun _ k' => XS.iload X6.here hx rfl (hb hby d16_5) rfl k') ?_
  show Go p e below s _ _ _ (T6.setTop (mkF m 7 #[.val (.ref aa), .val (.int (2 : Int32)), .val (.ref bb), .val (.int (2 : Int32)), .val (.int (2 : Int32)), .val (.int (2 : Int32)), .val (.int cb)] [(.int (2 : Int32)), (.int (2 : Int32))]))
  refine Go.st (fun _ k' => XS.icmpYes X6.here hx rfl (pc0 := 7) (pc' := 44) rfl (hb hby d16_7) rfl (XT.ii_ge_t (by decide)) (by decide) (by decide) k') ?_
  show Go p e below s _ _ _ (T6.setTop (mkF m 44 #[.val (.ref aa), .val (.int (2 : Int32)), .val (.ref bb), .val (.int (2 : Int32)), .val (.int (2 : Int32)), .val (.int (2 : Int32)), .val (.int cb)] []))
  refine Go.st (fun _ k' => XS.iload X6.here hx rfl (hb hby d16_44) rfl k') ?_
  show Go p e below s _ _ _ (T6.setTop (mkF m 46 #[.val (.ref aa), .val (.int (2 : Int32)), .val (.ref bb), .val (.int (2 : Int32)), .val (.int (2 : Int32)), .val (.int (2 : Int32)), .val (.int cb)] [(.int (2 : Int32))]))
  refine Go.ret X6 hx hlk (t := .int) Bd.returns rfl (Or.inl ⟨rfl, Or.inl rfl, _, rfl⟩) (hb hby d16_46) (by decide) (by decide) e6 ?_
  exact ⟨rfl, N6, K6, f7⟩
theorem ef_rm15_2 (m : MethodId) (aa : Addr) : entryFrame m #[(.ref aa), (.int (0 : Int32)), (.int (2 : Int32))] 6 = mkF m 0 #[.val (.ref aa), .val (.int (0 : Int32)), .val (.int (2 : Int32)), .unset, .unset, .unset] [] := by first | (simp [entryFrame, mkF, argsToLocals, Value.category]; done) | rfl
def Q15_2 (Z : State) (aa : Addr) (ka : ClassId) (ca : Int32) (cb : Int32) (h0 : Heap) (n0 : Nat) (v : Option Value) (h : Heap) (L : List Loc) : Prop := ∃ (rr : Addr) (kr : ClassId), v = some (.ref rr) ∧ Fr n0 L ∧ Keep h0 h [] ∧ Arv Z h rr kr .byte (2 : Int32) [(.int (nar .byte (ca.toInt8.toInt32))), (.int (nar .byte (cb.toInt8.toInt32)))] (.int (0 : Int32)) ∧ h0.size ≤ rr
set_option maxRecDepth 65536 in
set_option maxHeartbeats 40000000 in
theorem rm15_2 (l : Launch) (Z : State) (a0 : Array Value) (hw : ∀ d ∈ tables_1, d.before a0 Z = true) (ws : List Jvm.Cond) (aa : Addr) (ka : ClassId) (ca : Int32) (cb : Int32) (h0 : Heap) (n0 : Nat) (O0 : Old Z n0 h0) (Va : Arv Z h0 aa ka .char (2 : Int32) [(.int ca), (.int cb)] (.int (0 : Int32))) (q_ca : ¬ (255 : Int32) < ca) (q_cb : ¬ (255 : Int32) < cb) :
    MetFree l (⟨"java/lang/StringUTF16", "compress", "([CII)[B"⟩ : MethodName) (head1 (Jvm.Cond.code (⟨"java/lang/StringUTF16", "compress", "([CII)[B"⟩ : MethodName) jdk_52_method_16_code 6 (some (.array .byte)) :: ws) ({ frames := 1, cells := 1, slots := 2, locals := 18 } : Room)) (fun ay U => ay = #[(.ref aa), (.int (0 : Int32)), (.int (2 : Int32))] ∧ Z.Warmed39 U.vm ∧ U.heap = h0) (fun _ _ _ _ _ => True) (fun _ U o U' => ∃ v L, o = .returned v ∧ Q15_2 Z aa ka ca cb h0 n0 v U'.heap L ∧ FrameEnd U o U' L ({ frames := 1, cells := 1, slots := 2, locals := 18 } : Room).cells ({ frames := 1, cells := 1, slots := 2, locals := 18 } : Room).slots) := by
  refine MetFree.of_bodySF (plainFor_of_name pn_java_lang_StringUTF16) hisR ?_
  intro p e s m args below meth c s₁ Bd hml0 hP hK
  obtain ⟨rfl, hZ, hh⟩ := hP
  have hx := Bd.exec
  have hby := Bd.bytes
  have hlk : meth.locks = false := BodyLoose.notSynchronized Bd
  have hml : c.maxLocals = 6 := hml0
  have hown : s.vm.findClass "java/lang/StringUTF16" = some m.cls := findClass_of_methodNamed Bd.named
  have hnm := (name_of_methodNamed Bd.named Bd.method).1
  have X0 : Stand p l e ({ frames := 1, cells := 1, slots := 2, locals := 18 } : Room) s m #[(.ref aa), (.int (0 : Int32)), (.int (2 : Int32))] below meth c s₁ [] 0 0 := Stand.of_body Bd
  have e0 : s₁.heap = h0 := by rw [← hh, Bd.state]; rfl
  have N0 := Fr.nil n0
  suffices hgo : Go p e below s 1 2 (Q15_2 Z aa ka ca cb h0 n0) (s₁.setTop (mkF m 0 #[.val (.ref aa), .val (.int (0 : Int32)), .val (.int (2 : Int32)), .unset, .unset, .unset] [])) by
    obtain ⟨t, o, h1, h2⟩ := hgo; exact ⟨t, o, castTop (ef_rm15_2 m aa) h1, h2⟩
  show Go p e below s _ _ _ (s₁.setTop (mkF m 0 #[.val (.ref aa), .val (.int (0 : Int32)), .val (.int (2 : Int32)), .unset, .unset, .unset] []))
  refine Go.st (fun _ k' => XS.iloadN X0.here hx rfl (hb hby d15_0) rfl k') ?_
  show Go p e below s _ _ _ (s₁.setTop (mkF m 1 #[.val (.ref aa), .val (.int (0 : Int32)), .val (.int (2 : Int32)), .unset, .unset, .unset] [(.int (2 : Int32))]))
  obtain ⟨T1, h1, k1, X1, e1, E1, A1, st1⟩ := newP X0 hx hZ (wdx hw 25 rfl) e0 (g := (mkF m 1 #[.val (.ref aa), .val (.int (0 : Int32)), .val (.int (2 : Int32)), .unset, .unset, .unset] [(.int (2 : Int32))])) rfl (hb hby d15_1) rfl (by decide) (cap := 2) (by decide) (by decide) (by decide) (by decide)
  obtain ⟨b1, g1⟩ : ∃ z, z = h0.size := ⟨_, rfl⟩
  rw [← g1] at A1 st1
  refine Go.st st1 ?_
  have g_b1 : n0 ≤ b1 := Nat.le_trans (own_le O0) (Nat.le_of_eq g1.symm)
  have z_b1 : h0.size ≤ b1 := Nat.le_of_eq g1.symm
  have ne2 : aa ≠ b1 := Nat.ne_of_lt (Nat.lt_of_lt_of_le Va.lt (Nat.le_of_eq g1.symm))
  have f3 : Arv Z h1 aa ka .char (2 : Int32) [(.int ca), (.int cb)] (.int (0 : Int32)) := Va.ext E1
  have O1 : Old Z n0 h1 := O0.ext E1
  have K1 : Keep h0 h1 [] := (Keep.refl h0 []).ext E1
  have f4 : Arv Z h1 b1 k1 .byte (2 : Int32) [(.int (0 : Int32)), (.int (0 : Int32))] (.int (0 : Int32)) := (Arv.new A1 (by decide)).pad (pad_rep [] (.int (0 : Int32)) 2)
  show Go p e below s _ _ _ (T1.setTop (mkF m 3 #[.val (.ref aa), .val (.int (0 : Int32)), .val (.int (2 : Int32)), .unset, .unset, .unset] [(.ref b1)]))
  refine Go.st (fun _ k' => XS.astoreN X1.here hx rfl (hb hby d15_3) rfl rfl (l' := #[.val (.ref aa), .val (.int (0 : Int32)), .val (.int (2 : Int32)), .val (.ref b1), .unset, .unset]) rfl k') ?_
  show Go p e below s _ _ _ (T1.setTop (mkF m 4 #[.val (.ref aa), .val (.int (0 : Int32)), .val (.int (2 : Int32)), .val (.ref b1), .unset, .unset] []))
  refine Go.st (fun _ k' => XS.aloadN X1.here hx rfl (hb hby d15_4) rfl rfl k') ?_
  show Go p e below s _ _ _ (T1.setTop (mkF m 5 #[.val (.ref aa), .val (.int (0 : Int32)), .val (.int (2 : Int32)), .val (.ref b1), .unset, .unset] [(.ref aa)]))
  refine Go.st (fun _ k' => XS.iloadN X1.here hx rfl (hb hby d15_5) rfl k') ?_
  show Go p e below s _ _ _ (T1.setTop (mkF m 6 #[.val (.ref aa), .val (.int (0 : Int32)), .val (.int (2 : Int32)), .val (.ref b1), .unset, .unset] [(.int (0 : Int32)), (.ref aa)]))
  refine Go.st (fun _ k' => XS.aloadN X1.here hx rfl (hb hby d15_6) rfl rfl k') ?_
  show Go p e below s _ _ _ (T1.setTop (mkF m 7 #[.val (.ref aa), .val (.int (0 : Int32)), .val (.int (2 : Int32)), .val (.ref b1), .unset, .unset] [(.ref b1), (.int (0 : Int32)), (.ref aa)]))
  refine Go.st (fun _ k' => XS.iconst X1.here hx rfl (hb hby d15_7) k') ?_
  show Go p e below s _ _ _ (T1.setTop (mkF m 8 #[.val (.ref aa), .val (.int (0 : Int32)), .val (.int (2 : Int32)), .val (.ref b1), .unset, .unset] [(.int (0 : Int32)), (.ref b1), (.int (0 : Int32)), (.ref aa)]))
  refine Go.st (fun _ k' => XS.iloadN X1.here hx rfl (hb hby d15_8) rfl k') ?_
  show Go p e below s _ _ _ (T1.setTop (mkF m 9 #[.val (.ref aa), .val (.int (0 : Int32)), .val (.int (2 : Int32)), .val (.ref b1), .unset, .unset] [(.int (2 : Int32)), (.int (0 : Int32)), (.ref b1), (.int (0 : Int32)), (.ref aa)]))
  obtain ⟨_, _, ⟨T5, L5, k5, n5⟩, -, X5, ⟨Lc5, hQ5, l5, y5, z5⟩, st5⟩ := Jvm.LawKit.callS X1 hx (y := (⟨"java/lang/StringUTF16", "compress", "([CI[BII)I"⟩ : MethodName)) hown (mvT hZ (wdx hw 84 rfl)) (mvT hZ (wdx hw 85 rfl)) (mvT hZ (wdx hw 82 rfl)) (mvT hZ (wdx hw 86 rfl)) (by decide) (backOf (W := 0) (rm16_2 l Z a0 hw [] aa b1 ka k1 ca cb h1 n0 O1 f3 f4 q_ca q_cb g_b1 ne2) hZ (wdx hw 86 rfl) (wdx hw 82 rfl) (by decide) (by decide)) (g := (mkF m 9 #[.val (.ref aa), .val (.int (0 : Int32)), .val (.int (2 : Int32)), .val (.ref b1), .unset, .unset] [(.int (2 : Int32)), (.int (0 : Int32)), (.ref b1), (.int (0 : Int32)), (.ref aa)])) rfl (by rw [hml]; rfl) (argsL := [(.ref aa), (.int (0 : Int32)), (.ref b1), (.int (0 : Int32)), (.int (2 : Int32))]) (rest := []) (lenOf pd___CI_BII_I rfl) rfl (by show 2 * 0 + _ ≤ _; exact Nat.le_of_eq rfl) (hb hby d15_9) (fun _ _ => ⟨rfl, e1, (by exact Nat.le_of_ble_eq_true rfl), (by exact Nat.le_of_ble_eq_true rfl)⟩)
  dsimp only [Pt.U, Pt.locs, Pt.cells, Pt.slots] at X5 l5 y5 z5 st5 hQ5
  subst l5 y5 z5
  obtain ⟨rfl, Nq5, Kq5, f6⟩ := hQ5
  have N5 := Fr.app N0 Nq5
  refine Go.st st5 ?_
  have f7 : Arv Z T5.heap aa ka .char (2 : Int32) [(.int ca), (.int cb)] (.int (0 : Int32)) := f3.keep Kq5 (ninS ne2 nin0)
  have O5 : Old Z n0 T5.heap := O1.keep Kq5 (allS g_b1 all0)
  have K5 : Keep h0 T5.heap [] := K1.trans Kq5 (allS (Or.inr z_b1) all0)
  show Go p e below s _ _ _ (T5.setTop (mkF m 12 #[.val (.ref aa), .val (.int (0 : Int32)), .val (.int (2 : Int32)), .val (.ref b1), .unset, .unset] [(.int (2 : Int32))]))
  refine Go.st (fun _ k' => XS.istore X5.here hx rfl (hb hby d15_12) rfl (l' := #[.val (.ref aa), .val (.int (0 : Int32)), .val (.int (2 : Int32)), .val (.ref b1), .val (.int (2 : Int32)), .unset]) rfl k') ?_
  show Go p e below s _ _ _ (T5.setTop (mkF m 14 #[.val (.ref aa), .val (.int (0 : Int32)), .val (.int (2 : Int32)), .val (.ref b1), .val (.int (2 : Int32)), .unset] []))
  refine Go.st (fun _ k' => XS.iload X5.here hx rfl (hb hby d15_14) rfl k') ?_
  show Go p e below s _ _ _ (T5.setTop (mkF m 16 #[.val (.ref aa), .val (.int (0 : Int32)), .val (.int (2 : Int32)), .val (.ref b1), .val (.int (2 : Int32)), .unset] [(.int (2 : Int32))]))
  refine Go.st (fun _ k' => XS.iloadN X5.here hx rfl (hb hby d15_16) rfl k') ?_
  show Go p e below s _ _ _ (T5.setTop (mkF m 17 #[.val (.ref aa), .val (.int (0 : Int32)), .val (.int (2 : Int32)), .val (.ref b1), .val (.int (2 : Int32)), .unset] [(.int (2 : Int32)), (.int (2 : Int32))]))
  refine Go.st (fun _ k' => XS.icmpYes X5.here hx rfl (pc0 := 17) (pc' := 57) rfl (hb hby d15_17) rfl (XT.ii_eq_t (by decide)) (by decide) (by decide) k') ?_
  show Go p e below s _ _ _ (T5.setTop (mkF m 57 #[.val (.ref aa), .val (.int (0 : Int32)), .val (.int (2 : Int32)), .val (.ref b1), .val (.int (2 : Int32)), .unset] []))
  refine Go.st (fun _ k' => XS.aloadN X5.here hx rfl (hb hby d15_57) rfl rfl k') ?_
  show Go p e below s _ _ _ (T5.setTop (mkF m 58 #[.val (.ref aa), .val (.int (0 : Int32)), .val (.int (2 : Int32)), .val (.ref b1), .val (.int (2 : Int32)), .unset] [(.ref b1)]))
  refine Go.ret X5 hx hlk (t := (.array .byte)) Bd.returns rfl (Or.inr (Or.inr (Or.inr (Or.inr ⟨rfl, rfl, rfl⟩)))) (hb hby d15_58) (by decide) (by decide) rfl ?_
  exact ⟨b1, k1, rfl, N5, K5, f6, z_b1⟩
theorem ef_rm17_2 (m : MethodId) (bb : Addr) : entryFrame m #[(.ref bb), (.int (2 : Int32))] 2 = mkF m 0 #[.val (.ref bb), .val (.int (2 : Int32))] [] := by first | (simp [entryFrame, mkF, argsToLocals, Value.category]; done) | rfl
def Q17_2 (Z : State) (bb : Addr) (kb : ClassId) (ca : Int32) (cb : Int32) (h0 : Heap) (n0 : Nat) (v : Option Value) (h : Heap) (L : List Loc) : Prop := v = some (.int (0 : Int32)) ∧ Fr n0 L ∧ h = h0
set_option maxRecDepth 65536 in
set_option maxHeartbeats 40000000 in
theorem rm17_2 (l : Launch) (Z : State) (a0 : Array Value) (hw : ∀ d ∈ tables_1, d.before a0 Z = true) (ws : List Jvm.Cond) (bb : Addr) (kb : ClassId) (ca : Int32) (cb : Int32) (h0 : Heap) (n0 : Nat) (O0 : Old Z n0 h0) (Vb : Arv Z h0 bb kb .byte (2 : Int32) [(.int ca), (.int cb)] (.int (0 : Int32))) :
    MetFree l (⟨"java/lang/StringUTF16", "coderFromArrayLen", "([BI)B"⟩ : MethodName) (head1 (Jvm.Cond.code (⟨"java/lang/StringUTF16", "coderFromArrayLen", "([BI)B"⟩ : MethodName) jdk_52_method_15_code 2 (some .byte) :: ws) ({ frames := 0, cells := 0, slots := 0, locals := 0 } : Room)) (fun ay U => ay = #[(.ref bb), (.int (2 : Int32))] ∧ Z.Warmed39 U.vm ∧ U.heap = h0) (fun _ _ _ _ _ => True) (fun _ U o U' => ∃ v L, o = .returned v ∧ Q17_2 Z bb kb ca cb h0 n0 v U'.heap L ∧ FrameEnd U o U' L ({ frames := 0, cells := 0, slots := 0, locals := 0 } : Room).cells ({ frames := 0, cells := 0, slots := 0, locals := 0 } : Room).slots) := by
  refine MetFree.of_bodySF (plainFor_of_name pn_java_lang_StringUTF16) hisR ?_
  intro p e s m args below meth c s₁ Bd hml0 hP hK
  obtain ⟨rfl, hZ, hh⟩ := hP
  have hx := Bd.exec
  have hby := Bd.bytes
  have hlk : meth.locks = false := BodyLoose.notSynchronized Bd
  have hml : c.maxLocals = 2 := hml0
  have hown : s.vm.findClass "java/lang/StringUTF16" = some m.cls := findClass_of_methodNamed Bd.named
  have hnm := (name_of_methodNamed Bd.named Bd.method).1
  have X0 : Stand p l e ({ frames := 0, cells := 0, slots := 0, locals := 0 } : Room) s m #[(.ref bb), (.int (2 : Int32))] below meth c s₁ [] 0 0 := Stand.of_body Bd
  have e0 : s₁.heap = h0 := by rw [← hh, Bd.state]; rfl
  have N0 := Fr.nil n0
  suffices hgo : Go p e below s 0 0 (Q17_2 Z bb kb ca cb h0 n0) (s₁.setTop (mkF m 0 #[.val (.ref bb), .val (.int (2 : Int32))] [])) by
    obtain ⟨t, o, h1, h2⟩ := hgo; exact ⟨t, o, castTop (ef_rm17_2 m bb) h1, h2⟩
  show Go p e below s _ _ _ (s₁.setTop (mkF m 0 #[.val (.ref bb), .val (.int (2 : Int32))] []))
  refine Go.st (fun _ k' => XS.iloadN X0.here hx rfl (hb hby d17_0) rfl k') ?_
  show Go p e below s _ _ _ (s₁.setTop (mkF m 1 #[.val (.ref bb), .val (.int (2 : Int32))] [(.int (2 : Int32))]))
  refine Go.st (fun _ k' => XS.aloadN X0.here hx rfl (hb hby d17_1) rfl rfl k') ?_
  show Go p e below s _ _ _ (s₁.setTop (mkF m 2 #[.val (.ref bb), .val (.int (2 : Int32))] [(.ref bb), (.int (2 : Int32))]))
  obtain ⟨cl1, Ar1, qc1, Sz1, Nn1, Ha1, Gf1⟩ := id Vb
  refine Go.st (fun _ k' => X0.arraylength hx (by rw [e0]; exact Ar1.1) (State.isArrayOf_alike hZ.alike Ar1.2.1) (g := (mkF m 2 #[.val (.ref bb), .val (.int (2 : Int32))] [(.ref bb), (.int (2 : Int32))])) rfl rfl (hb hby d17_2) _ k') ?_
  rw [len_of Sz1 Nn1]
  show Go p e below s _ _ _ (s₁.setTop (mkF m 3 #[.val (.ref bb), .val (.int (2 : Int32))] [(.int (2 : Int32)), (.int (2 : Int32))]))
  refine Go.st (fun _ k' => XS.isub X0.here hx rfl (hb hby d17_3) rfl k') ?_
  show Go p e below s _ _ _ (s₁.setTop (mkF m 4 #[.val (.ref bb), .val (.int (2 : Int32))] [(.int (0 : Int32))]))
  refine Go.st (fun _ k' => XS.bipush X0.here hx rfl (hb hby d17_4) k') ?_
  show Go p e below s _ _ _ (s₁.setTop (mkF m 6 #[.val (.ref bb), .val (.int (2 : Int32))] [(.int (31 : Int32)), (.int (0 : Int32))]))
  refine Go.st (fun _ k' => XS.iushr X0.here hx rfl (hb hby d17_6) rfl k') ?_
  show Go p e below s _ _ _ (s₁.setTop (mkF m 7 #[.val (.ref bb), .val (.int (2 : Int32))] [(.int (((0 : Int32).toUInt32 >>> ((31 : Int32) &&& 31).toUInt32).toInt32))]))
  refine Go.st (fun _ k' => XS.i2b X0.here hx rfl (hb hby d17_7) rfl k') ?_
  show Go p e below s _ _ _ (s₁.setTop (mkF m 8 #[.val (.ref bb), .val (.int (2 : Int32))] [(.int ((((0 : Int32).toUInt32 >>> ((31 : Int32) &&& 31).toUInt32).toInt32).toInt8.toInt32))]))
  refine Go.retB X0 hx hlk (t := .byte) Bd.returns (by simp) (hb hby d17_8) (by decide) (by decide) e0 ?_
  exact ⟨rfl, N0, rfl⟩
theorem ef_rm4_2 (m : MethodId) (ob : Addr) (aa : Addr) : entryFrame m #[(.ref ob), (.ref aa), (.int (0 : Int32)), (.int (2 : Int32)), .null] 6 = mkF m 0 #[.val (.ref ob), .val (.ref aa), .val (.int (0 : Int32)), .val (.int (2 : Int32)), .val .null, .unset] [] := by first | (simp [entryFrame, mkF, argsToLocals, Value.category]; done) | rfl
def Q4_2 (Z : State) (ob : Addr) (aa : Addr) (ka : ClassId) (cs : Int32) (ca : Int32) (cb : Int32) (h0 : Heap) (n0 : Nat) (v : Option Value) (h : Heap) (L : List Loc) : Prop := ∃ (tb : Addr) (kt : ClassId), v = none ∧ Fr n0 L ∧ Keep h0 h [ob] ∧ Fld Z h ob "java/lang/String" "value" "[B" (.ref tb) ∧ Fld Z h ob "java/lang/String" "coder" "B" (.int (0 : Int32)) ∧ Arv Z h tb kt .byte (2 : Int32) [(.int (nar .byte (ca.toInt8.toInt32))), (.int (nar .byte (cb.toInt8.toInt32)))] (.int (0 : Int32)) ∧ h0.size ≤ tb
set_option maxRecDepth 65536 in
set_option maxHeartbeats 40000000 in
theorem rm4_2 (l : Launch) (Z : State) (a0 : Array Value) (hw : ∀ d ∈ tables_1, d.before a0 Z = true) (ws : List Jvm.Cond) (ob : Addr) (aa : Addr) (ka : ClassId) (cs : Int32) (ca : Int32) (cb : Int32) (h0 : Heap) (n0 : Nat) (O0 : Old Z n0 h0) (E_o : Exa Z h0 ob "java/lang/String") (Fv : Fld Z h0 ob "java/lang/String" "value" "[B" .null) (Fc : Fld Z h0 ob "java/lang/String" "coder" "B" (.int (0 : Int32))) (Va : Arv Z h0 aa ka .char (2 : Int32) [(.int ca), (.int cb)] (.int (0 : Int32))) (S_cs : Sta Z Z.heap "java/lang/String" "COMPACT_STRINGS" "Z" (.int cs)) (q_cs : ¬ cs = (0 : Int32)) (q_ca : ¬ (255 : Int32) < ca) (q_cb : ¬ (255 : Int32) < cb) (g_o : n0 ≤ ob) (ne_oa : ob ≠ aa) :
    MetFree l (⟨"java/lang/String", "<init>", "([CIILjava/lang/Void;)V"⟩ : MethodName) (head1 (Jvm.Cond.code (⟨"java/lang/String", "<init>", "([CIILjava/lang/Void;)V"⟩ : MethodName) jdk_42_method_149_code 6 none :: ws) ({ frames := 2, cells := 1, slots := 2, locals := 35 } : Room)) (fun ay U => ay = #[(.ref ob), (.ref aa), (.int (0 : Int32)), (.int (2 : Int32)), .null] ∧ Z.Warmed39 U.vm ∧ U.heap = h0) (fun _ _ _ _ _ => True) (fun _ U o U' => ∃ v L, o = .returned v ∧ Q4_2 Z ob aa ka cs ca cb h0 n0 v U'.heap L ∧ FrameEnd U o U' L ({ frames := 2, cells := 1, slots := 2, locals := 35 } : Room).cells ({ frames := 2, cells := 1, slots := 2, locals := 35 } : Room).slots) := by
  refine MetFree.of_bodySF (plainFor_of_name pn_java_lang_String) hisR ?_
  intro p e s m args below meth c s₁ Bd hml0 hP hK
  obtain ⟨rfl, hZ, hh⟩ := hP
  have hx := Bd.exec
  have hby := Bd.bytes
  have hlk : meth.locks = false := BodyLoose.notSynchronized Bd
  have hml : c.maxLocals = 6 := hml0
  have hown : s.vm.findClass "java/lang/String" = some m.cls := findClass_of_methodNamed Bd.named
  have hnm := (name_of_methodNamed Bd.named Bd.method).1
  have X0 : Stand p l e ({ frames := 2, cells := 1, slots := 2, locals := 35 } : Room) s m #[(.ref ob), (.ref aa), (.int (0 : Int32)), (.int (2 : Int32)), .null] below meth c s₁ [] 0 0 := Stand.of_body Bd
  have e0 : s₁.heap = h0 := by rw [← hh, Bd.state]; rfl
  have N0 := Fr.nil n0
  suffices hgo : Go p e below s 1 2 (Q4_2 Z ob aa ka cs ca cb h0 n0) (s₁.setTop (mkF m 0 #[.val (.ref ob), .val (.ref aa), .val (.int (0 : Int32)), .val (.int (2 : Int32)), .val .null, .unset] [])) by
    obtain ⟨t, o, h1, h2⟩ := hgo; exact ⟨t, o, castTop (ef_rm4_2 m ob aa) h1, h2⟩
  show Go p e below s _ _ _ (s₁.setTop (mkF m 0 #[.val (.ref ob), .val (.ref aa), .val (.int (0 : Int32)), .val (.int (2 : Int32)), .val .null, .unset] []))
  refine Go.st (fun _ k' => XS.aloadN X0.here hx rfl (hb hby d4_0) rfl rfl k') ?_
  show Go p e below s _ _ _ (s₁.setTop (mkF m 1 #[.val (.ref ob), .val (.ref aa), .val (.int (0 : Int32)), .val (.int (2 : Int32)), .val .null, .unset] [(.ref ob)]))
  obtain ⟨T1, X1, e1, st1⟩ := initO X0 hx hZ hown (wdx hw 21 rfl) (wdx hw 22 rfl) (wdx hw 23 rfl) e0 (g := (mkF m 1 #[.val (.ref ob), .val (.ref aa), .val (.int (0 : Int32)), .val (.int (2 : Int32)), .val .null, .unset] [(.ref ob)])) rfl (by rw [hml]; rfl) rfl (hb hby d4_1) (by decide) (W := 0) (by show 2 * 0 + _ ≤ _; exact Nat.le_of_eq rfl) (by decide)
  refine Go.st st1 ?_
  show Go p e below s _ _ _ (T1.setTop (mkF m 4 #[.val (.ref ob), .val (.ref aa), .val (.int (0 : Int32)), .val (.int (2 : Int32)), .val .null, .unset] []))
  refine Go.st (fun _ k' => XS.iloadN X1.here hx rfl (hb hby d4_4) rfl k') ?_
  show Go p e below s _ _ _ (T1.setTop (mkF m 5 #[.val (.ref ob), .val (.ref aa), .val (.int (0 : Int32)), .val (.int (2 : Int32)), .val .null, .unset] [(.int (2 : Int32))]))
  refine Go.st (fun _ k' => XS.ifYes X1.here hx rfl (pc0 := 5) (pc' := 27) rfl (hb hby d4_5) rfl (XT.i0_ne_t (by decide)) (by decide) (by decide) k') ?_
  show Go p e below s _ _ _ (T1.setTop (mkF m 27 #[.val (.ref ob), .val (.ref aa), .val (.int (0 : Int32)), .val (.int (2 : Int32)), .val .null, .unset] []))
  obtain ⟨T2, X2, e2, st2⟩ := getS2 X1 hx hZ hown (host := "") (Or.inl (wdx hw 67 rfl)) Via.refl e1 (S_cs.ext O0.2) (g := (mkF m 27 #[.val (.ref ob), .val (.ref aa), .val (.int (0 : Int32)), .val (.int (2 : Int32)), .val .null, .unset] [])) rfl (hb hby d4_27)
  refine Go.st st2 ?_
  show Go p e below s _ _ _ (T2.setTop (mkF m 30 #[.val (.ref ob), .val (.ref aa), .val (.int (0 : Int32)), .val (.int (2 : Int32)), .val .null, .unset] [(.int cs)]))
  refine Go.st (fun _ k' => XS.ifNo X2.here hx rfl (hb hby d4_30) rfl (XT.i0_eq_f q_cs) k') ?_
  show Go p e below s _ _ _ (T2.setTop (mkF m 33 #[.val (.ref ob), .val (.ref aa), .val (.int (0 : Int32)), .val (.int (2 : Int32)), .val .null, .unset] []))
  refine Go.st (fun _ k' => XS.aloadN X2.here hx rfl (hb hby d4_33) rfl rfl k') ?_
  show Go p e below s _ _ _ (T2.setTop (mkF m 34 #[.val (.ref ob), .val (.ref aa), .val (.int (0 : Int32)), .val (.int (2 : Int32)), .val .null, .unset] [(.ref aa)]))
  refine Go.st (fun _ k' => XS.iloadN X2.here hx rfl (hb hby d4_34) rfl k') ?_
  show Go p e below s _ _ _ (T2.setTop (mkF m 35 #[.val (.ref ob), .val (.ref aa), .val (.int (0 : Int32)), .val (.int (2 : Int32)), .val .null, .unset] [(.int (0 : Int32)), (.ref aa)]))
  refine Go.st (fun _ k' => XS.iloadN X2.here hx rfl (hb hby d4_35) rfl k') ?_
  show Go p e below s _ _ _ (T2.setTop (mkF m 36 #[.val (.ref ob), .val (.ref aa), .val (.int (0 : Int32)), .val (.int (2 : Int32)), .val .null, .unset] [(.int (2 : Int32)), (.int (0 : Int32)), (.ref aa)]))
  obtain ⟨_, _, ⟨T3, L3, k3, n3⟩, -, X3, ⟨Lc3, hQ3, l3, y3, z3⟩, st3⟩ := Jvm.LawKit.callS X2 hx (y := (⟨"java/lang/StringUTF16", "compress", "([CII)[B"⟩ : MethodName)) hown (mvT hZ (wdx hw 80 rfl)) (mvT hZ (wdx hw 81 rfl)) (mvT hZ (wdx hw 82 rfl)) (mvT hZ (wdx hw 83 rfl)) (by decide) (backOf (W := 0) (rm15_2 l Z a0 hw [] aa ka ca cb h0 n0 O0 Va q_ca q_cb) hZ (wdx hw 83 rfl) (wdx hw 82 rfl) (by decide) (by decide)) (g := (mkF m 36 #[.val (.ref ob), .val (.ref aa), .val (.int (0 : Int32)), .val (.int (2 : Int32)), .val .null, .unset] [(.int (2 : Int32)), (.int (0 : Int32)), (.ref aa)])) rfl (by rw [hml]; rfl) (argsL := [(.ref aa), (.int (0 : Int32)), (.int (2 : Int32))]) (rest := []) (lenOf pd___CII__B rfl) rfl (by show 2 * 0 + _ ≤ _; exact Nat.le_of_eq rfl) (hb hby d4_36) (fun _ _ => ⟨rfl, e2, (by exact Nat.le_of_ble_eq_true rfl), (by exact Nat.le_of_ble_eq_true rfl)⟩)
  dsimp only [Pt.U, Pt.locs, Pt.cells, Pt.slots] at X3 l3 y3 z3 st3 hQ3
  subst l3 y3 z3
  obtain ⟨rr_3, kr_3, rfl, Nq3, Kq3, f4, szr_3⟩ := hQ3
  have N3 := Fr.app N0 Nq3
  refine Go.st st3 ?_
  have f5 : Exa Z T3.heap ob "java/lang/String" := E_o.keep Kq3
  have f6 : Fld Z T3.heap ob "java/lang/String" "value" "[B" .null := Fv.keep Kq3 nin0
  have f7 : Fld Z T3.heap ob "java/lang/String" "coder" "B" (.int (0 : Int32)) := Fc.keep Kq3 nin0
  have f8 : Arv Z T3.heap aa ka .char (2 : Int32) [(.int ca), (.int cb)] (.int (0 : Int32)) := Va.keep Kq3 nin0
  have O3 : Old Z n0 T3.heap := O0.keep Kq3 all0
  have K3 : Keep h0 T3.heap [ob] := (Keep.refl h0 [ob]).trans Kq3 all0
  have g_rr_3 : n0 ≤ rr_3 := Nat.le_trans (own_le O0) szr_3
  have z_rr_3 : h0.size ≤ rr_3 := szr_3
  have ne9 : ob ≠ rr_3 := Nat.ne_of_lt (Nat.lt_of_lt_of_le E_o.lt szr_3)
  have ne10 : aa ≠ rr_3 := Nat.ne_of_lt (Nat.lt_of_lt_of_le Va.lt szr_3)
  show Go p e below s _ _ _ (T3.setTop (mkF m 39 #[.val (.ref ob), .val (.ref aa), .val (.int (0 : Int32)), .val (.int (2 : Int32)), .val .null, .unset] [(.ref rr_3)]))
  refine Go.st (fun _ k' => XS.astore X3.here hx rfl (hb hby d4_39) rfl rfl (l' := #[.val (.ref ob), .val (.ref aa), .val (.int (0 : Int32)), .val (.int (2 : Int32)), .val .null, .val (.ref rr_3)]) rfl k') ?_
  show Go p e below s _ _ _ (T3.setTop (mkF m 41 #[.val (.ref ob), .val (.ref aa), .val (.int (0 : Int32)), .val (.int (2 : Int32)), .val .null, .val (.ref rr_3)] []))
  refine Go.st (fun _ k' => XS.aloadN X3.here hx rfl (hb hby d4_41) rfl rfl k') ?_
  show Go p e below s _ _ _ (T3.setTop (mkF m 42 #[.val (.ref ob), .val (.ref aa), .val (.int (0 : Int32)), .val (.int (2 : Int32)), .val .null, .val (.ref rr_3)] [(.ref ob)]))
  refine Go.st (fun _ k' => XS.aload X3.here hx rfl (hb hby d4_42) rfl rfl k') ?_
  show Go p e below s _ _ _ (T3.setTop (mkF m 44 #[.val (.ref ob), .val (.ref aa), .val (.int (0 : Int32)), .val (.int (2 : Int32)), .val .null, .val (.ref rr_3)] [(.ref rr_3), (.ref ob)]))
  refine Go.st (fun _ k' => XS.iloadN X3.here hx rfl (hb hby d4_44) rfl k') ?_
  show Go p e below s _ _ _ (T3.setTop (mkF m 45 #[.val (.ref ob), .val (.ref aa), .val (.int (0 : Int32)), .val (.int (2 : Int32)), .val .null, .val (.ref rr_3)] [(.int (2 : Int32)), (.ref rr_3), (.ref ob)]))
  obtain ⟨_, _, ⟨T11, L11, k11, n11⟩, -, X11, ⟨Lc11, hQ11, l11, y11, z11⟩, st11⟩ := Jvm.LawKit.callS X3 hx (y := (⟨"java/lang/StringUTF16", "coderFromArrayLen", "([BI)B"⟩ : MethodName)) hown (mvT hZ (wdx hw 87 rfl)) (mvT hZ (wdx hw 88 rfl)) (mvT hZ (wdx hw 82 rfl)) (mvT hZ (wdx hw 89 rfl)) (by decide) (backOf (W := 1) (rm17_2 l Z a0 hw [] rr_3 kr_3 (nar .byte (ca.toInt8.toInt32)) (nar .byte (cb.toInt8.toInt32)) T3.heap n0 O3 f4) hZ (wdx hw 89 rfl) (wdx hw 82 rfl) (by decide) (by decide)) (g := (mkF m 45 #[.val (.ref ob), .val (.ref aa), .val (.int (0 : Int32)), .val (.int (2 : Int32)), .val .null, .val (.ref rr_3)] [(.int (2 : Int32)), (.ref rr_3), (.ref ob)])) rfl (by rw [hml]; rfl) (argsL := [(.ref rr_3), (.int (2 : Int32))]) (rest := [(.ref ob)]) (lenOf pd___BI_B rfl) rfl (by show 2 * 0 + _ ≤ _; exact Nat.le_of_eq rfl) (hb hby d4_45) (fun _ _ => ⟨rfl, rfl, (by exact Nat.le_of_ble_eq_true rfl), (by exact Nat.le_of_ble_eq_true rfl)⟩)
  dsimp only [Pt.U, Pt.locs, Pt.cells, Pt.slots] at X11 l11 y11 z11 st11 hQ11
  subst l11 y11 z11
  obtain ⟨rfl, Nq11, eq11⟩ := hQ11
  have N11 := Fr.app N3 Nq11
  refine Go.st st11 ?_
  show Go p e below s _ _ _ (T11.setTop (mkF m 48 #[.val (.ref ob), .val (.ref aa), .val (.int (0 : Int32)), .val (.int (2 : Int32)), .val .null, .val (.ref rr_3)] [(.int (0 : Int32)), (.ref ob)]))
  obtain ⟨T12, h12, X12, e12, W12, st12⟩ := putFN X11 hx hZ hown (wdx hw 31 rfl) Via.refl eq11 f7 f5 (Or.inr ⟨(wdx hw 27 rfl), rfl, hnm⟩) (wdx hw 11 rfl) (ty := .byte) (v' := (.int (0 : Int32))) (by decide) rfl rfl (g := (mkF m 48 #[.val (.ref ob), .val (.ref aa), .val (.int (0 : Int32)), .val (.int (2 : Int32)), .val .null, .val (.ref rr_3)] [(.int (0 : Int32)), (.ref ob)])) rfl rfl (hb hby d4_48)
  refine Go.st st12 ?_
  have f13 : Exa Z h12 ob "java/lang/String" := f5.wr W12
  have f14 : Fld Z h12 ob "java/lang/String" "value" "[B" .null := f6.other W12 (Or.inr (slot_ne (Or.inr (wdx hw 26 rfl)) (Or.inr (wdx hw 27 rfl)) (by decide) (t := (.array .byte)) (t' := .byte) (by decide) (by decide)))
  have f15 : Fld Z h12 ob "java/lang/String" "coder" "B" (.int (0 : Int32)) := f7.same W12
  have f16 : Arv Z h12 aa ka .char (2 : Int32) [(.int ca), (.int cb)] (.int (0 : Int32)) := f8.other W12 (Ne.symm ne_oa)
  have f17 : Arv Z h12 rr_3 kr_3 .byte (2 : Int32) [(.int (nar .byte (ca.toInt8.toInt32))), (.int (nar .byte (cb.toInt8.toInt32)))] (.int (0 : Int32)) := f4.other W12 (Ne.symm ne9)
  have O12 : Old Z n0 h12 := O3.wr W12 g_o
  have N12 := Fr.snoc X12 N11 g_o
  have K12 : Keep h0 h12 [ob] := K3.wr W12 (Or.inl (by simp))
  show Go p e below s _ _ _ (T12.setTop (mkF m 51 #[.val (.ref ob), .val (.ref aa), .val (.int (0 : Int32)), .val (.int (2 : Int32)), .val .null, .val (.ref rr_3)] []))
  refine Go.st (fun _ k' => XS.aloadN X12.here hx rfl (hb hby d4_51) rfl rfl k') ?_
  show Go p e below s _ _ _ (T12.setTop (mkF m 52 #[.val (.ref ob), .val (.ref aa), .val (.int (0 : Int32)), .val (.int (2 : Int32)), .val .null, .val (.ref rr_3)] [(.ref ob)]))
  refine Go.st (fun _ k' => XS.aload X12.here hx rfl (hb hby d4_52) rfl rfl k') ?_
  show Go p e below s _ _ _ (T12.setTop (mkF m 54 #[.val (.ref ob), .val (.ref aa), .val (.int (0 : Int32)), .val (.int (2 : Int32)), .val .null, .val (.ref rr_3)] [(.ref rr_3), (.ref ob)]))
  obtain ⟨T18, h18, X18, e18, W18, st18⟩ := putF X12 hx hZ hown (host := "") (Or.inl (wdx hw 30 rfl)) Via.refl e12 f14 f13 (Or.inr ⟨(wdx hw 26 rfl), rfl, hnm⟩) (wdx hw 11 rfl) (ty := (.array .byte)) (by decide) rfl rfl (g := (mkF m 54 #[.val (.ref ob), .val (.ref aa), .val (.int (0 : Int32)), .val (.int (2 : Int32)), .val .null, .val (.ref rr_3)] [(.ref rr_3), (.ref ob)])) rfl rfl (hb hby d4_54)
  refine Go.st st18 ?_
  have f19 : Exa Z h18 ob "java/lang/String" := f13.wr W18
  have f20 : Fld Z h18 ob "java/lang/String" "value" "[B" (.ref rr_3) := f14.same W18
  have f21 : Fld Z h18 ob "java/lang/String" "coder" "B" (.int (0 : Int32)) := f15.other W18 (Or.inr (slot_ne (Or.inr (wdx hw 27 rfl)) (Or.inr (wdx hw 26 rfl)) (by decide) (t := .byte) (t' := (.array .byte)) (by decide) (by decide)))
  have f22 : Arv Z h18 aa ka .char (2 : Int32) [(.int ca), (.int cb)] (.int (0 : Int32)) := f16.other W18 (Ne.symm ne_oa)
  have f23 : Arv Z h18 rr_3 kr_3 .byte (2 : Int32) [(.int (nar .byte (ca.toInt8.toInt32))), (.int (nar .byte (cb.toInt8.toInt32)))] (.int (0 : Int32)) := f17.other W18 (Ne.symm ne9)
  have O18 : Old Z n0 h18 := O12.wr W18 g_o
  have N18 := Fr.snoc X18 N12 g_o
  have K18 : Keep h0 h18 [ob] := K12.wr W18 (Or.inl (by simp))
  show Go p e below s _ _ _ (T18.setTop (mkF m 57 #[.val (.ref ob), .val (.ref aa), .val (.int (0 : Int32)), .val (.int (2 : Int32)), .val .null, .val (.ref rr_3)] []))
  refine Go.retV X18 hx hlk Bd.returns (hb hby d4_57) (by decide) (by decide) e18 ?_
  exact ⟨rr_3, kr_3, rfl, N18, K18, f20, f21, f23, z_rr_3⟩
theorem ef_rm3_2 (m : MethodId) (ob : Addr) (aa : Addr) : entryFrame m #[(.ref ob), (.ref aa)] 2 = mkF m 0 #[.val (.ref ob), .val (.ref aa)] [] := by first | (simp [entryFrame, mkF, argsToLocals, Value.category]; done) | rfl
def Q3_2 (Z : State) (ob : Addr) (aa : Addr) (ka : ClassId) (cs : Int32) (ca : Int32) (cb : Int32) (h0 : Heap) (n0 : Nat) (v : Option Value) (h : Heap) (L : List Loc) : Prop := ∃ (tb : Addr) (kt : ClassId), v = none ∧ Fr n0 L ∧ Keep h0 h [ob] ∧ Fld Z h ob "java/lang/String" "value" "[B" (.ref tb) ∧ Fld Z h ob "java/lang/String" "coder" "B" (.int (0 : Int32)) ∧ Arv Z h tb kt .byte (2 : Int32) [(.int (nar .byte (ca.toInt8.toInt32))), (.int (nar .byte (cb.toInt8.toInt32)))] (.int (0 : Int32)) ∧ h0.size ≤ tb
set_option maxRecDepth 65536 in
set_option maxHeartbeats 40000000 in
theorem rm3_2 (l : Launch) (Z : State) (a0 : Array Value) (hw : ∀ d ∈ tables_1, d.before a0 Z = true) (ws : List Jvm.Cond) (ob : Addr) (aa : Addr) (ka : ClassId) (cs : Int32) (ca : Int32) (cb : Int32) (h0 : Heap) (n0 : Nat) (O0 : Old Z n0 h0) (E_o : Exa Z h0 ob "java/lang/String") (Fv : Fld Z h0 ob "java/lang/String" "value" "[B" .null) (Fc : Fld Z h0 ob "java/lang/String" "coder" "B" (.int (0 : Int32))) (Va : Arv Z h0 aa ka .char (2 : Int32) [(.int ca), (.int cb)] (.int (0 : Int32))) (S_cs : Sta Z Z.heap "java/lang/String" "COMPACT_STRINGS" "Z" (.int cs)) (q_cs : ¬ cs = (0 : Int32)) (q_ca : ¬ (255 : Int32) < ca) (q_cb : ¬ (255 : Int32) < cb) (g_o : n0 ≤ ob) (ne_oa : ob ≠ aa) :
    MetFree l (⟨"java/lang/String", "<init>", "([C)V"⟩ : MethodName) (head1 (Jvm.Cond.code (⟨"java/lang/String", "<init>", "([C)V"⟩ : MethodName) jdk_42_method_3_code 2 none :: ws) ({ frames := 3, cells := 1, slots := 2, locals := 52 } : Room)) (fun ay U => ay = #[(.ref ob), (.ref aa)] ∧ Z.Warmed39 U.vm ∧ U.heap = h0) (fun _ _ _ _ _ => True) (fun _ U o U' => ∃ v L, o = .returned v ∧ Q3_2 Z ob aa ka cs ca cb h0 n0 v U'.heap L ∧ FrameEnd U o U' L ({ frames := 3, cells := 1, slots := 2, locals := 52 } : Room).cells ({ frames := 3, cells := 1, slots := 2, locals := 52 } : Room).slots) := by
  refine MetFree.of_bodySF (plainFor_of_name pn_java_lang_String) hisR ?_
  intro p e s m args below meth c s₁ Bd hml0 hP hK
  obtain ⟨rfl, hZ, hh⟩ := hP
  have hx := Bd.exec
  have hby := Bd.bytes
  have hlk : meth.locks = false := BodyLoose.notSynchronized Bd
  have hml : c.maxLocals = 2 := hml0
  have hown : s.vm.findClass "java/lang/String" = some m.cls := findClass_of_methodNamed Bd.named
  have hnm := (name_of_methodNamed Bd.named Bd.method).1
  have X0 : Stand p l e ({ frames := 3, cells := 1, slots := 2, locals := 52 } : Room) s m #[(.ref ob), (.ref aa)] below meth c s₁ [] 0 0 := Stand.of_body Bd
  have e0 : s₁.heap = h0 := by rw [← hh, Bd.state]; rfl
  have N0 := Fr.nil n0
  suffices hgo : Go p e below s 1 2 (Q3_2 Z ob aa ka cs ca cb h0 n0) (s₁.setTop (mkF m 0 #[.val (.ref ob), .val (.ref aa)] [])) by
    obtain ⟨t, o, h1, h2⟩ := hgo; exact ⟨t, o, castTop (ef_rm3_2 m ob aa) h1, h2⟩
  show Go p e below s _ _ _ (s₁.setTop (mkF m 0 #[.val (.ref ob), .val (.ref aa)] []))
  refine Go.st (fun _ k' => XS.aloadN X0.here hx rfl (hb hby d3_0) rfl rfl k') ?_
  show Go p e below s _ _ _ (s₁.setTop (mkF m 1 #[.val (.ref ob), .val (.ref aa)] [(.ref ob)]))
  refine Go.st (fun _ k' => XS.aloadN X0.here hx rfl (hb hby d3_1) rfl rfl k') ?_
  show Go p e below s _ _ _ (s₁.setTop (mkF m 2 #[.val (.ref ob), .val (.ref aa)] [(.ref aa), (.ref ob)]))
  refine Go.st (fun _ k' => XS.iconst X0.here hx rfl (hb hby d3_2) k') ?_
  show Go p e below s _ _ _ (s₁.setTop (mkF m 3 #[.val (.ref ob), .val (.ref aa)] [(.int (0 : Int32)), (.ref aa), (.ref ob)]))
  refine Go.st (fun _ k' => XS.aloadN X0.here hx rfl (hb hby d3_3) rfl rfl k') ?_
  show Go p e below s _ _ _ (s₁.setTop (mkF m 4 #[.val (.ref ob), .val (.ref aa)] [(.ref aa), (.int (0 : Int32)), (.ref aa), (.ref ob)]))
  obtain ⟨cl1, Ar1, qc1, Sz1, Nn1, Ha1, Gf1⟩ := id Va
  refine Go.st (fun _ k' => X0.arraylength hx (by rw [e0]; exact Ar1.1) (State.isArrayOf_alike hZ.alike Ar1.2.1) (g := (mkF m 4 #[.val (.ref ob), .val (.ref aa)] [(.ref aa), (.int (0 : Int32)), (.ref aa), (.ref ob)])) rfl rfl (hb hby d3_4) _ k') ?_
  rw [len_of Sz1 Nn1]
  show Go p e below s _ _ _ (s₁.setTop (mkF m 5 #[.val (.ref ob), .val (.ref aa)] [(.int (2 : Int32)), (.int (0 : Int32)), (.ref aa), (.ref ob)]))
  refine Go.st (fun _ k' => XS.aconstNull X0.here hx rfl (hb hby d3_5) k') ?_
  show Go p e below s _ _ _ (s₁.setTop (mkF m 6 #[.val (.ref ob), .val (.ref aa)] [.null, (.int (2 : Int32)), (.int (0 : Int32)), (.ref aa), (.ref ob)]))
  obtain ⟨_, _, ⟨T2, L2, k2, n2⟩, -, X2, ⟨Lc2, hQ2, l2, y2, z2⟩, st2⟩ := X0.specialBack hx (y := (⟨"java/lang/String", "<init>", "([CIILjava/lang/Void;)V"⟩ : MethodName)) rfl hown (mvT hZ (wdx hw 17 rfl)) (mvT hZ (wdx hw 18 rfl)) (mvT hZ (wdx hw 20 rfl)) (by decide) (backOf (W := 0) (rm4_2 l Z a0 hw [] ob aa ka cs ca cb h0 n0 O0 E_o Fv Fc Va S_cs q_cs q_ca q_cb g_o ne_oa) hZ (wdx hw 20 rfl) (wdx hw 12 rfl) (by decide) (by decide)) (g := (mkF m 6 #[.val (.ref ob), .val (.ref aa)] [.null, (.int (2 : Int32)), (.int (0 : Int32)), (.ref aa), (.ref ob)])) rfl (by rw [hml]; rfl) (Steps.refl _) (a := ob) (argsL := [(.ref aa), (.int (0 : Int32)), (.int (2 : Int32)), .null]) (rest := []) (lenOf pd___CIILjava_lang_Void__V rfl) rfl (by show 2 * 0 + _ ≤ _; exact Nat.le_of_eq rfl) (hb hby d3_6) (fun _ _ => ⟨rfl, e0, (by exact Nat.le_of_ble_eq_true rfl), (by exact Nat.le_of_ble_eq_true rfl)⟩)
  dsimp only [Pt.U, Pt.locs, Pt.cells, Pt.slots] at X2 l2 y2 z2 st2 hQ2
  subst l2 y2 z2
  obtain ⟨tb_2, kt_2, rfl, Nq2, Kq2, f3, f4, f5, szt_2⟩ := hQ2
  have N2 := Fr.app N0 Nq2
  refine Go.tr st2 ?_
  have f6 : Exa Z T2.heap ob "java/lang/String" := E_o.keep Kq2
  have f7 : Arv Z T2.heap aa ka .char (2 : Int32) [(.int ca), (.int cb)] (.int (0 : Int32)) := Va.keep Kq2 (ninS (Ne.symm ne_oa) nin0)
  have O2 : Old Z n0 T2.heap := O0.keep Kq2 (allS g_o all0)
  have K2 : Keep h0 T2.heap [ob] := (Keep.refl h0 [ob]).trans Kq2 (allS (Or.inl (by simp)) all0)
  have g_tb_2 : n0 ≤ tb_2 := Nat.le_trans (own_le O0) szt_2
  have z_tb_2 : h0.size ≤ tb_2 := szt_2
  have ne8 : ob ≠ tb_2 := Nat.ne_of_lt (Nat.lt_of_lt_of_le E_o.lt szt_2)
  have ne9 : aa ≠ tb_2 := Nat.ne_of_lt (Nat.lt_of_lt_of_le Va.lt szt_2)
  show Go p e below s _ _ _ (T2.setTop (mkF m 9 #[.val (.ref ob), .val (.ref aa)] []))
  refine Go.retV X2 hx hlk Bd.returns (hb hby d3_9) (by decide) (by decide) rfl ?_
  exact ⟨tb_2, kt_2, rfl, N2, K2, f3, f4, f5, z_tb_2⟩
theorem d4_8 : decode jdk_42_method_149_code 8 = .ok (.aload_n 0, 1) := by decide +kernel
theorem d4_9 : decode jdk_42_method_149_code 9 = .ok (.ldc 7, 2) := by decide +kernel
theorem d4_11 : decode jdk_42_method_149_code 11 = .ok (.getfield 9, 3) := by decide +kernel
theorem d4_14 : decode jdk_42_method_149_code 14 = .ok (.putfield 9, 3) := by decide +kernel
theorem d4_17 : decode jdk_42_method_149_code 17 = .ok (.aload_n 0, 1) := by decide +kernel
theorem d4_18 : decode jdk_42_method_149_code 18 = .ok (.ldc 7, 2) := by decide +kernel
theorem d4_20 : decode jdk_42_method_149_code 20 = .ok (.getfield 15, 3) := by decide +kernel
theorem d4_23 : decode jdk_42_method_149_code 23 = .ok (.putfield 15, 3) := by decide +kernel
theorem d4_26 : decode jdk_42_method_149_code 26 = .ok (.return_, 1) := by decide +kernel
theorem ef_rm4_0 (m : MethodId) (ob : Addr) (aa : Addr) : entryFrame m #[(.ref ob), (.ref aa), (.int (0 : Int32)), (.int (0 : Int32)), .null] 6 = mkF m 0 #[.val (.ref ob), .val (.ref aa), .val (.int (0 : Int32)), .val (.int (0 : Int32)), .val .null, .unset] [] := by first | (simp [entryFrame, mkF, argsToLocals, Value.category]; done) | rfl
def Q4_0 (Z : State) (ob : Addr) (aa : Addr) (h0 : Heap) (n0 : Nat) (v : Option Value) (h : Heap) (L : List Loc) : Prop := ∃ (tb : Addr) (kt : ClassId), v = none ∧ Fr n0 L ∧ Keep h0 h [ob] ∧ Fld Z h ob "java/lang/String" "value" "[B" (.ref tb) ∧ Fld Z h ob "java/lang/String" "coder" "B" (.int (0 : Int32)) ∧ Arv Z h tb kt .byte (0 : Int32) [] (.int (0 : Int32))
set_option maxRecDepth 65536 in
set_option maxHeartbeats 40000000 in
theorem rm4_0 (l : Launch) (Z : State) (a0 : Array Value) (hw : ∀ d ∈ tables_1, d.before a0 Z = true) (ws : List Jvm.Cond) (ob : Addr) (aa : Addr) (h0 : Heap) (n0 : Nat) (O0 : Old Z n0 h0) (E_o : Exa Z h0 ob "java/lang/String") (Fv : Fld Z h0 ob "java/lang/String" "value" "[B" .null) (Fc : Fld Z h0 ob "java/lang/String" "coder" "B" (.int (0 : Int32))) (g_o : n0 ≤ ob) :
    MetFree l (⟨"java/lang/String", "<init>", "([CIILjava/lang/Void;)V"⟩ : MethodName) (head1 (Jvm.Cond.code (⟨"java/lang/String", "<init>", "([CIILjava/lang/Void;)V"⟩ : MethodName) jdk_42_method_149_code 6 none :: ws) ({ frames := 1, cells := 4, slots := 8, locals := 12 } : Room)) (fun ay U => ay = #[(.ref ob), (.ref aa), (.int (0 : Int32)), (.int (0 : Int32)), .null] ∧ Z.Warmed39 U.vm ∧ U.heap = h0 ∧ CHv Z EL U.vm h0 ∧ ∀ y ∈ ([ob] : List Addr), Safe Z EL U.vm h0 y) (fun _ _ _ _ _ => True) (fun _ U o U' => ∃ v L, o = .returned v ∧ Q4_0 Z ob aa h0 n0 v U'.heap L ∧ CHr Z EL U.vm U.heap U'.vm U'.heap ∧ ReturnedEndW U o U' L ({ frames := 1, cells := 4, slots := 8, locals := 12 } : Room).cells ({ frames := 1, cells := 4, slots := 8, locals := 12 } : Room).slots) := by
  refine MetFree.of_bodySF (plainFor_of_name pn_java_lang_String) hisR ?_
  intro p e s m args below meth c s₁ Bd hml0 hP hK
  obtain ⟨rfl, hZ, hh, hCH, hSf⟩ := hP
  have hx := Bd.exec
  have hby := Bd.bytes
  have hlk : meth.locks = false := BodyLoose.notSynchronized Bd
  have hml : c.maxLocals = 6 := hml0
  have hown : s.vm.findClass "java/lang/String" = some m.cls := findClass_of_methodNamed Bd.named
  have hnm := (name_of_methodNamed Bd.named Bd.method).1
  have X0 : Stand p l e ({ frames := 1, cells := 4, slots := 8, locals := 12 } : Room) (s.setVm s.vm) m #[(.ref ob), (.ref aa), (.int (0 : Int32)), (.int (0 : Int32)), .null] below meth c s₁ [] 0 0 := Stand.of_body Bd
  have e0 : s₁.heap = h0 := by rw [← hh, Bd.state]; rfl
  have N0 := Fr.nil n0
  have hS0 : s.Since s.vm 0 := (State.WarmedH.refl s).since 0
  have hk0 : 0 ≤ h0.size := Nat.zero_le _
  have CH0 : CHr Z EL s.vm s.heap s.vm h0 := by rw [hh]; exact CHr.refl hCH
  have hEL : EW Z a0 EL := own_EW hw
  have hwS := own_wS hw
  suffices hgo : GoW p e below s 4 8 Z EL (Q4_0 Z ob aa h0 n0) (s₁.setTop (mkF m 0 #[.val (.ref ob), .val (.ref aa), .val (.int (0 : Int32)), .val (.int (0 : Int32)), .val .null, .unset] [])) by
    obtain ⟨t, o, h1, h2⟩ := hgo; exact ⟨t, o, castTop (ef_rm4_0 m ob aa) h1, h2⟩
  show GoW p e below s _ _ _ _ _ (s₁.setTop (mkF m 0 #[.val (.ref ob), .val (.ref aa), .val (.int (0 : Int32)), .val (.int (0 : Int32)), .val .null, .unset] []))
  refine GoW.st (fun _ k' => XS.aloadN X0.here hx rfl (hb hby d4_0) rfl rfl k') ?_
  show GoW p e below s _ _ _ _ _ (s₁.setTop (mkF m 1 #[.val (.ref ob), .val (.ref aa), .val (.int (0 : Int32)), .val (.int (0 : Int32)), .val .null, .unset] [(.ref ob)]))
  obtain ⟨T1, X1, e1, st1⟩ := initO X0 hx hZ hown (wdx hw 21 rfl) (wdx hw 22 rfl) (wdx hw 23 rfl) e0 (g := (mkF m 1 #[.val (.ref ob), .val (.ref aa), .val (.int (0 : Int32)), .val (.int (0 : Int32)), .val .null, .unset] [(.ref ob)])) rfl (by rw [hml]; rfl) rfl (hb hby d4_1) (by decide) (W := 0) (by show 2 * 0 + _ ≤ _; exact Nat.le_of_eq rfl) (by decide)
  refine GoW.st st1 ?_
  show GoW p e below s _ _ _ _ _ (T1.setTop (mkF m 4 #[.val (.ref ob), .val (.ref aa), .val (.int (0 : Int32)), .val (.int (0 : Int32)), .val .null, .unset] []))
  refine GoW.st (fun _ k' => XS.iloadN X1.here hx rfl (hb hby d4_4) rfl k') ?_
  show GoW p e below s _ _ _ _ _ (T1.setTop (mkF m 5 #[.val (.ref ob), .val (.ref aa), .val (.int (0 : Int32)), .val (.int (0 : Int32)), .val .null, .unset] [(.int (0 : Int32))]))
  refine GoW.st (fun _ k' => XS.ifNo X1.here hx rfl (hb hby d4_5) rfl (XT.i0_ne_f (by decide)) k') ?_
  show GoW p e below s _ _ _ _ _ (T1.setTop (mkF m 8 #[.val (.ref ob), .val (.ref aa), .val (.int (0 : Int32)), .val (.int (0 : Int32)), .val .null, .unset] []))
  refine GoW.st (fun _ k' => XS.aloadN X1.here hx rfl (hb hby d4_8) rfl rfl k') ?_
  show GoW p e below s _ _ _ _ _ (T1.setTop (mkF m 9 #[.val (.ref ob), .val (.ref aa), .val (.int (0 : Int32)), .val (.int (0 : Int32)), .val .null, .unset] [(.ref ob)]))
  obtain ⟨a2, T2, h2, q2, b2, kb2, X2, e2, E2, hS2, hk2, hZ2, hown2, Ea2, Fc2, Fv2, Vb2, lta2, ltb2, C2, -, hne2, st2⟩ := ldcCH X1 hx hZ hown (wdx hw 24 rfl) hwS e1 hS0 hk0 hEL (List.mem_of_getElem? (i := 0) rfl) CH0.1 (vs := []) (z := (0 : Int32)) ⟨by decide, rfl⟩ (by decide) (by decide) (g := (mkF m 9 #[.val (.ref ob), .val (.ref aa), .val (.int (0 : Int32)), .val (.int (0 : Int32)), .val .null, .unset] [(.ref ob)])) rfl (hb hby d4_9) (n := 0) (by decide) (by decide) (by decide) (by decide)
  refine GoW.st st2 ?_
  have f3 : Exa Z h2 ob "java/lang/String" := E_o.ext E2
  have f4 : Fld Z h2 ob "java/lang/String" "value" "[B" .null := Fv.ext E2
  have f5 : Fld Z h2 ob "java/lang/String" "coder" "B" (.int (0 : Int32)) := Fc.ext E2
  have f6 : Safe Z EL T2.vm h2 ob := C2.safe E_o.lt (hSf ob (List.mem_of_getElem? (i := 0) rfl))
  have CH2 : CHr Z EL s.vm s.heap T2.vm h2 := CH0.trans C2
  have O2 : Old Z n0 h2 := O0.ext E2
  have K2 : Keep h0 h2 [ob] := (Keep.refl h0 [ob]).ext E2
  have hn7 := hne2 ob f6
  show GoW p e below s _ _ _ _ _ (T2.setTop (mkF m 11 #[.val (.ref ob), .val (.ref aa), .val (.int (0 : Int32)), .val (.int (0 : Int32)), .val .null, .unset] [(.ref a2), (.ref ob)]))
  obtain ⟨T8, X8, e8, st8⟩ := getF X2 hx hZ2 hown2 (host := "") (Or.inl (wdx hw 30 rfl)) Via.refl e2 Fv2 (g := (mkF m 11 #[.val (.ref ob), .val (.ref aa), .val (.int (0 : Int32)), .val (.int (0 : Int32)), .val .null, .unset] [(.ref a2), (.ref ob)])) rfl rfl (hb hby d4_11)
  refine GoW.st st8 ?_
  show GoW p e below s _ _ _ _ _ (T8.setTop (mkF m 14 #[.val (.ref ob), .val (.ref aa), .val (.int (0 : Int32)), .val (.int (0 : Int32)), .val .null, .unset] [(.ref b2), (.ref ob)]))
  obtain ⟨T9, h9, X9, e9, W9, st9⟩ := putF X8 hx hZ2 hown2 (host := "") (Or.inl (wdx hw 30 rfl)) Via.refl e8 f4 f3 (Or.inr ⟨(wdx hw 26 rfl), rfl, hnm⟩) (wdx hw 11 rfl) (ty := (.array .byte)) (by decide) rfl rfl (g := (mkF m 14 #[.val (.ref ob), .val (.ref aa), .val (.int (0 : Int32)), .val (.int (0 : Int32)), .val .null, .unset] [(.ref b2), (.ref ob)])) rfl rfl (hb hby d4_14)
  refine GoW.st st9 ?_
  have f10 : Exa Z h9 ob "java/lang/String" := f3.wr W9
  have f11 : Fld Z h9 ob "java/lang/String" "value" "[B" (.ref b2) := f4.same W9
  have f12 : Fld Z h9 ob "java/lang/String" "coder" "B" (.int (0 : Int32)) := f5.other W9 (Or.inr (slot_ne (Or.inr (wdx hw 27 rfl)) (Or.inr (wdx hw 26 rfl)) (by decide) (t := .byte) (t' := (.array .byte)) (by decide) (by decide)))
  have f13 : Safe Z EL T2.vm h9 ob := Safe.wr W9 f6 CH2.1 f6
  have f14 : Exa Z h9 a2 "java/lang/String" := Ea2.wr W9
  have f15 : Fld Z h9 a2 "java/lang/String" "coder" "B" (.int (0 : Int32)) := Fc2.other W9 (Or.inl (Ne.symm hn7.1))
  have f16 : Fld Z h9 a2 "java/lang/String" "value" "[B" (.ref b2) := Fv2.other W9 (Or.inl (Ne.symm hn7.1))
  have f17 : Arv Z h9 b2 kb2 .byte (0 : Int32) [] (.int (0 : Int32)) := Vb2.other W9 (Ne.symm hn7.2)
  have CH9 : CHr Z EL s.vm s.heap T2.vm h9 := CH2.trans (CHr.wr W9 f6 CH2.1)
  have hk9 : q2 ≤ Array.size h9 := Nat.le_trans hk2 (Keep.of_wr W9).1
  have O9 : Old Z n0 h9 := O2.wr W9 g_o
  have N9 := Fr.snoc X9 N0 g_o
  have K9 : Keep h0 h9 [ob] := K2.wr W9 (Or.inl (by simp))
  show GoW p e below s _ _ _ _ _ (T9.setTop (mkF m 17 #[.val (.ref ob), .val (.ref aa), .val (.int (0 : Int32)), .val (.int (0 : Int32)), .val .null, .unset] []))
  refine GoW.st (fun _ k' => XS.aloadN X9.here hx rfl (hb hby d4_17) rfl rfl k') ?_
  show GoW p e below s _ _ _ _ _ (T9.setTop (mkF m 18 #[.val (.ref ob), .val (.ref aa), .val (.int (0 : Int32)), .val (.int (0 : Int32)), .val .null, .unset] [(.ref ob)]))
  obtain ⟨a18, T18, h18, q18, b18, kb18, X18, e18, E18, hS18, hk18, hZ18, hown18, Ea18, Fc18, Fv18, Vb18, lta18, ltb18, C18, -, hne18, st18⟩ := ldcCH X9 hx hZ2 hown2 (wdx hw 24 rfl) hwS e9 hS2 hk9 hEL (List.mem_of_getElem? (i := 0) rfl) CH9.1 (vs := []) (z := (0 : Int32)) ⟨by decide, rfl⟩ (by decide) (by decide) (g := (mkF m 18 #[.val (.ref ob), .val (.ref aa), .val (.int (0 : Int32)), .val (.int (0 : Int32)), .val .null, .unset] [(.ref ob)])) rfl (hb hby d4_18) (n := 0) (by decide) (by decide) (by decide) (by decide)
  refine GoW.st st18 ?_
  have f19 : Exa Z h18 ob "java/lang/String" := f10.ext E18
  have f20 : Fld Z h18 ob "java/lang/String" "value" "[B" (.ref b2) := f11.ext E18
  have f21 : Fld Z h18 ob "java/lang/String" "coder" "B" (.int (0 : Int32)) := f12.ext E18
  have f22 : Safe Z EL T18.vm h18 ob := C18.safe f10.lt f13
  have f23 : Exa Z h18 a2 "java/lang/String" := f14.ext E18
  have f24 : Fld Z h18 a2 "java/lang/String" "coder" "B" (.int (0 : Int32)) := f15.ext E18
  have f25 : Fld Z h18 a2 "java/lang/String" "value" "[B" (.ref b2) := f16.ext E18
  have f26 : Arv Z h18 b2 kb2 .byte (0 : Int32) [] (.int (0 : Int32)) := f17.ext E18
  have CH18 : CHr Z EL s.vm s.heap T18.vm h18 := CH9.trans C18
  have O18 : Old Z n0 h18 := O9.ext E18
  have K18 : Keep h0 h18 [ob] := K9.ext E18
  have hn27 := hne18 ob f22
  show GoW p e below s _ _ _ _ _ (T18.setTop (mkF m 20 #[.val (.ref ob), .val (.ref aa), .val (.int (0 : Int32)), .val (.int (0 : Int32)), .val .null, .unset] [(.ref a18), (.ref ob)]))
  obtain ⟨T28, X28, e28, st28⟩ := getF X18 hx hZ18 hown18 (host := "") (Or.inl (wdx hw 31 rfl)) Via.refl e18 Fc18 (g := (mkF m 20 #[.val (.ref ob), .val (.ref aa), .val (.int (0 : Int32)), .val (.int (0 : Int32)), .val .null, .unset] [(.ref a18), (.ref ob)])) rfl rfl (hb hby d4_20)
  refine GoW.st st28 ?_
  show GoW p e below s _ _ _ _ _ (T28.setTop (mkF m 23 #[.val (.ref ob), .val (.ref aa), .val (.int (0 : Int32)), .val (.int (0 : Int32)), .val .null, .unset] [(.int (0 : Int32)), (.ref ob)]))
  obtain ⟨T29, h29, X29, e29, W29, st29⟩ := putFN X28 hx hZ18 hown18 (wdx hw 31 rfl) Via.refl e28 f21 f19 (Or.inr ⟨(wdx hw 27 rfl), rfl, hnm⟩) (wdx hw 11 rfl) (ty := .byte) (v' := (.int (0 : Int32))) (by decide) rfl rfl (g := (mkF m 23 #[.val (.ref ob), .val (.ref aa), .val (.int (0 : Int32)), .val (.int (0 : Int32)), .val .null, .unset] [(.int (0 : Int32)), (.ref ob)])) rfl rfl (hb hby d4_23)
  refine GoW.st st29 ?_
  have f30 : Exa Z h29 ob "java/lang/String" := f19.wr W29
  have f31 : Fld Z h29 ob "java/lang/String" "value" "[B" (.ref b2) := f20.other W29 (Or.inr (slot_ne (Or.inr (wdx hw 26 rfl)) (Or.inr (wdx hw 27 rfl)) (by decide) (t := (.array .byte)) (t' := .byte) (by decide) (by decide)))
  have f32 : Fld Z h29 ob "java/lang/String" "coder" "B" (.int (0 : Int32)) := f21.same W29
  have f33 : Safe Z EL T18.vm h29 ob := Safe.wr W29 f22 CH18.1 f22
  have f34 : Exa Z h29 a2 "java/lang/String" := f23.wr W29
  have f35 : Fld Z h29 a2 "java/lang/String" "coder" "B" (.int (0 : Int32)) := f24.other W29 (Or.inl (Ne.symm hn7.1))
  have f36 : Fld Z h29 a2 "java/lang/String" "value" "[B" (.ref b2) := f25.other W29 (Or.inl (Ne.symm hn7.1))
  have f37 : Arv Z h29 b2 kb2 .byte (0 : Int32) [] (.int (0 : Int32)) := f26.other W29 (Ne.symm hn7.2)
  have f38 : Exa Z h29 a18 "java/lang/String" := Ea18.wr W29
  have f39 : Fld Z h29 a18 "java/lang/String" "coder" "B" (.int (0 : Int32)) := Fc18.other W29 (Or.inl (Ne.symm hn27.1))
  have f40 : Fld Z h29 a18 "java/lang/String" "value" "[B" (.ref b18) := Fv18.other W29 (Or.inl (Ne.symm hn27.1))
  have f41 : Arv Z h29 b18 kb18 .byte (0 : Int32) [] (.int (0 : Int32)) := Vb18.other W29 (Ne.symm hn27.2)
  have CH29 : CHr Z EL s.vm s.heap T18.vm h29 := CH18.trans (CHr.wr W29 f22 CH18.1)
  have hk29 : q18 ≤ Array.size h29 := Nat.le_trans hk18 (Keep.of_wr W29).1
  have O29 : Old Z n0 h29 := O18.wr W29 g_o
  have N29 := Fr.snoc X29 N9 g_o
  have K29 : Keep h0 h29 [ob] := K18.wr W29 (Or.inl (by simp))
  show GoW p e below s _ _ _ _ _ (T29.setTop (mkF m 26 #[.val (.ref ob), .val (.ref aa), .val (.int (0 : Int32)), .val (.int (0 : Int32)), .val .null, .unset] []))
  refine GoW.retV X29 hx hlk hS18 (by rw [e29]; exact hk29) hZ18 hEL CH29 Bd.returns (hb hby d4_26) (by decide) (by decide) e29 ?_
  exact ⟨b2, kb2, rfl, N29, K29, f31, f32, f37⟩
theorem ef_rm3_0 (m : MethodId) (ob : Addr) (aa : Addr) : entryFrame m #[(.ref ob), (.ref aa)] 2 = mkF m 0 #[.val (.ref ob), .val (.ref aa)] [] := by first | (simp [entryFrame, mkF, argsToLocals, Value.category]; done) | rfl
def Q3_0 (Z : State) (ob : Addr) (aa : Addr) (ka : ClassId) (h0 : Heap) (n0 : Nat) (v : Option Value) (h : Heap) (L : List Loc) : Prop := ∃ (tb : Addr) (kt : ClassId), v = none ∧ Fr n0 L ∧ Keep h0 h [ob] ∧ Fld Z h ob "java/lang/String" "value" "[B" (.ref tb) ∧ Fld Z h ob "java/lang/String" "coder" "B" (.int (0 : Int32)) ∧ Arv Z h tb kt .byte (0 : Int32) [] (.int (0 : Int32))
set_option maxRecDepth 65536 in
set_option maxHeartbeats 40000000 in
theorem rm3_0 (l : Launch) (Z : State) (a0 : Array Value) (hw : ∀ d ∈ tables_1, d.before a0 Z = true) (ws : List Jvm.Cond) (ob : Addr) (aa : Addr) (ka : ClassId) (h0 : Heap) (n0 : Nat) (O0 : Old Z n0 h0) (E_o : Exa Z h0 ob "java/lang/String") (Fv : Fld Z h0 ob "java/lang/String" "value" "[B" .null) (Fc : Fld Z h0 ob "java/lang/String" "coder" "B" (.int (0 : Int32))) (Va : Arv Z h0 aa ka .char (0 : Int32) [] (.int (0 : Int32))) (g_o : n0 ≤ ob) :
    MetFree l (⟨"java/lang/String", "<init>", "([C)V"⟩ : MethodName) (head1 (Jvm.Cond.code (⟨"java/lang/String", "<init>", "([C)V"⟩ : MethodName) jdk_42_method_3_code 2 none :: ws) ({ frames := 2, cells := 4, slots := 8, locals := 29 } : Room)) (fun ay U => ay = #[(.ref ob), (.ref aa)] ∧ Z.Warmed39 U.vm ∧ U.heap = h0 ∧ CHv Z EL U.vm h0 ∧ ∀ y ∈ ([ob] : List Addr), Safe Z EL U.vm h0 y) (fun _ _ _ _ _ => True) (fun _ U o U' => ∃ v L, o = .returned v ∧ Q3_0 Z ob aa ka h0 n0 v U'.heap L ∧ CHr Z EL U.vm U.heap U'.vm U'.heap ∧ ReturnedEndW U o U' L ({ frames := 2, cells := 4, slots := 8, locals := 29 } : Room).cells ({ frames := 2, cells := 4, slots := 8, locals := 29 } : Room).slots) := by
  refine MetFree.of_bodySF (plainFor_of_name pn_java_lang_String) hisR ?_
  intro p e s m args below meth c s₁ Bd hml0 hP hK
  obtain ⟨rfl, hZ, hh, hCH, hSf⟩ := hP
  have hx := Bd.exec
  have hby := Bd.bytes
  have hlk : meth.locks = false := BodyLoose.notSynchronized Bd
  have hml : c.maxLocals = 2 := hml0
  have hown : s.vm.findClass "java/lang/String" = some m.cls := findClass_of_methodNamed Bd.named
  have hnm := (name_of_methodNamed Bd.named Bd.method).1
  have X0 : Stand p l e ({ frames := 2, cells := 4, slots := 8, locals := 29 } : Room) (s.setVm s.vm) m #[(.ref ob), (.ref aa)] below meth c s₁ [] 0 0 := Stand.of_body Bd
  have e0 : s₁.heap = h0 := by rw [← hh, Bd.state]; rfl
  have N0 := Fr.nil n0
  have hS0 : s.Since s.vm 0 := (State.WarmedH.refl s).since 0
  have hk0 : 0 ≤ h0.size := Nat.zero_le _
  have CH0 : CHr Z EL s.vm s.heap s.vm h0 := by rw [hh]; exact CHr.refl hCH
  have hEL : EW Z a0 EL := own_EW hw
  have hwS := own_wS hw
  suffices hgo : GoW p e below s 4 8 Z EL (Q3_0 Z ob aa ka h0 n0) (s₁.setTop (mkF m 0 #[.val (.ref ob), .val (.ref aa)] [])) by
    obtain ⟨t, o, h1, h2⟩ := hgo; exact ⟨t, o, castTop (ef_rm3_0 m ob aa) h1, h2⟩
  show GoW p e below s _ _ _ _ _ (s₁.setTop (mkF m 0 #[.val (.ref ob), .val (.ref aa)] []))
  refine GoW.st (fun _ k' => XS.aloadN X0.here hx rfl (hb hby d3_0) rfl rfl k') ?_
  show GoW p e below s _ _ _ _ _ (s₁.setTop (mkF m 1 #[.val (.ref ob), .val (.ref aa)] [(.ref ob)]))
  refine GoW.st (fun _ k' => XS.aloadN X0.here hx rfl (hb hby d3_1) rfl rfl k') ?_
  show GoW p e below s _ _ _ _ _ (s₁.setTop (mkF m 2 #[.val (.ref ob), .val (.ref aa)] [(.ref aa), (.ref ob)]))
  refine GoW.st (fun _ k' => XS.iconst X0.here hx rfl (hb hby d3_2) k') ?_
  show GoW p e below s _ _ _ _ _ (s₁.setTop (mkF m 3 #[.val (.ref ob), .val (.ref aa)] [(.int (0 : Int32)), (.ref aa), (.ref ob)]))
  refine GoW.st (fun _ k' => XS.aloadN X0.here hx rfl (hb hby d3_3) rfl rfl k') ?_
  show GoW p e below s _ _ _ _ _ (s₁.setTop (mkF m 4 #[.val (.ref ob), .val (.ref aa)] [(.ref aa), (.int (0 : Int32)), (.ref aa), (.ref ob)]))
  obtain ⟨cl1, Ar1, qc1, Sz1, Nn1, Ha1, Gf1⟩ := id Va
  refine GoW.st (fun _ k' => X0.arraylength hx (by rw [e0]; exact Ar1.1) (State.isArrayOf_alike hZ.alike Ar1.2.1) (g := (mkF m 4 #[.val (.ref ob), .val (.ref aa)] [(.ref aa), (.int (0 : Int32)), (.ref aa), (.ref ob)])) rfl rfl (hb hby d3_4) _ k') ?_
  rw [len_of Sz1 Nn1]
  show GoW p e below s _ _ _ _ _ (s₁.setTop (mkF m 5 #[.val (.ref ob), .val (.ref aa)] [(.int (0 : Int32)), (.int (0 : Int32)), (.ref aa), (.ref ob)]))
  refine GoW.st (fun _ k' => XS.aconstNull X0.here hx rfl (hb hby d3_5) k') ?_
  show GoW p e below s _ _ _ _ _ (s₁.setTop (mkF m 6 #[.val (.ref ob), .val (.ref aa)] [.null, (.int (0 : Int32)), (.int (0 : Int32)), (.ref aa), (.ref ob)]))
  obtain ⟨_, _, ⟨T2, L2, k2, n2⟩, -, Xr2, hSr2, hgr2, ⟨Lc2, hQ2, l2, y2, z2, C2⟩, st2⟩ := X0.specialBackS hx (y := (⟨"java/lang/String", "<init>", "([CIILjava/lang/Void;)V"⟩ : MethodName)) rfl hown (mvT hZ (wdx hw 17 rfl)) (mvT hZ (wdx hw 18 rfl)) (mvT hZ (wdx hw 20 rfl)) (by decide) (own_back (W := 0) (rm4_0 l Z a0 hw [] ob aa h0 n0 O0 E_o Fv Fc g_o) hZ (wdx hw 20 rfl) (wdx hw 12 rfl) (by decide) (by decide) hEL CH0.1 (allS ⟨E_o.lt, (hSf ob (List.mem_of_getElem? (i := 0) rfl))⟩ all0)) (g := (mkF m 6 #[.val (.ref ob), .val (.ref aa)] [.null, (.int (0 : Int32)), (.int (0 : Int32)), (.ref aa), (.ref ob)])) rfl (by rw [hml]; rfl) (Steps.refl _) (a := ob) (argsL := [(.ref aa), (.int (0 : Int32)), (.int (0 : Int32)), .null]) (rest := []) (lenOf pd___CIILjava_lang_Void__V rfl) rfl (by show 2 * 0 + _ ≤ _; exact Nat.le_of_eq rfl) (hb hby d3_6) (fun _ _ => ⟨rfl, e0, (by exact Nat.le_of_ble_eq_true rfl), (by exact Nat.le_of_ble_eq_true rfl)⟩)
  dsimp only [Pt.U, Pt.locs, Pt.cells, Pt.slots] at Xr2 hSr2 hgr2 l2 y2 z2 C2 st2 hQ2
  subst l2 y2 z2
  obtain ⟨X2, hS2, hZ2, hown2⟩ := rebS hS0 (by rw [e0]; exact hk0) Xr2 hSr2 hgr2 hZ hown
  obtain ⟨tb_2, kt_2, rfl, Nq2, Kq2, f3, f4, f5⟩ := hQ2
  have N2 := Fr.app N0 Nq2
  refine GoW.tr st2 ?_
  have f6 : Exa Z T2.heap ob "java/lang/String" := E_o.keep Kq2
  have ne7 : ob ≠ aa := Exa.neArv E_o Va (wdx hw 11 rfl)
  have f8 : Arv Z T2.heap aa ka .char (0 : Int32) [] (.int (0 : Int32)) := Va.keep Kq2 (ninS (Ne.symm ne7) nin0)
  have f9 : Safe Z EL T2.vm T2.heap ob := C2.safe E_o.lt (hSf ob (List.mem_of_getElem? (i := 0) rfl))
  have CH2 : CHr Z EL s.vm s.heap T2.vm T2.heap := CH0.trans C2
  have O2 : Old Z n0 T2.heap := O0.keep Kq2 (allS g_o all0)
  have K2 : Keep h0 T2.heap [ob] := (Keep.refl h0 [ob]).trans Kq2 (allS (Or.inl (by simp)) all0)
  show GoW p e below s _ _ _ _ _ (T2.setTop (mkF m 9 #[.val (.ref ob), .val (.ref aa)] []))
  refine GoW.retV X2 hx hlk hS2 (Nat.le_refl _) hZ2 hEL CH2 Bd.returns (hb hby d3_9) (by decide) (by decide) rfl ?_
  exact ⟨tb_2, kt_2, rfl, N2, K2, f3, f4, f5⟩
theorem d12_0 : decode jdk_43_method_13_code 0 = .ok (.aload_n 0, 1) := by decide +kernel
theorem d12_1 : decode jdk_43_method_13_code 1 = .ok (.arraylength, 1) := by decide +kernel
theorem d12_2 : decode jdk_43_method_13_code 2 = .ok (.aload_n 1, 1) := by decide +kernel
theorem d12_3 : decode jdk_43_method_13_code 3 = .ok (.arraylength, 1) := by decide +kernel
theorem d12_4 : decode jdk_43_method_13_code 4 = .ok (.if_icmp .ne 30, 3) := by decide +kernel
theorem d12_7 : decode jdk_43_method_13_code 7 = .ok (.iconst 0, 1) := by decide +kernel
theorem d12_8 : decode jdk_43_method_13_code 8 = .ok (.istore_n 2, 1) := by decide +kernel
theorem d12_9 : decode jdk_43_method_13_code 9 = .ok (.iload_n 2, 1) := by decide +kernel
theorem d12_10 : decode jdk_43_method_13_code 10 = .ok (.aload_n 0, 1) := by decide +kernel
theorem d12_11 : decode jdk_43_method_13_code 11 = .ok (.arraylength, 1) := by decide +kernel
theorem d12_12 : decode jdk_43_method_13_code 12 = .ok (.if_icmp .ge 20, 3) := by decide +kernel
theorem d12_32 : decode jdk_43_method_13_code 32 = .ok (.iconst 1, 1) := by decide +kernel
theorem d12_33 : decode jdk_43_method_13_code 33 = .ok (.ireturn, 1) := by decide +kernel
theorem d12_34 : decode jdk_43_method_13_code 34 = .ok (.iconst 0, 1) := by decide +kernel
theorem d12_35 : decode jdk_43_method_13_code 35 = .ok (.ireturn, 1) := by decide +kernel
theorem d12_15 : decode jdk_43_method_13_code 15 = .ok (.aload_n 0, 1) := by decide +kernel
theorem d12_16 : decode jdk_43_method_13_code 16 = .ok (.iload_n 2, 1) := by decide +kernel
theorem d12_17 : decode jdk_43_method_13_code 17 = .ok (.baload, 1) := by decide +kernel
theorem d12_18 : decode jdk_43_method_13_code 18 = .ok (.aload_n 1, 1) := by decide +kernel
theorem d12_19 : decode jdk_43_method_13_code 19 = .ok (.iload_n 2, 1) := by decide +kernel
theorem d12_20 : decode jdk_43_method_13_code 20 = .ok (.baload, 1) := by decide +kernel
theorem d12_21 : decode jdk_43_method_13_code 21 = .ok (.if_icmp .eq 5, 3) := by decide +kernel
theorem d12_26 : decode jdk_43_method_13_code 26 = .ok (.iinc 2 1, 3) := by decide +kernel
theorem d12_29 : decode jdk_43_method_13_code 29 = .ok (.goto (-20), 3) := by decide +kernel
theorem d12_24 : decode jdk_43_method_13_code 24 = .ok (.iconst 0, 1) := by decide +kernel
theorem d12_25 : decode jdk_43_method_13_code 25 = .ok (.ireturn, 1) := by decide +kernel
theorem pn_java_lang_StringLatin1 : plainName "java/lang/StringLatin1" = true := by first | (simp [plainName, overriddenIn]; done) | decide +kernel
theorem ef_rm12 (m : MethodId) (ta : Addr) (td : Addr) : entryFrame m #[(.ref ta), (.ref td)] 3 = mkF m 0 #[.val (.ref ta), .val (.ref td), .unset] [] := by first | (simp [entryFrame, mkF, argsToLocals, Value.category]; done) | rfl
def Q12 (Z : State) (ta : Addr) (td : Addr) (ka : ClassId) (la : List Int32) (kd : ClassId) (lb : List Int32) (h0 : Heap) (n0 : Nat) (v : Option Value) (h : Heap) (L : List Loc) : Prop := v = some (.int (if la = lb then (1 : Int32) else 0)) ∧ Fr n0 L ∧ h = h0
set_option maxRecDepth 65536 in
set_option maxHeartbeats 40000000 in
theorem rm12 (l : Launch) (Z : State) (a0 : Array Value) (hw : ∀ d ∈ tables_1, d.before a0 Z = true) (ws : List Jvm.Cond) (ta : Addr) (td : Addr) (ka : ClassId) (la : List Int32) (kd : ClassId) (lb : List Int32) (h0 : Heap) (n0 : Nat) (O0 : Old Z n0 h0) (Va : Arv Z h0 ta ka .byte (Int32.ofNat (List.length la)) (List.map Value.int la) (.int (0 : Int32))) (Vd : Arv Z h0 td kd .byte (Int32.ofNat (List.length lb)) (List.map Value.int lb) (.int (0 : Int32))) (q_la : la.length ≤ 2) (q_lb : lb.length ≤ 2) :
    MetFree l (⟨"java/lang/StringLatin1", "equals", "([B[B)Z"⟩ : MethodName) (head1 (Jvm.Cond.code (⟨"java/lang/StringLatin1", "equals", "([B[B)Z"⟩ : MethodName) jdk_43_method_13_code 3 (some .boolean) :: ws) ({ frames := 0, cells := 0, slots := 0, locals := 0 } : Room)) (fun ay U => ay = #[(.ref ta), (.ref td)] ∧ Z.Warmed39 U.vm ∧ U.heap = h0) (fun _ _ _ _ _ => True) (fun _ U o U' => ∃ v L, o = .returned v ∧ Q12 Z ta td ka la kd lb h0 n0 v U'.heap L ∧ FrameEnd U o U' L ({ frames := 0, cells := 0, slots := 0, locals := 0 } : Room).cells ({ frames := 0, cells := 0, slots := 0, locals := 0 } : Room).slots) := by
  refine MetFree.of_bodySF (plainFor_of_name pn_java_lang_StringLatin1) hisR ?_
  intro p e s m args below meth c s₁ Bd hml0 hP hK
  obtain ⟨rfl, hZ, hh⟩ := hP
  have hx := Bd.exec
  have hby := Bd.bytes
  have hlk : meth.locks = false := BodyLoose.notSynchronized Bd
  have hml : c.maxLocals = 3 := hml0
  have hown : s.vm.findClass "java/lang/StringLatin1" = some m.cls := findClass_of_methodNamed Bd.named
  have hnm := (name_of_methodNamed Bd.named Bd.method).1
  have X0 : Stand p l e ({ frames := 0, cells := 0, slots := 0, locals := 0 } : Room) s m #[(.ref ta), (.ref td)] below meth c s₁ [] 0 0 := Stand.of_body Bd
  have e0 : s₁.heap = h0 := by rw [← hh, Bd.state]; rfl
  have N0 := Fr.nil n0
  suffices hgo : Go p e below s 0 0 (Q12 Z ta td ka la kd lb h0 n0) (s₁.setTop (mkF m 0 #[.val (.ref ta), .val (.ref td), .unset] [])) by
    obtain ⟨t, o, h1, h2⟩ := hgo; exact ⟨t, o, castTop (ef_rm12 m ta td) h1, h2⟩
  show Go p e below s _ _ _ (s₁.setTop (mkF m 0 #[.val (.ref ta), .val (.ref td), .unset] []))
  rcases own_l2 la q_la with rfl | ⟨pa, rfl⟩ | ⟨pa, qa, rfl⟩
  · have v1 : Arv Z h0 ta ka .byte (0 : Int32) [] (.int (0 : Int32)) := Va
    rcases own_l2 lb q_lb with rfl | ⟨pb, rfl⟩ | ⟨pb, qb, rfl⟩
    · have v2 : Arv Z h0 td kd .byte (0 : Int32) [] (.int (0 : Int32)) := Vd
      show Go p e below s _ _ _ (s₁.setTop (mkF m 0 #[.val (.ref ta), .val (.ref td), .unset] []))
      refine Go.st (fun _ k' => XS.aloadN X0.here hx rfl (hb hby d12_0) rfl rfl k') ?_
      show Go p e below s _ _ _ (s₁.setTop (mkF m 1 #[.val (.ref ta), .val (.ref td), .unset] [(.ref ta)]))
      obtain ⟨cl3, Ar3, qc3, Sz3, Nn3, Ha3, Gf3⟩ := id v1
      refine Go.st (fun _ k' => X0.arraylength hx (by rw [e0]; exact Ar3.1) (State.isArrayOf_alike hZ.alike Ar3.2.1) (g := (mkF m 1 #[.val (.ref ta), .val (.ref td), .unset] [(.ref ta)])) rfl rfl (hb hby d12_1) _ k') ?_
      rw [len_of Sz3 Nn3]
      show Go p e below s _ _ _ (s₁.setTop (mkF m 2 #[.val (.ref ta), .val (.ref td), .unset] [(.int (0 : Int32))]))
      refine Go.st (fun _ k' => XS.aloadN X0.here hx rfl (hb hby d12_2) rfl rfl k') ?_
      show Go p e below s _ _ _ (s₁.setTop (mkF m 3 #[.val (.ref ta), .val (.ref td), .unset] [(.ref td), (.int (0 : Int32))]))
      obtain ⟨cl4, Ar4, qc4, Sz4, Nn4, Ha4, Gf4⟩ := id v2
      refine Go.st (fun _ k' => X0.arraylength hx (by rw [e0]; exact Ar4.1) (State.isArrayOf_alike hZ.alike Ar4.2.1) (g := (mkF m 3 #[.val (.ref ta), .val (.ref td), .unset] [(.ref td), (.int (0 : Int32))])) rfl rfl (hb hby d12_3) _ k') ?_
      rw [len_of Sz4 Nn4]
      show Go p e below s _ _ _ (s₁.setTop (mkF m 4 #[.val (.ref ta), .val (.ref td), .unset] [(.int (0 : Int32)), (.int (0 : Int32))]))
      refine Go.st (fun _ k' => XS.icmpNo X0.here hx rfl (hb hby d12_4) rfl (XT.ii_ne_f (by decide)) k') ?_
      show Go p e below s _ _ _ (s₁.setTop (mkF m 7 #[.val (.ref ta), .val (.ref td), .unset] []))
      refine Go.st (fun _ k' => XS.iconst X0.here hx rfl (hb hby d12_7) k') ?_
      show Go p e below s _ _ _ (s₁.setTop (mkF m 8 #[.val (.ref ta), .val (.ref td), .unset] [(.int (0 : Int32))]))
      refine Go.st (fun _ k' => XS.istoreN X0.here hx rfl (hb hby d12_8) rfl (l' := #[.val (.ref ta), .val (.ref td), .val (.int (0 : Int32))]) rfl k') ?_
      show Go p e below s _ _ _ (s₁.setTop (mkF m 9 #[.val (.ref ta), .val (.ref td), .val (.int (0 : Int32))] []))
      refine Go.st (fun _ k' => XS.iloadN X0.here hx rfl (hb hby d12_9) rfl k') ?_
      show Go p e below s _ _ _ (s₁.setTop (mkF m 10 #[.val (.ref ta), .val (.ref td), .val (.int (0 : Int32))] [(.int (0 : Int32))]))
      refine Go.st (fun _ k' => XS.aloadN X0.here hx rfl (hb hby d12_10) rfl rfl k') ?_
      show Go p e below s _ _ _ (s₁.setTop (mkF m 11 #[.val (.ref ta), .val (.ref td), .val (.int (0 : Int32))] [(.ref ta), (.int (0 : Int32))]))
      obtain ⟨cl5, Ar5, qc5, Sz5, Nn5, Ha5, Gf5⟩ := id v1
      refine Go.st (fun _ k' => X0.arraylength hx (by rw [e0]; exact Ar5.1) (State.isArrayOf_alike hZ.alike Ar5.2.1) (g := (mkF m 11 #[.val (.ref ta), .val (.ref td), .val (.int (0 : Int32))] [(.ref ta), (.int (0 : Int32))])) rfl rfl (hb hby d12_11) _ k') ?_
      rw [len_of Sz5 Nn5]
      show Go p e below s _ _ _ (s₁.setTop (mkF m 12 #[.val (.ref ta), .val (.ref td), .val (.int (0 : Int32))] [(.int (0 : Int32)), (.int (0 : Int32))]))
      refine Go.st (fun _ k' => XS.icmpYes X0.here hx rfl (pc0 := 12) (pc' := 32) rfl (hb hby d12_12) rfl (XT.ii_ge_t (by decide)) (by decide) (by decide) k') ?_
      show Go p e below s _ _ _ (s₁.setTop (mkF m 32 #[.val (.ref ta), .val (.ref td), .val (.int (0 : Int32))] []))
      refine Go.st (fun _ k' => XS.iconst X0.here hx rfl (hb hby d12_32) k') ?_
      show Go p e below s _ _ _ (s₁.setTop (mkF m 33 #[.val (.ref ta), .val (.ref td), .val (.int (0 : Int32))] [(.int (1 : Int32))]))
      refine Go.retB X0 hx hlk (t := .boolean) Bd.returns (by simp) (hb hby d12_33) (by decide) (by decide) e0 ?_
      exact ⟨(by simp [nar]), N0, rfl⟩
    · have v6 : Arv Z h0 td kd .byte (1 : Int32) [(.int pb)] (.int (0 : Int32)) := Vd
      show Go p e below s _ _ _ (s₁.setTop (mkF m 0 #[.val (.ref ta), .val (.ref td), .unset] []))
      refine Go.st (fun _ k' => XS.aloadN X0.here hx rfl (hb hby d12_0) rfl rfl k') ?_
      show Go p e below s _ _ _ (s₁.setTop (mkF m 1 #[.val (.ref ta), .val (.ref td), .unset] [(.ref ta)]))
      obtain ⟨cl7, Ar7, qc7, Sz7, Nn7, Ha7, Gf7⟩ := id v1
      refine Go.st (fun _ k' => X0.arraylength hx (by rw [e0]; exact Ar7.1) (State.isArrayOf_alike hZ.alike Ar7.2.1) (g := (mkF m 1 #[.val (.ref ta), .val (.ref td), .unset] [(.ref ta)])) rfl rfl (hb hby d12_1) _ k') ?_
      rw [len_of Sz7 Nn7]
      show Go p e below s _ _ _ (s₁.setTop (mkF m 2 #[.val (.ref ta), .val (.ref td), .unset] [(.int (0 : Int32))]))
      refine Go.st (fun _ k' => XS.aloadN X0.here hx rfl (hb hby d12_2) rfl rfl k') ?_
      show Go p e below s _ _ _ (s₁.setTop (mkF m 3 #[.val (.ref ta), .val (.ref td), .unset] [(.ref td), (.int (0 : Int32))]))
      obtain ⟨cl8, Ar8, qc8, Sz8, Nn8, Ha8, Gf8⟩ := id v6
      refine Go.st (fun _ k' => X0.arraylength hx (by rw [e0]; exact Ar8.1) (State.isArrayOf_alike hZ.alike Ar8.2.1) (g := (mkF m 3 #[.val (.ref ta), .val (.ref td), .unset] [(.ref td), (.int (0 : Int32))])) rfl rfl (hb hby d12_3) _ k') ?_
      rw [len_of Sz8 Nn8]
      show Go p e below s _ _ _ (s₁.setTop (mkF m 4 #[.val (.ref ta), .val (.ref td), .unset] [(.int (1 : Int32)), (.int (0 : Int32))]))
      refine Go.st (fun _ k' => XS.icmpYes X0.here hx rfl (pc0 := 4) (pc' := 34) rfl (hb hby d12_4) rfl (XT.ii_ne_t (by decide)) (by decide) (by decide) k') ?_
      show Go p e below s _ _ _ (s₁.setTop (mkF m 34 #[.val (.ref ta), .val (.ref td), .unset] []))
      refine Go.st (fun _ k' => XS.iconst X0.here hx rfl (hb hby d12_34) k') ?_
      show Go p e below s _ _ _ (s₁.setTop (mkF m 35 #[.val (.ref ta), .val (.ref td), .unset] [(.int (0 : Int32))]))
      refine Go.retB X0 hx hlk (t := .boolean) Bd.returns (by simp) (hb hby d12_35) (by decide) (by decide) e0 ?_
      exact ⟨(by simp [nar]), N0, rfl⟩
    · have v9 : Arv Z h0 td kd .byte (2 : Int32) [(.int pb), (.int qb)] (.int (0 : Int32)) := Vd
      show Go p e below s _ _ _ (s₁.setTop (mkF m 0 #[.val (.ref ta), .val (.ref td), .unset] []))
      refine Go.st (fun _ k' => XS.aloadN X0.here hx rfl (hb hby d12_0) rfl rfl k') ?_
      show Go p e below s _ _ _ (s₁.setTop (mkF m 1 #[.val (.ref ta), .val (.ref td), .unset] [(.ref ta)]))
      obtain ⟨cl10, Ar10, qc10, Sz10, Nn10, Ha10, Gf10⟩ := id v1
      refine Go.st (fun _ k' => X0.arraylength hx (by rw [e0]; exact Ar10.1) (State.isArrayOf_alike hZ.alike Ar10.2.1) (g := (mkF m 1 #[.val (.ref ta), .val (.ref td), .unset] [(.ref ta)])) rfl rfl (hb hby d12_1) _ k') ?_
      rw [len_of Sz10 Nn10]
      show Go p e below s _ _ _ (s₁.setTop (mkF m 2 #[.val (.ref ta), .val (.ref td), .unset] [(.int (0 : Int32))]))
      refine Go.st (fun _ k' => XS.aloadN X0.here hx rfl (hb hby d12_2) rfl rfl k') ?_
      show Go p e below s _ _ _ (s₁.setTop (mkF m 3 #[.val (.ref ta), .val (.ref td), .unset] [(.ref td), (.int (0 : Int32))]))
      obtain ⟨cl11, Ar11, qc11, Sz11, Nn11, Ha11, Gf11⟩ := id v9
      refine Go.st (fun _ k' => X0.arraylength hx (by rw [e0]; exact Ar11.1) (State.isArrayOf_alike hZ.alike Ar11.2.1) (g := (mkF m 3 #[.val (.ref ta), .val (.ref td), .unset] [(.ref td), (.int (0 : Int32))])) rfl rfl (hb hby d12_3) _ k') ?_
      rw [len_of Sz11 Nn11]
      show Go p e below s _ _ _ (s₁.setTop (mkF m 4 #[.val (.ref ta), .val (.ref td), .unset] [(.int (2 : Int32)), (.int (0 : Int32))]))
      refine Go.st (fun _ k' => XS.icmpYes X0.here hx rfl (pc0 := 4) (pc' := 34) rfl (hb hby d12_4) rfl (XT.ii_ne_t (by decide)) (by decide) (by decide) k') ?_
      show Go p e below s _ _ _ (s₁.setTop (mkF m 34 #[.val (.ref ta), .val (.ref td), .unset] []))
      refine Go.st (fun _ k' => XS.iconst X0.here hx rfl (hb hby d12_34) k') ?_
      show Go p e below s _ _ _ (s₁.setTop (mkF m 35 #[.val (.ref ta), .val (.ref td), .unset] [(.int (0 : Int32))]))
      refine Go.retB X0 hx hlk (t := .boolean) Bd.returns (by simp) (hb hby d12_35) (by decide) (by decide) e0 ?_
      exact ⟨(by simp [nar]), N0, rfl⟩
  · have v12 : Arv Z h0 ta ka .byte (1 : Int32) [(.int pa)] (.int (0 : Int32)) := Va
    rcases own_l2 lb q_lb with rfl | ⟨pb, rfl⟩ | ⟨pb, qb, rfl⟩
    · have v13 : Arv Z h0 td kd .byte (0 : Int32) [] (.int (0 : Int32)) := Vd
      show Go p e below s _ _ _ (s₁.setTop (mkF m 0 #[.val (.ref ta), .val (.ref td), .unset] []))
      refine Go.st (fun _ k' => XS.aloadN X0.here hx rfl (hb hby d12_0) rfl rfl k') ?_
      show Go p e below s _ _ _ (s₁.setTop (mkF m 1 #[.val (.ref ta), .val (.ref td), .unset] [(.ref ta)]))
      obtain ⟨cl14, Ar14, qc14, Sz14, Nn14, Ha14, Gf14⟩ := id v12
      refine Go.st (fun _ k' => X0.arraylength hx (by rw [e0]; exact Ar14.1) (State.isArrayOf_alike hZ.alike Ar14.2.1) (g := (mkF m 1 #[.val (.ref ta), .val (.ref td), .unset] [(.ref ta)])) rfl rfl (hb hby d12_1) _ k') ?_
      rw [len_of Sz14 Nn14]
      show Go p e below s _ _ _ (s₁.setTop (mkF m 2 #[.val (.ref ta), .val (.ref td), .unset] [(.int (1 : Int32))]))
      refine Go.st (fun _ k' => XS.aloadN X0.here hx rfl (hb hby d12_2) rfl rfl k') ?_
      show Go p e below s _ _ _ (s₁.setTop (mkF m 3 #[.val (.ref ta), .val (.ref td), .unset] [(.ref td), (.int (1 : Int32))]))
      obtain ⟨cl15, Ar15, qc15, Sz15, Nn15, Ha15, Gf15⟩ := id v13
      refine Go.st (fun _ k' => X0.arraylength hx (by rw [e0]; exact Ar15.1) (State.isArrayOf_alike hZ.alike Ar15.2.1) (g := (mkF m 3 #[.val (.ref ta), .val (.ref td), .unset] [(.ref td), (.int (1 : Int32))])) rfl rfl (hb hby d12_3) _ k') ?_
      rw [len_of Sz15 Nn15]
      show Go p e below s _ _ _ (s₁.setTop (mkF m 4 #[.val (.ref ta), .val (.ref td), .unset] [(.int (0 : Int32)), (.int (1 : Int32))]))
      refine Go.st (fun _ k' => XS.icmpYes X0.here hx rfl (pc0 := 4) (pc' := 34) rfl (hb hby d12_4) rfl (XT.ii_ne_t (by decide)) (by decide) (by decide) k') ?_
      show Go p e below s _ _ _ (s₁.setTop (mkF m 34 #[.val (.ref ta), .val (.ref td), .unset] []))
      refine Go.st (fun _ k' => XS.iconst X0.here hx rfl (hb hby d12_34) k') ?_
      show Go p e below s _ _ _ (s₁.setTop (mkF m 35 #[.val (.ref ta), .val (.ref td), .unset] [(.int (0 : Int32))]))
      refine Go.retB X0 hx hlk (t := .boolean) Bd.returns (by simp) (hb hby d12_35) (by decide) (by decide) e0 ?_
      exact ⟨(by simp [nar]), N0, rfl⟩
    · have v16 : Arv Z h0 td kd .byte (1 : Int32) [(.int pb)] (.int (0 : Int32)) := Vd
      show Go p e below s _ _ _ (s₁.setTop (mkF m 0 #[.val (.ref ta), .val (.ref td), .unset] []))
      refine Go.st (fun _ k' => XS.aloadN X0.here hx rfl (hb hby d12_0) rfl rfl k') ?_
      show Go p e below s _ _ _ (s₁.setTop (mkF m 1 #[.val (.ref ta), .val (.ref td), .unset] [(.ref ta)]))
      obtain ⟨cl17, Ar17, qc17, Sz17, Nn17, Ha17, Gf17⟩ := id v12
      refine Go.st (fun _ k' => X0.arraylength hx (by rw [e0]; exact Ar17.1) (State.isArrayOf_alike hZ.alike Ar17.2.1) (g := (mkF m 1 #[.val (.ref ta), .val (.ref td), .unset] [(.ref ta)])) rfl rfl (hb hby d12_1) _ k') ?_
      rw [len_of Sz17 Nn17]
      show Go p e below s _ _ _ (s₁.setTop (mkF m 2 #[.val (.ref ta), .val (.ref td), .unset] [(.int (1 : Int32))]))
      refine Go.st (fun _ k' => XS.aloadN X0.here hx rfl (hb hby d12_2) rfl rfl k') ?_
      show Go p e below s _ _ _ (s₁.setTop (mkF m 3 #[.val (.ref ta), .val (.ref td), .unset] [(.ref td), (.int (1 : Int32))]))
      obtain ⟨cl18, Ar18, qc18, Sz18, Nn18, Ha18, Gf18⟩ := id v16
      refine Go.st (fun _ k' => X0.arraylength hx (by rw [e0]; exact Ar18.1) (State.isArrayOf_alike hZ.alike Ar18.2.1) (g := (mkF m 3 #[.val (.ref ta), .val (.ref td), .unset] [(.ref td), (.int (1 : Int32))])) rfl rfl (hb hby d12_3) _ k') ?_
      rw [len_of Sz18 Nn18]
      show Go p e below s _ _ _ (s₁.setTop (mkF m 4 #[.val (.ref ta), .val (.ref td), .unset] [(.int (1 : Int32)), (.int (1 : Int32))]))
      refine Go.st (fun _ k' => XS.icmpNo X0.here hx rfl (hb hby d12_4) rfl (XT.ii_ne_f (by decide)) k') ?_
      show Go p e below s _ _ _ (s₁.setTop (mkF m 7 #[.val (.ref ta), .val (.ref td), .unset] []))
      refine Go.st (fun _ k' => XS.iconst X0.here hx rfl (hb hby d12_7) k') ?_
      show Go p e below s _ _ _ (s₁.setTop (mkF m 8 #[.val (.ref ta), .val (.ref td), .unset] [(.int (0 : Int32))]))
      refine Go.st (fun _ k' => XS.istoreN X0.here hx rfl (hb hby d12_8) rfl (l' := #[.val (.ref ta), .val (.ref td), .val (.int (0 : Int32))]) rfl k') ?_
      show Go p e below s _ _ _ (s₁.setTop (mkF m 9 #[.val (.ref ta), .val (.ref td), .val (.int (0 : Int32))] []))
      refine Go.st (fun _ k' => XS.iloadN X0.here hx rfl (hb hby d12_9) rfl k') ?_
      show Go p e below s _ _ _ (s₁.setTop (mkF m 10 #[.val (.ref ta), .val (.ref td), .val (.int (0 : Int32))] [(.int (0 : Int32))]))
      refine Go.st (fun _ k' => XS.aloadN X0.here hx rfl (hb hby d12_10) rfl rfl k') ?_
      show Go p e below s _ _ _ (s₁.setTop (mkF m 11 #[.val (.ref ta), .val (.ref td), .val (.int (0 : Int32))] [(.ref ta), (.int (0 : Int32))]))
      obtain ⟨cl19, Ar19, qc19, Sz19, Nn19, Ha19, Gf19⟩ := id v12
      refine Go.st (fun _ k' => X0.arraylength hx (by rw [e0]; exact Ar19.1) (State.isArrayOf_alike hZ.alike Ar19.2.1) (g := (mkF m 11 #[.val (.ref ta), .val (.ref td), .val (.int (0 : Int32))] [(.ref ta), (.int (0 : Int32))])) rfl rfl (hb hby d12_11) _ k') ?_
      rw [len_of Sz19 Nn19]
      show Go p e below s _ _ _ (s₁.setTop (mkF m 12 #[.val (.ref ta), .val (.ref td), .val (.int (0 : Int32))] [(.int (1 : Int32)), (.int (0 : Int32))]))
      refine Go.st (fun _ k' => XS.icmpNo X0.here hx rfl (hb hby d12_12) rfl (XT.ii_ge_f (by decide)) k') ?_
      show Go p e below s _ _ _ (s₁.setTop (mkF m 15 #[.val (.ref ta), .val (.ref td), .val (.int (0 : Int32))] []))
      refine Go.st (fun _ k' => XS.aloadN X0.here hx rfl (hb hby d12_15) rfl rfl k') ?_
      show Go p e below s _ _ _ (s₁.setTop (mkF m 16 #[.val (.ref ta), .val (.ref td), .val (.int (0 : Int32))] [(.ref ta)]))
      refine Go.st (fun _ k' => XS.iloadN X0.here hx rfl (hb hby d12_16) rfl k') ?_
      show Go p e below s _ _ _ (s₁.setTop (mkF m 17 #[.val (.ref ta), .val (.ref td), .val (.int (0 : Int32))] [(.int (0 : Int32)), (.ref ta)]))
      obtain ⟨cl20, Ar20, qc20, Sz20, Nn20, Ha20, Gf20⟩ := id v12
      refine Go.st (fun _ k' => X0.baloadBytes hx (j := (0 : Int32)) (v := (.int pa)) (by rw [e0]; exact Ar20.1) (State.isArrayOf_alike hZ.alike Ar20.2.1) Ar20.2.2 (inb_of Sz20 ⟨by decide, by decide⟩) (Ha20.at (inb_of Sz20 ⟨by decide, by decide⟩) rfl) (g := (mkF m 17 #[.val (.ref ta), .val (.ref td), .val (.int (0 : Int32))] [(.int (0 : Int32)), (.ref ta)])) rfl rfl (hb hby d12_17) _ k') ?_
      show Go p e below s _ _ _ (s₁.setTop (mkF m 18 #[.val (.ref ta), .val (.ref td), .val (.int (0 : Int32))] [(.int pa)]))
      refine Go.st (fun _ k' => XS.aloadN X0.here hx rfl (hb hby d12_18) rfl rfl k') ?_
      show Go p e below s _ _ _ (s₁.setTop (mkF m 19 #[.val (.ref ta), .val (.ref td), .val (.int (0 : Int32))] [(.ref td), (.int pa)]))
      refine Go.st (fun _ k' => XS.iloadN X0.here hx rfl (hb hby d12_19) rfl k') ?_
      show Go p e below s _ _ _ (s₁.setTop (mkF m 20 #[.val (.ref ta), .val (.ref td), .val (.int (0 : Int32))] [(.int (0 : Int32)), (.ref td), (.int pa)]))
      obtain ⟨cl21, Ar21, qc21, Sz21, Nn21, Ha21, Gf21⟩ := id v16
      refine Go.st (fun _ k' => X0.baloadBytes hx (j := (0 : Int32)) (v := (.int pb)) (by rw [e0]; exact Ar21.1) (State.isArrayOf_alike hZ.alike Ar21.2.1) Ar21.2.2 (inb_of Sz21 ⟨by decide, by decide⟩) (Ha21.at (inb_of Sz21 ⟨by decide, by decide⟩) rfl) (g := (mkF m 20 #[.val (.ref ta), .val (.ref td), .val (.int (0 : Int32))] [(.int (0 : Int32)), (.ref td), (.int pa)])) rfl rfl (hb hby d12_20) _ k') ?_
      show Go p e below s _ _ _ (s₁.setTop (mkF m 21 #[.val (.ref ta), .val (.ref td), .val (.int (0 : Int32))] [(.int pb), (.int pa)]))
      by_cases hc22 : pa = pb
      · refine Go.st (fun _ k' => XS.icmpYes X0.here hx rfl (pc0 := 21) (pc' := 26) rfl (hb hby d12_21) rfl (XT.ii_eq_t hc22) (by decide) (by decide) k') ?_
        show Go p e below s _ _ _ (s₁.setTop (mkF m 26 #[.val (.ref ta), .val (.ref td), .val (.int (0 : Int32))] []))
        refine Go.st (fun _ k' => XS.iinc X0.here hx rfl (hb hby d12_26) rfl (l' := #[.val (.ref ta), .val (.ref td), .val (.int (1 : Int32))]) rfl k') ?_
        show Go p e below s _ _ _ (s₁.setTop (mkF m 29 #[.val (.ref ta), .val (.ref td), .val (.int (1 : Int32))] []))
        refine Go.st (fun _ k' => XS.goto X0.here hx rfl (pc0 := 29) (pc' := 9) rfl (hb hby d12_29) (by decide) (by decide) k') ?_
        show Go p e below s _ _ _ (s₁.setTop (mkF m 9 #[.val (.ref ta), .val (.ref td), .val (.int (1 : Int32))] []))
        refine Go.st (fun _ k' => XS.iloadN X0.here hx rfl (hb hby d12_9) rfl k') ?_
        show Go p e below s _ _ _ (s₁.setTop (mkF m 10 #[.val (.ref ta), .val (.ref td), .val (.int (1 : Int32))] [(.int (1 : Int32))]))
        refine Go.st (fun _ k' => XS.aloadN X0.here hx rfl (hb hby d12_10) rfl rfl k') ?_
        show Go p e below s _ _ _ (s₁.setTop (mkF m 11 #[.val (.ref ta), .val (.ref td), .val (.int (1 : Int32))] [(.ref ta), (.int (1 : Int32))]))
        obtain ⟨cl23, Ar23, qc23, Sz23, Nn23, Ha23, Gf23⟩ := id v12
        refine Go.st (fun _ k' => X0.arraylength hx (by rw [e0]; exact Ar23.1) (State.isArrayOf_alike hZ.alike Ar23.2.1) (g := (mkF m 11 #[.val (.ref ta), .val (.ref td), .val (.int (1 : Int32))] [(.ref ta), (.int (1 : Int32))])) rfl rfl (hb hby d12_11) _ k') ?_
        rw [len_of Sz23 Nn23]
        show Go p e below s _ _ _ (s₁.setTop (mkF m 12 #[.val (.ref ta), .val (.ref td), .val (.int (1 : Int32))] [(.int (1 : Int32)), (.int (1 : Int32))]))
        refine Go.st (fun _ k' => XS.icmpYes X0.here hx rfl (pc0 := 12) (pc' := 32) rfl (hb hby d12_12) rfl (XT.ii_ge_t (by decide)) (by decide) (by decide) k') ?_
        show Go p e below s _ _ _ (s₁.setTop (mkF m 32 #[.val (.ref ta), .val (.ref td), .val (.int (1 : Int32))] []))
        refine Go.st (fun _ k' => XS.iconst X0.here hx rfl (hb hby d12_32) k') ?_
        show Go p e below s _ _ _ (s₁.setTop (mkF m 33 #[.val (.ref ta), .val (.ref td), .val (.int (1 : Int32))] [(.int (1 : Int32))]))
        refine Go.retB X0 hx hlk (t := .boolean) Bd.returns (by simp) (hb hby d12_33) (by decide) (by decide) e0 ?_
        exact ⟨(by simp [nar, hc22]), N0, rfl⟩
      · refine Go.st (fun _ k' => XS.icmpNo X0.here hx rfl (hb hby d12_21) rfl (XT.ii_eq_f hc22) k') ?_
        show Go p e below s _ _ _ (s₁.setTop (mkF m 24 #[.val (.ref ta), .val (.ref td), .val (.int (0 : Int32))] []))
        refine Go.st (fun _ k' => XS.iconst X0.here hx rfl (hb hby d12_24) k') ?_
        show Go p e below s _ _ _ (s₁.setTop (mkF m 25 #[.val (.ref ta), .val (.ref td), .val (.int (0 : Int32))] [(.int (0 : Int32))]))
        refine Go.retB X0 hx hlk (t := .boolean) Bd.returns (by simp) (hb hby d12_25) (by decide) (by decide) e0 ?_
        exact ⟨(by simp [nar, hc22]), N0, rfl⟩
    · have v24 : Arv Z h0 td kd .byte (2 : Int32) [(.int pb), (.int qb)] (.int (0 : Int32)) := Vd
      show Go p e below s _ _ _ (s₁.setTop (mkF m 0 #[.val (.ref ta), .val (.ref td), .unset] []))
      refine Go.st (fun _ k' => XS.aloadN X0.here hx rfl (hb hby d12_0) rfl rfl k') ?_
      show Go p e below s _ _ _ (s₁.setTop (mkF m 1 #[.val (.ref ta), .val (.ref td), .unset] [(.ref ta)]))
      obtain ⟨cl25, Ar25, qc25, Sz25, Nn25, Ha25, Gf25⟩ := id v12
      refine Go.st (fun _ k' => X0.arraylength hx (by rw [e0]; exact Ar25.1) (State.isArrayOf_alike hZ.alike Ar25.2.1) (g := (mkF m 1 #[.val (.ref ta), .val (.ref td), .unset] [(.ref ta)])) rfl rfl (hb hby d12_1) _ k') ?_
      rw [len_of Sz25 Nn25]
      show Go p e below s _ _ _ (s₁.setTop (mkF m 2 #[.val (.ref ta), .val (.ref td), .unset] [(.int (1 : Int32))]))
      refine Go.st (fun _ k' => XS.aloadN X0.here hx rfl (hb hby d12_2) rfl rfl k') ?_
      show Go p e below s _ _ _ (s₁.setTop (mkF m 3 #[.val (.ref ta), .val (.ref td), .unset] [(.ref td), (.int (1 : Int32))]))
      obtain ⟨cl26, Ar26, qc26, Sz26, Nn26, Ha26, Gf26⟩ := id v24
      refine Go.st (fun _ k' => X0.arraylength hx (by rw [e0]; exact Ar26.1) (State.isArrayOf_alike hZ.alike Ar26.2.1) (g := (mkF m 3 #[.val (.ref ta), .val (.ref td), .unset] [(.ref td), (.int (1 : Int32))])) rfl rfl (hb hby d12_3) _ k') ?_
      rw [len_of Sz26 Nn26]
      show Go p e below s _ _ _ (s₁.setTop (mkF m 4 #[.val (.ref ta), .val (.ref td), .unset] [(.int (2 : Int32)), (.int (1 : Int32))]))
      refine Go.st (fun _ k' => XS.icmpYes X0.here hx rfl (pc0 := 4) (pc' := 34) rfl (hb hby d12_4) rfl (XT.ii_ne_t (by decide)) (by decide) (by decide) k') ?_
      show Go p e below s _ _ _ (s₁.setTop (mkF m 34 #[.val (.ref ta), .val (.ref td), .unset] []))
      refine Go.st (fun _ k' => XS.iconst X0.here hx rfl (hb hby d12_34) k') ?_
      show Go p e below s _ _ _ (s₁.setTop (mkF m 35 #[.val (.ref ta), .val (.ref td), .unset] [(.int (0 : Int32))]))
      refine Go.retB X0 hx hlk (t := .boolean) Bd.returns (by simp) (hb hby d12_35) (by decide) (by decide) e0 ?_
      exact ⟨(by simp [nar]), N0, rfl⟩
  · have v27 : Arv Z h0 ta ka .byte (2 : Int32) [(.int pa), (.int qa)] (.int (0 : Int32)) := Va
    rcases own_l2 lb q_lb with rfl | ⟨pb, rfl⟩ | ⟨pb, qb, rfl⟩
    · have v28 : Arv Z h0 td kd .byte (0 : Int32) [] (.int (0 : Int32)) := Vd
      show Go p e below s _ _ _ (s₁.setTop (mkF m 0 #[.val (.ref ta), .val (.ref td), .unset] []))
      refine Go.st (fun _ k' => XS.aloadN X0.here hx rfl (hb hby d12_0) rfl rfl k') ?_
      show Go p e below s _ _ _ (s₁.setTop (mkF m 1 #[.val (.ref ta), .val (.ref td), .unset] [(.ref ta)]))
      obtain ⟨cl29, Ar29, qc29, Sz29, Nn29, Ha29, Gf29⟩ := id v27
      refine Go.st (fun _ k' => X0.arraylength hx (by rw [e0]; exact Ar29.1) (State.isArrayOf_alike hZ.alike Ar29.2.1) (g := (mkF m 1 #[.val (.ref ta), .val (.ref td), .unset] [(.ref ta)])) rfl rfl (hb hby d12_1) _ k') ?_
      rw [len_of Sz29 Nn29]
      show Go p e below s _ _ _ (s₁.setTop (mkF m 2 #[.val (.ref ta), .val (.ref td), .unset] [(.int (2 : Int32))]))
      refine Go.st (fun _ k' => XS.aloadN X0.here hx rfl (hb hby d12_2) rfl rfl k') ?_
      show Go p e below s _ _ _ (s₁.setTop (mkF m 3 #[.val (.ref ta), .val (.ref td), .unset] [(.ref td), (.int (2 : Int32))]))
      obtain ⟨cl30, Ar30, qc30, Sz30, Nn30, Ha30, Gf30⟩ := id v28
      refine Go.st (fun _ k' => X0.arraylength hx (by rw [e0]; exact Ar30.1) (State.isArrayOf_alike hZ.alike Ar30.2.1) (g := (mkF m 3 #[.val (.ref ta), .val (.ref td), .unset] [(.ref td), (.int (2 : Int32))])) rfl rfl (hb hby d12_3) _ k') ?_
      rw [len_of Sz30 Nn30]
      show Go p e below s _ _ _ (s₁.setTop (mkF m 4 #[.val (.ref ta), .val (.ref td), .unset] [(.int (0 : Int32)), (.int (2 : Int32))]))
      refine Go.st (fun _ k' => XS.icmpYes X0.here hx rfl (pc0 := 4) (pc' := 34) rfl (hb hby d12_4) rfl (XT.ii_ne_t (by decide)) (by decide) (by decide) k') ?_
      show Go p e below s _ _ _ (s₁.setTop (mkF m 34 #[.val (.ref ta), .val (.ref td), .unset] []))
      refine Go.st (fun _ k' => XS.iconst X0.here hx rfl (hb hby d12_34) k') ?_
      show Go p e below s _ _ _ (s₁.setTop (mkF m 35 #[.val (.ref ta), .val (.ref td), .unset] [(.int (0 : Int32))]))
      refine Go.retB X0 hx hlk (t := .boolean) Bd.returns (by simp) (hb hby d12_35) (by decide) (by decide) e0 ?_
      exact ⟨(by simp [nar]), N0, rfl⟩
    · have v31 : Arv Z h0 td kd .byte (1 : Int32) [(.int pb)] (.int (0 : Int32)) := Vd
      show Go p e below s _ _ _ (s₁.setTop (mkF m 0 #[.val (.ref ta), .val (.ref td), .unset] []))
      refine Go.st (fun _ k' => XS.aloadN X0.here hx rfl (hb hby d12_0) rfl rfl k') ?_
      show Go p e below s _ _ _ (s₁.setTop (mkF m 1 #[.val (.ref ta), .val (.ref td), .unset] [(.ref ta)]))
      obtain ⟨cl32, Ar32, qc32, Sz32, Nn32, Ha32, Gf32⟩ := id v27
      refine Go.st (fun _ k' => X0.arraylength hx (by rw [e0]; exact Ar32.1) (State.isArrayOf_alike hZ.alike Ar32.2.1) (g := (mkF m 1 #[.val (.ref ta), .val (.ref td), .unset] [(.ref ta)])) rfl rfl (hb hby d12_1) _ k') ?_
      rw [len_of Sz32 Nn32]
      show Go p e below s _ _ _ (s₁.setTop (mkF m 2 #[.val (.ref ta), .val (.ref td), .unset] [(.int (2 : Int32))]))
      refine Go.st (fun _ k' => XS.aloadN X0.here hx rfl (hb hby d12_2) rfl rfl k') ?_
      show Go p e below s _ _ _ (s₁.setTop (mkF m 3 #[.val (.ref ta), .val (.ref td), .unset] [(.ref td), (.int (2 : Int32))]))
      obtain ⟨cl33, Ar33, qc33, Sz33, Nn33, Ha33, Gf33⟩ := id v31
      refine Go.st (fun _ k' => X0.arraylength hx (by rw [e0]; exact Ar33.1) (State.isArrayOf_alike hZ.alike Ar33.2.1) (g := (mkF m 3 #[.val (.ref ta), .val (.ref td), .unset] [(.ref td), (.int (2 : Int32))])) rfl rfl (hb hby d12_3) _ k') ?_
      rw [len_of Sz33 Nn33]
      show Go p e below s _ _ _ (s₁.setTop (mkF m 4 #[.val (.ref ta), .val (.ref td), .unset] [(.int (1 : Int32)), (.int (2 : Int32))]))
      refine Go.st (fun _ k' => XS.icmpYes X0.here hx rfl (pc0 := 4) (pc' := 34) rfl (hb hby d12_4) rfl (XT.ii_ne_t (by decide)) (by decide) (by decide) k') ?_
      show Go p e below s _ _ _ (s₁.setTop (mkF m 34 #[.val (.ref ta), .val (.ref td), .unset] []))
      refine Go.st (fun _ k' => XS.iconst X0.here hx rfl (hb hby d12_34) k') ?_
      show Go p e below s _ _ _ (s₁.setTop (mkF m 35 #[.val (.ref ta), .val (.ref td), .unset] [(.int (0 : Int32))]))
      refine Go.retB X0 hx hlk (t := .boolean) Bd.returns (by simp) (hb hby d12_35) (by decide) (by decide) e0 ?_
      exact ⟨(by simp [nar]), N0, rfl⟩
    · have v34 : Arv Z h0 td kd .byte (2 : Int32) [(.int pb), (.int qb)] (.int (0 : Int32)) := Vd
      show Go p e below s _ _ _ (s₁.setTop (mkF m 0 #[.val (.ref ta), .val (.ref td), .unset] []))
      refine Go.st (fun _ k' => XS.aloadN X0.here hx rfl (hb hby d12_0) rfl rfl k') ?_
      show Go p e below s _ _ _ (s₁.setTop (mkF m 1 #[.val (.ref ta), .val (.ref td), .unset] [(.ref ta)]))
      obtain ⟨cl35, Ar35, qc35, Sz35, Nn35, Ha35, Gf35⟩ := id v27
      refine Go.st (fun _ k' => X0.arraylength hx (by rw [e0]; exact Ar35.1) (State.isArrayOf_alike hZ.alike Ar35.2.1) (g := (mkF m 1 #[.val (.ref ta), .val (.ref td), .unset] [(.ref ta)])) rfl rfl (hb hby d12_1) _ k') ?_
      rw [len_of Sz35 Nn35]
      show Go p e below s _ _ _ (s₁.setTop (mkF m 2 #[.val (.ref ta), .val (.ref td), .unset] [(.int (2 : Int32))]))
      refine Go.st (fun _ k' => XS.aloadN X0.here hx rfl (hb hby d12_2) rfl rfl k') ?_
      show Go p e below s _ _ _ (s₁.setTop (mkF m 3 #[.val (.ref ta), .val (.ref td), .unset] [(.ref td), (.int (2 : Int32))]))
      obtain ⟨cl36, Ar36, qc36, Sz36, Nn36, Ha36, Gf36⟩ := id v34
      refine Go.st (fun _ k' => X0.arraylength hx (by rw [e0]; exact Ar36.1) (State.isArrayOf_alike hZ.alike Ar36.2.1) (g := (mkF m 3 #[.val (.ref ta), .val (.ref td), .unset] [(.ref td), (.int (2 : Int32))])) rfl rfl (hb hby d12_3) _ k') ?_
      rw [len_of Sz36 Nn36]
      show Go p e below s _ _ _ (s₁.setTop (mkF m 4 #[.val (.ref ta), .val (.ref td), .unset] [(.int (2 : Int32)), (.int (2 : Int32))]))
      refine Go.st (fun _ k' => XS.icmpNo X0.here hx rfl (hb hby d12_4) rfl (XT.ii_ne_f (by decide)) k') ?_
      show Go p e below s _ _ _ (s₁.setTop (mkF m 7 #[.val (.ref ta), .val (.ref td), .unset] []))
      refine Go.st (fun _ k' => XS.iconst X0.here hx rfl (hb hby d12_7) k') ?_
      show Go p e below s _ _ _ (s₁.setTop (mkF m 8 #[.val (.ref ta), .val (.ref td), .unset] [(.int (0 : Int32))]))
      refine Go.st (fun _ k' => XS.istoreN X0.here hx rfl (hb hby d12_8) rfl (l' := #[.val (.ref ta), .val (.ref td), .val (.int (0 : Int32))]) rfl k') ?_
      show Go p e below s _ _ _ (s₁.setTop (mkF m 9 #[.val (.ref ta), .val (.ref td), .val (.int (0 : Int32))] []))
      refine Go.st (fun _ k' => XS.iloadN X0.here hx rfl (hb hby d12_9) rfl k') ?_
      show Go p e below s _ _ _ (s₁.setTop (mkF m 10 #[.val (.ref ta), .val (.ref td), .val (.int (0 : Int32))] [(.int (0 : Int32))]))
      refine Go.st (fun _ k' => XS.aloadN X0.here hx rfl (hb hby d12_10) rfl rfl k') ?_
      show Go p e below s _ _ _ (s₁.setTop (mkF m 11 #[.val (.ref ta), .val (.ref td), .val (.int (0 : Int32))] [(.ref ta), (.int (0 : Int32))]))
      obtain ⟨cl37, Ar37, qc37, Sz37, Nn37, Ha37, Gf37⟩ := id v27
      refine Go.st (fun _ k' => X0.arraylength hx (by rw [e0]; exact Ar37.1) (State.isArrayOf_alike hZ.alike Ar37.2.1) (g := (mkF m 11 #[.val (.ref ta), .val (.ref td), .val (.int (0 : Int32))] [(.ref ta), (.int (0 : Int32))])) rfl rfl (hb hby d12_11) _ k') ?_
      rw [len_of Sz37 Nn37]
      show Go p e below s _ _ _ (s₁.setTop (mkF m 12 #[.val (.ref ta), .val (.ref td), .val (.int (0 : Int32))] [(.int (2 : Int32)), (.int (0 : Int32))]))
      refine Go.st (fun _ k' => XS.icmpNo X0.here hx rfl (hb hby d12_12) rfl (XT.ii_ge_f (by decide)) k') ?_
      show Go p e below s _ _ _ (s₁.setTop (mkF m 15 #[.val (.ref ta), .val (.ref td), .val (.int (0 : Int32))] []))
      refine Go.st (fun _ k' => XS.aloadN X0.here hx rfl (hb hby d12_15) rfl rfl k') ?_
      show Go p e below s _ _ _ (s₁.setTop (mkF m 16 #[.val (.ref ta), .val (.ref td), .val (.int (0 : Int32))] [(.ref ta)]))
      refine Go.st (fun _ k' => XS.iloadN X0.here hx rfl (hb hby d12_16) rfl k') ?_
      show Go p e below s _ _ _ (s₁.setTop (mkF m 17 #[.val (.ref ta), .val (.ref td), .val (.int (0 : Int32))] [(.int (0 : Int32)), (.ref ta)]))
      obtain ⟨cl38, Ar38, qc38, Sz38, Nn38, Ha38, Gf38⟩ := id v27
      refine Go.st (fun _ k' => X0.baloadBytes hx (j := (0 : Int32)) (v := (.int pa)) (by rw [e0]; exact Ar38.1) (State.isArrayOf_alike hZ.alike Ar38.2.1) Ar38.2.2 (inb_of Sz38 ⟨by decide, by decide⟩) (Ha38.at (inb_of Sz38 ⟨by decide, by decide⟩) rfl) (g := (mkF m 17 #[.val (.ref ta), .val (.ref td), .val (.int (0 : Int32))] [(.int (0 : Int32)), (.ref ta)])) rfl rfl (hb hby d12_17) _ k') ?_
      show Go p e below s _ _ _ (s₁.setTop (mkF m 18 #[.val (.ref ta), .val (.ref td), .val (.int (0 : Int32))] [(.int pa)]))
      refine Go.st (fun _ k' => XS.aloadN X0.here hx rfl (hb hby d12_18) rfl rfl k') ?_
      show Go p e below s _ _ _ (s₁.setTop (mkF m 19 #[.val (.ref ta), .val (.ref td), .val (.int (0 : Int32))] [(.ref td), (.int pa)]))
      refine Go.st (fun _ k' => XS.iloadN X0.here hx rfl (hb hby d12_19) rfl k') ?_
      show Go p e below s _ _ _ (s₁.setTop (mkF m 20 #[.val (.ref ta), .val (.ref td), .val (.int (0 : Int32))] [(.int (0 : Int32)), (.ref td), (.int pa)]))
      obtain ⟨cl39, Ar39, qc39, Sz39, Nn39, Ha39, Gf39⟩ := id v34
      refine Go.st (fun _ k' => X0.baloadBytes hx (j := (0 : Int32)) (v := (.int pb)) (by rw [e0]; exact Ar39.1) (State.isArrayOf_alike hZ.alike Ar39.2.1) Ar39.2.2 (inb_of Sz39 ⟨by decide, by decide⟩) (Ha39.at (inb_of Sz39 ⟨by decide, by decide⟩) rfl) (g := (mkF m 20 #[.val (.ref ta), .val (.ref td), .val (.int (0 : Int32))] [(.int (0 : Int32)), (.ref td), (.int pa)])) rfl rfl (hb hby d12_20) _ k') ?_
      show Go p e below s _ _ _ (s₁.setTop (mkF m 21 #[.val (.ref ta), .val (.ref td), .val (.int (0 : Int32))] [(.int pb), (.int pa)]))
      by_cases hc40 : pa = pb
      · refine Go.st (fun _ k' => XS.icmpYes X0.here hx rfl (pc0 := 21) (pc' := 26) rfl (hb hby d12_21) rfl (XT.ii_eq_t hc40) (by decide) (by decide) k') ?_
        show Go p e below s _ _ _ (s₁.setTop (mkF m 26 #[.val (.ref ta), .val (.ref td), .val (.int (0 : Int32))] []))
        refine Go.st (fun _ k' => XS.iinc X0.here hx rfl (hb hby d12_26) rfl (l' := #[.val (.ref ta), .val (.ref td), .val (.int (1 : Int32))]) rfl k') ?_
        show Go p e below s _ _ _ (s₁.setTop (mkF m 29 #[.val (.ref ta), .val (.ref td), .val (.int (1 : Int32))] []))
        refine Go.st (fun _ k' => XS.goto X0.here hx rfl (pc0 := 29) (pc' := 9) rfl (hb hby d12_29) (by decide) (by decide) k') ?_
        show Go p e below s _ _ _ (s₁.setTop (mkF m 9 #[.val (.ref ta), .val (.ref td), .val (.int (1 : Int32))] []))
        refine Go.st (fun _ k' => XS.iloadN X0.here hx rfl (hb hby d12_9) rfl k') ?_
        show Go p e below s _ _ _ (s₁.setTop (mkF m 10 #[.val (.ref ta), .val (.ref td), .val (.int (1 : Int32))] [(.int (1 : Int32))]))
        refine Go.st (fun _ k' => XS.aloadN X0.here hx rfl (hb hby d12_10) rfl rfl k') ?_
        show Go p e below s _ _ _ (s₁.setTop (mkF m 11 #[.val (.ref ta), .val (.ref td), .val (.int (1 : Int32))] [(.ref ta), (.int (1 : Int32))]))
        obtain ⟨cl41, Ar41, qc41, Sz41, Nn41, Ha41, Gf41⟩ := id v27
        refine Go.st (fun _ k' => X0.arraylength hx (by rw [e0]; exact Ar41.1) (State.isArrayOf_alike hZ.alike Ar41.2.1) (g := (mkF m 11 #[.val (.ref ta), .val (.ref td), .val (.int (1 : Int32))] [(.ref ta), (.int (1 : Int32))])) rfl rfl (hb hby d12_11) _ k') ?_
        rw [len_of Sz41 Nn41]
        show Go p e below s _ _ _ (s₁.setTop (mkF m 12 #[.val (.ref ta), .val (.ref td), .val (.int (1 : Int32))] [(.int (2 : Int32)), (.int (1 : Int32))]))
        refine Go.st (fun _ k' => XS.icmpNo X0.here hx rfl (hb hby d12_12) rfl (XT.ii_ge_f (by decide)) k') ?_
        show Go p e below s _ _ _ (s₁.setTop (mkF m 15 #[.val (.ref ta), .val (.ref td), .val (.int (1 : Int32))] []))
        refine Go.st (fun _ k' => XS.aloadN X0.here hx rfl (hb hby d12_15) rfl rfl k') ?_
        show Go p e below s _ _ _ (s₁.setTop (mkF m 16 #[.val (.ref ta), .val (.ref td), .val (.int (1 : Int32))] [(.ref ta)]))
        refine Go.st (fun _ k' => XS.iloadN X0.here hx rfl (hb hby d12_16) rfl k') ?_
        show Go p e below s _ _ _ (s₁.setTop (mkF m 17 #[.val (.ref ta), .val (.ref td), .val (.int (1 : Int32))] [(.int (1 : Int32)), (.ref ta)]))
        obtain ⟨cl42, Ar42, qc42, Sz42, Nn42, Ha42, Gf42⟩ := id v27
        refine Go.st (fun _ k' => X0.baloadBytes hx (j := (1 : Int32)) (v := (.int qa)) (by rw [e0]; exact Ar42.1) (State.isArrayOf_alike hZ.alike Ar42.2.1) Ar42.2.2 (inb_of Sz42 ⟨by decide, by decide⟩) (Ha42.at (inb_of Sz42 ⟨by decide, by decide⟩) rfl) (g := (mkF m 17 #[.val (.ref ta), .val (.ref td), .val (.int (1 : Int32))] [(.int (1 : Int32)), (.ref ta)])) rfl rfl (hb hby d12_17) _ k') ?_
        show Go p e below s _ _ _ (s₁.setTop (mkF m 18 #[.val (.ref ta), .val (.ref td), .val (.int (1 : Int32))] [(.int qa)]))
        refine Go.st (fun _ k' => XS.aloadN X0.here hx rfl (hb hby d12_18) rfl rfl k') ?_
        show Go p e below s _ _ _ (s₁.setTop (mkF m 19 #[.val (.ref ta), .val (.ref td), .val (.int (1 : Int32))] [(.ref td), (.int qa)]))
        refine Go.st (fun _ k' => XS.iloadN X0.here hx rfl (hb hby d12_19) rfl k') ?_
        show Go p e below s _ _ _ (s₁.setTop (mkF m 20 #[.val (.ref ta), .val (.ref td), .val (.int (1 : Int32))] [(.int (1 : Int32)), (.ref td), (.int qa)]))
        obtain ⟨cl43, Ar43, qc43, Sz43, Nn43, Ha43, Gf43⟩ := id v34
        refine Go.st (fun _ k' => X0.baloadBytes hx (j := (1 : Int32)) (v := (.int qb)) (by rw [e0]; exact Ar43.1) (State.isArrayOf_alike hZ.alike Ar43.2.1) Ar43.2.2 (inb_of Sz43 ⟨by decide, by decide⟩) (Ha43.at (inb_of Sz43 ⟨by decide, by decide⟩) rfl) (g := (mkF m 20 #[.val (.ref ta), .val (.ref td), .val (.int (1 : Int32))] [(.int (1 : Int32)), (.ref td), (.int qa)])) rfl rfl (hb hby d12_20) _ k') ?_
        show Go p e below s _ _ _ (s₁.setTop (mkF m 21 #[.val (.ref ta), .val (.ref td), .val (.int (1 : Int32))] [(.int qb), (.int qa)]))
        by_cases hc44 : qa = qb
        · refine Go.st (fun _ k' => XS.icmpYes X0.here hx rfl (pc0 := 21) (pc' := 26) rfl (hb hby d12_21) rfl (XT.ii_eq_t hc44) (by decide) (by decide) k') ?_
          show Go p e below s _ _ _ (s₁.setTop (mkF m 26 #[.val (.ref ta), .val (.ref td), .val (.int (1 : Int32))] []))
          refine Go.st (fun _ k' => XS.iinc X0.here hx rfl (hb hby d12_26) rfl (l' := #[.val (.ref ta), .val (.ref td), .val (.int (2 : Int32))]) rfl k') ?_
          show Go p e below s _ _ _ (s₁.setTop (mkF m 29 #[.val (.ref ta), .val (.ref td), .val (.int (2 : Int32))] []))
          refine Go.st (fun _ k' => XS.goto X0.here hx rfl (pc0 := 29) (pc' := 9) rfl (hb hby d12_29) (by decide) (by decide) k') ?_
          show Go p e below s _ _ _ (s₁.setTop (mkF m 9 #[.val (.ref ta), .val (.ref td), .val (.int (2 : Int32))] []))
          refine Go.st (fun _ k' => XS.iloadN X0.here hx rfl (hb hby d12_9) rfl k') ?_
          show Go p e below s _ _ _ (s₁.setTop (mkF m 10 #[.val (.ref ta), .val (.ref td), .val (.int (2 : Int32))] [(.int (2 : Int32))]))
          refine Go.st (fun _ k' => XS.aloadN X0.here hx rfl (hb hby d12_10) rfl rfl k') ?_
          show Go p e below s _ _ _ (s₁.setTop (mkF m 11 #[.val (.ref ta), .val (.ref td), .val (.int (2 : Int32))] [(.ref ta), (.int (2 : Int32))]))
          obtain ⟨cl45, Ar45, qc45, Sz45, Nn45, Ha45, Gf45⟩ := id v27
          refine Go.st (fun _ k' => X0.arraylength hx (by rw [e0]; exact Ar45.1) (State.isArrayOf_alike hZ.alike Ar45.2.1) (g := (mkF m 11 #[.val (.ref ta), .val (.ref td), .val (.int (2 : Int32))] [(.ref ta), (.int (2 : Int32))])) rfl rfl (hb hby d12_11) _ k') ?_
          rw [len_of Sz45 Nn45]
          show Go p e below s _ _ _ (s₁.setTop (mkF m 12 #[.val (.ref ta), .val (.ref td), .val (.int (2 : Int32))] [(.int (2 : Int32)), (.int (2 : Int32))]))
          refine Go.st (fun _ k' => XS.icmpYes X0.here hx rfl (pc0 := 12) (pc' := 32) rfl (hb hby d12_12) rfl (XT.ii_ge_t (by decide)) (by decide) (by decide) k') ?_
          show Go p e below s _ _ _ (s₁.setTop (mkF m 32 #[.val (.ref ta), .val (.ref td), .val (.int (2 : Int32))] []))
          refine Go.st (fun _ k' => XS.iconst X0.here hx rfl (hb hby d12_32) k') ?_
          show Go p e below s _ _ _ (s₁.setTop (mkF m 33 #[.val (.ref ta), .val (.ref td), .val (.int (2 : Int32))] [(.int (1 : Int32))]))
          refine Go.retB X0 hx hlk (t := .boolean) Bd.returns (by simp) (hb hby d12_33) (by decide) (by decide) e0 ?_
          exact ⟨(by simp [nar, hc40, hc44]), N0, rfl⟩
        · refine Go.st (fun _ k' => XS.icmpNo X0.here hx rfl (hb hby d12_21) rfl (XT.ii_eq_f hc44) k') ?_
          show Go p e below s _ _ _ (s₁.setTop (mkF m 24 #[.val (.ref ta), .val (.ref td), .val (.int (1 : Int32))] []))
          refine Go.st (fun _ k' => XS.iconst X0.here hx rfl (hb hby d12_24) k') ?_
          show Go p e below s _ _ _ (s₁.setTop (mkF m 25 #[.val (.ref ta), .val (.ref td), .val (.int (1 : Int32))] [(.int (0 : Int32))]))
          refine Go.retB X0 hx hlk (t := .boolean) Bd.returns (by simp) (hb hby d12_25) (by decide) (by decide) e0 ?_
          exact ⟨(by simp [nar, hc40, hc44]), N0, rfl⟩
      · refine Go.st (fun _ k' => XS.icmpNo X0.here hx rfl (hb hby d12_21) rfl (XT.ii_eq_f hc40) k') ?_
        show Go p e below s _ _ _ (s₁.setTop (mkF m 24 #[.val (.ref ta), .val (.ref td), .val (.int (0 : Int32))] []))
        refine Go.st (fun _ k' => XS.iconst X0.here hx rfl (hb hby d12_24) k') ?_
        show Go p e below s _ _ _ (s₁.setTop (mkF m 25 #[.val (.ref ta), .val (.ref td), .val (.int (0 : Int32))] [(.int (0 : Int32))]))
        refine Go.retB X0 hx hlk (t := .boolean) Bd.returns (by simp) (hb hby d12_25) (by decide) (by decide) e0 ?_
        exact ⟨(by simp [nar, hc40]), N0, rfl⟩
theorem d11_0 : decode jdk_42_method_66_code 0 = .ok (.aload_n 0, 1) := by decide +kernel
theorem d11_1 : decode jdk_42_method_66_code 1 = .ok (.aload_n 1, 1) := by decide +kernel
theorem d11_2 : decode jdk_42_method_66_code 2 = .ok (.if_acmp .ne 5, 3) := by decide +kernel
theorem d11_7 : decode jdk_42_method_66_code 7 = .ok (.aload_n 1, 1) := by decide +kernel
theorem d11_8 : decode jdk_42_method_66_code 8 = .ok (.instanceof 10, 3) := by decide +kernel
theorem d11_11 : decode jdk_42_method_66_code 11 = .ok (.ifCond .eq 43, 3) := by decide +kernel
theorem d11_14 : decode jdk_42_method_66_code 14 = .ok (.aload_n 1, 1) := by decide +kernel
theorem d11_15 : decode jdk_42_method_66_code 15 = .ok (.checkcast 10, 3) := by decide +kernel
theorem d11_18 : decode jdk_42_method_66_code 18 = .ok (.astore_n 2, 1) := by decide +kernel
theorem d11_19 : decode jdk_42_method_66_code 19 = .ok (.getstatic 38, 3) := by decide +kernel
theorem d11_22 : decode jdk_42_method_66_code 22 = .ok (.ifCond .eq 14, 3) := by decide +kernel
theorem d11_25 : decode jdk_42_method_66_code 25 = .ok (.aload_n 0, 1) := by decide +kernel
theorem d11_26 : decode jdk_42_method_66_code 26 = .ok (.getfield 15, 3) := by decide +kernel
theorem d11_29 : decode jdk_42_method_66_code 29 = .ok (.aload_n 2, 1) := by decide +kernel
theorem d11_30 : decode jdk_42_method_66_code 30 = .ok (.getfield 15, 3) := by decide +kernel
theorem d11_33 : decode jdk_42_method_66_code 33 = .ok (.if_icmp .ne 21, 3) := by decide +kernel
theorem d11_36 : decode jdk_42_method_66_code 36 = .ok (.aload_n 0, 1) := by decide +kernel
theorem d11_37 : decode jdk_42_method_66_code 37 = .ok (.getfield 9, 3) := by decide +kernel
theorem d11_40 : decode jdk_42_method_66_code 40 = .ok (.aload_n 2, 1) := by decide +kernel
theorem d11_41 : decode jdk_42_method_66_code 41 = .ok (.getfield 9, 3) := by decide +kernel
theorem pd___B_B_Z : parseMethodDescriptor "([B[B)Z" = some ⟨[(.array .byte), (.array .byte)], some .boolean⟩ := by decide +kernel
theorem d11_44 : decode jdk_42_method_66_code 44 = .ok (.invokestatic 541, 3) := by decide +kernel
theorem d11_47 : decode jdk_42_method_66_code 47 = .ok (.ifCond .eq 7, 3) := by decide +kernel
theorem d11_54 : decode jdk_42_method_66_code 54 = .ok (.iconst 0, 1) := by decide +kernel
theorem d11_55 : decode jdk_42_method_66_code 55 = .ok (.ireturn, 1) := by decide +kernel
theorem d11_50 : decode jdk_42_method_66_code 50 = .ok (.iconst 1, 1) := by decide +kernel
theorem d11_51 : decode jdk_42_method_66_code 51 = .ok (.goto 4, 3) := by decide +kernel
theorem ef_rm11_d (m : MethodId) (ob : Addr) (oc : Addr) : entryFrame m #[(.ref ob), (.ref oc)] 3 = mkF m 0 #[.val (.ref ob), .val (.ref oc), .unset] [] := by first | (simp [entryFrame, mkF, argsToLocals, Value.category]; done) | rfl
def Q11_d (Z : State) (ob : Addr) (oc : Addr) (cs : Int32) (ta : Addr) (ka : ClassId) (la : List Int32) (td : Addr) (kd : ClassId) (lb : List Int32) (h0 : Heap) (n0 : Nat) (v : Option Value) (h : Heap) (L : List Loc) : Prop := v = some (.int (if la = lb then (1 : Int32) else 0)) ∧ Fr n0 L ∧ h = h0
set_option maxRecDepth 65536 in
set_option maxHeartbeats 40000000 in
theorem rm11_d (l : Launch) (Z : State) (a0 : Array Value) (hw : ∀ d ∈ tables_1, d.before a0 Z = true) (ws : List Jvm.Cond) (ob : Addr) (oc : Addr) (cs : Int32) (ta : Addr) (ka : ClassId) (la : List Int32) (td : Addr) (kd : ClassId) (lb : List Int32) (h0 : Heap) (n0 : Nat) (O0 : Old Z n0 h0) (E_c : Exa Z h0 oc "java/lang/String") (Fva : Fld Z h0 ob "java/lang/String" "value" "[B" (.ref ta)) (Fca : Fld Z h0 ob "java/lang/String" "coder" "B" (.int (0 : Int32))) (Fvd : Fld Z h0 oc "java/lang/String" "value" "[B" (.ref td)) (Fcd : Fld Z h0 oc "java/lang/String" "coder" "B" (.int (0 : Int32))) (Va : Arv Z h0 ta ka .byte (Int32.ofNat (List.length la)) (List.map Value.int la) (.int (0 : Int32))) (Vd : Arv Z h0 td kd .byte (Int32.ofNat (List.length lb)) (List.map Value.int lb) (.int (0 : Int32))) (S_cs : Sta Z Z.heap "java/lang/String" "COMPACT_STRINGS" "Z" (.int cs)) (q_cs : ¬ cs = (0 : Int32)) (ne_bc : ob ≠ oc) (q_la : la.length ≤ 2) (q_lb : lb.length ≤ 2) :
    MetFree l (⟨"java/lang/String", "equals", "(Ljava/lang/Object;)Z"⟩ : MethodName) (head1 (Jvm.Cond.code (⟨"java/lang/String", "equals", "(Ljava/lang/Object;)Z"⟩ : MethodName) jdk_42_method_66_code 3 (some .boolean) :: ws) ({ frames := 1, cells := 0, slots := 0, locals := 14 } : Room)) (fun ay U => ay = #[(.ref ob), (.ref oc)] ∧ Z.Warmed39 U.vm ∧ U.heap = h0) (fun _ _ _ _ _ => True) (fun _ U o U' => ∃ v L, o = .returned v ∧ Q11_d Z ob oc cs ta ka la td kd lb h0 n0 v U'.heap L ∧ FrameEnd U o U' L ({ frames := 1, cells := 0, slots := 0, locals := 14 } : Room).cells ({ frames := 1, cells := 0, slots := 0, locals := 14 } : Room).slots) := by
  refine MetFree.of_bodySF (plainFor_of_name pn_java_lang_String) hisR ?_
  intro p e s m args below meth c s₁ Bd hml0 hP hK
  obtain ⟨rfl, hZ, hh⟩ := hP
  have hx := Bd.exec
  have hby := Bd.bytes
  have hlk : meth.locks = false := BodyLoose.notSynchronized Bd
  have hml : c.maxLocals = 3 := hml0
  have hown : s.vm.findClass "java/lang/String" = some m.cls := findClass_of_methodNamed Bd.named
  have hnm := (name_of_methodNamed Bd.named Bd.method).1
  have X0 : Stand p l e ({ frames := 1, cells := 0, slots := 0, locals := 14 } : Room) s m #[(.ref ob), (.ref oc)] below meth c s₁ [] 0 0 := Stand.of_body Bd
  have e0 : s₁.heap = h0 := by rw [← hh, Bd.state]; rfl
  have N0 := Fr.nil n0
  suffices hgo : Go p e below s 0 0 (Q11_d Z ob oc cs ta ka la td kd lb h0 n0) (s₁.setTop (mkF m 0 #[.val (.ref ob), .val (.ref oc), .unset] [])) by
    obtain ⟨t, o, h1, h2⟩ := hgo; exact ⟨t, o, castTop (ef_rm11_d m ob oc) h1, h2⟩
  show Go p e below s _ _ _ (s₁.setTop (mkF m 0 #[.val (.ref ob), .val (.ref oc), .unset] []))
  refine Go.st (fun _ k' => XS.aloadN X0.here hx rfl (hb hby d11_0) rfl rfl k') ?_
  show Go p e below s _ _ _ (s₁.setTop (mkF m 1 #[.val (.ref ob), .val (.ref oc), .unset] [(.ref ob)]))
  refine Go.st (fun _ k' => XS.aloadN X0.here hx rfl (hb hby d11_1) rfl rfl k') ?_
  show Go p e below s _ _ _ (s₁.setTop (mkF m 2 #[.val (.ref ob), .val (.ref oc), .unset] [(.ref oc), (.ref ob)]))
  refine Go.st (fun _ k' => Jvm.RoadKit.acmp (g := (mkF m 2 #[.val (.ref ob), .val (.ref oc), .unset] [(.ref oc), (.ref ob)])) X0 hx rfl rfl rfl (pc0 := 2) (pc' := 7) (same := false) rfl (hb hby d11_2) rfl (decide_eq_false fun q => ne_bc (Value.ref.inj q)) (by decide) (by decide) k') ?_
  show Go p e below s _ _ _ (s₁.setTop (mkF m 7 #[.val (.ref ob), .val (.ref oc), .unset] []))
  refine Go.st (fun _ k' => XS.aloadN X0.here hx rfl (hb hby d11_7) rfl rfl k') ?_
  show Go p e below s _ _ _ (s₁.setTop (mkF m 8 #[.val (.ref ob), .val (.ref oc), .unset] [(.ref oc)]))
  obtain ⟨T1, X1, e1, st1⟩ := instY X0 hx hZ hown (wdx hw 66 rfl) e0 (Ins.self E_c) (g := (mkF m 8 #[.val (.ref ob), .val (.ref oc), .unset] [(.ref oc)])) rfl rfl (hb hby d11_8)
  refine Go.st st1 ?_
  show Go p e below s _ _ _ (T1.setTop (mkF m 11 #[.val (.ref ob), .val (.ref oc), .unset] [(.int (1 : Int32))]))
  refine Go.st (fun _ k' => XS.ifNo X1.here hx rfl (hb hby d11_11) rfl (XT.i0_eq_f (by decide)) k') ?_
  show Go p e below s _ _ _ (T1.setTop (mkF m 14 #[.val (.ref ob), .val (.ref oc), .unset] []))
  refine Go.st (fun _ k' => XS.aloadN X1.here hx rfl (hb hby d11_14) rfl rfl k') ?_
  show Go p e below s _ _ _ (T1.setTop (mkF m 15 #[.val (.ref ob), .val (.ref oc), .unset] [(.ref oc)]))
  obtain ⟨T2, X2, e2, st2⟩ := castY X1 hx hZ hown (wdx hw 66 rfl) e1 (Ins.self E_c) (g := (mkF m 15 #[.val (.ref ob), .val (.ref oc), .unset] [(.ref oc)])) rfl rfl (hb hby d11_15)
  refine Go.st st2 ?_
  show Go p e below s _ _ _ (T2.setTop (mkF m 18 #[.val (.ref ob), .val (.ref oc), .unset] [(.ref oc)]))
  refine Go.st (fun _ k' => XS.astoreN X2.here hx rfl (hb hby d11_18) rfl rfl (l' := #[.val (.ref ob), .val (.ref oc), .val (.ref oc)]) rfl k') ?_
  show Go p e below s _ _ _ (T2.setTop (mkF m 19 #[.val (.ref ob), .val (.ref oc), .val (.ref oc)] []))
  obtain ⟨T3, X3, e3, st3⟩ := getS2 X2 hx hZ hown (host := "") (Or.inl (wdx hw 67 rfl)) Via.refl e2 (S_cs.ext O0.2) (g := (mkF m 19 #[.val (.ref ob), .val (.ref oc), .val (.ref oc)] [])) rfl (hb hby d11_19)
  refine Go.st st3 ?_
  show Go p e below s _ _ _ (T3.setTop (mkF m 22 #[.val (.ref ob), .val (.ref oc), .val (.ref oc)] [(.int cs)]))
  refine Go.st (fun _ k' => XS.ifNo X3.here hx rfl (hb hby d11_22) rfl (XT.i0_eq_f q_cs) k') ?_
  show Go p e below s _ _ _ (T3.setTop (mkF m 25 #[.val (.ref ob), .val (.ref oc), .val (.ref oc)] []))
  refine Go.st (fun _ k' => XS.aloadN X3.here hx rfl (hb hby d11_25) rfl rfl k') ?_
  show Go p e below s _ _ _ (T3.setTop (mkF m 26 #[.val (.ref ob), .val (.ref oc), .val (.ref oc)] [(.ref ob)]))
  obtain ⟨T4, X4, e4, st4⟩ := getF X3 hx hZ hown (host := "") (Or.inl (wdx hw 31 rfl)) Via.refl e3 Fca (g := (mkF m 26 #[.val (.ref ob), .val (.ref oc), .val (.ref oc)] [(.ref ob)])) rfl rfl (hb hby d11_26)
  refine Go.st st4 ?_
  show Go p e below s _ _ _ (T4.setTop (mkF m 29 #[.val (.ref ob), .val (.ref oc), .val (.ref oc)] [(.int (0 : Int32))]))
  refine Go.st (fun _ k' => XS.aloadN X4.here hx rfl (hb hby d11_29) rfl rfl k') ?_
  show Go p e below s _ _ _ (T4.setTop (mkF m 30 #[.val (.ref ob), .val (.ref oc), .val (.ref oc)] [(.ref oc), (.int (0 : Int32))]))
  obtain ⟨T5, X5, e5, st5⟩ := getF X4 hx hZ hown (host := "") (Or.inl (wdx hw 31 rfl)) Via.refl e4 Fcd (g := (mkF m 30 #[.val (.ref ob), .val (.ref oc), .val (.ref oc)] [(.ref oc), (.int (0 : Int32))])) rfl rfl (hb hby d11_30)
  refine Go.st st5 ?_
  show Go p e below s _ _ _ (T5.setTop (mkF m 33 #[.val (.ref ob), .val (.ref oc), .val (.ref oc)] [(.int (0 : Int32)), (.int (0 : Int32))]))
  refine Go.st (fun _ k' => XS.icmpNo X5.here hx rfl (hb hby d11_33) rfl (XT.ii_ne_f (by decide)) k') ?_
  show Go p e below s _ _ _ (T5.setTop (mkF m 36 #[.val (.ref ob), .val (.ref oc), .val (.ref oc)] []))
  refine Go.st (fun _ k' => XS.aloadN X5.here hx rfl (hb hby d11_36) rfl rfl k') ?_
  show Go p e below s _ _ _ (T5.setTop (mkF m 37 #[.val (.ref ob), .val (.ref oc), .val (.ref oc)] [(.ref ob)]))
  obtain ⟨T6, X6, e6, st6⟩ := getF X5 hx hZ hown (host := "") (Or.inl (wdx hw 30 rfl)) Via.refl e5 Fva (g := (mkF m 37 #[.val (.ref ob), .val (.ref oc), .val (.ref oc)] [(.ref ob)])) rfl rfl (hb hby d11_37)
  refine Go.st st6 ?_
  show Go p e below s _ _ _ (T6.setTop (mkF m 40 #[.val (.ref ob), .val (.ref oc), .val (.ref oc)] [(.ref ta)]))
  refine Go.st (fun _ k' => XS.aloadN X6.here hx rfl (hb hby d11_40) rfl rfl k') ?_
  show Go p e below s _ _ _ (T6.setTop (mkF m 41 #[.val (.ref ob), .val (.ref oc), .val (.ref oc)] [(.ref oc), (.ref ta)]))
  obtain ⟨T7, X7, e7, st7⟩ := getF X6 hx hZ hown (host := "") (Or.inl (wdx hw 30 rfl)) Via.refl e6 Fvd (g := (mkF m 41 #[.val (.ref ob), .val (.ref oc), .val (.ref oc)] [(.ref oc), (.ref ta)])) rfl rfl (hb hby d11_41)
  refine Go.st st7 ?_
  show Go p e below s _ _ _ (T7.setTop (mkF m 44 #[.val (.ref ob), .val (.ref oc), .val (.ref oc)] [(.ref td), (.ref ta)]))
  obtain ⟨_, _, ⟨T8, L8, k8, n8⟩, -, X8, ⟨Lc8, hQ8, l8, y8, z8⟩, st8⟩ := Jvm.LawKit.callS X7 hx (y := (⟨"java/lang/StringLatin1", "equals", "([B[B)Z"⟩ : MethodName)) hown (mvT hZ (wdx hw 68 rfl)) (mvT hZ (wdx hw 69 rfl)) (mvT hZ (wdx hw 70 rfl)) (mvT hZ (wdx hw 71 rfl)) (by decide) (backOf (W := 0) (rm12 l Z a0 hw [] ta td ka la kd lb h0 n0 O0 Va Vd q_la q_lb) hZ (wdx hw 71 rfl) (wdx hw 70 rfl) (by decide) (by decide)) (g := (mkF m 44 #[.val (.ref ob), .val (.ref oc), .val (.ref oc)] [(.ref td), (.ref ta)])) rfl (by rw [hml]; rfl) (argsL := [(.ref ta), (.ref td)]) (rest := []) (lenOf pd___B_B_Z rfl) rfl (by show 2 * 0 + _ ≤ _; exact Nat.le_of_eq rfl) (hb hby d11_44) (fun _ _ => ⟨rfl, e7, (by exact Nat.le_of_ble_eq_true rfl), (by exact Nat.le_of_ble_eq_true rfl)⟩)
  dsimp only [Pt.U, Pt.locs, Pt.cells, Pt.slots] at X8 l8 y8 z8 st8 hQ8
  subst l8 y8 z8
  obtain ⟨rfl, Nq8, eq8⟩ := hQ8
  have N8 := Fr.app N0 Nq8
  refine Go.st st8 ?_
  show Go p e below s _ _ _ (T8.setTop (mkF m 47 #[.val (.ref ob), .val (.ref oc), .val (.ref oc)] [(.int (if la = lb then (1 : Int32) else 0))]))
  by_cases hc9 : (if la = lb then (1 : Int32) else 0) = (0 : Int32)
  · refine Go.st (fun _ k' => XS.ifYes X8.here hx rfl (pc0 := 47) (pc' := 54) rfl (hb hby d11_47) rfl (XT.i0_eq_t hc9) (by decide) (by decide) k') ?_
    show Go p e below s _ _ _ (T8.setTop (mkF m 54 #[.val (.ref ob), .val (.ref oc), .val (.ref oc)] []))
    refine Go.st (fun _ k' => XS.iconst X8.here hx rfl (hb hby d11_54) k') ?_
    show Go p e below s _ _ _ (T8.setTop (mkF m 55 #[.val (.ref ob), .val (.ref oc), .val (.ref oc)] [(.int (0 : Int32))]))
    refine Go.retB X8 hx hlk (t := .boolean) Bd.returns (by simp) (hb hby d11_55) (by decide) (by decide) eq8 ?_
    exact ⟨(by rw [hc9]; rfl), N8, rfl⟩
  · refine Go.st (fun _ k' => XS.ifNo X8.here hx rfl (hb hby d11_47) rfl (XT.i0_eq_f hc9) k') ?_
    show Go p e below s _ _ _ (T8.setTop (mkF m 50 #[.val (.ref ob), .val (.ref oc), .val (.ref oc)] []))
    refine Go.st (fun _ k' => XS.iconst X8.here hx rfl (hb hby d11_50) k') ?_
    show Go p e below s _ _ _ (T8.setTop (mkF m 51 #[.val (.ref ob), .val (.ref oc), .val (.ref oc)] [(.int (1 : Int32))]))
    refine Go.st (fun _ k' => XS.goto X8.here hx rfl (pc0 := 51) (pc' := 55) rfl (hb hby d11_51) (by decide) (by decide) k') ?_
    show Go p e below s _ _ _ (T8.setTop (mkF m 55 #[.val (.ref ob), .val (.ref oc), .val (.ref oc)] [(.int (1 : Int32))]))
    refine Go.retB X8 hx hlk (t := .boolean) Bd.returns (by simp) (hb hby d11_55) (by decide) (by decide) eq8 ?_
    exact ⟨(by rw [own_b1 hc9]; rfl), N8, rfl⟩
theorem d11_5 : decode jdk_42_method_66_code 5 = .ok (.iconst 1, 1) := by decide +kernel
theorem d11_6 : decode jdk_42_method_66_code 6 = .ok (.ireturn, 1) := by decide +kernel
theorem ef_rm11 (m : MethodId) (ob : Addr) : entryFrame m #[(.ref ob), (.ref ob)] 3 = mkF m 0 #[.val (.ref ob), .val (.ref ob), .unset] [] := by first | (simp [entryFrame, mkF, argsToLocals, Value.category]; done) | rfl
def Q11 (Z : State) (ob : Addr) (h0 : Heap) (n0 : Nat) (v : Option Value) (h : Heap) (L : List Loc) : Prop := v = some (.int (1 : Int32)) ∧ Fr n0 L ∧ h = h0
set_option maxRecDepth 65536 in
set_option maxHeartbeats 40000000 in
theorem rm11 (l : Launch) (Z : State) (a0 : Array Value) (hw : ∀ d ∈ tables_1, d.before a0 Z = true) (ws : List Jvm.Cond) (ob : Addr) (h0 : Heap) (n0 : Nat) (O0 : Old Z n0 h0) :
    MetFree l (⟨"java/lang/String", "equals", "(Ljava/lang/Object;)Z"⟩ : MethodName) (head1 (Jvm.Cond.code (⟨"java/lang/String", "equals", "(Ljava/lang/Object;)Z"⟩ : MethodName) jdk_42_method_66_code 3 (some .boolean) :: ws) ({ frames := 0, cells := 0, slots := 0, locals := 0 } : Room)) (fun ay U => ay = #[(.ref ob), (.ref ob)] ∧ Z.Warmed39 U.vm ∧ U.heap = h0) (fun _ _ _ _ _ => True) (fun _ U o U' => ∃ v L, o = .returned v ∧ Q11 Z ob h0 n0 v U'.heap L ∧ FrameEnd U o U' L ({ frames := 0, cells := 0, slots := 0, locals := 0 } : Room).cells ({ frames := 0, cells := 0, slots := 0, locals := 0 } : Room).slots) := by
  refine MetFree.of_bodySF (plainFor_of_name pn_java_lang_String) hisR ?_
  intro p e s m args below meth c s₁ Bd hml0 hP hK
  obtain ⟨rfl, hZ, hh⟩ := hP
  have hx := Bd.exec
  have hby := Bd.bytes
  have hlk : meth.locks = false := BodyLoose.notSynchronized Bd
  have hml : c.maxLocals = 3 := hml0
  have hown : s.vm.findClass "java/lang/String" = some m.cls := findClass_of_methodNamed Bd.named
  have hnm := (name_of_methodNamed Bd.named Bd.method).1
  have X0 : Stand p l e ({ frames := 0, cells := 0, slots := 0, locals := 0 } : Room) s m #[(.ref ob), (.ref ob)] below meth c s₁ [] 0 0 := Stand.of_body Bd
  have e0 : s₁.heap = h0 := by rw [← hh, Bd.state]; rfl
  have N0 := Fr.nil n0
  suffices hgo : Go p e below s 0 0 (Q11 Z ob h0 n0) (s₁.setTop (mkF m 0 #[.val (.ref ob), .val (.ref ob), .unset] [])) by
    obtain ⟨t, o, h1, h2⟩ := hgo; exact ⟨t, o, castTop (ef_rm11 m ob) h1, h2⟩
  show Go p e below s _ _ _ (s₁.setTop (mkF m 0 #[.val (.ref ob), .val (.ref ob), .unset] []))
  refine Go.st (fun _ k' => XS.aloadN X0.here hx rfl (hb hby d11_0) rfl rfl k') ?_
  show Go p e below s _ _ _ (s₁.setTop (mkF m 1 #[.val (.ref ob), .val (.ref ob), .unset] [(.ref ob)]))
  refine Go.st (fun _ k' => XS.aloadN X0.here hx rfl (hb hby d11_1) rfl rfl k') ?_
  show Go p e below s _ _ _ (s₁.setTop (mkF m 2 #[.val (.ref ob), .val (.ref ob), .unset] [(.ref ob), (.ref ob)]))
  refine Go.st (fun _ k' => Jvm.RoadKit.acmp (g := (mkF m 2 #[.val (.ref ob), .val (.ref ob), .unset] [(.ref ob), (.ref ob)])) X0 hx rfl rfl rfl (pc0 := 2) (pc' := 5) (same := true) rfl (hb hby d11_2) rfl (decide_eq_true rfl) (by decide) (by decide) k') ?_
  show Go p e below s _ _ _ (s₁.setTop (mkF m 5 #[.val (.ref ob), .val (.ref ob), .unset] []))
  refine Go.st (fun _ k' => XS.iconst X0.here hx rfl (hb hby d11_5) k') ?_
  show Go p e below s _ _ _ (s₁.setTop (mkF m 6 #[.val (.ref ob), .val (.ref ob), .unset] [(.int (1 : Int32))]))
  refine Go.retB X0 hx hlk (t := .boolean) Bd.returns (by simp) (hb hby d11_6) (by decide) (by decide) e0 ?_
  exact ⟨rfl, N0, rfl⟩
theorem d2_0 : decode method_2_code 0 = .ok (.iload_n 0, 1) := by decide +kernel
theorem d2_1 : decode method_2_code 1 = .ok (.bipush 16, 2) := by decide +kernel
theorem d2_3 : decode method_2_code 3 = .ok (.iushr, 1) := by decide +kernel
theorem d2_4 : decode method_2_code 4 = .ok (.sipush 255, 3) := by decide +kernel
theorem d2_7 : decode method_2_code 7 = .ok (.iand, 1) := by decide +kernel
theorem d2_8 : decode method_2_code 8 = .ok (.iconst 3, 1) := by decide +kernel
theorem d2_9 : decode method_2_code 9 = .ok (.irem, 1) := by decide +kernel
theorem d2_10 : decode method_2_code 10 = .ok (.ireturn, 1) := by decide +kernel
theorem pn_com_example_indenture_indenture_model_ProjectActivityEqualsPinLaw : plainName "com/example/indenture/indenture/model/ProjectActivityEqualsPinLaw" = true := by first | (simp [plainName, overriddenIn]; done) | decide +kernel
theorem ef_rm2 (m : MethodId) (u : Int32) : entryFrame m #[(.int u)] 1 = mkF m 0 #[.val (.int u)] [] := by first | (simp [entryFrame, mkF, argsToLocals, Value.category]; done) | rfl
def Q2 (Z : State) (u : Int32) (h0 : Heap) (n0 : Nat) (v : Option Value) (h : Heap) (L : List Loc) : Prop := v = some (.int (fln u)) ∧ Fr n0 L ∧ h = h0
set_option maxRecDepth 65536 in
set_option maxHeartbeats 40000000 in
theorem rm2 (l : Launch) (Z : State) (a0 : Array Value) (hw : ∀ d ∈ tables_1, d.before a0 Z = true) (ws : List Jvm.Cond) (u : Int32) (h0 : Heap) (n0 : Nat) (O0 : Old Z n0 h0) :
    MetFree l (⟨"com/example/indenture/indenture/model/ProjectActivityEqualsPinLaw", "len", "(I)I"⟩ : MethodName) (head1 (Jvm.Cond.code (⟨"com/example/indenture/indenture/model/ProjectActivityEqualsPinLaw", "len", "(I)I"⟩ : MethodName) method_2_code 1 (some .int) :: ws) ({ frames := 0, cells := 0, slots := 0, locals := 0 } : Room)) (fun ay U => ay = #[(.int u)] ∧ Z.Warmed39 U.vm ∧ U.heap = h0) (fun _ _ _ _ _ => True) (fun _ U o U' => ∃ v L, o = .returned v ∧ Q2 Z u h0 n0 v U'.heap L ∧ FrameEnd U o U' L ({ frames := 0, cells := 0, slots := 0, locals := 0 } : Room).cells ({ frames := 0, cells := 0, slots := 0, locals := 0 } : Room).slots) := by
  refine MetFree.of_bodySF (plainFor_of_name pn_com_example_indenture_indenture_model_ProjectActivityEqualsPinLaw) hisR ?_
  intro p e s m args below meth c s₁ Bd hml0 hP hK
  obtain ⟨rfl, hZ, hh⟩ := hP
  have hx := Bd.exec
  have hby := Bd.bytes
  have hlk : meth.locks = false := BodyLoose.notSynchronized Bd
  have hml : c.maxLocals = 1 := hml0
  have hown : s.vm.findClass "com/example/indenture/indenture/model/ProjectActivityEqualsPinLaw" = some m.cls := findClass_of_methodNamed Bd.named
  have hnm := (name_of_methodNamed Bd.named Bd.method).1
  have X0 : Stand p l e ({ frames := 0, cells := 0, slots := 0, locals := 0 } : Room) s m #[(.int u)] below meth c s₁ [] 0 0 := Stand.of_body Bd
  have e0 : s₁.heap = h0 := by rw [← hh, Bd.state]; rfl
  have N0 := Fr.nil n0
  suffices hgo : Go p e below s 0 0 (Q2 Z u h0 n0) (s₁.setTop (mkF m 0 #[.val (.int u)] [])) by
    obtain ⟨t, o, h1, h2⟩ := hgo; exact ⟨t, o, castTop (ef_rm2 m u) h1, h2⟩
  show Go p e below s _ _ _ (s₁.setTop (mkF m 0 #[.val (.int u)] []))
  refine Go.st (fun _ k' => XS.iloadN X0.here hx rfl (hb hby d2_0) rfl k') ?_
  show Go p e below s _ _ _ (s₁.setTop (mkF m 1 #[.val (.int u)] [(.int u)]))
  refine Go.st (fun _ k' => XS.bipush X0.here hx rfl (hb hby d2_1) k') ?_
  show Go p e below s _ _ _ (s₁.setTop (mkF m 3 #[.val (.int u)] [(.int (16 : Int32)), (.int u)]))
  refine Go.st (fun _ k' => XS.iushr X0.here hx rfl (hb hby d2_3) rfl k') ?_
  show Go p e below s _ _ _ (s₁.setTop (mkF m 4 #[.val (.int u)] [(.int ((u.toUInt32 >>> ((16 : Int32) &&& 31).toUInt32).toInt32))]))
  refine Go.st (fun _ k' => XS.sipush X0.here hx rfl (hb hby d2_4) k') ?_
  show Go p e below s _ _ _ (s₁.setTop (mkF m 7 #[.val (.int u)] [(.int (255 : Int32)), (.int ((u.toUInt32 >>> ((16 : Int32) &&& 31).toUInt32).toInt32))]))
  refine Go.st (fun _ k' => XS.iand X0.here hx rfl (hb hby d2_7) rfl k') ?_
  show Go p e below s _ _ _ (s₁.setTop (mkF m 8 #[.val (.int u)] [(.int (((u.toUInt32 >>> ((16 : Int32) &&& 31).toUInt32).toInt32) &&& (255 : Int32)))]))
  refine Go.st (fun _ k' => XS.iconst X0.here hx rfl (hb hby d2_8) k') ?_
  show Go p e below s _ _ _ (s₁.setTop (mkF m 9 #[.val (.int u)] [(.int (3 : Int32)), (.int (((u.toUInt32 >>> ((16 : Int32) &&& 31).toUInt32).toInt32) &&& (255 : Int32)))]))
  refine Go.st (fun _ k' => iremM X0 hx rfl (hb hby d2_9) rfl (by decide) k') ?_
  show Go p e below s _ _ _ (s₁.setTop (mkF m 10 #[.val (.int u)] [(.int ((((u.toUInt32 >>> ((16 : Int32) &&& 31).toUInt32).toInt32) &&& (255 : Int32)) % (3 : Int32)))]))
  refine Go.ret X0 hx hlk (t := .int) Bd.returns rfl (Or.inl ⟨rfl, Or.inl rfl, _, rfl⟩) (hb hby d2_10) (by decide) (by decide) e0 ?_
  exact ⟨rfl, N0, rfl⟩
theorem d13_0 : decode method_3_code 0 = .ok (.iload_n 0, 1) := by decide +kernel
theorem d13_1 : decode method_3_code 1 = .ok (.sipush 255, 3) := by decide +kernel
theorem d13_4 : decode method_3_code 4 = .ok (.iand, 1) := by decide +kernel
theorem d13_5 : decode method_3_code 5 = .ok (.i2c, 1) := by decide +kernel
theorem d13_6 : decode method_3_code 6 = .ok (.ireturn, 1) := by decide +kernel
theorem ef_rm13 (m : MethodId) (u : Int32) : entryFrame m #[(.int u)] 1 = mkF m 0 #[.val (.int u)] [] := by first | (simp [entryFrame, mkF, argsToLocals, Value.category]; done) | rfl
def Q13 (Z : State) (u : Int32) (h0 : Heap) (n0 : Nat) (v : Option Value) (h : Heap) (L : List Loc) : Prop := v = some (.int (fc0 u)) ∧ Fr n0 L ∧ h = h0
set_option maxRecDepth 65536 in
set_option maxHeartbeats 40000000 in
theorem rm13 (l : Launch) (Z : State) (a0 : Array Value) (hw : ∀ d ∈ tables_1, d.before a0 Z = true) (ws : List Jvm.Cond) (u : Int32) (h0 : Heap) (n0 : Nat) (O0 : Old Z n0 h0) :
    MetFree l (⟨"com/example/indenture/indenture/model/ProjectActivityEqualsPinLaw", "c0", "(I)C"⟩ : MethodName) (head1 (Jvm.Cond.code (⟨"com/example/indenture/indenture/model/ProjectActivityEqualsPinLaw", "c0", "(I)C"⟩ : MethodName) method_3_code 1 (some .char) :: ws) ({ frames := 0, cells := 0, slots := 0, locals := 0 } : Room)) (fun ay U => ay = #[(.int u)] ∧ Z.Warmed39 U.vm ∧ U.heap = h0) (fun _ _ _ _ _ => True) (fun _ U o U' => ∃ v L, o = .returned v ∧ Q13 Z u h0 n0 v U'.heap L ∧ FrameEnd U o U' L ({ frames := 0, cells := 0, slots := 0, locals := 0 } : Room).cells ({ frames := 0, cells := 0, slots := 0, locals := 0 } : Room).slots) := by
  refine MetFree.of_bodySF (plainFor_of_name pn_com_example_indenture_indenture_model_ProjectActivityEqualsPinLaw) hisR ?_
  intro p e s m args below meth c s₁ Bd hml0 hP hK
  obtain ⟨rfl, hZ, hh⟩ := hP
  have hx := Bd.exec
  have hby := Bd.bytes
  have hlk : meth.locks = false := BodyLoose.notSynchronized Bd
  have hml : c.maxLocals = 1 := hml0
  have hown : s.vm.findClass "com/example/indenture/indenture/model/ProjectActivityEqualsPinLaw" = some m.cls := findClass_of_methodNamed Bd.named
  have hnm := (name_of_methodNamed Bd.named Bd.method).1
  have X0 : Stand p l e ({ frames := 0, cells := 0, slots := 0, locals := 0 } : Room) s m #[(.int u)] below meth c s₁ [] 0 0 := Stand.of_body Bd
  have e0 : s₁.heap = h0 := by rw [← hh, Bd.state]; rfl
  have N0 := Fr.nil n0
  suffices hgo : Go p e below s 0 0 (Q13 Z u h0 n0) (s₁.setTop (mkF m 0 #[.val (.int u)] [])) by
    obtain ⟨t, o, h1, h2⟩ := hgo; exact ⟨t, o, castTop (ef_rm13 m u) h1, h2⟩
  show Go p e below s _ _ _ (s₁.setTop (mkF m 0 #[.val (.int u)] []))
  refine Go.st (fun _ k' => XS.iloadN X0.here hx rfl (hb hby d13_0) rfl k') ?_
  show Go p e below s _ _ _ (s₁.setTop (mkF m 1 #[.val (.int u)] [(.int u)]))
  refine Go.st (fun _ k' => XS.sipush X0.here hx rfl (hb hby d13_1) k') ?_
  show Go p e below s _ _ _ (s₁.setTop (mkF m 4 #[.val (.int u)] [(.int (255 : Int32)), (.int u)]))
  refine Go.st (fun _ k' => XS.iand X0.here hx rfl (hb hby d13_4) rfl k') ?_
  show Go p e below s _ _ _ (s₁.setTop (mkF m 5 #[.val (.int u)] [(.int (u &&& (255 : Int32)))]))
  refine Go.st (fun _ k' => XS.i2c X0.here hx rfl (hb hby d13_5) rfl k') ?_
  show Go p e below s _ _ _ (s₁.setTop (mkF m 6 #[.val (.int u)] [(.int ((u &&& (255 : Int32)).toUInt32.toUInt16.toUInt32.toInt32))]))
  refine Go.retB X0 hx hlk (t := .char) Bd.returns (by simp) (hb hby d13_6) (by decide) (by decide) e0 ?_
  exact ⟨(congrArg (fun z => some (Value.int z)) (own_ncc _)), N0, rfl⟩
theorem d14_0 : decode method_4_code 0 = .ok (.iload_n 0, 1) := by decide +kernel
theorem d14_1 : decode method_4_code 1 = .ok (.bipush 8, 2) := by decide +kernel
theorem d14_3 : decode method_4_code 3 = .ok (.iushr, 1) := by decide +kernel
theorem d14_4 : decode method_4_code 4 = .ok (.sipush 255, 3) := by decide +kernel
theorem d14_7 : decode method_4_code 7 = .ok (.iand, 1) := by decide +kernel
theorem d14_8 : decode method_4_code 8 = .ok (.i2c, 1) := by decide +kernel
theorem d14_9 : decode method_4_code 9 = .ok (.ireturn, 1) := by decide +kernel
theorem ef_rm14 (m : MethodId) (u : Int32) : entryFrame m #[(.int u)] 1 = mkF m 0 #[.val (.int u)] [] := by first | (simp [entryFrame, mkF, argsToLocals, Value.category]; done) | rfl
def Q14 (Z : State) (u : Int32) (h0 : Heap) (n0 : Nat) (v : Option Value) (h : Heap) (L : List Loc) : Prop := v = some (.int (fc1 u)) ∧ Fr n0 L ∧ h = h0
set_option maxRecDepth 65536 in
set_option maxHeartbeats 40000000 in
theorem rm14 (l : Launch) (Z : State) (a0 : Array Value) (hw : ∀ d ∈ tables_1, d.before a0 Z = true) (ws : List Jvm.Cond) (u : Int32) (h0 : Heap) (n0 : Nat) (O0 : Old Z n0 h0) :
    MetFree l (⟨"com/example/indenture/indenture/model/ProjectActivityEqualsPinLaw", "c1", "(I)C"⟩ : MethodName) (head1 (Jvm.Cond.code (⟨"com/example/indenture/indenture/model/ProjectActivityEqualsPinLaw", "c1", "(I)C"⟩ : MethodName) method_4_code 1 (some .char) :: ws) ({ frames := 0, cells := 0, slots := 0, locals := 0 } : Room)) (fun ay U => ay = #[(.int u)] ∧ Z.Warmed39 U.vm ∧ U.heap = h0) (fun _ _ _ _ _ => True) (fun _ U o U' => ∃ v L, o = .returned v ∧ Q14 Z u h0 n0 v U'.heap L ∧ FrameEnd U o U' L ({ frames := 0, cells := 0, slots := 0, locals := 0 } : Room).cells ({ frames := 0, cells := 0, slots := 0, locals := 0 } : Room).slots) := by
  refine MetFree.of_bodySF (plainFor_of_name pn_com_example_indenture_indenture_model_ProjectActivityEqualsPinLaw) hisR ?_
  intro p e s m args below meth c s₁ Bd hml0 hP hK
  obtain ⟨rfl, hZ, hh⟩ := hP
  have hx := Bd.exec
  have hby := Bd.bytes
  have hlk : meth.locks = false := BodyLoose.notSynchronized Bd
  have hml : c.maxLocals = 1 := hml0
  have hown : s.vm.findClass "com/example/indenture/indenture/model/ProjectActivityEqualsPinLaw" = some m.cls := findClass_of_methodNamed Bd.named
  have hnm := (name_of_methodNamed Bd.named Bd.method).1
  have X0 : Stand p l e ({ frames := 0, cells := 0, slots := 0, locals := 0 } : Room) s m #[(.int u)] below meth c s₁ [] 0 0 := Stand.of_body Bd
  have e0 : s₁.heap = h0 := by rw [← hh, Bd.state]; rfl
  have N0 := Fr.nil n0
  suffices hgo : Go p e below s 0 0 (Q14 Z u h0 n0) (s₁.setTop (mkF m 0 #[.val (.int u)] [])) by
    obtain ⟨t, o, h1, h2⟩ := hgo; exact ⟨t, o, castTop (ef_rm14 m u) h1, h2⟩
  show Go p e below s _ _ _ (s₁.setTop (mkF m 0 #[.val (.int u)] []))
  refine Go.st (fun _ k' => XS.iloadN X0.here hx rfl (hb hby d14_0) rfl k') ?_
  show Go p e below s _ _ _ (s₁.setTop (mkF m 1 #[.val (.int u)] [(.int u)]))
  refine Go.st (fun _ k' => XS.bipush X0.here hx rfl (hb hby d14_1) k') ?_
  show Go p e below s _ _ _ (s₁.setTop (mkF m 3 #[.val (.int u)] [(.int (8 : Int32)), (.int u)]))
  refine Go.st (fun _ k' => XS.iushr X0.here hx rfl (hb hby d14_3) rfl k') ?_
  show Go p e below s _ _ _ (s₁.setTop (mkF m 4 #[.val (.int u)] [(.int ((u.toUInt32 >>> ((8 : Int32) &&& 31).toUInt32).toInt32))]))
  refine Go.st (fun _ k' => XS.sipush X0.here hx rfl (hb hby d14_4) k') ?_
  show Go p e below s _ _ _ (s₁.setTop (mkF m 7 #[.val (.int u)] [(.int (255 : Int32)), (.int ((u.toUInt32 >>> ((8 : Int32) &&& 31).toUInt32).toInt32))]))
  refine Go.st (fun _ k' => XS.iand X0.here hx rfl (hb hby d14_7) rfl k') ?_
  show Go p e below s _ _ _ (s₁.setTop (mkF m 8 #[.val (.int u)] [(.int (((u.toUInt32 >>> ((8 : Int32) &&& 31).toUInt32).toInt32) &&& (255 : Int32)))]))
  refine Go.st (fun _ k' => XS.i2c X0.here hx rfl (hb hby d14_8) rfl k') ?_
  show Go p e below s _ _ _ (s₁.setTop (mkF m 9 #[.val (.int u)] [(.int ((((u.toUInt32 >>> ((8 : Int32) &&& 31).toUInt32).toInt32) &&& (255 : Int32)).toUInt32.toUInt16.toUInt32.toInt32))]))
  refine Go.retB X0 hx hlk (t := .char) Bd.returns (by simp) (hb hby d14_9) (by decide) (by decide) e0 ?_
  exact ⟨(congrArg (fun z => some (Value.int z)) (own_ncc _)), N0, rfl⟩
theorem d9_0 : decode method_6_code 0 = .ok (.iload_n 0, 1) := by decide +kernel
theorem pd__I_I : parseMethodDescriptor "(I)I" = some ⟨[.int], some .int⟩ := by decide +kernel
theorem d9_1 : decode method_6_code 1 = .ok (.invokestatic 7, 3) := by decide +kernel
theorem d9_4 : decode method_6_code 4 = .ok (.istore_n 2, 1) := by decide +kernel
theorem d9_5 : decode method_6_code 5 = .ok (.iload_n 2, 1) := by decide +kernel
theorem d9_6 : decode method_6_code 6 = .ok (.iload_n 1, 1) := by decide +kernel
theorem d9_7 : decode method_6_code 7 = .ok (.invokestatic 7, 3) := by decide +kernel
theorem d9_10 : decode method_6_code 10 = .ok (.if_icmp .eq 5, 3) := by decide +kernel
theorem d9_15 : decode method_6_code 15 = .ok (.iload_n 2, 1) := by decide +kernel
theorem d9_16 : decode method_6_code 16 = .ok (.ifCond .ne 5, 3) := by decide +kernel
theorem d9_19 : decode method_6_code 19 = .ok (.iconst 1, 1) := by decide +kernel
theorem d9_20 : decode method_6_code 20 = .ok (.ireturn, 1) := by decide +kernel
theorem d9_21 : decode method_6_code 21 = .ok (.iload_n 0, 1) := by decide +kernel
theorem pd__I_C : parseMethodDescriptor "(I)C" = some ⟨[.int], some .char⟩ := by decide +kernel
theorem d9_22 : decode method_6_code 22 = .ok (.invokestatic 18, 3) := by decide +kernel
theorem d9_25 : decode method_6_code 25 = .ok (.iload_n 1, 1) := by decide +kernel
theorem d9_26 : decode method_6_code 26 = .ok (.invokestatic 18, 3) := by decide +kernel
theorem d9_29 : decode method_6_code 29 = .ok (.if_icmp .eq 5, 3) := by decide +kernel
theorem d9_34 : decode method_6_code 34 = .ok (.iload_n 2, 1) := by decide +kernel
theorem d9_35 : decode method_6_code 35 = .ok (.iconst 1, 1) := by decide +kernel
theorem d9_36 : decode method_6_code 36 = .ok (.if_icmp .ne 5, 3) := by decide +kernel
theorem d9_39 : decode method_6_code 39 = .ok (.iconst 1, 1) := by decide +kernel
theorem d9_40 : decode method_6_code 40 = .ok (.ireturn, 1) := by decide +kernel
theorem d9_41 : decode method_6_code 41 = .ok (.iload_n 0, 1) := by decide +kernel
theorem d9_42 : decode method_6_code 42 = .ok (.invokestatic 22, 3) := by decide +kernel
theorem d9_45 : decode method_6_code 45 = .ok (.iload_n 1, 1) := by decide +kernel
theorem d9_46 : decode method_6_code 46 = .ok (.invokestatic 22, 3) := by decide +kernel
theorem d9_49 : decode method_6_code 49 = .ok (.if_icmp .ne 7, 3) := by decide +kernel
theorem d9_52 : decode method_6_code 52 = .ok (.iconst 1, 1) := by decide +kernel
theorem d9_53 : decode method_6_code 53 = .ok (.goto 4, 3) := by decide +kernel
theorem d9_57 : decode method_6_code 57 = .ok (.ireturn, 1) := by decide +kernel
theorem d9_56 : decode method_6_code 56 = .ok (.iconst 0, 1) := by decide +kernel
theorem d9_32 : decode method_6_code 32 = .ok (.iconst 0, 1) := by decide +kernel
theorem d9_33 : decode method_6_code 33 = .ok (.ireturn, 1) := by decide +kernel
theorem d9_13 : decode method_6_code 13 = .ok (.iconst 0, 1) := by decide +kernel
theorem d9_14 : decode method_6_code 14 = .ok (.ireturn, 1) := by decide +kernel
theorem ef_rm9 (m : MethodId) (u : Int32) (uv : Int32) : entryFrame m #[(.int u), (.int uv)] 3 = mkF m 0 #[.val (.int u), .val (.int uv), .unset] [] := by first | (simp [entryFrame, mkF, argsToLocals, Value.category]; done) | rfl
def Q9 (Z : State) (u : Int32) (uv : Int32) (h0 : Heap) (n0 : Nat) (v : Option Value) (h : Heap) (L : List Loc) : Prop := v = some (.int (if fls u = fls uv then (1 : Int32) else 0)) ∧ Fr n0 L ∧ h = h0
set_option maxRecDepth 65536 in
set_option maxHeartbeats 40000000 in
theorem rm9 (l : Launch) (Z : State) (a0 : Array Value) (hw : ∀ d ∈ tables_1, d.before a0 Z = true) (ws : List Jvm.Cond) (u : Int32) (uv : Int32) (h0 : Heap) (n0 : Nat) (O0 : Old Z n0 h0) :
    MetFree l (⟨"com/example/indenture/indenture/model/ProjectActivityEqualsPinLaw", "same", "(II)Z"⟩ : MethodName) (head1 (Jvm.Cond.code (⟨"com/example/indenture/indenture/model/ProjectActivityEqualsPinLaw", "same", "(II)Z"⟩ : MethodName) method_6_code 3 (some .boolean) :: ws) ({ frames := 1, cells := 0, slots := 0, locals := 13 } : Room)) (fun ay U => ay = #[(.int u), (.int uv)] ∧ Z.Warmed39 U.vm ∧ U.heap = h0) (fun _ _ _ _ _ => True) (fun _ U o U' => ∃ v L, o = .returned v ∧ Q9 Z u uv h0 n0 v U'.heap L ∧ FrameEnd U o U' L ({ frames := 1, cells := 0, slots := 0, locals := 13 } : Room).cells ({ frames := 1, cells := 0, slots := 0, locals := 13 } : Room).slots) := by
  refine MetFree.of_bodySF (plainFor_of_name pn_com_example_indenture_indenture_model_ProjectActivityEqualsPinLaw) hisR ?_
  intro p e s m args below meth c s₁ Bd hml0 hP hK
  obtain ⟨rfl, hZ, hh⟩ := hP
  have hx := Bd.exec
  have hby := Bd.bytes
  have hlk : meth.locks = false := BodyLoose.notSynchronized Bd
  have hml : c.maxLocals = 3 := hml0
  have hown : s.vm.findClass "com/example/indenture/indenture/model/ProjectActivityEqualsPinLaw" = some m.cls := findClass_of_methodNamed Bd.named
  have hnm := (name_of_methodNamed Bd.named Bd.method).1
  have X0 : Stand p l e ({ frames := 1, cells := 0, slots := 0, locals := 13 } : Room) s m #[(.int u), (.int uv)] below meth c s₁ [] 0 0 := Stand.of_body Bd
  have e0 : s₁.heap = h0 := by rw [← hh, Bd.state]; rfl
  have N0 := Fr.nil n0
  suffices hgo : Go p e below s 0 0 (Q9 Z u uv h0 n0) (s₁.setTop (mkF m 0 #[.val (.int u), .val (.int uv), .unset] [])) by
    obtain ⟨t, o, h1, h2⟩ := hgo; exact ⟨t, o, castTop (ef_rm9 m u uv) h1, h2⟩
  show Go p e below s _ _ _ (s₁.setTop (mkF m 0 #[.val (.int u), .val (.int uv), .unset] []))
  refine Go.st (fun _ k' => XS.iloadN X0.here hx rfl (hb hby d9_0) rfl k') ?_
  show Go p e below s _ _ _ (s₁.setTop (mkF m 1 #[.val (.int u), .val (.int uv), .unset] [(.int u)]))
  obtain ⟨_, _, ⟨T1, L1, k1, n1⟩, -, X1, ⟨Lc1, hQ1, l1, y1, z1⟩, st1⟩ := Jvm.LawKit.callS X0 hx (y := (⟨"com/example/indenture/indenture/model/ProjectActivityEqualsPinLaw", "len", "(I)I"⟩ : MethodName)) hown (mvT hZ (wdx hw 7 rfl)) (mvT hZ (wdx hw 8 rfl)) (mvT hZ (wdx hw 5 rfl)) (mvT hZ (wdx hw 9 rfl)) (by decide) (backOf (W := 0) (rm2 l Z a0 hw [] u h0 n0 O0 ) hZ (wdx hw 9 rfl) (wdx hw 5 rfl) (by decide) (by decide)) (g := (mkF m 1 #[.val (.int u), .val (.int uv), .unset] [(.int u)])) rfl (by rw [hml]; rfl) (argsL := [(.int u)]) (rest := []) (lenOf pd__I_I rfl) rfl (by show 2 * 0 + _ ≤ _; exact Nat.le_of_eq rfl) (hb hby d9_1) (fun _ _ => ⟨rfl, e0, (by exact Nat.le_of_ble_eq_true rfl), (by exact Nat.le_of_ble_eq_true rfl)⟩)
  dsimp only [Pt.U, Pt.locs, Pt.cells, Pt.slots] at X1 l1 y1 z1 st1 hQ1
  subst l1 y1 z1
  obtain ⟨rfl, Nq1, eq1⟩ := hQ1
  have N1 := Fr.app N0 Nq1
  refine Go.st st1 ?_
  show Go p e below s _ _ _ (T1.setTop (mkF m 4 #[.val (.int u), .val (.int uv), .unset] [(.int (fln u))]))
  refine Go.st (fun _ k' => XS.istoreN X1.here hx rfl (hb hby d9_4) rfl (l' := #[.val (.int u), .val (.int uv), .val (.int (fln u))]) rfl k') ?_
  show Go p e below s _ _ _ (T1.setTop (mkF m 5 #[.val (.int u), .val (.int uv), .val (.int (fln u))] []))
  refine Go.st (fun _ k' => XS.iloadN X1.here hx rfl (hb hby d9_5) rfl k') ?_
  show Go p e below s _ _ _ (T1.setTop (mkF m 6 #[.val (.int u), .val (.int uv), .val (.int (fln u))] [(.int (fln u))]))
  refine Go.st (fun _ k' => XS.iloadN X1.here hx rfl (hb hby d9_6) rfl k') ?_
  show Go p e below s _ _ _ (T1.setTop (mkF m 7 #[.val (.int u), .val (.int uv), .val (.int (fln u))] [(.int uv), (.int (fln u))]))
  obtain ⟨_, _, ⟨T2, L2, k2, n2⟩, -, X2, ⟨Lc2, hQ2, l2, y2, z2⟩, st2⟩ := Jvm.LawKit.callS X1 hx (y := (⟨"com/example/indenture/indenture/model/ProjectActivityEqualsPinLaw", "len", "(I)I"⟩ : MethodName)) hown (mvT hZ (wdx hw 7 rfl)) (mvT hZ (wdx hw 8 rfl)) (mvT hZ (wdx hw 5 rfl)) (mvT hZ (wdx hw 9 rfl)) (by decide) (backOf (W := 1) (rm2 l Z a0 hw [] uv h0 n0 O0 ) hZ (wdx hw 9 rfl) (wdx hw 5 rfl) (by decide) (by decide)) (g := (mkF m 7 #[.val (.int u), .val (.int uv), .val (.int (fln u))] [(.int uv), (.int (fln u))])) rfl (by rw [hml]; rfl) (argsL := [(.int uv)]) (rest := [(.int (fln u))]) (lenOf pd__I_I rfl) rfl (by show 2 * 0 + _ ≤ _; exact Nat.le_of_eq rfl) (hb hby d9_7) (fun _ _ => ⟨rfl, eq1, (by exact Nat.le_of_ble_eq_true rfl), (by exact Nat.le_of_ble_eq_true rfl)⟩)
  dsimp only [Pt.U, Pt.locs, Pt.cells, Pt.slots] at X2 l2 y2 z2 st2 hQ2
  subst l2 y2 z2
  obtain ⟨rfl, Nq2, eq2⟩ := hQ2
  have N2 := Fr.app N1 Nq2
  refine Go.st st2 ?_
  show Go p e below s _ _ _ (T2.setTop (mkF m 10 #[.val (.int u), .val (.int uv), .val (.int (fln u))] [(.int (fln uv)), (.int (fln u))]))
  by_cases hc3 : (fln u) = (fln uv)
  · refine Go.st (fun _ k' => XS.icmpYes X2.here hx rfl (pc0 := 10) (pc' := 15) rfl (hb hby d9_10) rfl (XT.ii_eq_t hc3) (by decide) (by decide) k') ?_
    show Go p e below s _ _ _ (T2.setTop (mkF m 15 #[.val (.int u), .val (.int uv), .val (.int (fln u))] []))
    refine Go.st (fun _ k' => XS.iloadN X2.here hx rfl (hb hby d9_15) rfl k') ?_
    show Go p e below s _ _ _ (T2.setTop (mkF m 16 #[.val (.int u), .val (.int uv), .val (.int (fln u))] [(.int (fln u))]))
    by_cases hc4 : (fln u) = (0 : Int32)
    · refine Go.st (fun _ k' => XS.ifNo X2.here hx rfl (hb hby d9_16) rfl (XT.i0_ne_f hc4) k') ?_
      show Go p e below s _ _ _ (T2.setTop (mkF m 19 #[.val (.int u), .val (.int uv), .val (.int (fln u))] []))
      refine Go.st (fun _ k' => XS.iconst X2.here hx rfl (hb hby d9_19) k') ?_
      show Go p e below s _ _ _ (T2.setTop (mkF m 20 #[.val (.int u), .val (.int uv), .val (.int (fln u))] [(.int (1 : Int32))]))
      refine Go.retB X2 hx hlk (t := .boolean) Bd.returns (by simp) (hb hby d9_20) (by decide) (by decide) eq2 ?_
      exact ⟨(by rw [← own_same]; have q0 := hc3; have q1 := hc4; simp_all [fsame, nar]), N2, rfl⟩
    · refine Go.st (fun _ k' => XS.ifYes X2.here hx rfl (pc0 := 16) (pc' := 21) rfl (hb hby d9_16) rfl (XT.i0_ne_t hc4) (by decide) (by decide) k') ?_
      show Go p e below s _ _ _ (T2.setTop (mkF m 21 #[.val (.int u), .val (.int uv), .val (.int (fln u))] []))
      refine Go.st (fun _ k' => XS.iloadN X2.here hx rfl (hb hby d9_21) rfl k') ?_
      show Go p e below s _ _ _ (T2.setTop (mkF m 22 #[.val (.int u), .val (.int uv), .val (.int (fln u))] [(.int u)]))
      obtain ⟨_, _, ⟨T5, L5, k5, n5⟩, -, X5, ⟨Lc5, hQ5, l5, y5, z5⟩, st5⟩ := Jvm.LawKit.callS X2 hx (y := (⟨"com/example/indenture/indenture/model/ProjectActivityEqualsPinLaw", "c0", "(I)C"⟩ : MethodName)) hown (mvT hZ (wdx hw 74 rfl)) (mvT hZ (wdx hw 75 rfl)) (mvT hZ (wdx hw 5 rfl)) (mvT hZ (wdx hw 76 rfl)) (by decide) (backOf (W := 0) (rm13 l Z a0 hw [] u h0 n0 O0 ) hZ (wdx hw 76 rfl) (wdx hw 5 rfl) (by decide) (by decide)) (g := (mkF m 22 #[.val (.int u), .val (.int uv), .val (.int (fln u))] [(.int u)])) rfl (by rw [hml]; rfl) (argsL := [(.int u)]) (rest := []) (lenOf pd__I_C rfl) rfl (by show 2 * 0 + _ ≤ _; exact Nat.le_of_eq rfl) (hb hby d9_22) (fun _ _ => ⟨rfl, eq2, (by exact Nat.le_of_ble_eq_true rfl), (by exact Nat.le_of_ble_eq_true rfl)⟩)
      dsimp only [Pt.U, Pt.locs, Pt.cells, Pt.slots] at X5 l5 y5 z5 st5 hQ5
      subst l5 y5 z5
      obtain ⟨rfl, Nq5, eq5⟩ := hQ5
      have N5 := Fr.app N2 Nq5
      refine Go.st st5 ?_
      show Go p e below s _ _ _ (T5.setTop (mkF m 25 #[.val (.int u), .val (.int uv), .val (.int (fln u))] [(.int (fc0 u))]))
      refine Go.st (fun _ k' => XS.iloadN X5.here hx rfl (hb hby d9_25) rfl k') ?_
      show Go p e below s _ _ _ (T5.setTop (mkF m 26 #[.val (.int u), .val (.int uv), .val (.int (fln u))] [(.int uv), (.int (fc0 u))]))
      obtain ⟨_, _, ⟨T6, L6, k6, n6⟩, -, X6, ⟨Lc6, hQ6, l6, y6, z6⟩, st6⟩ := Jvm.LawKit.callS X5 hx (y := (⟨"com/example/indenture/indenture/model/ProjectActivityEqualsPinLaw", "c0", "(I)C"⟩ : MethodName)) hown (mvT hZ (wdx hw 74 rfl)) (mvT hZ (wdx hw 75 rfl)) (mvT hZ (wdx hw 5 rfl)) (mvT hZ (wdx hw 76 rfl)) (by decide) (backOf (W := 1) (rm13 l Z a0 hw [] uv h0 n0 O0 ) hZ (wdx hw 76 rfl) (wdx hw 5 rfl) (by decide) (by decide)) (g := (mkF m 26 #[.val (.int u), .val (.int uv), .val (.int (fln u))] [(.int uv), (.int (fc0 u))])) rfl (by rw [hml]; rfl) (argsL := [(.int uv)]) (rest := [(.int (fc0 u))]) (lenOf pd__I_C rfl) rfl (by show 2 * 0 + _ ≤ _; exact Nat.le_of_eq rfl) (hb hby d9_26) (fun _ _ => ⟨rfl, eq5, (by exact Nat.le_of_ble_eq_true rfl), (by exact Nat.le_of_ble_eq_true rfl)⟩)
      dsimp only [Pt.U, Pt.locs, Pt.cells, Pt.slots] at X6 l6 y6 z6 st6 hQ6
      subst l6 y6 z6
      obtain ⟨rfl, Nq6, eq6⟩ := hQ6
      have N6 := Fr.app N5 Nq6
      refine Go.st st6 ?_
      show Go p e below s _ _ _ (T6.setTop (mkF m 29 #[.val (.int u), .val (.int uv), .val (.int (fln u))] [(.int (fc0 uv)), (.int (fc0 u))]))
      by_cases hc7 : (fc0 u) = (fc0 uv)
      · refine Go.st (fun _ k' => XS.icmpYes X6.here hx rfl (pc0 := 29) (pc' := 34) rfl (hb hby d9_29) rfl (XT.ii_eq_t hc7) (by decide) (by decide) k') ?_
        show Go p e below s _ _ _ (T6.setTop (mkF m 34 #[.val (.int u), .val (.int uv), .val (.int (fln u))] []))
        refine Go.st (fun _ k' => XS.iloadN X6.here hx rfl (hb hby d9_34) rfl k') ?_
        show Go p e below s _ _ _ (T6.setTop (mkF m 35 #[.val (.int u), .val (.int uv), .val (.int (fln u))] [(.int (fln u))]))
        refine Go.st (fun _ k' => XS.iconst X6.here hx rfl (hb hby d9_35) k') ?_
        show Go p e below s _ _ _ (T6.setTop (mkF m 36 #[.val (.int u), .val (.int uv), .val (.int (fln u))] [(.int (1 : Int32)), (.int (fln u))]))
        by_cases hc8 : (fln u) = (1 : Int32)
        · refine Go.st (fun _ k' => XS.icmpNo X6.here hx rfl (hb hby d9_36) rfl (XT.ii_ne_f hc8) k') ?_
          show Go p e below s _ _ _ (T6.setTop (mkF m 39 #[.val (.int u), .val (.int uv), .val (.int (fln u))] []))
          refine Go.st (fun _ k' => XS.iconst X6.here hx rfl (hb hby d9_39) k') ?_
          show Go p e below s _ _ _ (T6.setTop (mkF m 40 #[.val (.int u), .val (.int uv), .val (.int (fln u))] [(.int (1 : Int32))]))
          refine Go.retB X6 hx hlk (t := .boolean) Bd.returns (by simp) (hb hby d9_40) (by decide) (by decide) eq6 ?_
          exact ⟨(by rw [← own_same]; have q0 := hc3; have q1 := hc4; have q2 := hc7; have q3 := hc8; simp_all [fsame, nar]), N6, rfl⟩
        · refine Go.st (fun _ k' => XS.icmpYes X6.here hx rfl (pc0 := 36) (pc' := 41) rfl (hb hby d9_36) rfl (XT.ii_ne_t hc8) (by decide) (by decide) k') ?_
          show Go p e below s _ _ _ (T6.setTop (mkF m 41 #[.val (.int u), .val (.int uv), .val (.int (fln u))] []))
          refine Go.st (fun _ k' => XS.iloadN X6.here hx rfl (hb hby d9_41) rfl k') ?_
          show Go p e below s _ _ _ (T6.setTop (mkF m 42 #[.val (.int u), .val (.int uv), .val (.int (fln u))] [(.int u)]))
          obtain ⟨_, _, ⟨T9, L9, k9, n9⟩, -, X9, ⟨Lc9, hQ9, l9, y9, z9⟩, st9⟩ := Jvm.LawKit.callS X6 hx (y := (⟨"com/example/indenture/indenture/model/ProjectActivityEqualsPinLaw", "c1", "(I)C"⟩ : MethodName)) hown (mvT hZ (wdx hw 77 rfl)) (mvT hZ (wdx hw 78 rfl)) (mvT hZ (wdx hw 5 rfl)) (mvT hZ (wdx hw 79 rfl)) (by decide) (backOf (W := 0) (rm14 l Z a0 hw [] u h0 n0 O0 ) hZ (wdx hw 79 rfl) (wdx hw 5 rfl) (by decide) (by decide)) (g := (mkF m 42 #[.val (.int u), .val (.int uv), .val (.int (fln u))] [(.int u)])) rfl (by rw [hml]; rfl) (argsL := [(.int u)]) (rest := []) (lenOf pd__I_C rfl) rfl (by show 2 * 0 + _ ≤ _; exact Nat.le_of_eq rfl) (hb hby d9_42) (fun _ _ => ⟨rfl, eq6, (by exact Nat.le_of_ble_eq_true rfl), (by exact Nat.le_of_ble_eq_true rfl)⟩)
          dsimp only [Pt.U, Pt.locs, Pt.cells, Pt.slots] at X9 l9 y9 z9 st9 hQ9
          subst l9 y9 z9
          obtain ⟨rfl, Nq9, eq9⟩ := hQ9
          have N9 := Fr.app N6 Nq9
          refine Go.st st9 ?_
          show Go p e below s _ _ _ (T9.setTop (mkF m 45 #[.val (.int u), .val (.int uv), .val (.int (fln u))] [(.int (fc1 u))]))
          refine Go.st (fun _ k' => XS.iloadN X9.here hx rfl (hb hby d9_45) rfl k') ?_
          show Go p e below s _ _ _ (T9.setTop (mkF m 46 #[.val (.int u), .val (.int uv), .val (.int (fln u))] [(.int uv), (.int (fc1 u))]))
          obtain ⟨_, _, ⟨T10, L10, k10, n10⟩, -, X10, ⟨Lc10, hQ10, l10, y10, z10⟩, st10⟩ := Jvm.LawKit.callS X9 hx (y := (⟨"com/example/indenture/indenture/model/ProjectActivityEqualsPinLaw", "c1", "(I)C"⟩ : MethodName)) hown (mvT hZ (wdx hw 77 rfl)) (mvT hZ (wdx hw 78 rfl)) (mvT hZ (wdx hw 5 rfl)) (mvT hZ (wdx hw 79 rfl)) (by decide) (backOf (W := 1) (rm14 l Z a0 hw [] uv h0 n0 O0 ) hZ (wdx hw 79 rfl) (wdx hw 5 rfl) (by decide) (by decide)) (g := (mkF m 46 #[.val (.int u), .val (.int uv), .val (.int (fln u))] [(.int uv), (.int (fc1 u))])) rfl (by rw [hml]; rfl) (argsL := [(.int uv)]) (rest := [(.int (fc1 u))]) (lenOf pd__I_C rfl) rfl (by show 2 * 0 + _ ≤ _; exact Nat.le_of_eq rfl) (hb hby d9_46) (fun _ _ => ⟨rfl, eq9, (by exact Nat.le_of_ble_eq_true rfl), (by exact Nat.le_of_ble_eq_true rfl)⟩)
          dsimp only [Pt.U, Pt.locs, Pt.cells, Pt.slots] at X10 l10 y10 z10 st10 hQ10
          subst l10 y10 z10
          obtain ⟨rfl, Nq10, eq10⟩ := hQ10
          have N10 := Fr.app N9 Nq10
          refine Go.st st10 ?_
          show Go p e below s _ _ _ (T10.setTop (mkF m 49 #[.val (.int u), .val (.int uv), .val (.int (fln u))] [(.int (fc1 uv)), (.int (fc1 u))]))
          by_cases hc11 : (fc1 u) = (fc1 uv)
          · refine Go.st (fun _ k' => XS.icmpNo X10.here hx rfl (hb hby d9_49) rfl (XT.ii_ne_f hc11) k') ?_
            show Go p e below s _ _ _ (T10.setTop (mkF m 52 #[.val (.int u), .val (.int uv), .val (.int (fln u))] []))
            refine Go.st (fun _ k' => XS.iconst X10.here hx rfl (hb hby d9_52) k') ?_
            show Go p e below s _ _ _ (T10.setTop (mkF m 53 #[.val (.int u), .val (.int uv), .val (.int (fln u))] [(.int (1 : Int32))]))
            refine Go.st (fun _ k' => XS.goto X10.here hx rfl (pc0 := 53) (pc' := 57) rfl (hb hby d9_53) (by decide) (by decide) k') ?_
            show Go p e below s _ _ _ (T10.setTop (mkF m 57 #[.val (.int u), .val (.int uv), .val (.int (fln u))] [(.int (1 : Int32))]))
            refine Go.retB X10 hx hlk (t := .boolean) Bd.returns (by simp) (hb hby d9_57) (by decide) (by decide) eq10 ?_
            exact ⟨(by rw [← own_same]; have q0 := hc3; have q1 := hc4; have q2 := hc7; have q3 := hc8; have q4 := hc11; simp_all [fsame, nar]), N10, rfl⟩
          · refine Go.st (fun _ k' => XS.icmpYes X10.here hx rfl (pc0 := 49) (pc' := 56) rfl (hb hby d9_49) rfl (XT.ii_ne_t hc11) (by decide) (by decide) k') ?_
            show Go p e below s _ _ _ (T10.setTop (mkF m 56 #[.val (.int u), .val (.int uv), .val (.int (fln u))] []))
            refine Go.st (fun _ k' => XS.iconst X10.here hx rfl (hb hby d9_56) k') ?_
            show Go p e below s _ _ _ (T10.setTop (mkF m 57 #[.val (.int u), .val (.int uv), .val (.int (fln u))] [(.int (0 : Int32))]))
            refine Go.retB X10 hx hlk (t := .boolean) Bd.returns (by simp) (hb hby d9_57) (by decide) (by decide) eq10 ?_
            exact ⟨(by rw [← own_same]; have q0 := hc3; have q1 := hc4; have q2 := hc7; have q3 := hc8; have q4 := hc11; simp_all [fsame, nar]), N10, rfl⟩
      · refine Go.st (fun _ k' => XS.icmpNo X6.here hx rfl (hb hby d9_29) rfl (XT.ii_eq_f hc7) k') ?_
        show Go p e below s _ _ _ (T6.setTop (mkF m 32 #[.val (.int u), .val (.int uv), .val (.int (fln u))] []))
        refine Go.st (fun _ k' => XS.iconst X6.here hx rfl (hb hby d9_32) k') ?_
        show Go p e below s _ _ _ (T6.setTop (mkF m 33 #[.val (.int u), .val (.int uv), .val (.int (fln u))] [(.int (0 : Int32))]))
        refine Go.retB X6 hx hlk (t := .boolean) Bd.returns (by simp) (hb hby d9_33) (by decide) (by decide) eq6 ?_
        exact ⟨(by rw [← own_same]; have q0 := hc3; have q1 := hc4; have q2 := hc7; simp_all [fsame, nar]), N6, rfl⟩
  · refine Go.st (fun _ k' => XS.icmpNo X2.here hx rfl (hb hby d9_10) rfl (XT.ii_eq_f hc3) k') ?_
    show Go p e below s _ _ _ (T2.setTop (mkF m 13 #[.val (.int u), .val (.int uv), .val (.int (fln u))] []))
    refine Go.st (fun _ k' => XS.iconst X2.here hx rfl (hb hby d9_13) k') ?_
    show Go p e below s _ _ _ (T2.setTop (mkF m 14 #[.val (.int u), .val (.int uv), .val (.int (fln u))] [(.int (0 : Int32))]))
    refine Go.retB X2 hx hlk (t := .boolean) Bd.returns (by simp) (hb hby d9_14) (by decide) (by decide) eq2 ?_
    exact ⟨(by rw [← own_same]; have q0 := hc3; simp_all [fsame, nar]), N2, rfl⟩
theorem d8_0 : decode jdk_31_method_11_code 0 = .ok (.aload_n 0, 1) := by decide +kernel
theorem d8_1 : decode jdk_31_method_11_code 1 = .ok (.ifnonnull 12, 3) := by decide +kernel
theorem d8_13 : decode jdk_31_method_11_code 13 = .ok (.aload_n 0, 1) := by decide +kernel
theorem d8_14 : decode jdk_31_method_11_code 14 = .ok (.areturn, 1) := by decide +kernel
theorem pn_java_util_Objects : plainName "java/util/Objects" = true := by first | (simp [plainName, overriddenIn]; done) | decide +kernel
theorem ef_rm8 (m : MethodId) (oa : Addr) (ob : Addr) : entryFrame m #[(.ref oa), (.ref ob)] 2 = mkF m 0 #[.val (.ref oa), .val (.ref ob)] [] := by first | (simp [entryFrame, mkF, argsToLocals, Value.category]; done) | rfl
def Q8 (Z : State) (oa : Addr) (ob : Addr) (h0 : Heap) (n0 : Nat) (v : Option Value) (h : Heap) (L : List Loc) : Prop := v = some (.ref oa) ∧ Fr n0 L ∧ h = h0
set_option maxRecDepth 65536 in
set_option maxHeartbeats 40000000 in
theorem rm8 (l : Launch) (Z : State) (a0 : Array Value) (hw : ∀ d ∈ tables_1, d.before a0 Z = true) (ws : List Jvm.Cond) (oa : Addr) (ob : Addr) (h0 : Heap) (n0 : Nat) (O0 : Old Z n0 h0) :
    MetFree l (⟨"java/util/Objects", "requireNonNull", "(Ljava/lang/Object;Ljava/lang/String;)Ljava/lang/Object;"⟩ : MethodName) (head1 (Jvm.Cond.code (⟨"java/util/Objects", "requireNonNull", "(Ljava/lang/Object;Ljava/lang/String;)Ljava/lang/Object;"⟩ : MethodName) jdk_31_method_11_code 2 (some (.object "java/lang/Object")) :: ws) ({ frames := 0, cells := 0, slots := 0, locals := 0 } : Room)) (fun ay U => ay = #[(.ref oa), (.ref ob)] ∧ Z.Warmed39 U.vm ∧ U.heap = h0) (fun _ _ _ _ _ => True) (fun _ U o U' => ∃ v L, o = .returned v ∧ Q8 Z oa ob h0 n0 v U'.heap L ∧ FrameEnd U o U' L ({ frames := 0, cells := 0, slots := 0, locals := 0 } : Room).cells ({ frames := 0, cells := 0, slots := 0, locals := 0 } : Room).slots) := by
  refine MetFree.of_bodySF (plainFor_of_name pn_java_util_Objects) hisR ?_
  intro p e s m args below meth c s₁ Bd hml0 hP hK
  obtain ⟨rfl, hZ, hh⟩ := hP
  have hx := Bd.exec
  have hby := Bd.bytes
  have hlk : meth.locks = false := BodyLoose.notSynchronized Bd
  have hml : c.maxLocals = 2 := hml0
  have hown : s.vm.findClass "java/util/Objects" = some m.cls := findClass_of_methodNamed Bd.named
  have hnm := (name_of_methodNamed Bd.named Bd.method).1
  have X0 : Stand p l e ({ frames := 0, cells := 0, slots := 0, locals := 0 } : Room) s m #[(.ref oa), (.ref ob)] below meth c s₁ [] 0 0 := Stand.of_body Bd
  have e0 : s₁.heap = h0 := by rw [← hh, Bd.state]; rfl
  have N0 := Fr.nil n0
  suffices hgo : Go p e below s 0 0 (Q8 Z oa ob h0 n0) (s₁.setTop (mkF m 0 #[.val (.ref oa), .val (.ref ob)] [])) by
    obtain ⟨t, o, h1, h2⟩ := hgo; exact ⟨t, o, castTop (ef_rm8 m oa ob) h1, h2⟩
  show Go p e below s _ _ _ (s₁.setTop (mkF m 0 #[.val (.ref oa), .val (.ref ob)] []))
  refine Go.st (fun _ k' => XS.aloadN X0.here hx rfl (hb hby d8_0) rfl rfl k') ?_
  show Go p e below s _ _ _ (s₁.setTop (mkF m 1 #[.val (.ref oa), .val (.ref ob)] [(.ref oa)]))
  refine Go.st (fun _ k' => XS.ifnonnullYes X0.here hx rfl (pc0 := 1) (pc' := 13) rfl (hb hby d8_1) rfl (by decide) (by decide) k') ?_
  show Go p e below s _ _ _ (s₁.setTop (mkF m 13 #[.val (.ref oa), .val (.ref ob)] []))
  refine Go.st (fun _ k' => XS.aloadN X0.here hx rfl (hb hby d8_13) rfl rfl k') ?_
  show Go p e below s _ _ _ (s₁.setTop (mkF m 14 #[.val (.ref oa), .val (.ref ob)] [(.ref oa)]))
  refine Go.ret X0 hx hlk (t := (.object "java/lang/Object")) Bd.returns rfl (Or.inr (Or.inr (Or.inr (Or.inr ⟨rfl, rfl, rfl⟩)))) (hb hby d8_14) (by decide) (by decide) e0 ?_
  exact ⟨rfl, N0, rfl⟩
theorem d7_0 : decode jdk_30_method_1_code 0 = .ok (.aload_n 0, 1) := by decide +kernel
theorem d7_1 : decode jdk_30_method_1_code 1 = .ok (.invokespecial 1, 3) := by decide +kernel
theorem d7_4 : decode jdk_30_method_1_code 4 = .ok (.return_, 1) := by decide +kernel
theorem pn_java_lang_Record : plainName "java/lang/Record" = true := by first | (simp [plainName, overriddenIn]; done) | decide +kernel
theorem ef_rm7 (m : MethodId) (ob : Addr) : entryFrame m #[(.ref ob)] 1 = mkF m 0 #[.val (.ref ob)] [] := by first | (simp [entryFrame, mkF, argsToLocals, Value.category]; done) | rfl
def Q7 (Z : State) (ob : Addr) (h0 : Heap) (n0 : Nat) (v : Option Value) (h : Heap) (L : List Loc) : Prop := v = none ∧ Fr n0 L ∧ h = h0
set_option maxRecDepth 65536 in
set_option maxHeartbeats 40000000 in
theorem rm7 (l : Launch) (Z : State) (a0 : Array Value) (hw : ∀ d ∈ tables_1, d.before a0 Z = true) (ws : List Jvm.Cond) (ob : Addr) (h0 : Heap) (n0 : Nat) (O0 : Old Z n0 h0) :
    MetFree l (⟨"java/lang/Record", "<init>", "()V"⟩ : MethodName) (head1 (Jvm.Cond.code (⟨"java/lang/Record", "<init>", "()V"⟩ : MethodName) jdk_30_method_1_code 1 none :: ws) ({ frames := 1, cells := 0, slots := 0, locals := 12 } : Room)) (fun ay U => ay = #[(.ref ob)] ∧ Z.Warmed39 U.vm ∧ U.heap = h0) (fun _ _ _ _ _ => True) (fun _ U o U' => ∃ v L, o = .returned v ∧ Q7 Z ob h0 n0 v U'.heap L ∧ FrameEnd U o U' L ({ frames := 1, cells := 0, slots := 0, locals := 12 } : Room).cells ({ frames := 1, cells := 0, slots := 0, locals := 12 } : Room).slots) := by
  refine MetFree.of_bodySF (plainFor_of_name pn_java_lang_Record) hisR ?_
  intro p e s m args below meth c s₁ Bd hml0 hP hK
  obtain ⟨rfl, hZ, hh⟩ := hP
  have hx := Bd.exec
  have hby := Bd.bytes
  have hlk : meth.locks = false := BodyLoose.notSynchronized Bd
  have hml : c.maxLocals = 1 := hml0
  have hown : s.vm.findClass "java/lang/Record" = some m.cls := findClass_of_methodNamed Bd.named
  have hnm := (name_of_methodNamed Bd.named Bd.method).1
  have X0 : Stand p l e ({ frames := 1, cells := 0, slots := 0, locals := 12 } : Room) s m #[(.ref ob)] below meth c s₁ [] 0 0 := Stand.of_body Bd
  have e0 : s₁.heap = h0 := by rw [← hh, Bd.state]; rfl
  have N0 := Fr.nil n0
  suffices hgo : Go p e below s 0 0 (Q7 Z ob h0 n0) (s₁.setTop (mkF m 0 #[.val (.ref ob)] [])) by
    obtain ⟨t, o, h1, h2⟩ := hgo; exact ⟨t, o, castTop (ef_rm7 m ob) h1, h2⟩
  show Go p e below s _ _ _ (s₁.setTop (mkF m 0 #[.val (.ref ob)] []))
  refine Go.st (fun _ k' => XS.aloadN X0.here hx rfl (hb hby d7_0) rfl rfl k') ?_
  show Go p e below s _ _ _ (s₁.setTop (mkF m 1 #[.val (.ref ob)] [(.ref ob)]))
  obtain ⟨T1, X1, e1, st1⟩ := initO X0 hx hZ hown (wdx hw 40 rfl) (wdx hw 22 rfl) (wdx hw 23 rfl) e0 (g := (mkF m 1 #[.val (.ref ob)] [(.ref ob)])) rfl (by rw [hml]; rfl) rfl (hb hby d7_1) (by decide) (W := 0) (by show 2 * 0 + _ ≤ _; exact Nat.le_of_eq rfl) (by decide)
  refine Go.st st1 ?_
  show Go p e below s _ _ _ (T1.setTop (mkF m 4 #[.val (.ref ob)] []))
  refine Go.retV X1 hx hlk Bd.returns (hb hby d7_4) (by decide) (by decide) e1 ?_
  exact ⟨rfl, N0, rfl⟩
theorem d6_0 : decode prog_32_method_1_code 0 = .ok (.aload_n 0, 1) := by decide +kernel
theorem pd___V : parseMethodDescriptor "()V" = some ⟨[], none⟩ := by decide +kernel
theorem d6_1 : decode prog_32_method_1_code 1 = .ok (.invokespecial 1, 3) := by decide +kernel
theorem d6_4 : decode prog_32_method_1_code 4 = .ok (.aload_n 1, 1) := by decide +kernel
theorem d6_5 : decode prog_32_method_1_code 5 = .ok (.ldc 7, 2) := by decide +kernel
theorem pd__Ljava_lang_Object_Ljava_lang_String__Ljava_lang_Object_ : parseMethodDescriptor "(Ljava/lang/Object;Ljava/lang/String;)Ljava/lang/Object;" = some ⟨[(.object "java/lang/Object"), (.object "java/lang/String")], some (.object "java/lang/Object")⟩ := by decide +kernel
theorem d6_7 : decode prog_32_method_1_code 7 = .ok (.invokestatic 9, 3) := by decide +kernel
theorem d6_10 : decode prog_32_method_1_code 10 = .ok (.pop, 1) := by decide +kernel
theorem d6_11 : decode prog_32_method_1_code 11 = .ok (.aload_n 2, 1) := by decide +kernel
theorem d6_12 : decode prog_32_method_1_code 12 = .ok (.ldc 15, 2) := by decide +kernel
theorem d6_14 : decode prog_32_method_1_code 14 = .ok (.invokestatic 9, 3) := by decide +kernel
theorem d6_17 : decode prog_32_method_1_code 17 = .ok (.pop, 1) := by decide +kernel
theorem d6_18 : decode prog_32_method_1_code 18 = .ok (.aload_n 0, 1) := by decide +kernel
theorem d6_19 : decode prog_32_method_1_code 19 = .ok (.aload_n 1, 1) := by decide +kernel
theorem d6_20 : decode prog_32_method_1_code 20 = .ok (.putfield 17, 3) := by decide +kernel
theorem d6_23 : decode prog_32_method_1_code 23 = .ok (.aload_n 0, 1) := by decide +kernel
theorem d6_24 : decode prog_32_method_1_code 24 = .ok (.aload_n 2, 1) := by decide +kernel
theorem d6_25 : decode prog_32_method_1_code 25 = .ok (.putfield 22, 3) := by decide +kernel
theorem d6_28 : decode prog_32_method_1_code 28 = .ok (.return_, 1) := by decide +kernel
theorem pn_com_example_indenture_indenture_model_ProjectActivity : plainName "com/example/indenture/indenture/model/ProjectActivity" = true := by first | (simp [plainName, overriddenIn]; done) | decide +kernel
theorem ef_rm6 (m : MethodId) (ob : Addr) (sa : Addr) (sb : Addr) : entryFrame m #[(.ref ob), (.ref sa), (.ref sb)] 3 = mkF m 0 #[.val (.ref ob), .val (.ref sa), .val (.ref sb)] [] := by first | (simp [entryFrame, mkF, argsToLocals, Value.category]; done) | rfl
def Q6 (Z : State) (ob : Addr) (sa : Addr) (sb : Addr) (h0 : Heap) (n0 : Nat) (v : Option Value) (h : Heap) (L : List Loc) : Prop := v = none ∧ Fr n0 L ∧ Keep h0 h [ob] ∧ Fld Z h ob "com/example/indenture/indenture/model/ProjectActivity" "project" "Ljava/lang/String;" (.ref sa) ∧ Fld Z h ob "com/example/indenture/indenture/model/ProjectActivity" "activity" "Ljava/lang/String;" (.ref sb)
set_option maxRecDepth 65536 in
set_option maxHeartbeats 40000000 in
theorem rm6 (l : Launch) (Z : State) (a0 : Array Value) (hw : ∀ d ∈ tables_1, d.before a0 Z = true) (ws : List Jvm.Cond) (ob : Addr) (sa : Addr) (sb : Addr) (h0 : Heap) (n0 : Nat) (O0 : Old Z n0 h0) (E_o : Exa Z h0 ob "com/example/indenture/indenture/model/ProjectActivity") (Fp : Fld Z h0 ob "com/example/indenture/indenture/model/ProjectActivity" "project" "Ljava/lang/String;" .null) (Fa : Fld Z h0 ob "com/example/indenture/indenture/model/ProjectActivity" "activity" "Ljava/lang/String;" .null) (g_o : n0 ≤ ob) :
    MetFree l (⟨"com/example/indenture/indenture/model/ProjectActivity", "<init>", "(Ljava/lang/String;Ljava/lang/String;)V"⟩ : MethodName) (head1 (Jvm.Cond.code (⟨"com/example/indenture/indenture/model/ProjectActivity", "<init>", "(Ljava/lang/String;Ljava/lang/String;)V"⟩ : MethodName) prog_32_method_1_code 3 none :: ws) ({ frames := 2, cells := 4, slots := 68, locals := 24 } : Room)) (fun ay U => ay = #[(.ref ob), (.ref sa), (.ref sb)] ∧ Z.Warmed39 U.vm ∧ U.heap = h0 ∧ CHv Z EL U.vm h0 ∧ ∀ y ∈ ([ob] : List Addr), Safe Z EL U.vm h0 y) (fun _ _ _ _ _ => True) (fun _ U o U' => ∃ v L, o = .returned v ∧ Q6 Z ob sa sb h0 n0 v U'.heap L ∧ CHr Z EL U.vm U.heap U'.vm U'.heap ∧ ReturnedEndW U o U' L ({ frames := 2, cells := 4, slots := 68, locals := 24 } : Room).cells ({ frames := 2, cells := 4, slots := 68, locals := 24 } : Room).slots) := by
  refine MetFree.of_bodySF (plainFor_of_name pn_com_example_indenture_indenture_model_ProjectActivity) hisR ?_
  intro p e s m args below meth c s₁ Bd hml0 hP hK
  obtain ⟨rfl, hZ, hh, hCH, hSf⟩ := hP
  have hx := Bd.exec
  have hby := Bd.bytes
  have hlk : meth.locks = false := BodyLoose.notSynchronized Bd
  have hml : c.maxLocals = 3 := hml0
  have hown : s.vm.findClass "com/example/indenture/indenture/model/ProjectActivity" = some m.cls := findClass_of_methodNamed Bd.named
  have hnm := (name_of_methodNamed Bd.named Bd.method).1
  have X0 : Stand p l e ({ frames := 2, cells := 4, slots := 68, locals := 24 } : Room) (s.setVm s.vm) m #[(.ref ob), (.ref sa), (.ref sb)] below meth c s₁ [] 0 0 := Stand.of_body Bd
  have e0 : s₁.heap = h0 := by rw [← hh, Bd.state]; rfl
  have N0 := Fr.nil n0
  have hS0 : s.Since s.vm 0 := (State.WarmedH.refl s).since 0
  have hk0 : 0 ≤ h0.size := Nat.zero_le _
  have CH0 : CHr Z EL s.vm s.heap s.vm h0 := by rw [hh]; exact CHr.refl hCH
  have hEL : EW Z a0 EL := own_EW hw
  have hwS := own_wS hw
  suffices hgo : GoW p e below s 4 68 Z EL (Q6 Z ob sa sb h0 n0) (s₁.setTop (mkF m 0 #[.val (.ref ob), .val (.ref sa), .val (.ref sb)] [])) by
    obtain ⟨t, o, h1, h2⟩ := hgo; exact ⟨t, o, castTop (ef_rm6 m ob sa sb) h1, h2⟩
  show GoW p e below s _ _ _ _ _ (s₁.setTop (mkF m 0 #[.val (.ref ob), .val (.ref sa), .val (.ref sb)] []))
  refine GoW.st (fun _ k' => XS.aloadN X0.here hx rfl (hb hby d6_0) rfl rfl k') ?_
  show GoW p e below s _ _ _ _ _ (s₁.setTop (mkF m 1 #[.val (.ref ob), .val (.ref sa), .val (.ref sb)] [(.ref ob)]))
  obtain ⟨_, _, ⟨T1, L1, k1, n1⟩, -, X1, ⟨Lc1, hQ1, l1, y1, z1⟩, st1⟩ := X0.specialBack hx (y := (⟨"java/lang/Record", "<init>", "()V"⟩ : MethodName)) rfl hown (mvT hZ (wdx hw 35 rfl)) (mvT hZ (wdx hw 36 rfl)) (mvT hZ (wdx hw 39 rfl)) (by decide) (backOf (W := 0) (rm7 l Z a0 hw [] ob h0 n0 O0 ) hZ (wdx hw 39 rfl) (wdx hw 38 rfl) (by decide) (by decide)) (g := (mkF m 1 #[.val (.ref ob), .val (.ref sa), .val (.ref sb)] [(.ref ob)])) rfl (by rw [hml]; rfl) (Steps.refl _) (a := ob) (argsL := []) (rest := []) (lenOf pd___V rfl) rfl (by show 2 * 0 + _ ≤ _; exact Nat.le_of_eq rfl) (hb hby d6_1) (fun _ _ => ⟨rfl, e0, (by exact Nat.le_of_ble_eq_true rfl), (by exact Nat.le_of_ble_eq_true rfl)⟩)
  dsimp only [Pt.U, Pt.locs, Pt.cells, Pt.slots] at X1 l1 y1 z1 st1 hQ1
  subst l1 y1 z1
  obtain ⟨rfl, Nq1, eq1⟩ := hQ1
  have N1 := Fr.app N0 Nq1
  refine GoW.tr st1 ?_
  show GoW p e below s _ _ _ _ _ (T1.setTop (mkF m 4 #[.val (.ref ob), .val (.ref sa), .val (.ref sb)] []))
  refine GoW.st (fun _ k' => XS.aloadN X1.here hx rfl (hb hby d6_4) rfl rfl k') ?_
  show GoW p e below s _ _ _ _ _ (T1.setTop (mkF m 5 #[.val (.ref ob), .val (.ref sa), .val (.ref sb)] [(.ref sa)]))
  obtain ⟨a2, T2, h2, q2, X2, e2, E2, hS2, hk2, hZ2, hown2, C2, -, st2⟩ := ldcOH X1 hx hZ hown (wdx hw 41 rfl) hwS eq1 hS0 hk0 hEL CH0.1 (g := (mkF m 5 #[.val (.ref ob), .val (.ref sa), .val (.ref sb)] [(.ref sa)])) rfl (hb hby d6_5) (n := 28) (by decide) (by decide) (by decide) (by decide)
  refine GoW.st st2 ?_
  have f3 : Exa Z h2 ob "com/example/indenture/indenture/model/ProjectActivity" := E_o.ext E2
  have f4 : Fld Z h2 ob "com/example/indenture/indenture/model/ProjectActivity" "project" "Ljava/lang/String;" .null := Fp.ext E2
  have f5 : Fld Z h2 ob "com/example/indenture/indenture/model/ProjectActivity" "activity" "Ljava/lang/String;" .null := Fa.ext E2
  have f6 : Safe Z EL T2.vm h2 ob := C2.safe E_o.lt (hSf ob (List.mem_of_getElem? (i := 0) rfl))
  have CH2 : CHr Z EL s.vm s.heap T2.vm h2 := CH0.trans C2
  have O2 : Old Z n0 h2 := O0.ext E2
  have K2 : Keep h0 h2 [ob] := (Keep.refl h0 [ob]).ext E2
  show GoW p e below s _ _ _ _ _ (T2.setTop (mkF m 7 #[.val (.ref ob), .val (.ref sa), .val (.ref sb)] [(.ref a2), (.ref sa)]))
  obtain ⟨_, _, ⟨T7, L7, k7, n7⟩, -, X7, ⟨Lc7, hQ7, l7, y7, z7⟩, st7⟩ := Jvm.LawKit.callS X2 hx (y := (⟨"java/util/Objects", "requireNonNull", "(Ljava/lang/Object;Ljava/lang/String;)Ljava/lang/Object;"⟩ : MethodName)) hown2 (mvT hZ2 (wdx hw 42 rfl)) (mvT hZ2 (wdx hw 43 rfl)) (mvT hZ2 (wdx hw 44 rfl)) (mvT hZ2 (wdx hw 45 rfl)) (by decide) (backOf (W := 0) (rm8 l Z a0 hw [] sa a2 h2 n0 O2 ) hZ2 (wdx hw 45 rfl) (wdx hw 44 rfl) (by decide) (by decide)) (g := (mkF m 7 #[.val (.ref ob), .val (.ref sa), .val (.ref sb)] [(.ref a2), (.ref sa)])) rfl (by rw [hml]; rfl) (argsL := [(.ref sa), (.ref a2)]) (rest := []) (lenOf pd__Ljava_lang_Object_Ljava_lang_String__Ljava_lang_Object_ rfl) rfl (by show 2 * 0 + _ ≤ _; exact Nat.le_of_eq rfl) (hb hby d6_7) (fun _ _ => ⟨rfl, e2, (by exact Nat.le_of_ble_eq_true rfl), (by exact Nat.le_of_ble_eq_true rfl)⟩)
  dsimp only [Pt.U, Pt.locs, Pt.cells, Pt.slots] at X7 l7 y7 z7 st7 hQ7
  subst l7 y7 z7
  obtain ⟨rfl, Nq7, eq7⟩ := hQ7
  have N7 := Fr.app N1 Nq7
  refine GoW.st st7 ?_
  show GoW p e below s _ _ _ _ _ (T7.setTop (mkF m 10 #[.val (.ref ob), .val (.ref sa), .val (.ref sb)] [(.ref sa)]))
  refine GoW.st (fun _ k' => XS.pop X7.here hx rfl (hb hby d6_10) rfl rfl k') ?_
  show GoW p e below s _ _ _ _ _ (T7.setTop (mkF m 11 #[.val (.ref ob), .val (.ref sa), .val (.ref sb)] []))
  refine GoW.st (fun _ k' => XS.aloadN X7.here hx rfl (hb hby d6_11) rfl rfl k') ?_
  show GoW p e below s _ _ _ _ _ (T7.setTop (mkF m 12 #[.val (.ref ob), .val (.ref sa), .val (.ref sb)] [(.ref sb)]))
  obtain ⟨a8, T8, h8, q8, X8, e8, E8, hS8, hk8, hZ8, hown8, C8, -, st8⟩ := ldcOH X7 hx hZ2 hown2 (wdx hw 46 rfl) hwS eq7 hS2 hk2 hEL CH2.1 (g := (mkF m 12 #[.val (.ref ob), .val (.ref sa), .val (.ref sb)] [(.ref sb)])) rfl (hb hby d6_12) (n := 32) (by decide) (by decide) (by decide) (by decide)
  refine GoW.st st8 ?_
  have f9 : Exa Z h8 ob "com/example/indenture/indenture/model/ProjectActivity" := f3.ext E8
  have f10 : Fld Z h8 ob "com/example/indenture/indenture/model/ProjectActivity" "project" "Ljava/lang/String;" .null := f4.ext E8
  have f11 : Fld Z h8 ob "com/example/indenture/indenture/model/ProjectActivity" "activity" "Ljava/lang/String;" .null := f5.ext E8
  have f12 : Safe Z EL T8.vm h8 ob := C8.safe f3.lt f6
  have CH8 : CHr Z EL s.vm s.heap T8.vm h8 := CH2.trans C8
  have O8 : Old Z n0 h8 := O2.ext E8
  have K8 : Keep h0 h8 [ob] := K2.ext E8
  show GoW p e below s _ _ _ _ _ (T8.setTop (mkF m 14 #[.val (.ref ob), .val (.ref sa), .val (.ref sb)] [(.ref a8), (.ref sb)]))
  obtain ⟨_, _, ⟨T13, L13, k13, n13⟩, -, X13, ⟨Lc13, hQ13, l13, y13, z13⟩, st13⟩ := Jvm.LawKit.callS X8 hx (y := (⟨"java/util/Objects", "requireNonNull", "(Ljava/lang/Object;Ljava/lang/String;)Ljava/lang/Object;"⟩ : MethodName)) hown8 (mvT hZ8 (wdx hw 42 rfl)) (mvT hZ8 (wdx hw 43 rfl)) (mvT hZ8 (wdx hw 44 rfl)) (mvT hZ8 (wdx hw 45 rfl)) (by decide) (backOf (W := 0) (rm8 l Z a0 hw [] sb a8 h8 n0 O8 ) hZ8 (wdx hw 45 rfl) (wdx hw 44 rfl) (by decide) (by decide)) (g := (mkF m 14 #[.val (.ref ob), .val (.ref sa), .val (.ref sb)] [(.ref a8), (.ref sb)])) rfl (by rw [hml]; rfl) (argsL := [(.ref sb), (.ref a8)]) (rest := []) (lenOf pd__Ljava_lang_Object_Ljava_lang_String__Ljava_lang_Object_ rfl) rfl (by show 2 * 0 + _ ≤ _; exact Nat.le_of_eq rfl) (hb hby d6_14) (fun _ _ => ⟨rfl, e8, (by exact Nat.le_of_ble_eq_true rfl), (by exact Nat.le_of_ble_eq_true rfl)⟩)
  dsimp only [Pt.U, Pt.locs, Pt.cells, Pt.slots] at X13 l13 y13 z13 st13 hQ13
  subst l13 y13 z13
  obtain ⟨rfl, Nq13, eq13⟩ := hQ13
  have N13 := Fr.app N7 Nq13
  refine GoW.st st13 ?_
  show GoW p e below s _ _ _ _ _ (T13.setTop (mkF m 17 #[.val (.ref ob), .val (.ref sa), .val (.ref sb)] [(.ref sb)]))
  refine GoW.st (fun _ k' => XS.pop X13.here hx rfl (hb hby d6_17) rfl rfl k') ?_
  show GoW p e below s _ _ _ _ _ (T13.setTop (mkF m 18 #[.val (.ref ob), .val (.ref sa), .val (.ref sb)] []))
  refine GoW.st (fun _ k' => XS.aloadN X13.here hx rfl (hb hby d6_18) rfl rfl k') ?_
  show GoW p e below s _ _ _ _ _ (T13.setTop (mkF m 19 #[.val (.ref ob), .val (.ref sa), .val (.ref sb)] [(.ref ob)]))
  refine GoW.st (fun _ k' => XS.aloadN X13.here hx rfl (hb hby d6_19) rfl rfl k') ?_
  show GoW p e below s _ _ _ _ _ (T13.setTop (mkF m 20 #[.val (.ref ob), .val (.ref sa), .val (.ref sb)] [(.ref sa), (.ref ob)]))
  obtain ⟨T14, h14, X14, e14, W14, st14⟩ := putF X13 hx hZ8 hown8 (host := "") (Or.inl (wdx hw 47 rfl)) Via.refl eq13 f10 f9 (Or.inr ⟨(wdx hw 48 rfl), rfl, hnm⟩) (wdx hw 1 rfl) (ty := (.object "java/lang/String")) (by decide) rfl rfl (g := (mkF m 20 #[.val (.ref ob), .val (.ref sa), .val (.ref sb)] [(.ref sa), (.ref ob)])) rfl rfl (hb hby d6_20)
  refine GoW.st st14 ?_
  have f15 : Exa Z h14 ob "com/example/indenture/indenture/model/ProjectActivity" := f9.wr W14
  have f16 : Fld Z h14 ob "com/example/indenture/indenture/model/ProjectActivity" "project" "Ljava/lang/String;" (.ref sa) := f10.same W14
  have f17 : Fld Z h14 ob "com/example/indenture/indenture/model/ProjectActivity" "activity" "Ljava/lang/String;" .null := f11.other W14 (Or.inr (slot_ne (Or.inr (wdx hw 50 rfl)) (Or.inr (wdx hw 48 rfl)) (by decide) (t := (.object "java/lang/String")) (t' := (.object "java/lang/String")) (by decide) (by decide)))
  have f18 : Safe Z EL T8.vm h14 ob := Safe.wr W14 f12 CH8.1 f12
  have CH14 : CHr Z EL s.vm s.heap T8.vm h14 := CH8.trans (CHr.wr W14 f12 CH8.1)
  have hk14 : q8 ≤ Array.size h14 := Nat.le_trans hk8 (Keep.of_wr W14).1
  have O14 : Old Z n0 h14 := O8.wr W14 g_o
  have N14 := Fr.snoc X14 N13 g_o
  have K14 : Keep h0 h14 [ob] := K8.wr W14 (Or.inl (by simp))
  show GoW p e below s _ _ _ _ _ (T14.setTop (mkF m 23 #[.val (.ref ob), .val (.ref sa), .val (.ref sb)] []))
  refine GoW.st (fun _ k' => XS.aloadN X14.here hx rfl (hb hby d6_23) rfl rfl k') ?_
  show GoW p e below s _ _ _ _ _ (T14.setTop (mkF m 24 #[.val (.ref ob), .val (.ref sa), .val (.ref sb)] [(.ref ob)]))
  refine GoW.st (fun _ k' => XS.aloadN X14.here hx rfl (hb hby d6_24) rfl rfl k') ?_
  show GoW p e below s _ _ _ _ _ (T14.setTop (mkF m 25 #[.val (.ref ob), .val (.ref sa), .val (.ref sb)] [(.ref sb), (.ref ob)]))
  obtain ⟨T19, h19, X19, e19, W19, st19⟩ := putF X14 hx hZ8 hown8 (host := "") (Or.inl (wdx hw 49 rfl)) Via.refl e14 f17 f15 (Or.inr ⟨(wdx hw 50 rfl), rfl, hnm⟩) (wdx hw 1 rfl) (ty := (.object "java/lang/String")) (by decide) rfl rfl (g := (mkF m 25 #[.val (.ref ob), .val (.ref sa), .val (.ref sb)] [(.ref sb), (.ref ob)])) rfl rfl (hb hby d6_25)
  refine GoW.st st19 ?_
  have f20 : Exa Z h19 ob "com/example/indenture/indenture/model/ProjectActivity" := f15.wr W19
  have f21 : Fld Z h19 ob "com/example/indenture/indenture/model/ProjectActivity" "project" "Ljava/lang/String;" (.ref sa) := f16.other W19 (Or.inr (slot_ne (Or.inr (wdx hw 48 rfl)) (Or.inr (wdx hw 50 rfl)) (by decide) (t := (.object "java/lang/String")) (t' := (.object "java/lang/String")) (by decide) (by decide)))
  have f22 : Fld Z h19 ob "com/example/indenture/indenture/model/ProjectActivity" "activity" "Ljava/lang/String;" (.ref sb) := f17.same W19
  have f23 : Safe Z EL T8.vm h19 ob := Safe.wr W19 f18 CH14.1 f18
  have CH19 : CHr Z EL s.vm s.heap T8.vm h19 := CH14.trans (CHr.wr W19 f18 CH14.1)
  have hk19 : q8 ≤ Array.size h19 := Nat.le_trans hk14 (Keep.of_wr W19).1
  have O19 : Old Z n0 h19 := O14.wr W19 g_o
  have N19 := Fr.snoc X19 N14 g_o
  have K19 : Keep h0 h19 [ob] := K14.wr W19 (Or.inl (by simp))
  show GoW p e below s _ _ _ _ _ (T19.setTop (mkF m 28 #[.val (.ref ob), .val (.ref sa), .val (.ref sb)] []))
  refine GoW.retV X19 hx hlk hS8 (by rw [e19]; exact hk19) hZ8 hEL CH19 Bd.returns (hb hby d6_28) (by decide) (by decide) e19 ?_
  exact ⟨rfl, N19, K19, f21, f22⟩
theorem d1_0 : decode method_5_code 0 = .ok (.iload_n 0, 1) := by decide +kernel
theorem d1_1 : decode method_5_code 1 = .ok (.invokestatic 7, 3) := by decide +kernel
theorem d1_4 : decode method_5_code 4 = .ok (.istore_n 1, 1) := by decide +kernel
theorem d1_5 : decode method_5_code 5 = .ok (.iload_n 1, 1) := by decide +kernel
theorem d1_6 : decode method_5_code 6 = .ok (.ifCond .ne 14, 3) := by decide +kernel
theorem d1_9 : decode method_5_code 9 = .ok (.new 13, 3) := by decide +kernel
theorem d1_12 : decode method_5_code 12 = .ok (.dup, 1) := by decide +kernel
theorem d1_13 : decode method_5_code 13 = .ok (.iconst 0, 1) := by decide +kernel
theorem d1_14 : decode method_5_code 14 = .ok (.newarray .char, 2) := by decide +kernel
theorem pd___C_V : parseMethodDescriptor "([C)V" = some ⟨[(.array .char)], none⟩ := by decide +kernel
theorem d1_16 : decode method_5_code 16 = .ok (.invokespecial 15, 3) := by decide +kernel
theorem d1_19 : decode method_5_code 19 = .ok (.areturn, 1) := by decide +kernel
theorem d1_20 : decode method_5_code 20 = .ok (.iload_n 1, 1) := by decide +kernel
theorem d1_21 : decode method_5_code 21 = .ok (.iconst 1, 1) := by decide +kernel
theorem d1_22 : decode method_5_code 22 = .ok (.if_icmp .ne 23, 3) := by decide +kernel
theorem d1_25 : decode method_5_code 25 = .ok (.iconst 1, 1) := by decide +kernel
theorem d1_26 : decode method_5_code 26 = .ok (.newarray .char, 2) := by decide +kernel
theorem d1_28 : decode method_5_code 28 = .ok (.astore_n 2, 1) := by decide +kernel
theorem d1_29 : decode method_5_code 29 = .ok (.aload_n 2, 1) := by decide +kernel
theorem d1_30 : decode method_5_code 30 = .ok (.iconst 0, 1) := by decide +kernel
theorem d1_31 : decode method_5_code 31 = .ok (.iload_n 0, 1) := by decide +kernel
theorem d1_32 : decode method_5_code 32 = .ok (.invokestatic 18, 3) := by decide +kernel
theorem d1_35 : decode method_5_code 35 = .ok (.castore, 1) := by decide +kernel
theorem d1_36 : decode method_5_code 36 = .ok (.new 13, 3) := by decide +kernel
theorem d1_39 : decode method_5_code 39 = .ok (.dup, 1) := by decide +kernel
theorem d1_40 : decode method_5_code 40 = .ok (.aload_n 2, 1) := by decide +kernel
theorem d1_41 : decode method_5_code 41 = .ok (.invokespecial 15, 3) := by decide +kernel
theorem d1_44 : decode method_5_code 44 = .ok (.areturn, 1) := by decide +kernel
theorem d1_45 : decode method_5_code 45 = .ok (.iconst 2, 1) := by decide +kernel
theorem d1_46 : decode method_5_code 46 = .ok (.newarray .char, 2) := by decide +kernel
theorem d1_48 : decode method_5_code 48 = .ok (.astore_n 2, 1) := by decide +kernel
theorem d1_49 : decode method_5_code 49 = .ok (.aload_n 2, 1) := by decide +kernel
theorem d1_50 : decode method_5_code 50 = .ok (.iconst 0, 1) := by decide +kernel
theorem d1_51 : decode method_5_code 51 = .ok (.iload_n 0, 1) := by decide +kernel
theorem d1_52 : decode method_5_code 52 = .ok (.invokestatic 18, 3) := by decide +kernel
theorem d1_55 : decode method_5_code 55 = .ok (.castore, 1) := by decide +kernel
theorem d1_56 : decode method_5_code 56 = .ok (.aload_n 2, 1) := by decide +kernel
theorem d1_57 : decode method_5_code 57 = .ok (.iconst 1, 1) := by decide +kernel
theorem d1_58 : decode method_5_code 58 = .ok (.iload_n 0, 1) := by decide +kernel
theorem d1_59 : decode method_5_code 59 = .ok (.invokestatic 22, 3) := by decide +kernel
theorem d1_62 : decode method_5_code 62 = .ok (.castore, 1) := by decide +kernel
theorem d1_63 : decode method_5_code 63 = .ok (.new 13, 3) := by decide +kernel
theorem d1_66 : decode method_5_code 66 = .ok (.dup, 1) := by decide +kernel
theorem d1_67 : decode method_5_code 67 = .ok (.aload_n 2, 1) := by decide +kernel
theorem d1_68 : decode method_5_code 68 = .ok (.invokespecial 15, 3) := by decide +kernel
theorem d1_71 : decode method_5_code 71 = .ok (.areturn, 1) := by decide +kernel
theorem ef_rm1 (m : MethodId) (u : Int32) : entryFrame m #[(.int u)] 3 = mkF m 0 #[.val (.int u), .unset, .unset] [] := by first | (simp [entryFrame, mkF, argsToLocals, Value.category]; done) | rfl
def Q1 (Z : State) (u : Int32) (cs : Int32) (h0 : Heap) (n0 : Nat) (v : Option Value) (h : Heap) (L : List Loc) : Prop := ∃ (rr : Addr) (tb : Addr) (kt : ClassId), v = some (.ref rr) ∧ Fr n0 L ∧ Keep h0 h [] ∧ Exa Z h rr "java/lang/String" ∧ Fld Z h rr "java/lang/String" "coder" "B" (.int (0 : Int32)) ∧ Fld Z h rr "java/lang/String" "value" "[B" (.ref tb) ∧ Arv Z h tb kt .byte (Int32.ofNat (List.length (fls u))) (List.map Value.int (fls u)) (.int (0 : Int32)) ∧ h0.size ≤ rr
set_option maxRecDepth 65536 in
set_option maxHeartbeats 40000000 in
theorem rm1 (l : Launch) (Z : State) (a0 : Array Value) (hw : ∀ d ∈ tables_1, d.before a0 Z = true) (ws : List Jvm.Cond) (u : Int32) (cs : Int32) (h0 : Heap) (n0 : Nat) (O0 : Old Z n0 h0) (S_cs : Sta Z Z.heap "java/lang/String" "COMPACT_STRINGS" "Z" (.int cs)) (q_cs : ¬ cs = (0 : Int32)) :
    MetFree l (⟨"com/example/indenture/indenture/model/ProjectActivityEqualsPinLaw", "str", "(I)Ljava/lang/String;"⟩ : MethodName) (head1 (Jvm.Cond.code (⟨"com/example/indenture/indenture/model/ProjectActivityEqualsPinLaw", "str", "(I)Ljava/lang/String;"⟩ : MethodName) method_5_code 3 (some (.object "java/lang/String")) :: ws) ({ frames := 4, cells := 6, slots := 12, locals := 66 } : Room)) (fun ay U => ay = #[(.int u)] ∧ Z.Warmed39 U.vm ∧ U.heap = h0 ∧ CHv Z EL U.vm h0 ∧ ∀ y ∈ ([] : List Addr), Safe Z EL U.vm h0 y) (fun _ _ _ _ _ => True) (fun _ U o U' => ∃ v L, o = .returned v ∧ Q1 Z u cs h0 n0 v U'.heap L ∧ CHr Z EL U.vm U.heap U'.vm U'.heap ∧ ReturnedEndW U o U' L ({ frames := 4, cells := 6, slots := 12, locals := 66 } : Room).cells ({ frames := 4, cells := 6, slots := 12, locals := 66 } : Room).slots) := by
  refine MetFree.of_bodySF (plainFor_of_name pn_com_example_indenture_indenture_model_ProjectActivityEqualsPinLaw) hisR ?_
  intro p e s m args below meth c s₁ Bd hml0 hP hK
  obtain ⟨rfl, hZ, hh, hCH, hSf⟩ := hP
  have hx := Bd.exec
  have hby := Bd.bytes
  have hlk : meth.locks = false := BodyLoose.notSynchronized Bd
  have hml : c.maxLocals = 3 := hml0
  have hown : s.vm.findClass "com/example/indenture/indenture/model/ProjectActivityEqualsPinLaw" = some m.cls := findClass_of_methodNamed Bd.named
  have hnm := (name_of_methodNamed Bd.named Bd.method).1
  have X0 : Stand p l e ({ frames := 4, cells := 6, slots := 12, locals := 66 } : Room) (s.setVm s.vm) m #[(.int u)] below meth c s₁ [] 0 0 := Stand.of_body Bd
  have e0 : s₁.heap = h0 := by rw [← hh, Bd.state]; rfl
  have N0 := Fr.nil n0
  have hS0 : s.Since s.vm 0 := (State.WarmedH.refl s).since 0
  have hk0 : 0 ≤ h0.size := Nat.zero_le _
  have CH0 : CHr Z EL s.vm s.heap s.vm h0 := by rw [hh]; exact CHr.refl hCH
  have hEL : EW Z a0 EL := own_EW hw
  have hwS := own_wS hw
  suffices hgo : GoW p e below s 6 12 Z EL (Q1 Z u cs h0 n0) (s₁.setTop (mkF m 0 #[.val (.int u), .unset, .unset] [])) by
    obtain ⟨t, o, h1, h2⟩ := hgo; exact ⟨t, o, castTop (ef_rm1 m u) h1, h2⟩
  show GoW p e below s _ _ _ _ _ (s₁.setTop (mkF m 0 #[.val (.int u), .unset, .unset] []))
  refine GoW.st (fun _ k' => XS.iloadN X0.here hx rfl (hb hby d1_0) rfl k') ?_
  show GoW p e below s _ _ _ _ _ (s₁.setTop (mkF m 1 #[.val (.int u), .unset, .unset] [(.int u)]))
  obtain ⟨_, _, ⟨T1, L1, k1, n1⟩, -, X1, ⟨Lc1, hQ1, l1, y1, z1⟩, st1⟩ := Jvm.LawKit.callS X0 hx (y := (⟨"com/example/indenture/indenture/model/ProjectActivityEqualsPinLaw", "len", "(I)I"⟩ : MethodName)) hown (mvT hZ (wdx hw 7 rfl)) (mvT hZ (wdx hw 8 rfl)) (mvT hZ (wdx hw 5 rfl)) (mvT hZ (wdx hw 9 rfl)) (by decide) (backOf (W := 0) (rm2 l Z a0 hw [] u h0 n0 O0 ) hZ (wdx hw 9 rfl) (wdx hw 5 rfl) (by decide) (by decide)) (g := (mkF m 1 #[.val (.int u), .unset, .unset] [(.int u)])) rfl (by rw [hml]; rfl) (argsL := [(.int u)]) (rest := []) (lenOf pd__I_I rfl) rfl (by show 2 * 0 + _ ≤ _; exact Nat.le_of_eq rfl) (hb hby d1_1) (fun _ _ => ⟨rfl, e0, (by exact Nat.le_of_ble_eq_true rfl), (by exact Nat.le_of_ble_eq_true rfl)⟩)
  dsimp only [Pt.U, Pt.locs, Pt.cells, Pt.slots] at X1 l1 y1 z1 st1 hQ1
  subst l1 y1 z1
  obtain ⟨rfl, Nq1, eq1⟩ := hQ1
  have N1 := Fr.app N0 Nq1
  refine GoW.st st1 ?_
  show GoW p e below s _ _ _ _ _ (T1.setTop (mkF m 4 #[.val (.int u), .unset, .unset] [(.int (fln u))]))
  refine GoW.st (fun _ k' => XS.istoreN X1.here hx rfl (hb hby d1_4) rfl (l' := #[.val (.int u), .val (.int (fln u)), .unset]) rfl k') ?_
  show GoW p e below s _ _ _ _ _ (T1.setTop (mkF m 5 #[.val (.int u), .val (.int (fln u)), .unset] []))
  rcases own_ln u with hl | hl | hl
  · rw [hl]
    show GoW p e below s _ _ _ _ _ (T1.setTop (mkF m 5 #[.val (.int u), .val (.int (0 : Int32)), .unset] []))
    refine GoW.st (fun _ k' => XS.iloadN X1.here hx rfl (hb hby d1_5) rfl k') ?_
    show GoW p e below s _ _ _ _ _ (T1.setTop (mkF m 6 #[.val (.int u), .val (.int (0 : Int32)), .unset] [(.int (0 : Int32))]))
    refine GoW.st (fun _ k' => XS.ifNo X1.here hx rfl (hb hby d1_6) rfl (XT.i0_ne_f (by decide)) k') ?_
    show GoW p e below s _ _ _ _ _ (T1.setTop (mkF m 9 #[.val (.int u), .val (.int (0 : Int32)), .unset] []))
    obtain ⟨T2, h2, X2, e2, E2, A2, D2, -, st2⟩ := newO X1 hx hZ hown (wdx hw 10 rfl) (wdx hw 11 rfl) (wdx hw 12 rfl) eq1 (g := (mkF m 9 #[.val (.int u), .val (.int (0 : Int32)), .unset] [])) rfl (hb hby d1_9) (by decide) (by decide)
    obtain ⟨b2, g2⟩ : ∃ z, z = h0.size := ⟨_, rfl⟩
    rw [← g2] at A2 D2 st2
    refine GoW.st st2 ?_
    have g_b2 : n0 ≤ b2 := Nat.le_trans (own_le O0) (Nat.le_of_eq g2.symm)
    have z_b2 : h0.size ≤ b2 := Nat.le_of_eq g2.symm
    have sf_b2 : Safe Z EL s.vm h0 b2 := Safe.new (Nat.le_of_eq g2.symm)
    have f3 : Safe Z EL s.vm h2 b2 := Safe.ext E2 CH0.1 sf_b2
    have CH2 : CHr Z EL s.vm s.heap s.vm h2 := CH0.trans (CHr.ext E2 CH0.1)
    have hk2 : 0 ≤ Array.size h2 := Nat.le_trans hk0 E2.1
    have O2 : Old Z n0 h2 := O0.ext E2
    have K2 : Keep h0 h2 [] := (Keep.refl h0 []).ext E2
    have f4 : Fld Z h2 b2 "java/lang/String" "value" "[B" .null := D2 (Or.inr (wdx hw 26 rfl)) (ty := (.array .byte)) (by decide)
    have f5 : Fld Z h2 b2 "java/lang/String" "coder" "B" (.int (0 : Int32)) := D2 (Or.inr (wdx hw 27 rfl)) (ty := .byte) (by decide)
    show GoW p e below s _ _ _ _ _ (T2.setTop (mkF m 12 #[.val (.int u), .val (.int (0 : Int32)), .unset] [(.ref b2)]))
    refine GoW.st (fun _ k' => XS.dup X2.here hx rfl (hb hby d1_12) rfl rfl k') ?_
    show GoW p e below s _ _ _ _ _ (T2.setTop (mkF m 13 #[.val (.int u), .val (.int (0 : Int32)), .unset] [(.ref b2), (.ref b2)]))
    refine GoW.st (fun _ k' => XS.iconst X2.here hx rfl (hb hby d1_13) k') ?_
    show GoW p e below s _ _ _ _ _ (T2.setTop (mkF m 14 #[.val (.int u), .val (.int (0 : Int32)), .unset] [(.int (0 : Int32)), (.ref b2), (.ref b2)]))
    obtain ⟨T6, h6, k6, X6, e6, E6, A6, st6⟩ := newP X2 hx hZ (wdx hw 13 rfl) e2 (g := (mkF m 14 #[.val (.int u), .val (.int (0 : Int32)), .unset] [(.int (0 : Int32)), (.ref b2), (.ref b2)])) rfl (hb hby d1_14) rfl (by decide) (cap := 0) (by decide) (by decide) (by decide) (by decide)
    obtain ⟨b6, g6⟩ : ∃ z, z = h2.size := ⟨_, rfl⟩
    rw [← g6] at A6 st6
    refine GoW.st st6 ?_
    have g_b6 : n0 ≤ b6 := Nat.le_trans (own_le O2) (Nat.le_of_eq g6.symm)
    have z_b6 : h0.size ≤ b6 := Nat.le_trans K2.1 (Nat.le_of_eq g6.symm)
    have sf_b6 : Safe Z EL s.vm h2 b6 := Safe.new (Nat.le_of_eq g6.symm)
    have ne7 : b2 ≠ b6 := Nat.ne_of_lt (Nat.lt_of_lt_of_le A2.lt (Nat.le_of_eq g6.symm))
    have f8 : Safe Z EL s.vm h6 b2 := Safe.ext E6 CH2.1 f3
    have f9 : Exa Z h6 b2 "java/lang/String" := A2.ext E6
    have f10 : Fld Z h6 b2 "java/lang/String" "value" "[B" .null := f4.ext E6
    have f11 : Fld Z h6 b2 "java/lang/String" "coder" "B" (.int (0 : Int32)) := f5.ext E6
    have f12 : Safe Z EL s.vm h6 b6 := Safe.ext E6 CH2.1 sf_b6
    have CH6 : CHr Z EL s.vm s.heap s.vm h6 := CH2.trans (CHr.ext E6 CH2.1)
    have hk6 : 0 ≤ Array.size h6 := Nat.le_trans hk2 E6.1
    have O6 : Old Z n0 h6 := O2.ext E6
    have K6 : Keep h0 h6 [] := K2.ext E6
    have f13 : Arv Z h6 b6 k6 .char (0 : Int32) [] (.int (0 : Int32)) := (Arv.new A6 (by decide)).pad (pad_rep [] (.int (0 : Int32)) 0)
    show GoW p e below s _ _ _ _ _ (T6.setTop (mkF m 16 #[.val (.int u), .val (.int (0 : Int32)), .unset] [(.ref b6), (.ref b2), (.ref b2)]))
    obtain ⟨_, _, ⟨T14, L14, k14, n14⟩, -, Xr14, hSr14, hgr14, ⟨Lc14, hQ14, l14, y14, z14, C14⟩, st14⟩ := X6.specialBackS hx (y := (⟨"java/lang/String", "<init>", "([C)V"⟩ : MethodName)) rfl hown (mvT hZ (wdx hw 14 rfl)) (mvT hZ (wdx hw 15 rfl)) (mvT hZ (wdx hw 16 rfl)) (by decide) (own_back (W := 1) (rm3_0 l Z a0 hw [] b2 b6 k6 h6 n0 O6 f9 f10 f11 f13 g_b2) hZ (wdx hw 16 rfl) (wdx hw 12 rfl) (by decide) (by decide) hEL CH6.1 (allS ⟨f9.lt, f8⟩ all0)) (g := (mkF m 16 #[.val (.int u), .val (.int (0 : Int32)), .unset] [(.ref b6), (.ref b2), (.ref b2)])) rfl (by rw [hml]; rfl) (Steps.refl _) (a := b2) (argsL := [(.ref b6)]) (rest := [(.ref b2)]) (lenOf pd___C_V rfl) rfl (by show 2 * 0 + _ ≤ _; exact Nat.le_of_eq rfl) (hb hby d1_16) (fun _ _ => ⟨rfl, e6, (by exact Nat.le_of_ble_eq_true rfl), (by exact Nat.le_of_ble_eq_true rfl)⟩)
    dsimp only [Pt.U, Pt.locs, Pt.cells, Pt.slots] at Xr14 hSr14 hgr14 l14 y14 z14 C14 st14 hQ14
    subst l14 y14 z14
    obtain ⟨X14, hS14, hZ14, hown14⟩ := rebS hS0 (by rw [e6]; exact hk6) Xr14 hSr14 hgr14 hZ hown
    obtain ⟨tb_14, kt_14, rfl, Nq14, Kq14, f15, f16, f17⟩ := hQ14
    have N14 := Fr.app N1 Nq14
    refine GoW.tr st14 ?_
    have f18 : Safe Z EL T14.vm T14.heap b2 := C14.safe f9.lt f8
    have f19 : Exa Z T14.heap b2 "java/lang/String" := f9.keep Kq14
    have f20 : Safe Z EL T14.vm T14.heap b6 := C14.safe f13.lt f12
    have f21 : Arv Z T14.heap b6 k6 .char (0 : Int32) [] (.int (0 : Int32)) := f13.keep Kq14 (ninS (Ne.symm ne7) nin0)
    have CH14 : CHr Z EL s.vm s.heap T14.vm T14.heap := CH6.trans C14
    have O14 : Old Z n0 T14.heap := O6.keep Kq14 (allS g_b2 all0)
    have K14 : Keep h0 T14.heap [] := K6.trans Kq14 (allS (Or.inr z_b2) all0)
    show GoW p e below s _ _ _ _ _ (T14.setTop (mkF m 19 #[.val (.int u), .val (.int (0 : Int32)), .unset] [(.ref b2)]))
    refine GoW.ret X14 hx hlk hS14 (Nat.le_refl _) hZ14 hEL CH14 (t := (.object "java/lang/String")) Bd.returns rfl (Or.inr (Or.inr (Or.inr (Or.inr ⟨rfl, rfl, rfl⟩)))) (hb hby d1_19) (by decide) (by decide) rfl ?_
    exact ⟨b2, tb_14, kt_14, rfl, N14, K14, f19, f16, f15, (own_vs (lb := []) (by simp [fls, fb, hl]) f17), z_b2⟩
  · rw [hl]
    show GoW p e below s _ _ _ _ _ (T1.setTop (mkF m 5 #[.val (.int u), .val (.int (1 : Int32)), .unset] []))
    refine GoW.st (fun _ k' => XS.iloadN X1.here hx rfl (hb hby d1_5) rfl k') ?_
    show GoW p e below s _ _ _ _ _ (T1.setTop (mkF m 6 #[.val (.int u), .val (.int (1 : Int32)), .unset] [(.int (1 : Int32))]))
    refine GoW.st (fun _ k' => XS.ifYes X1.here hx rfl (pc0 := 6) (pc' := 20) rfl (hb hby d1_6) rfl (XT.i0_ne_t (by decide)) (by decide) (by decide) k') ?_
    show GoW p e below s _ _ _ _ _ (T1.setTop (mkF m 20 #[.val (.int u), .val (.int (1 : Int32)), .unset] []))
    refine GoW.st (fun _ k' => XS.iloadN X1.here hx rfl (hb hby d1_20) rfl k') ?_
    show GoW p e below s _ _ _ _ _ (T1.setTop (mkF m 21 #[.val (.int u), .val (.int (1 : Int32)), .unset] [(.int (1 : Int32))]))
    refine GoW.st (fun _ k' => XS.iconst X1.here hx rfl (hb hby d1_21) k') ?_
    show GoW p e below s _ _ _ _ _ (T1.setTop (mkF m 22 #[.val (.int u), .val (.int (1 : Int32)), .unset] [(.int (1 : Int32)), (.int (1 : Int32))]))
    refine GoW.st (fun _ k' => XS.icmpNo X1.here hx rfl (hb hby d1_22) rfl (XT.ii_ne_f (by decide)) k') ?_
    show GoW p e below s _ _ _ _ _ (T1.setTop (mkF m 25 #[.val (.int u), .val (.int (1 : Int32)), .unset] []))
    refine GoW.st (fun _ k' => XS.iconst X1.here hx rfl (hb hby d1_25) k') ?_
    show GoW p e below s _ _ _ _ _ (T1.setTop (mkF m 26 #[.val (.int u), .val (.int (1 : Int32)), .unset] [(.int (1 : Int32))]))
    obtain ⟨T22, h22, k22, X22, e22, E22, A22, st22⟩ := newP X1 hx hZ (wdx hw 13 rfl) eq1 (g := (mkF m 26 #[.val (.int u), .val (.int (1 : Int32)), .unset] [(.int (1 : Int32))])) rfl (hb hby d1_26) rfl (by decide) (cap := 1) (by decide) (by decide) (by decide) (by decide)
    obtain ⟨b22, g22⟩ : ∃ z, z = h0.size := ⟨_, rfl⟩
    rw [← g22] at A22 st22
    refine GoW.st st22 ?_
    have g_b22 : n0 ≤ b22 := Nat.le_trans (own_le O0) (Nat.le_of_eq g22.symm)
    have z_b22 : h0.size ≤ b22 := Nat.le_of_eq g22.symm
    have sf_b22 : Safe Z EL s.vm h0 b22 := Safe.new (Nat.le_of_eq g22.symm)
    have f23 : Safe Z EL s.vm h22 b22 := Safe.ext E22 CH0.1 sf_b22
    have CH22 : CHr Z EL s.vm s.heap s.vm h22 := CH0.trans (CHr.ext E22 CH0.1)
    have hk22 : 0 ≤ Array.size h22 := Nat.le_trans hk0 E22.1
    have O22 : Old Z n0 h22 := O0.ext E22
    have K22 : Keep h0 h22 [] := (Keep.refl h0 []).ext E22
    have f24 : Arv Z h22 b22 k22 .char (1 : Int32) [(.int (0 : Int32))] (.int (0 : Int32)) := (Arv.new A22 (by decide)).pad (pad_rep [] (.int (0 : Int32)) 1)
    show GoW p e below s _ _ _ _ _ (T22.setTop (mkF m 28 #[.val (.int u), .val (.int (1 : Int32)), .unset] [(.ref b22)]))
    refine GoW.st (fun _ k' => XS.astoreN X22.here hx rfl (hb hby d1_28) rfl rfl (l' := #[.val (.int u), .val (.int (1 : Int32)), .val (.ref b22)]) rfl k') ?_
    show GoW p e below s _ _ _ _ _ (T22.setTop (mkF m 29 #[.val (.int u), .val (.int (1 : Int32)), .val (.ref b22)] []))
    refine GoW.st (fun _ k' => XS.aloadN X22.here hx rfl (hb hby d1_29) rfl rfl k') ?_
    show GoW p e below s _ _ _ _ _ (T22.setTop (mkF m 30 #[.val (.int u), .val (.int (1 : Int32)), .val (.ref b22)] [(.ref b22)]))
    refine GoW.st (fun _ k' => XS.iconst X22.here hx rfl (hb hby d1_30) k') ?_
    show GoW p e below s _ _ _ _ _ (T22.setTop (mkF m 31 #[.val (.int u), .val (.int (1 : Int32)), .val (.ref b22)] [(.int (0 : Int32)), (.ref b22)]))
    refine GoW.st (fun _ k' => XS.iloadN X22.here hx rfl (hb hby d1_31) rfl k') ?_
    show GoW p e below s _ _ _ _ _ (T22.setTop (mkF m 32 #[.val (.int u), .val (.int (1 : Int32)), .val (.ref b22)] [(.int u), (.int (0 : Int32)), (.ref b22)]))
    obtain ⟨_, _, ⟨T25, L25, k25, n25⟩, -, X25, ⟨Lc25, hQ25, l25, y25, z25⟩, st25⟩ := Jvm.LawKit.callS X22 hx (y := (⟨"com/example/indenture/indenture/model/ProjectActivityEqualsPinLaw", "c0", "(I)C"⟩ : MethodName)) hown (mvT hZ (wdx hw 74 rfl)) (mvT hZ (wdx hw 75 rfl)) (mvT hZ (wdx hw 5 rfl)) (mvT hZ (wdx hw 76 rfl)) (by decide) (backOf (W := 2) (rm13 l Z a0 hw [] u h22 n0 O22 ) hZ (wdx hw 76 rfl) (wdx hw 5 rfl) (by decide) (by decide)) (g := (mkF m 32 #[.val (.int u), .val (.int (1 : Int32)), .val (.ref b22)] [(.int u), (.int (0 : Int32)), (.ref b22)])) rfl (by rw [hml]; rfl) (argsL := [(.int u)]) (rest := [(.int (0 : Int32)), (.ref b22)]) (lenOf pd__I_C rfl) rfl (by show 2 * 0 + _ ≤ _; exact Nat.le_of_eq rfl) (hb hby d1_32) (fun _ _ => ⟨rfl, e22, (by exact Nat.le_of_ble_eq_true rfl), (by exact Nat.le_of_ble_eq_true rfl)⟩)
    dsimp only [Pt.U, Pt.locs, Pt.cells, Pt.slots] at X25 l25 y25 z25 st25 hQ25
    subst l25 y25 z25
    obtain ⟨rfl, Nq25, eq25⟩ := hQ25
    have N25 := Fr.app N1 Nq25
    refine GoW.st st25 ?_
    show GoW p e below s _ _ _ _ _ (T25.setTop (mkF m 35 #[.val (.int u), .val (.int (1 : Int32)), .val (.ref b22)] [(.int (fc0 u)), (.int (0 : Int32)), (.ref b22)]))
    obtain ⟨cl26, Ar26, qc26, Sz26, Nn26, Ha26, Gf26⟩ := id f24
    obtain ⟨T26, h26, X26, e26, W26, st26⟩ := stC X25 hx hZ eq25 Ar26 (j := (0 : Int32)) (inb_of Sz26 ⟨by decide, by decide⟩) (g := (mkF m 35 #[.val (.int u), .val (.int (1 : Int32)), .val (.ref b22)] [(.int (fc0 u)), (.int (0 : Int32)), (.ref b22)])) rfl rfl (hb hby d1_35)
    refine GoW.st st26 ?_
    have f28 : Safe Z EL s.vm h26 b22 := Safe.wr W26 f23 CH22.1 f23
    have CH26 : CHr Z EL s.vm s.heap s.vm h26 := CH22.trans (CHr.wr W26 f23 CH22.1)
    have hk26 : 0 ≤ Array.size h26 := Nat.le_trans hk22 (Keep.of_wr W26).1
    have O26 : Old Z n0 h26 := O22.wr W26 g_b22
    have N26 := Fr.snoc X26 N25 g_b22
    have K26 : Keep h0 h26 [] := K22.wr W26 (Or.inr z_b22)
    have f27 : Arv Z h26 b22 k22 .char (1 : Int32) [(.int (nar .char (fc0 u)))] (.int (0 : Int32)) := Arv.set Ar26 qc26 Sz26 Nn26 Ha26 Gf26 (fits_nar_char _) W26 0 rfl (Nat.le_of_ble_eq_true rfl)
    show GoW p e below s _ _ _ _ _ (T26.setTop (mkF m 36 #[.val (.int u), .val (.int (1 : Int32)), .val (.ref b22)] []))
    obtain ⟨T29, h29, X29, e29, E29, A29, D29, -, st29⟩ := newO X26 hx hZ hown (wdx hw 10 rfl) (wdx hw 11 rfl) (wdx hw 12 rfl) e26 (g := (mkF m 36 #[.val (.int u), .val (.int (1 : Int32)), .val (.ref b22)] [])) rfl (hb hby d1_36) (by decide) (by decide)
    obtain ⟨b29, g29⟩ : ∃ z, z = h26.size := ⟨_, rfl⟩
    rw [← g29] at A29 D29 st29
    refine GoW.st st29 ?_
    have g_b29 : n0 ≤ b29 := Nat.le_trans (own_le O26) (Nat.le_of_eq g29.symm)
    have z_b29 : h0.size ≤ b29 := Nat.le_trans K26.1 (Nat.le_of_eq g29.symm)
    have sf_b29 : Safe Z EL s.vm h26 b29 := Safe.new (Nat.le_of_eq g29.symm)
    have ne30 : b22 ≠ b29 := Nat.ne_of_lt (Nat.lt_of_lt_of_le f27.lt (Nat.le_of_eq g29.symm))
    have f31 : Safe Z EL s.vm h29 b22 := Safe.ext E29 CH26.1 f28
    have f32 : Arv Z h29 b22 k22 .char (1 : Int32) [(.int (nar .char (fc0 u)))] (.int (0 : Int32)) := f27.ext E29
    have f33 : Safe Z EL s.vm h29 b29 := Safe.ext E29 CH26.1 sf_b29
    have CH29 : CHr Z EL s.vm s.heap s.vm h29 := CH26.trans (CHr.ext E29 CH26.1)
    have hk29 : 0 ≤ Array.size h29 := Nat.le_trans hk26 E29.1
    have O29 : Old Z n0 h29 := O26.ext E29
    have K29 : Keep h0 h29 [] := K26.ext E29
    have f34 : Fld Z h29 b29 "java/lang/String" "value" "[B" .null := D29 (Or.inr (wdx hw 26 rfl)) (ty := (.array .byte)) (by decide)
    have f35 : Fld Z h29 b29 "java/lang/String" "coder" "B" (.int (0 : Int32)) := D29 (Or.inr (wdx hw 27 rfl)) (ty := .byte) (by decide)
    show GoW p e below s _ _ _ _ _ (T29.setTop (mkF m 39 #[.val (.int u), .val (.int (1 : Int32)), .val (.ref b22)] [(.ref b29)]))
    refine GoW.st (fun _ k' => XS.dup X29.here hx rfl (hb hby d1_39) rfl rfl k') ?_
    show GoW p e below s _ _ _ _ _ (T29.setTop (mkF m 40 #[.val (.int u), .val (.int (1 : Int32)), .val (.ref b22)] [(.ref b29), (.ref b29)]))
    refine GoW.st (fun _ k' => XS.aloadN X29.here hx rfl (hb hby d1_40) rfl rfl k') ?_
    show GoW p e below s _ _ _ _ _ (T29.setTop (mkF m 41 #[.val (.int u), .val (.int (1 : Int32)), .val (.ref b22)] [(.ref b22), (.ref b29), (.ref b29)]))
    obtain ⟨_, _, ⟨T36, L36, k36, n36⟩, -, X36, ⟨Lc36, hQ36, l36, y36, z36⟩, st36⟩ := X29.specialBack hx (y := (⟨"java/lang/String", "<init>", "([C)V"⟩ : MethodName)) rfl hown (mvT hZ (wdx hw 14 rfl)) (mvT hZ (wdx hw 15 rfl)) (mvT hZ (wdx hw 16 rfl)) (by decide) (backOf (W := 1) (rm3_1 l Z a0 hw [] b29 b22 k22 cs (nar .char (fc0 u)) h29 n0 O29 A29 f34 f35 f32 S_cs q_cs (own_le8 _) g_b29 (Ne.symm ne30)) hZ (wdx hw 16 rfl) (wdx hw 12 rfl) (by decide) (by decide)) (g := (mkF m 41 #[.val (.int u), .val (.int (1 : Int32)), .val (.ref b22)] [(.ref b22), (.ref b29), (.ref b29)])) rfl (by rw [hml]; rfl) (Steps.refl _) (a := b29) (argsL := [(.ref b22)]) (rest := [(.ref b29)]) (lenOf pd___C_V rfl) rfl (by show 2 * 0 + _ ≤ _; exact Nat.le_of_eq rfl) (hb hby d1_41) (fun _ _ => ⟨rfl, e29, (by exact Nat.le_of_ble_eq_true rfl), (by exact Nat.le_of_ble_eq_true rfl)⟩)
    dsimp only [Pt.U, Pt.locs, Pt.cells, Pt.slots] at X36 l36 y36 z36 st36 hQ36
    subst l36 y36 z36
    obtain ⟨tb_36, kt_36, rfl, Nq36, Kq36, f37, f38, f39, szt_36⟩ := hQ36
    have N36 := Fr.app N26 Nq36
    refine GoW.tr st36 ?_
    have f40 : Safe Z EL s.vm T36.heap b22 := Safe.keep Kq36 (allS f33 all0) CH29.1 f31
    have f41 : Arv Z T36.heap b22 k22 .char (1 : Int32) [(.int (nar .char (fc0 u)))] (.int (0 : Int32)) := f32.keep Kq36 (ninS ne30 nin0)
    have f42 : Safe Z EL s.vm T36.heap b29 := Safe.keep Kq36 (allS f33 all0) CH29.1 f33
    have f43 : Exa Z T36.heap b29 "java/lang/String" := A29.keep Kq36
    have CH36 : CHr Z EL s.vm s.heap s.vm T36.heap := CH29.trans (CHr.keep Kq36 (allS f33 all0) CH29.1)
    have hk36 : 0 ≤ Array.size T36.heap := Nat.le_trans hk29 Kq36.1
    have O36 : Old Z n0 T36.heap := O29.keep Kq36 (allS g_b29 all0)
    have K36 : Keep h0 T36.heap [] := K29.trans Kq36 (allS (Or.inr z_b29) all0)
    have g_tb_36 : n0 ≤ tb_36 := Nat.le_trans (own_le O29) szt_36
    have sf_tb_36 : Safe Z EL s.vm T36.heap tb_36 := Safe.keep Kq36 (allS f33 all0) CH29.1 (Safe.new szt_36)
    have z_tb_36 : h0.size ≤ tb_36 := Nat.le_trans K29.1 szt_36
    have ne44 : b22 ≠ tb_36 := Nat.ne_of_lt (Nat.lt_of_lt_of_le f32.lt szt_36)
    have ne45 : b29 ≠ tb_36 := Nat.ne_of_lt (Nat.lt_of_lt_of_le A29.lt szt_36)
    show GoW p e below s _ _ _ _ _ (T36.setTop (mkF m 44 #[.val (.int u), .val (.int (1 : Int32)), .val (.ref b22)] [(.ref b29)]))
    refine GoW.ret X36 hx hlk hS0 hk36 hZ hEL CH36 (t := (.object "java/lang/String")) Bd.returns rfl (Or.inr (Or.inr (Or.inr (Or.inr ⟨rfl, rfl, rfl⟩)))) (hb hby d1_44) (by decide) (by decide) rfl ?_
    exact ⟨b29, tb_36, kt_36, rfl, N36, K36, f43, f38, f37, (own_vs (lb := [(nar .byte ((nar .char (fc0 u)).toInt8.toInt32))]) (by simp [fls, fb, hl]) f39), z_b29⟩
  · rw [hl]
    show GoW p e below s _ _ _ _ _ (T1.setTop (mkF m 5 #[.val (.int u), .val (.int (2 : Int32)), .unset] []))
    refine GoW.st (fun _ k' => XS.iloadN X1.here hx rfl (hb hby d1_5) rfl k') ?_
    show GoW p e below s _ _ _ _ _ (T1.setTop (mkF m 6 #[.val (.int u), .val (.int (2 : Int32)), .unset] [(.int (2 : Int32))]))
    refine GoW.st (fun _ k' => XS.ifYes X1.here hx rfl (pc0 := 6) (pc' := 20) rfl (hb hby d1_6) rfl (XT.i0_ne_t (by decide)) (by decide) (by decide) k') ?_
    show GoW p e below s _ _ _ _ _ (T1.setTop (mkF m 20 #[.val (.int u), .val (.int (2 : Int32)), .unset] []))
    refine GoW.st (fun _ k' => XS.iloadN X1.here hx rfl (hb hby d1_20) rfl k') ?_
    show GoW p e below s _ _ _ _ _ (T1.setTop (mkF m 21 #[.val (.int u), .val (.int (2 : Int32)), .unset] [(.int (2 : Int32))]))
    refine GoW.st (fun _ k' => XS.iconst X1.here hx rfl (hb hby d1_21) k') ?_
    show GoW p e below s _ _ _ _ _ (T1.setTop (mkF m 22 #[.val (.int u), .val (.int (2 : Int32)), .unset] [(.int (1 : Int32)), (.int (2 : Int32))]))
    refine GoW.st (fun _ k' => XS.icmpYes X1.here hx rfl (pc0 := 22) (pc' := 45) rfl (hb hby d1_22) rfl (XT.ii_ne_t (by decide)) (by decide) (by decide) k') ?_
    show GoW p e below s _ _ _ _ _ (T1.setTop (mkF m 45 #[.val (.int u), .val (.int (2 : Int32)), .unset] []))
    refine GoW.st (fun _ k' => XS.iconst X1.here hx rfl (hb hby d1_45) k') ?_
    show GoW p e below s _ _ _ _ _ (T1.setTop (mkF m 46 #[.val (.int u), .val (.int (2 : Int32)), .unset] [(.int (2 : Int32))]))
    obtain ⟨T46, h46, k46, X46, e46, E46, A46, st46⟩ := newP X1 hx hZ (wdx hw 13 rfl) eq1 (g := (mkF m 46 #[.val (.int u), .val (.int (2 : Int32)), .unset] [(.int (2 : Int32))])) rfl (hb hby d1_46) rfl (by decide) (cap := 2) (by decide) (by decide) (by decide) (by decide)
    obtain ⟨b46, g46⟩ : ∃ z, z = h0.size := ⟨_, rfl⟩
    rw [← g46] at A46 st46
    refine GoW.st st46 ?_
    have g_b46 : n0 ≤ b46 := Nat.le_trans (own_le O0) (Nat.le_of_eq g46.symm)
    have z_b46 : h0.size ≤ b46 := Nat.le_of_eq g46.symm
    have sf_b46 : Safe Z EL s.vm h0 b46 := Safe.new (Nat.le_of_eq g46.symm)
    have f47 : Safe Z EL s.vm h46 b46 := Safe.ext E46 CH0.1 sf_b46
    have CH46 : CHr Z EL s.vm s.heap s.vm h46 := CH0.trans (CHr.ext E46 CH0.1)
    have hk46 : 0 ≤ Array.size h46 := Nat.le_trans hk0 E46.1
    have O46 : Old Z n0 h46 := O0.ext E46
    have K46 : Keep h0 h46 [] := (Keep.refl h0 []).ext E46
    have f48 : Arv Z h46 b46 k46 .char (2 : Int32) [(.int (0 : Int32)), (.int (0 : Int32))] (.int (0 : Int32)) := (Arv.new A46 (by decide)).pad (pad_rep [] (.int (0 : Int32)) 2)
    show GoW p e below s _ _ _ _ _ (T46.setTop (mkF m 48 #[.val (.int u), .val (.int (2 : Int32)), .unset] [(.ref b46)]))
    refine GoW.st (fun _ k' => XS.astoreN X46.here hx rfl (hb hby d1_48) rfl rfl (l' := #[.val (.int u), .val (.int (2 : Int32)), .val (.ref b46)]) rfl k') ?_
    show GoW p e below s _ _ _ _ _ (T46.setTop (mkF m 49 #[.val (.int u), .val (.int (2 : Int32)), .val (.ref b46)] []))
    refine GoW.st (fun _ k' => XS.aloadN X46.here hx rfl (hb hby d1_49) rfl rfl k') ?_
    show GoW p e below s _ _ _ _ _ (T46.setTop (mkF m 50 #[.val (.int u), .val (.int (2 : Int32)), .val (.ref b46)] [(.ref b46)]))
    refine GoW.st (fun _ k' => XS.iconst X46.here hx rfl (hb hby d1_50) k') ?_
    show GoW p e below s _ _ _ _ _ (T46.setTop (mkF m 51 #[.val (.int u), .val (.int (2 : Int32)), .val (.ref b46)] [(.int (0 : Int32)), (.ref b46)]))
    refine GoW.st (fun _ k' => XS.iloadN X46.here hx rfl (hb hby d1_51) rfl k') ?_
    show GoW p e below s _ _ _ _ _ (T46.setTop (mkF m 52 #[.val (.int u), .val (.int (2 : Int32)), .val (.ref b46)] [(.int u), (.int (0 : Int32)), (.ref b46)]))
    obtain ⟨_, _, ⟨T49, L49, k49, n49⟩, -, X49, ⟨Lc49, hQ49, l49, y49, z49⟩, st49⟩ := Jvm.LawKit.callS X46 hx (y := (⟨"com/example/indenture/indenture/model/ProjectActivityEqualsPinLaw", "c0", "(I)C"⟩ : MethodName)) hown (mvT hZ (wdx hw 74 rfl)) (mvT hZ (wdx hw 75 rfl)) (mvT hZ (wdx hw 5 rfl)) (mvT hZ (wdx hw 76 rfl)) (by decide) (backOf (W := 2) (rm13 l Z a0 hw [] u h46 n0 O46 ) hZ (wdx hw 76 rfl) (wdx hw 5 rfl) (by decide) (by decide)) (g := (mkF m 52 #[.val (.int u), .val (.int (2 : Int32)), .val (.ref b46)] [(.int u), (.int (0 : Int32)), (.ref b46)])) rfl (by rw [hml]; rfl) (argsL := [(.int u)]) (rest := [(.int (0 : Int32)), (.ref b46)]) (lenOf pd__I_C rfl) rfl (by show 2 * 0 + _ ≤ _; exact Nat.le_of_eq rfl) (hb hby d1_52) (fun _ _ => ⟨rfl, e46, (by exact Nat.le_of_ble_eq_true rfl), (by exact Nat.le_of_ble_eq_true rfl)⟩)
    dsimp only [Pt.U, Pt.locs, Pt.cells, Pt.slots] at X49 l49 y49 z49 st49 hQ49
    subst l49 y49 z49
    obtain ⟨rfl, Nq49, eq49⟩ := hQ49
    have N49 := Fr.app N1 Nq49
    refine GoW.st st49 ?_
    show GoW p e below s _ _ _ _ _ (T49.setTop (mkF m 55 #[.val (.int u), .val (.int (2 : Int32)), .val (.ref b46)] [(.int (fc0 u)), (.int (0 : Int32)), (.ref b46)]))
    obtain ⟨cl50, Ar50, qc50, Sz50, Nn50, Ha50, Gf50⟩ := id f48
    obtain ⟨T50, h50, X50, e50, W50, st50⟩ := stC X49 hx hZ eq49 Ar50 (j := (0 : Int32)) (inb_of Sz50 ⟨by decide, by decide⟩) (g := (mkF m 55 #[.val (.int u), .val (.int (2 : Int32)), .val (.ref b46)] [(.int (fc0 u)), (.int (0 : Int32)), (.ref b46)])) rfl rfl (hb hby d1_55)
    refine GoW.st st50 ?_
    have f52 : Safe Z EL s.vm h50 b46 := Safe.wr W50 f47 CH46.1 f47
    have CH50 : CHr Z EL s.vm s.heap s.vm h50 := CH46.trans (CHr.wr W50 f47 CH46.1)
    have hk50 : 0 ≤ Array.size h50 := Nat.le_trans hk46 (Keep.of_wr W50).1
    have O50 : Old Z n0 h50 := O46.wr W50 g_b46
    have N50 := Fr.snoc X50 N49 g_b46
    have K50 : Keep h0 h50 [] := K46.wr W50 (Or.inr z_b46)
    have f51 : Arv Z h50 b46 k46 .char (2 : Int32) [(.int (nar .char (fc0 u))), (.int (0 : Int32))] (.int (0 : Int32)) := Arv.set Ar50 qc50 Sz50 Nn50 Ha50 Gf50 (fits_nar_char _) W50 0 rfl (Nat.le_of_ble_eq_true rfl)
    show GoW p e below s _ _ _ _ _ (T50.setTop (mkF m 56 #[.val (.int u), .val (.int (2 : Int32)), .val (.ref b46)] []))
    refine GoW.st (fun _ k' => XS.aloadN X50.here hx rfl (hb hby d1_56) rfl rfl k') ?_
    show GoW p e below s _ _ _ _ _ (T50.setTop (mkF m 57 #[.val (.int u), .val (.int (2 : Int32)), .val (.ref b46)] [(.ref b46)]))
    refine GoW.st (fun _ k' => XS.iconst X50.here hx rfl (hb hby d1_57) k') ?_
    show GoW p e below s _ _ _ _ _ (T50.setTop (mkF m 58 #[.val (.int u), .val (.int (2 : Int32)), .val (.ref b46)] [(.int (1 : Int32)), (.ref b46)]))
    refine GoW.st (fun _ k' => XS.iloadN X50.here hx rfl (hb hby d1_58) rfl k') ?_
    show GoW p e below s _ _ _ _ _ (T50.setTop (mkF m 59 #[.val (.int u), .val (.int (2 : Int32)), .val (.ref b46)] [(.int u), (.int (1 : Int32)), (.ref b46)]))
    obtain ⟨_, _, ⟨T53, L53, k53, n53⟩, -, X53, ⟨Lc53, hQ53, l53, y53, z53⟩, st53⟩ := Jvm.LawKit.callS X50 hx (y := (⟨"com/example/indenture/indenture/model/ProjectActivityEqualsPinLaw", "c1", "(I)C"⟩ : MethodName)) hown (mvT hZ (wdx hw 77 rfl)) (mvT hZ (wdx hw 78 rfl)) (mvT hZ (wdx hw 5 rfl)) (mvT hZ (wdx hw 79 rfl)) (by decide) (backOf (W := 2) (rm14 l Z a0 hw [] u h50 n0 O50 ) hZ (wdx hw 79 rfl) (wdx hw 5 rfl) (by decide) (by decide)) (g := (mkF m 59 #[.val (.int u), .val (.int (2 : Int32)), .val (.ref b46)] [(.int u), (.int (1 : Int32)), (.ref b46)])) rfl (by rw [hml]; rfl) (argsL := [(.int u)]) (rest := [(.int (1 : Int32)), (.ref b46)]) (lenOf pd__I_C rfl) rfl (by show 2 * 0 + _ ≤ _; exact Nat.le_of_eq rfl) (hb hby d1_59) (fun _ _ => ⟨rfl, e50, (by exact Nat.le_of_ble_eq_true rfl), (by exact Nat.le_of_ble_eq_true rfl)⟩)
    dsimp only [Pt.U, Pt.locs, Pt.cells, Pt.slots] at X53 l53 y53 z53 st53 hQ53
    subst l53 y53 z53
    obtain ⟨rfl, Nq53, eq53⟩ := hQ53
    have N53 := Fr.app N50 Nq53
    refine GoW.st st53 ?_
    show GoW p e below s _ _ _ _ _ (T53.setTop (mkF m 62 #[.val (.int u), .val (.int (2 : Int32)), .val (.ref b46)] [(.int (fc1 u)), (.int (1 : Int32)), (.ref b46)]))
    obtain ⟨cl54, Ar54, qc54, Sz54, Nn54, Ha54, Gf54⟩ := id f51
    obtain ⟨T54, h54, X54, e54, W54, st54⟩ := stC X53 hx hZ eq53 Ar54 (j := (1 : Int32)) (inb_of Sz54 ⟨by decide, by decide⟩) (g := (mkF m 62 #[.val (.int u), .val (.int (2 : Int32)), .val (.ref b46)] [(.int (fc1 u)), (.int (1 : Int32)), (.ref b46)])) rfl rfl (hb hby d1_62)
    refine GoW.st st54 ?_
    have f56 : Safe Z EL s.vm h54 b46 := Safe.wr W54 f52 CH50.1 f52
    have CH54 : CHr Z EL s.vm s.heap s.vm h54 := CH50.trans (CHr.wr W54 f52 CH50.1)
    have hk54 : 0 ≤ Array.size h54 := Nat.le_trans hk50 (Keep.of_wr W54).1
    have O54 : Old Z n0 h54 := O50.wr W54 g_b46
    have N54 := Fr.snoc X54 N53 g_b46
    have K54 : Keep h0 h54 [] := K50.wr W54 (Or.inr z_b46)
    have f55 : Arv Z h54 b46 k46 .char (2 : Int32) [(.int (nar .char (fc0 u))), (.int (nar .char (fc1 u)))] (.int (0 : Int32)) := Arv.set Ar54 qc54 Sz54 Nn54 Ha54 Gf54 (fits_nar_char _) W54 1 rfl (Nat.le_of_ble_eq_true rfl)
    show GoW p e below s _ _ _ _ _ (T54.setTop (mkF m 63 #[.val (.int u), .val (.int (2 : Int32)), .val (.ref b46)] []))
    obtain ⟨T57, h57, X57, e57, E57, A57, D57, -, st57⟩ := newO X54 hx hZ hown (wdx hw 10 rfl) (wdx hw 11 rfl) (wdx hw 12 rfl) e54 (g := (mkF m 63 #[.val (.int u), .val (.int (2 : Int32)), .val (.ref b46)] [])) rfl (hb hby d1_63) (by decide) (by decide)
    obtain ⟨b57, g57⟩ : ∃ z, z = h54.size := ⟨_, rfl⟩
    rw [← g57] at A57 D57 st57
    refine GoW.st st57 ?_
    have g_b57 : n0 ≤ b57 := Nat.le_trans (own_le O54) (Nat.le_of_eq g57.symm)
    have z_b57 : h0.size ≤ b57 := Nat.le_trans K54.1 (Nat.le_of_eq g57.symm)
    have sf_b57 : Safe Z EL s.vm h54 b57 := Safe.new (Nat.le_of_eq g57.symm)
    have ne58 : b46 ≠ b57 := Nat.ne_of_lt (Nat.lt_of_lt_of_le f55.lt (Nat.le_of_eq g57.symm))
    have f59 : Safe Z EL s.vm h57 b46 := Safe.ext E57 CH54.1 f56
    have f60 : Arv Z h57 b46 k46 .char (2 : Int32) [(.int (nar .char (fc0 u))), (.int (nar .char (fc1 u)))] (.int (0 : Int32)) := f55.ext E57
    have f61 : Safe Z EL s.vm h57 b57 := Safe.ext E57 CH54.1 sf_b57
    have CH57 : CHr Z EL s.vm s.heap s.vm h57 := CH54.trans (CHr.ext E57 CH54.1)
    have hk57 : 0 ≤ Array.size h57 := Nat.le_trans hk54 E57.1
    have O57 : Old Z n0 h57 := O54.ext E57
    have K57 : Keep h0 h57 [] := K54.ext E57
    have f62 : Fld Z h57 b57 "java/lang/String" "value" "[B" .null := D57 (Or.inr (wdx hw 26 rfl)) (ty := (.array .byte)) (by decide)
    have f63 : Fld Z h57 b57 "java/lang/String" "coder" "B" (.int (0 : Int32)) := D57 (Or.inr (wdx hw 27 rfl)) (ty := .byte) (by decide)
    show GoW p e below s _ _ _ _ _ (T57.setTop (mkF m 66 #[.val (.int u), .val (.int (2 : Int32)), .val (.ref b46)] [(.ref b57)]))
    refine GoW.st (fun _ k' => XS.dup X57.here hx rfl (hb hby d1_66) rfl rfl k') ?_
    show GoW p e below s _ _ _ _ _ (T57.setTop (mkF m 67 #[.val (.int u), .val (.int (2 : Int32)), .val (.ref b46)] [(.ref b57), (.ref b57)]))
    refine GoW.st (fun _ k' => XS.aloadN X57.here hx rfl (hb hby d1_67) rfl rfl k') ?_
    show GoW p e below s _ _ _ _ _ (T57.setTop (mkF m 68 #[.val (.int u), .val (.int (2 : Int32)), .val (.ref b46)] [(.ref b46), (.ref b57), (.ref b57)]))
    obtain ⟨_, _, ⟨T64, L64, k64, n64⟩, -, X64, ⟨Lc64, hQ64, l64, y64, z64⟩, st64⟩ := X57.specialBack hx (y := (⟨"java/lang/String", "<init>", "([C)V"⟩ : MethodName)) rfl hown (mvT hZ (wdx hw 14 rfl)) (mvT hZ (wdx hw 15 rfl)) (mvT hZ (wdx hw 16 rfl)) (by decide) (backOf (W := 1) (rm3_2 l Z a0 hw [] b57 b46 k46 cs (nar .char (fc0 u)) (nar .char (fc1 u)) h57 n0 O57 A57 f62 f63 f60 S_cs q_cs (own_le8 _) (own_le8 _) g_b57 (Ne.symm ne58)) hZ (wdx hw 16 rfl) (wdx hw 12 rfl) (by decide) (by decide)) (g := (mkF m 68 #[.val (.int u), .val (.int (2 : Int32)), .val (.ref b46)] [(.ref b46), (.ref b57), (.ref b57)])) rfl (by rw [hml]; rfl) (Steps.refl _) (a := b57) (argsL := [(.ref b46)]) (rest := [(.ref b57)]) (lenOf pd___C_V rfl) rfl (by show 2 * 0 + _ ≤ _; exact Nat.le_of_eq rfl) (hb hby d1_68) (fun _ _ => ⟨rfl, e57, (by exact Nat.le_of_ble_eq_true rfl), (by exact Nat.le_of_ble_eq_true rfl)⟩)
    dsimp only [Pt.U, Pt.locs, Pt.cells, Pt.slots] at X64 l64 y64 z64 st64 hQ64
    subst l64 y64 z64
    obtain ⟨tb_64, kt_64, rfl, Nq64, Kq64, f65, f66, f67, szt_64⟩ := hQ64
    have N64 := Fr.app N54 Nq64
    refine GoW.tr st64 ?_
    have f68 : Safe Z EL s.vm T64.heap b46 := Safe.keep Kq64 (allS f61 all0) CH57.1 f59
    have f69 : Arv Z T64.heap b46 k46 .char (2 : Int32) [(.int (nar .char (fc0 u))), (.int (nar .char (fc1 u)))] (.int (0 : Int32)) := f60.keep Kq64 (ninS ne58 nin0)
    have f70 : Safe Z EL s.vm T64.heap b57 := Safe.keep Kq64 (allS f61 all0) CH57.1 f61
    have f71 : Exa Z T64.heap b57 "java/lang/String" := A57.keep Kq64
    have CH64 : CHr Z EL s.vm s.heap s.vm T64.heap := CH57.trans (CHr.keep Kq64 (allS f61 all0) CH57.1)
    have hk64 : 0 ≤ Array.size T64.heap := Nat.le_trans hk57 Kq64.1
    have O64 : Old Z n0 T64.heap := O57.keep Kq64 (allS g_b57 all0)
    have K64 : Keep h0 T64.heap [] := K57.trans Kq64 (allS (Or.inr z_b57) all0)
    have g_tb_64 : n0 ≤ tb_64 := Nat.le_trans (own_le O57) szt_64
    have sf_tb_64 : Safe Z EL s.vm T64.heap tb_64 := Safe.keep Kq64 (allS f61 all0) CH57.1 (Safe.new szt_64)
    have z_tb_64 : h0.size ≤ tb_64 := Nat.le_trans K57.1 szt_64
    have ne72 : b46 ≠ tb_64 := Nat.ne_of_lt (Nat.lt_of_lt_of_le f60.lt szt_64)
    have ne73 : b57 ≠ tb_64 := Nat.ne_of_lt (Nat.lt_of_lt_of_le A57.lt szt_64)
    show GoW p e below s _ _ _ _ _ (T64.setTop (mkF m 71 #[.val (.int u), .val (.int (2 : Int32)), .val (.ref b46)] [(.ref b57)]))
    refine GoW.ret X64 hx hlk hS0 hk64 hZ hEL CH64 (t := (.object "java/lang/String")) Bd.returns rfl (Or.inr (Or.inr (Or.inr (Or.inr ⟨rfl, rfl, rfl⟩)))) (hb hby d1_71) (by decide) (by decide) rfl ?_
    exact ⟨b57, tb_64, kt_64, rfl, N64, K64, f71, f66, f65, (own_vs (lb := [(nar .byte ((nar .char (fc0 u)).toInt8.toInt32)), (nar .byte ((nar .char (fc1 u)).toInt8.toInt32))]) (by simp [fls, fb, hl]) f67), z_b57⟩
theorem d10_0 : decode prog_32_method_2_code 0 = .ok (.aload_n 1, 1) := by decide +kernel
theorem d10_1 : decode prog_32_method_2_code 1 = .ok (.instanceof 18, 3) := by decide +kernel
theorem d10_4 : decode prog_32_method_2_code 4 = .ok (.ifCond .eq 40, 3) := by decide +kernel
theorem d10_44 : decode prog_32_method_2_code 44 = .ok (.iconst 0, 1) := by decide +kernel
theorem d10_45 : decode prog_32_method_2_code 45 = .ok (.ireturn, 1) := by decide +kernel
theorem ef_rm10_n (m : MethodId) (ob : Addr) : entryFrame m #[(.ref ob), .null] 3 = mkF m 0 #[.val (.ref ob), .val .null, .unset] [] := by first | (simp [entryFrame, mkF, argsToLocals, Value.category]; done) | rfl
def Q10_n (Z : State) (ob : Addr) (h0 : Heap) (n0 : Nat) (v : Option Value) (h : Heap) (L : List Loc) : Prop := v = some (.int (0 : Int32)) ∧ Fr n0 L ∧ h = h0
set_option maxRecDepth 65536 in
set_option maxHeartbeats 40000000 in
theorem rm10_n (l : Launch) (Z : State) (a0 : Array Value) (hw : ∀ d ∈ tables_1, d.before a0 Z = true) (ws : List Jvm.Cond) (ob : Addr) (h0 : Heap) (n0 : Nat) (O0 : Old Z n0 h0) :
    MetFree l (⟨"com/example/indenture/indenture/model/ProjectActivity", "equals", "(Ljava/lang/Object;)Z"⟩ : MethodName) (head1 (Jvm.Cond.code (⟨"com/example/indenture/indenture/model/ProjectActivity", "equals", "(Ljava/lang/Object;)Z"⟩ : MethodName) prog_32_method_2_code 3 (some .boolean) :: ws) ({ frames := 0, cells := 0, slots := 0, locals := 0 } : Room)) (fun ay U => ay = #[(.ref ob), .null] ∧ Z.Warmed39 U.vm ∧ U.heap = h0) (fun _ _ _ _ _ => True) (fun _ U o U' => ∃ v L, o = .returned v ∧ Q10_n Z ob h0 n0 v U'.heap L ∧ FrameEnd U o U' L ({ frames := 0, cells := 0, slots := 0, locals := 0 } : Room).cells ({ frames := 0, cells := 0, slots := 0, locals := 0 } : Room).slots) := by
  refine MetFree.of_bodySF (plainFor_of_name pn_com_example_indenture_indenture_model_ProjectActivity) hisR ?_
  intro p e s m args below meth c s₁ Bd hml0 hP hK
  obtain ⟨rfl, hZ, hh⟩ := hP
  have hx := Bd.exec
  have hby := Bd.bytes
  have hlk : meth.locks = false := BodyLoose.notSynchronized Bd
  have hml : c.maxLocals = 3 := hml0
  have hown : s.vm.findClass "com/example/indenture/indenture/model/ProjectActivity" = some m.cls := findClass_of_methodNamed Bd.named
  have hnm := (name_of_methodNamed Bd.named Bd.method).1
  have X0 : Stand p l e ({ frames := 0, cells := 0, slots := 0, locals := 0 } : Room) s m #[(.ref ob), .null] below meth c s₁ [] 0 0 := Stand.of_body Bd
  have e0 : s₁.heap = h0 := by rw [← hh, Bd.state]; rfl
  have N0 := Fr.nil n0
  suffices hgo : Go p e below s 0 0 (Q10_n Z ob h0 n0) (s₁.setTop (mkF m 0 #[.val (.ref ob), .val .null, .unset] [])) by
    obtain ⟨t, o, h1, h2⟩ := hgo; exact ⟨t, o, castTop (ef_rm10_n m ob) h1, h2⟩
  show Go p e below s _ _ _ (s₁.setTop (mkF m 0 #[.val (.ref ob), .val .null, .unset] []))
  refine Go.st (fun _ k' => XS.aloadN X0.here hx rfl (hb hby d10_0) rfl rfl k') ?_
  show Go p e below s _ _ _ (s₁.setTop (mkF m 1 #[.val (.ref ob), .val .null, .unset] [.null]))
  refine Go.st (fun _ k' => X0.instanceofNull hx (g := (mkF m 1 #[.val (.ref ob), .val .null, .unset] [.null])) rfl rfl (hb hby d10_1) _ k') ?_
  show Go p e below s _ _ _ (s₁.setTop (mkF m 4 #[.val (.ref ob), .val .null, .unset] [(.int (0 : Int32))]))
  refine Go.st (fun _ k' => XS.ifYes X0.here hx rfl (pc0 := 4) (pc' := 44) rfl (hb hby d10_4) rfl (XT.i0_eq_t (by decide)) (by decide) (by decide) k') ?_
  show Go p e below s _ _ _ (s₁.setTop (mkF m 44 #[.val (.ref ob), .val .null, .unset] []))
  refine Go.st (fun _ k' => XS.iconst X0.here hx rfl (hb hby d10_44) k') ?_
  show Go p e below s _ _ _ (s₁.setTop (mkF m 45 #[.val (.ref ob), .val .null, .unset] [(.int (0 : Int32))]))
  refine Go.retB X0 hx hlk (t := .boolean) Bd.returns (by simp) (hb hby d10_45) (by decide) (by decide) e0 ?_
  exact ⟨rfl, N0, rfl⟩
theorem ef_rm10_s (m : MethodId) (ob : Addr) (oc : Addr) : entryFrame m #[(.ref ob), (.ref oc)] 3 = mkF m 0 #[.val (.ref ob), .val (.ref oc), .unset] [] := by first | (simp [entryFrame, mkF, argsToLocals, Value.category]; done) | rfl
def Q10_s (Z : State) (ob : Addr) (oc : Addr) (h0 : Heap) (n0 : Nat) (v : Option Value) (h : Heap) (L : List Loc) : Prop := v = some (.int (0 : Int32)) ∧ Fr n0 L ∧ h = h0
set_option maxRecDepth 65536 in
set_option maxHeartbeats 40000000 in
theorem rm10_s (l : Launch) (Z : State) (a0 : Array Value) (hw : ∀ d ∈ tables_1, d.before a0 Z = true) (ws : List Jvm.Cond) (ob : Addr) (oc : Addr) (h0 : Heap) (n0 : Nat) (O0 : Old Z n0 h0) (E_c : Exa Z h0 oc "java/lang/String") :
    MetFree l (⟨"com/example/indenture/indenture/model/ProjectActivity", "equals", "(Ljava/lang/Object;)Z"⟩ : MethodName) (head1 (Jvm.Cond.code (⟨"com/example/indenture/indenture/model/ProjectActivity", "equals", "(Ljava/lang/Object;)Z"⟩ : MethodName) prog_32_method_2_code 3 (some .boolean) :: ws) ({ frames := 0, cells := 0, slots := 0, locals := 0 } : Room)) (fun ay U => ay = #[(.ref ob), (.ref oc)] ∧ Z.Warmed39 U.vm ∧ U.heap = h0) (fun _ _ _ _ _ => True) (fun _ U o U' => ∃ v L, o = .returned v ∧ Q10_s Z ob oc h0 n0 v U'.heap L ∧ FrameEnd U o U' L ({ frames := 0, cells := 0, slots := 0, locals := 0 } : Room).cells ({ frames := 0, cells := 0, slots := 0, locals := 0 } : Room).slots) := by
  refine MetFree.of_bodySF (plainFor_of_name pn_com_example_indenture_indenture_model_ProjectActivity) hisR ?_
  intro p e s m args below meth c s₁ Bd hml0 hP hK
  obtain ⟨rfl, hZ, hh⟩ := hP
  have hx := Bd.exec
  have hby := Bd.bytes
  have hlk : meth.locks = false := BodyLoose.notSynchronized Bd
  have hml : c.maxLocals = 3 := hml0
  have hown : s.vm.findClass "com/example/indenture/indenture/model/ProjectActivity" = some m.cls := findClass_of_methodNamed Bd.named
  have hnm := (name_of_methodNamed Bd.named Bd.method).1
  have X0 : Stand p l e ({ frames := 0, cells := 0, slots := 0, locals := 0 } : Room) s m #[(.ref ob), (.ref oc)] below meth c s₁ [] 0 0 := Stand.of_body Bd
  have e0 : s₁.heap = h0 := by rw [← hh, Bd.state]; rfl
  have N0 := Fr.nil n0
  suffices hgo : Go p e below s 0 0 (Q10_s Z ob oc h0 n0) (s₁.setTop (mkF m 0 #[.val (.ref ob), .val (.ref oc), .unset] [])) by
    obtain ⟨t, o, h1, h2⟩ := hgo; exact ⟨t, o, castTop (ef_rm10_s m ob oc) h1, h2⟩
  show Go p e below s _ _ _ (s₁.setTop (mkF m 0 #[.val (.ref ob), .val (.ref oc), .unset] []))
  refine Go.st (fun _ k' => XS.aloadN X0.here hx rfl (hb hby d10_0) rfl rfl k') ?_
  show Go p e below s _ _ _ (s₁.setTop (mkF m 1 #[.val (.ref ob), .val (.ref oc), .unset] [(.ref oc)]))
  obtain ⟨T1, X1, e1, st1⟩ := instNo X0 hx hZ hown (wdx hw 59 rfl) e0 E_c (own_nsb (wdx hw 72 rfl) (wdx hw 1 rfl) (NS.step (wdx hw 72 rfl) (own_nsa (wdx hw 73 rfl) (wdx hw 1 rfl) (by decide)) (by decide)) (by decide)) (g := (mkF m 1 #[.val (.ref ob), .val (.ref oc), .unset] [(.ref oc)])) rfl rfl (hb hby d10_1)
  refine Go.st st1 ?_
  show Go p e below s _ _ _ (T1.setTop (mkF m 4 #[.val (.ref ob), .val (.ref oc), .unset] [(.int (0 : Int32))]))
  refine Go.st (fun _ k' => XS.ifYes X1.here hx rfl (pc0 := 4) (pc' := 44) rfl (hb hby d10_4) rfl (XT.i0_eq_t (by decide)) (by decide) (by decide) k') ?_
  show Go p e below s _ _ _ (T1.setTop (mkF m 44 #[.val (.ref ob), .val (.ref oc), .unset] []))
  refine Go.st (fun _ k' => XS.iconst X1.here hx rfl (hb hby d10_44) k') ?_
  show Go p e below s _ _ _ (T1.setTop (mkF m 45 #[.val (.ref ob), .val (.ref oc), .unset] [(.int (0 : Int32))]))
  refine Go.retB X1 hx hlk (t := .boolean) Bd.returns (by simp) (hb hby d10_45) (by decide) (by decide) e1 ?_
  exact ⟨rfl, N0, rfl⟩
theorem d10_7 : decode prog_32_method_2_code 7 = .ok (.aload_n 1, 1) := by decide +kernel
theorem d10_8 : decode prog_32_method_2_code 8 = .ok (.checkcast 18, 3) := by decide +kernel
theorem d10_11 : decode prog_32_method_2_code 11 = .ok (.astore_n 2, 1) := by decide +kernel
theorem d10_12 : decode prog_32_method_2_code 12 = .ok (.aload_n 0, 1) := by decide +kernel
theorem d10_13 : decode prog_32_method_2_code 13 = .ok (.getfield 17, 3) := by decide +kernel
theorem d10_16 : decode prog_32_method_2_code 16 = .ok (.aload_n 2, 1) := by decide +kernel
theorem d10_17 : decode prog_32_method_2_code 17 = .ok (.getfield 17, 3) := by decide +kernel
theorem pd__Ljava_lang_Object__Z : parseMethodDescriptor "(Ljava/lang/Object;)Z" = some ⟨[(.object "java/lang/Object")], some .boolean⟩ := by decide +kernel
theorem d10_20 : decode prog_32_method_2_code 20 = .ok (.invokevirtual 24, 3) := by decide +kernel
theorem d10_23 : decode prog_32_method_2_code 23 = .ok (.ifCond .eq 21, 3) := by decide +kernel
theorem d10_26 : decode prog_32_method_2_code 26 = .ok (.aload_n 0, 1) := by decide +kernel
theorem d10_27 : decode prog_32_method_2_code 27 = .ok (.getfield 22, 3) := by decide +kernel
theorem d10_30 : decode prog_32_method_2_code 30 = .ok (.aload_n 2, 1) := by decide +kernel
theorem d10_31 : decode prog_32_method_2_code 31 = .ok (.getfield 22, 3) := by decide +kernel
theorem d10_34 : decode prog_32_method_2_code 34 = .ok (.invokevirtual 24, 3) := by decide +kernel
theorem d10_37 : decode prog_32_method_2_code 37 = .ok (.ifCond .eq 7, 3) := by decide +kernel
theorem d10_40 : decode prog_32_method_2_code 40 = .ok (.iconst 1, 1) := by decide +kernel
theorem d10_41 : decode prog_32_method_2_code 41 = .ok (.goto 4, 3) := by decide +kernel
theorem ef_rm10_r (m : MethodId) (ob : Addr) : entryFrame m #[(.ref ob), (.ref ob)] 3 = mkF m 0 #[.val (.ref ob), .val (.ref ob), .unset] [] := by first | (simp [entryFrame, mkF, argsToLocals, Value.category]; done) | rfl
def Q10_r (Z : State) (ob : Addr) (sa : Addr) (sb : Addr) (h0 : Heap) (n0 : Nat) (v : Option Value) (h : Heap) (L : List Loc) : Prop := v = some (.int (1 : Int32)) ∧ Fr n0 L ∧ h = h0
set_option maxRecDepth 65536 in
set_option maxHeartbeats 40000000 in
theorem rm10_r (l : Launch) (Z : State) (a0 : Array Value) (hw : ∀ d ∈ tables_1, d.before a0 Z = true) (ws : List Jvm.Cond) (ob : Addr) (sa : Addr) (sb : Addr) (h0 : Heap) (n0 : Nat) (O0 : Old Z n0 h0) (E_o : Exa Z h0 ob "com/example/indenture/indenture/model/ProjectActivity") (Fp : Fld Z h0 ob "com/example/indenture/indenture/model/ProjectActivity" "project" "Ljava/lang/String;" (.ref sa)) (Fa : Fld Z h0 ob "com/example/indenture/indenture/model/ProjectActivity" "activity" "Ljava/lang/String;" (.ref sb)) (Ea : Exa Z h0 sa "java/lang/String") (Eb : Exa Z h0 sb "java/lang/String") :
    MetFree l (⟨"com/example/indenture/indenture/model/ProjectActivity", "equals", "(Ljava/lang/Object;)Z"⟩ : MethodName) (head1 (Jvm.Cond.code (⟨"com/example/indenture/indenture/model/ProjectActivity", "equals", "(Ljava/lang/Object;)Z"⟩ : MethodName) prog_32_method_2_code 3 (some .boolean) :: ws) ({ frames := 1, cells := 0, slots := 0, locals := 14 } : Room)) (fun ay U => ay = #[(.ref ob), (.ref ob)] ∧ Z.Warmed39 U.vm ∧ U.heap = h0) (fun _ _ _ _ _ => True) (fun _ U o U' => ∃ v L, o = .returned v ∧ Q10_r Z ob sa sb h0 n0 v U'.heap L ∧ FrameEnd U o U' L ({ frames := 1, cells := 0, slots := 0, locals := 14 } : Room).cells ({ frames := 1, cells := 0, slots := 0, locals := 14 } : Room).slots) := by
  refine MetFree.of_bodySF (plainFor_of_name pn_com_example_indenture_indenture_model_ProjectActivity) hisR ?_
  intro p e s m args below meth c s₁ Bd hml0 hP hK
  obtain ⟨rfl, hZ, hh⟩ := hP
  have hx := Bd.exec
  have hby := Bd.bytes
  have hlk : meth.locks = false := BodyLoose.notSynchronized Bd
  have hml : c.maxLocals = 3 := hml0
  have hown : s.vm.findClass "com/example/indenture/indenture/model/ProjectActivity" = some m.cls := findClass_of_methodNamed Bd.named
  have hnm := (name_of_methodNamed Bd.named Bd.method).1
  have X0 : Stand p l e ({ frames := 1, cells := 0, slots := 0, locals := 14 } : Room) s m #[(.ref ob), (.ref ob)] below meth c s₁ [] 0 0 := Stand.of_body Bd
  have e0 : s₁.heap = h0 := by rw [← hh, Bd.state]; rfl
  have N0 := Fr.nil n0
  suffices hgo : Go p e below s 0 0 (Q10_r Z ob sa sb h0 n0) (s₁.setTop (mkF m 0 #[.val (.ref ob), .val (.ref ob), .unset] [])) by
    obtain ⟨t, o, h1, h2⟩ := hgo; exact ⟨t, o, castTop (ef_rm10_r m ob) h1, h2⟩
  show Go p e below s _ _ _ (s₁.setTop (mkF m 0 #[.val (.ref ob), .val (.ref ob), .unset] []))
  refine Go.st (fun _ k' => XS.aloadN X0.here hx rfl (hb hby d10_0) rfl rfl k') ?_
  show Go p e below s _ _ _ (s₁.setTop (mkF m 1 #[.val (.ref ob), .val (.ref ob), .unset] [(.ref ob)]))
  obtain ⟨T1, X1, e1, st1⟩ := instY X0 hx hZ hown (wdx hw 59 rfl) e0 (Ins.self E_o) (g := (mkF m 1 #[.val (.ref ob), .val (.ref ob), .unset] [(.ref ob)])) rfl rfl (hb hby d10_1)
  refine Go.st st1 ?_
  show Go p e below s _ _ _ (T1.setTop (mkF m 4 #[.val (.ref ob), .val (.ref ob), .unset] [(.int (1 : Int32))]))
  refine Go.st (fun _ k' => XS.ifNo X1.here hx rfl (hb hby d10_4) rfl (XT.i0_eq_f (by decide)) k') ?_
  show Go p e below s _ _ _ (T1.setTop (mkF m 7 #[.val (.ref ob), .val (.ref ob), .unset] []))
  refine Go.st (fun _ k' => XS.aloadN X1.here hx rfl (hb hby d10_7) rfl rfl k') ?_
  show Go p e below s _ _ _ (T1.setTop (mkF m 8 #[.val (.ref ob), .val (.ref ob), .unset] [(.ref ob)]))
  obtain ⟨T2, X2, e2, st2⟩ := castY X1 hx hZ hown (wdx hw 59 rfl) e1 (Ins.self E_o) (g := (mkF m 8 #[.val (.ref ob), .val (.ref ob), .unset] [(.ref ob)])) rfl rfl (hb hby d10_8)
  refine Go.st st2 ?_
  show Go p e below s _ _ _ (T2.setTop (mkF m 11 #[.val (.ref ob), .val (.ref ob), .unset] [(.ref ob)]))
  refine Go.st (fun _ k' => XS.astoreN X2.here hx rfl (hb hby d10_11) rfl rfl (l' := #[.val (.ref ob), .val (.ref ob), .val (.ref ob)]) rfl k') ?_
  show Go p e below s _ _ _ (T2.setTop (mkF m 12 #[.val (.ref ob), .val (.ref ob), .val (.ref ob)] []))
  refine Go.st (fun _ k' => XS.aloadN X2.here hx rfl (hb hby d10_12) rfl rfl k') ?_
  show Go p e below s _ _ _ (T2.setTop (mkF m 13 #[.val (.ref ob), .val (.ref ob), .val (.ref ob)] [(.ref ob)]))
  obtain ⟨T3, X3, e3, st3⟩ := getF X2 hx hZ hown (host := "") (Or.inl (wdx hw 47 rfl)) Via.refl e2 Fp (g := (mkF m 13 #[.val (.ref ob), .val (.ref ob), .val (.ref ob)] [(.ref ob)])) rfl rfl (hb hby d10_13)
  refine Go.st st3 ?_
  show Go p e below s _ _ _ (T3.setTop (mkF m 16 #[.val (.ref ob), .val (.ref ob), .val (.ref ob)] [(.ref sa)]))
  refine Go.st (fun _ k' => XS.aloadN X3.here hx rfl (hb hby d10_16) rfl rfl k') ?_
  show Go p e below s _ _ _ (T3.setTop (mkF m 17 #[.val (.ref ob), .val (.ref ob), .val (.ref ob)] [(.ref ob), (.ref sa)]))
  obtain ⟨T4, X4, e4, st4⟩ := getF X3 hx hZ hown (host := "") (Or.inl (wdx hw 47 rfl)) Via.refl e3 Fp (g := (mkF m 17 #[.val (.ref ob), .val (.ref ob), .val (.ref ob)] [(.ref ob), (.ref sa)])) rfl rfl (hb hby d10_17)
  refine Go.st st4 ?_
  show Go p e below s _ _ _ (T4.setTop (mkF m 20 #[.val (.ref ob), .val (.ref ob), .val (.ref ob)] [(.ref sa), (.ref sa)]))
  obtain ⟨cq5, kq5, q5a, q5b, q5c⟩ := isOf hZ e4 Ea
  obtain ⟨_, _, ⟨T5, L5, k5, n5⟩, -, X5, ⟨Lc5, hQ5, l5, y5, z5⟩, st5⟩ := X4.virtualBack hx (y := (⟨"java/lang/String", "equals", "(Ljava/lang/Object;)Z"⟩ : MethodName)) (z := (⟨"java/lang/String", "equals", "(Ljava/lang/Object;)Z"⟩ : MethodName)) hown (mvT hZ (wdx hw 61 rfl)) (mvT hZ (wdx hw 62 rfl)) (notFace_of_selects (args := #[]) (mvT hZ (wdx hw 64 rfl))) (mvT hZ (wdx hw 64 rfl)) (mvT hZ (wdx hw 63 rfl)) (by decide) (backOf (W := 0) (rm11 l Z a0 hw [] sa h0 n0 O0 ) hZ (wdx hw 65 rfl) (wdx hw 12 rfl) (by decide) (by decide)) q5a q5c (g := (mkF m 20 #[.val (.ref ob), .val (.ref ob), .val (.ref ob)] [(.ref sa), (.ref sa)])) rfl (by rw [hml]; rfl) (Steps.refl _) (argsL := [(.ref sa)]) (rest := []) (lenOf pd__Ljava_lang_Object__Z rfl) rfl (by show 2 * 0 + _ ≤ _; exact Nat.le_of_eq rfl) (hb hby d10_20) (fun _ _ => ⟨rfl, e4, (by exact Nat.le_of_ble_eq_true rfl), (by exact Nat.le_of_ble_eq_true rfl)⟩)
  dsimp only [Pt.U, Pt.locs, Pt.cells, Pt.slots] at X5 l5 y5 z5 st5 hQ5
  subst l5 y5 z5
  obtain ⟨rfl, Nq5, eq5⟩ := hQ5
  have N5 := Fr.app N0 Nq5
  refine Go.tr st5 ?_
  show Go p e below s _ _ _ (T5.setTop (mkF m 23 #[.val (.ref ob), .val (.ref ob), .val (.ref ob)] [(.int (1 : Int32))]))
  refine Go.st (fun _ k' => XS.ifNo X5.here hx rfl (hb hby d10_23) rfl (XT.i0_eq_f (by decide)) k') ?_
  show Go p e below s _ _ _ (T5.setTop (mkF m 26 #[.val (.ref ob), .val (.ref ob), .val (.ref ob)] []))
  refine Go.st (fun _ k' => XS.aloadN X5.here hx rfl (hb hby d10_26) rfl rfl k') ?_
  show Go p e below s _ _ _ (T5.setTop (mkF m 27 #[.val (.ref ob), .val (.ref ob), .val (.ref ob)] [(.ref ob)]))
  obtain ⟨T6, X6, e6, st6⟩ := getF X5 hx hZ hown (host := "") (Or.inl (wdx hw 49 rfl)) Via.refl eq5 Fa (g := (mkF m 27 #[.val (.ref ob), .val (.ref ob), .val (.ref ob)] [(.ref ob)])) rfl rfl (hb hby d10_27)
  refine Go.st st6 ?_
  show Go p e below s _ _ _ (T6.setTop (mkF m 30 #[.val (.ref ob), .val (.ref ob), .val (.ref ob)] [(.ref sb)]))
  refine Go.st (fun _ k' => XS.aloadN X6.here hx rfl (hb hby d10_30) rfl rfl k') ?_
  show Go p e below s _ _ _ (T6.setTop (mkF m 31 #[.val (.ref ob), .val (.ref ob), .val (.ref ob)] [(.ref ob), (.ref sb)]))
  obtain ⟨T7, X7, e7, st7⟩ := getF X6 hx hZ hown (host := "") (Or.inl (wdx hw 49 rfl)) Via.refl e6 Fa (g := (mkF m 31 #[.val (.ref ob), .val (.ref ob), .val (.ref ob)] [(.ref ob), (.ref sb)])) rfl rfl (hb hby d10_31)
  refine Go.st st7 ?_
  show Go p e below s _ _ _ (T7.setTop (mkF m 34 #[.val (.ref ob), .val (.ref ob), .val (.ref ob)] [(.ref sb), (.ref sb)]))
  obtain ⟨cq8, kq8, q8a, q8b, q8c⟩ := isOf hZ e7 Eb
  obtain ⟨_, _, ⟨T8, L8, k8, n8⟩, -, X8, ⟨Lc8, hQ8, l8, y8, z8⟩, st8⟩ := X7.virtualBack hx (y := (⟨"java/lang/String", "equals", "(Ljava/lang/Object;)Z"⟩ : MethodName)) (z := (⟨"java/lang/String", "equals", "(Ljava/lang/Object;)Z"⟩ : MethodName)) hown (mvT hZ (wdx hw 61 rfl)) (mvT hZ (wdx hw 62 rfl)) (notFace_of_selects (args := #[]) (mvT hZ (wdx hw 64 rfl))) (mvT hZ (wdx hw 64 rfl)) (mvT hZ (wdx hw 63 rfl)) (by decide) (backOf (W := 0) (rm11 l Z a0 hw [] sb h0 n0 O0 ) hZ (wdx hw 65 rfl) (wdx hw 12 rfl) (by decide) (by decide)) q8a q8c (g := (mkF m 34 #[.val (.ref ob), .val (.ref ob), .val (.ref ob)] [(.ref sb), (.ref sb)])) rfl (by rw [hml]; rfl) (Steps.refl _) (argsL := [(.ref sb)]) (rest := []) (lenOf pd__Ljava_lang_Object__Z rfl) rfl (by show 2 * 0 + _ ≤ _; exact Nat.le_of_eq rfl) (hb hby d10_34) (fun _ _ => ⟨rfl, e7, (by exact Nat.le_of_ble_eq_true rfl), (by exact Nat.le_of_ble_eq_true rfl)⟩)
  dsimp only [Pt.U, Pt.locs, Pt.cells, Pt.slots] at X8 l8 y8 z8 st8 hQ8
  subst l8 y8 z8
  obtain ⟨rfl, Nq8, eq8⟩ := hQ8
  have N8 := Fr.app N5 Nq8
  refine Go.tr st8 ?_
  show Go p e below s _ _ _ (T8.setTop (mkF m 37 #[.val (.ref ob), .val (.ref ob), .val (.ref ob)] [(.int (1 : Int32))]))
  refine Go.st (fun _ k' => XS.ifNo X8.here hx rfl (hb hby d10_37) rfl (XT.i0_eq_f (by decide)) k') ?_
  show Go p e below s _ _ _ (T8.setTop (mkF m 40 #[.val (.ref ob), .val (.ref ob), .val (.ref ob)] []))
  refine Go.st (fun _ k' => XS.iconst X8.here hx rfl (hb hby d10_40) k') ?_
  show Go p e below s _ _ _ (T8.setTop (mkF m 41 #[.val (.ref ob), .val (.ref ob), .val (.ref ob)] [(.int (1 : Int32))]))
  refine Go.st (fun _ k' => XS.goto X8.here hx rfl (pc0 := 41) (pc' := 45) rfl (hb hby d10_41) (by decide) (by decide) k') ?_
  show Go p e below s _ _ _ (T8.setTop (mkF m 45 #[.val (.ref ob), .val (.ref ob), .val (.ref ob)] [(.int (1 : Int32))]))
  refine Go.retB X8 hx hlk (t := .boolean) Bd.returns (by simp) (hb hby d10_45) (by decide) (by decide) eq8 ?_
  exact ⟨rfl, N8, rfl⟩
theorem ef_rm10_d (m : MethodId) (ob : Addr) (oc : Addr) : entryFrame m #[(.ref ob), (.ref oc)] 3 = mkF m 0 #[.val (.ref ob), .val (.ref oc), .unset] [] := by first | (simp [entryFrame, mkF, argsToLocals, Value.category]; done) | rfl
def Q10_d (Z : State) (ob : Addr) (oc : Addr) (cs : Int32) (sa : Addr) (sb : Addr) (sc : Addr) (sd : Addr) (ta : Addr) (ka : ClassId) (la : List Int32) (tb : Addr) (kb : ClassId) (lb : List Int32) (tc : Addr) (kc : ClassId) (lc : List Int32) (td : Addr) (kd : ClassId) (ld : List Int32) (h0 : Heap) (n0 : Nat) (v : Option Value) (h : Heap) (L : List Loc) : Prop := v = some (.int (if la = lc then (if lb = ld then (1 : Int32) else 0) else 0)) ∧ Fr n0 L ∧ h = h0
set_option maxRecDepth 65536 in
set_option maxHeartbeats 40000000 in
theorem rm10_d (l : Launch) (Z : State) (a0 : Array Value) (hw : ∀ d ∈ tables_1, d.before a0 Z = true) (ws : List Jvm.Cond) (ob : Addr) (oc : Addr) (cs : Int32) (sa : Addr) (sb : Addr) (sc : Addr) (sd : Addr) (ta : Addr) (ka : ClassId) (la : List Int32) (tb : Addr) (kb : ClassId) (lb : List Int32) (tc : Addr) (kc : ClassId) (lc : List Int32) (td : Addr) (kd : ClassId) (ld : List Int32) (h0 : Heap) (n0 : Nat) (O0 : Old Z n0 h0) (E_c : Exa Z h0 oc "com/example/indenture/indenture/model/ProjectActivity") (Fp : Fld Z h0 ob "com/example/indenture/indenture/model/ProjectActivity" "project" "Ljava/lang/String;" (.ref sa)) (Fa : Fld Z h0 ob "com/example/indenture/indenture/model/ProjectActivity" "activity" "Ljava/lang/String;" (.ref sb)) (Gp : Fld Z h0 oc "com/example/indenture/indenture/model/ProjectActivity" "project" "Ljava/lang/String;" (.ref sc)) (Ga : Fld Z h0 oc "com/example/indenture/indenture/model/ProjectActivity" "activity" "Ljava/lang/String;" (.ref sd)) (Ea : Exa Z h0 sa "java/lang/String") (Va : Fld Z h0 sa "java/lang/String" "value" "[B" (.ref ta)) (Ca : Fld Z h0 sa "java/lang/String" "coder" "B" (.int (0 : Int32))) (Aa : Arv Z h0 ta ka .byte (Int32.ofNat (List.length la)) (List.map Value.int la) (.int (0 : Int32))) (Eb : Exa Z h0 sb "java/lang/String") (Vb : Fld Z h0 sb "java/lang/String" "value" "[B" (.ref tb)) (Cb : Fld Z h0 sb "java/lang/String" "coder" "B" (.int (0 : Int32))) (Ab : Arv Z h0 tb kb .byte (Int32.ofNat (List.length lb)) (List.map Value.int lb) (.int (0 : Int32))) (Ec : Exa Z h0 sc "java/lang/String") (Vc : Fld Z h0 sc "java/lang/String" "value" "[B" (.ref tc)) (Cc : Fld Z h0 sc "java/lang/String" "coder" "B" (.int (0 : Int32))) (Ac : Arv Z h0 tc kc .byte (Int32.ofNat (List.length lc)) (List.map Value.int lc) (.int (0 : Int32))) (Ed : Exa Z h0 sd "java/lang/String") (Vd : Fld Z h0 sd "java/lang/String" "value" "[B" (.ref td)) (Cd : Fld Z h0 sd "java/lang/String" "coder" "B" (.int (0 : Int32))) (Ad : Arv Z h0 td kd .byte (Int32.ofNat (List.length ld)) (List.map Value.int ld) (.int (0 : Int32))) (S_cs : Sta Z Z.heap "java/lang/String" "COMPACT_STRINGS" "Z" (.int cs)) (q_cs : ¬ cs = (0 : Int32)) (ne_ac : sa ≠ sc) (ne_bd : sb ≠ sd) (q_la : la.length ≤ 2) (q_lb : lb.length ≤ 2) (q_lc : lc.length ≤ 2) (q_ld : ld.length ≤ 2) :
    MetFree l (⟨"com/example/indenture/indenture/model/ProjectActivity", "equals", "(Ljava/lang/Object;)Z"⟩ : MethodName) (head1 (Jvm.Cond.code (⟨"com/example/indenture/indenture/model/ProjectActivity", "equals", "(Ljava/lang/Object;)Z"⟩ : MethodName) prog_32_method_2_code 3 (some .boolean) :: ws) ({ frames := 2, cells := 0, slots := 0, locals := 28 } : Room)) (fun ay U => ay = #[(.ref ob), (.ref oc)] ∧ Z.Warmed39 U.vm ∧ U.heap = h0) (fun _ _ _ _ _ => True) (fun _ U o U' => ∃ v L, o = .returned v ∧ Q10_d Z ob oc cs sa sb sc sd ta ka la tb kb lb tc kc lc td kd ld h0 n0 v U'.heap L ∧ FrameEnd U o U' L ({ frames := 2, cells := 0, slots := 0, locals := 28 } : Room).cells ({ frames := 2, cells := 0, slots := 0, locals := 28 } : Room).slots) := by
  refine MetFree.of_bodySF (plainFor_of_name pn_com_example_indenture_indenture_model_ProjectActivity) hisR ?_
  intro p e s m args below meth c s₁ Bd hml0 hP hK
  obtain ⟨rfl, hZ, hh⟩ := hP
  have hx := Bd.exec
  have hby := Bd.bytes
  have hlk : meth.locks = false := BodyLoose.notSynchronized Bd
  have hml : c.maxLocals = 3 := hml0
  have hown : s.vm.findClass "com/example/indenture/indenture/model/ProjectActivity" = some m.cls := findClass_of_methodNamed Bd.named
  have hnm := (name_of_methodNamed Bd.named Bd.method).1
  have X0 : Stand p l e ({ frames := 2, cells := 0, slots := 0, locals := 28 } : Room) s m #[(.ref ob), (.ref oc)] below meth c s₁ [] 0 0 := Stand.of_body Bd
  have e0 : s₁.heap = h0 := by rw [← hh, Bd.state]; rfl
  have N0 := Fr.nil n0
  suffices hgo : Go p e below s 0 0 (Q10_d Z ob oc cs sa sb sc sd ta ka la tb kb lb tc kc lc td kd ld h0 n0) (s₁.setTop (mkF m 0 #[.val (.ref ob), .val (.ref oc), .unset] [])) by
    obtain ⟨t, o, h1, h2⟩ := hgo; exact ⟨t, o, castTop (ef_rm10_d m ob oc) h1, h2⟩
  show Go p e below s _ _ _ (s₁.setTop (mkF m 0 #[.val (.ref ob), .val (.ref oc), .unset] []))
  refine Go.st (fun _ k' => XS.aloadN X0.here hx rfl (hb hby d10_0) rfl rfl k') ?_
  show Go p e below s _ _ _ (s₁.setTop (mkF m 1 #[.val (.ref ob), .val (.ref oc), .unset] [(.ref oc)]))
  obtain ⟨T1, X1, e1, st1⟩ := instY X0 hx hZ hown (wdx hw 59 rfl) e0 (Ins.self E_c) (g := (mkF m 1 #[.val (.ref ob), .val (.ref oc), .unset] [(.ref oc)])) rfl rfl (hb hby d10_1)
  refine Go.st st1 ?_
  show Go p e below s _ _ _ (T1.setTop (mkF m 4 #[.val (.ref ob), .val (.ref oc), .unset] [(.int (1 : Int32))]))
  refine Go.st (fun _ k' => XS.ifNo X1.here hx rfl (hb hby d10_4) rfl (XT.i0_eq_f (by decide)) k') ?_
  show Go p e below s _ _ _ (T1.setTop (mkF m 7 #[.val (.ref ob), .val (.ref oc), .unset] []))
  refine Go.st (fun _ k' => XS.aloadN X1.here hx rfl (hb hby d10_7) rfl rfl k') ?_
  show Go p e below s _ _ _ (T1.setTop (mkF m 8 #[.val (.ref ob), .val (.ref oc), .unset] [(.ref oc)]))
  obtain ⟨T2, X2, e2, st2⟩ := castY X1 hx hZ hown (wdx hw 59 rfl) e1 (Ins.self E_c) (g := (mkF m 8 #[.val (.ref ob), .val (.ref oc), .unset] [(.ref oc)])) rfl rfl (hb hby d10_8)
  refine Go.st st2 ?_
  show Go p e below s _ _ _ (T2.setTop (mkF m 11 #[.val (.ref ob), .val (.ref oc), .unset] [(.ref oc)]))
  refine Go.st (fun _ k' => XS.astoreN X2.here hx rfl (hb hby d10_11) rfl rfl (l' := #[.val (.ref ob), .val (.ref oc), .val (.ref oc)]) rfl k') ?_
  show Go p e below s _ _ _ (T2.setTop (mkF m 12 #[.val (.ref ob), .val (.ref oc), .val (.ref oc)] []))
  refine Go.st (fun _ k' => XS.aloadN X2.here hx rfl (hb hby d10_12) rfl rfl k') ?_
  show Go p e below s _ _ _ (T2.setTop (mkF m 13 #[.val (.ref ob), .val (.ref oc), .val (.ref oc)] [(.ref ob)]))
  obtain ⟨T3, X3, e3, st3⟩ := getF X2 hx hZ hown (host := "") (Or.inl (wdx hw 47 rfl)) Via.refl e2 Fp (g := (mkF m 13 #[.val (.ref ob), .val (.ref oc), .val (.ref oc)] [(.ref ob)])) rfl rfl (hb hby d10_13)
  refine Go.st st3 ?_
  show Go p e below s _ _ _ (T3.setTop (mkF m 16 #[.val (.ref ob), .val (.ref oc), .val (.ref oc)] [(.ref sa)]))
  refine Go.st (fun _ k' => XS.aloadN X3.here hx rfl (hb hby d10_16) rfl rfl k') ?_
  show Go p e below s _ _ _ (T3.setTop (mkF m 17 #[.val (.ref ob), .val (.ref oc), .val (.ref oc)] [(.ref oc), (.ref sa)]))
  obtain ⟨T4, X4, e4, st4⟩ := getF X3 hx hZ hown (host := "") (Or.inl (wdx hw 47 rfl)) Via.refl e3 Gp (g := (mkF m 17 #[.val (.ref ob), .val (.ref oc), .val (.ref oc)] [(.ref oc), (.ref sa)])) rfl rfl (hb hby d10_17)
  refine Go.st st4 ?_
  show Go p e below s _ _ _ (T4.setTop (mkF m 20 #[.val (.ref ob), .val (.ref oc), .val (.ref oc)] [(.ref sc), (.ref sa)]))
  obtain ⟨cq5, kq5, q5a, q5b, q5c⟩ := isOf hZ e4 Ea
  obtain ⟨_, _, ⟨T5, L5, k5, n5⟩, -, X5, ⟨Lc5, hQ5, l5, y5, z5⟩, st5⟩ := X4.virtualBack hx (y := (⟨"java/lang/String", "equals", "(Ljava/lang/Object;)Z"⟩ : MethodName)) (z := (⟨"java/lang/String", "equals", "(Ljava/lang/Object;)Z"⟩ : MethodName)) hown (mvT hZ (wdx hw 61 rfl)) (mvT hZ (wdx hw 62 rfl)) (notFace_of_selects (args := #[]) (mvT hZ (wdx hw 64 rfl))) (mvT hZ (wdx hw 64 rfl)) (mvT hZ (wdx hw 63 rfl)) (by decide) (backOf (W := 0) (rm11_d l Z a0 hw [] sa sc cs ta ka la tc kc lc h0 n0 O0 Ec Va Ca Vc Cc Aa Ac S_cs q_cs ne_ac q_la q_lc) hZ (wdx hw 65 rfl) (wdx hw 12 rfl) (by decide) (by decide)) q5a q5c (g := (mkF m 20 #[.val (.ref ob), .val (.ref oc), .val (.ref oc)] [(.ref sc), (.ref sa)])) rfl (by rw [hml]; rfl) (Steps.refl _) (argsL := [(.ref sc)]) (rest := []) (lenOf pd__Ljava_lang_Object__Z rfl) rfl (by show 2 * 0 + _ ≤ _; exact Nat.le_of_eq rfl) (hb hby d10_20) (fun _ _ => ⟨rfl, e4, (by exact Nat.le_of_ble_eq_true rfl), (by exact Nat.le_of_ble_eq_true rfl)⟩)
  dsimp only [Pt.U, Pt.locs, Pt.cells, Pt.slots] at X5 l5 y5 z5 st5 hQ5
  subst l5 y5 z5
  obtain ⟨rfl, Nq5, eq5⟩ := hQ5
  have N5 := Fr.app N0 Nq5
  refine Go.tr st5 ?_
  show Go p e below s _ _ _ (T5.setTop (mkF m 23 #[.val (.ref ob), .val (.ref oc), .val (.ref oc)] [(.int (if la = lc then (1 : Int32) else 0))]))
  by_cases hc6 : (if la = lc then (1 : Int32) else 0) = (0 : Int32)
  · refine Go.st (fun _ k' => XS.ifYes X5.here hx rfl (pc0 := 23) (pc' := 44) rfl (hb hby d10_23) rfl (XT.i0_eq_t hc6) (by decide) (by decide) k') ?_
    show Go p e below s _ _ _ (T5.setTop (mkF m 44 #[.val (.ref ob), .val (.ref oc), .val (.ref oc)] []))
    refine Go.st (fun _ k' => XS.iconst X5.here hx rfl (hb hby d10_44) k') ?_
    show Go p e below s _ _ _ (T5.setTop (mkF m 45 #[.val (.ref ob), .val (.ref oc), .val (.ref oc)] [(.int (0 : Int32))]))
    refine Go.retB X5 hx hlk (t := .boolean) Bd.returns (by simp) (hb hby d10_45) (by decide) (by decide) eq5 ?_
    exact ⟨(by have q0 := hc6; simp_all [nar]), N5, rfl⟩
  · refine Go.st (fun _ k' => XS.ifNo X5.here hx rfl (hb hby d10_23) rfl (XT.i0_eq_f hc6) k') ?_
    show Go p e below s _ _ _ (T5.setTop (mkF m 26 #[.val (.ref ob), .val (.ref oc), .val (.ref oc)] []))
    refine Go.st (fun _ k' => XS.aloadN X5.here hx rfl (hb hby d10_26) rfl rfl k') ?_
    show Go p e below s _ _ _ (T5.setTop (mkF m 27 #[.val (.ref ob), .val (.ref oc), .val (.ref oc)] [(.ref ob)]))
    obtain ⟨T7, X7, e7, st7⟩ := getF X5 hx hZ hown (host := "") (Or.inl (wdx hw 49 rfl)) Via.refl eq5 Fa (g := (mkF m 27 #[.val (.ref ob), .val (.ref oc), .val (.ref oc)] [(.ref ob)])) rfl rfl (hb hby d10_27)
    refine Go.st st7 ?_
    show Go p e below s _ _ _ (T7.setTop (mkF m 30 #[.val (.ref ob), .val (.ref oc), .val (.ref oc)] [(.ref sb)]))
    refine Go.st (fun _ k' => XS.aloadN X7.here hx rfl (hb hby d10_30) rfl rfl k') ?_
    show Go p e below s _ _ _ (T7.setTop (mkF m 31 #[.val (.ref ob), .val (.ref oc), .val (.ref oc)] [(.ref oc), (.ref sb)]))
    obtain ⟨T8, X8, e8, st8⟩ := getF X7 hx hZ hown (host := "") (Or.inl (wdx hw 49 rfl)) Via.refl e7 Ga (g := (mkF m 31 #[.val (.ref ob), .val (.ref oc), .val (.ref oc)] [(.ref oc), (.ref sb)])) rfl rfl (hb hby d10_31)
    refine Go.st st8 ?_
    show Go p e below s _ _ _ (T8.setTop (mkF m 34 #[.val (.ref ob), .val (.ref oc), .val (.ref oc)] [(.ref sd), (.ref sb)]))
    obtain ⟨cq9, kq9, q9a, q9b, q9c⟩ := isOf hZ e8 Eb
    obtain ⟨_, _, ⟨T9, L9, k9, n9⟩, -, X9, ⟨Lc9, hQ9, l9, y9, z9⟩, st9⟩ := X8.virtualBack hx (y := (⟨"java/lang/String", "equals", "(Ljava/lang/Object;)Z"⟩ : MethodName)) (z := (⟨"java/lang/String", "equals", "(Ljava/lang/Object;)Z"⟩ : MethodName)) hown (mvT hZ (wdx hw 61 rfl)) (mvT hZ (wdx hw 62 rfl)) (notFace_of_selects (args := #[]) (mvT hZ (wdx hw 64 rfl))) (mvT hZ (wdx hw 64 rfl)) (mvT hZ (wdx hw 63 rfl)) (by decide) (backOf (W := 0) (rm11_d l Z a0 hw [] sb sd cs tb kb lb td kd ld h0 n0 O0 Ed Vb Cb Vd Cd Ab Ad S_cs q_cs ne_bd q_lb q_ld) hZ (wdx hw 65 rfl) (wdx hw 12 rfl) (by decide) (by decide)) q9a q9c (g := (mkF m 34 #[.val (.ref ob), .val (.ref oc), .val (.ref oc)] [(.ref sd), (.ref sb)])) rfl (by rw [hml]; rfl) (Steps.refl _) (argsL := [(.ref sd)]) (rest := []) (lenOf pd__Ljava_lang_Object__Z rfl) rfl (by show 2 * 0 + _ ≤ _; exact Nat.le_of_eq rfl) (hb hby d10_34) (fun _ _ => ⟨rfl, e8, (by exact Nat.le_of_ble_eq_true rfl), (by exact Nat.le_of_ble_eq_true rfl)⟩)
    dsimp only [Pt.U, Pt.locs, Pt.cells, Pt.slots] at X9 l9 y9 z9 st9 hQ9
    subst l9 y9 z9
    obtain ⟨rfl, Nq9, eq9⟩ := hQ9
    have N9 := Fr.app N5 Nq9
    refine Go.tr st9 ?_
    show Go p e below s _ _ _ (T9.setTop (mkF m 37 #[.val (.ref ob), .val (.ref oc), .val (.ref oc)] [(.int (if lb = ld then (1 : Int32) else 0))]))
    by_cases hc10 : (if lb = ld then (1 : Int32) else 0) = (0 : Int32)
    · refine Go.st (fun _ k' => XS.ifYes X9.here hx rfl (pc0 := 37) (pc' := 44) rfl (hb hby d10_37) rfl (XT.i0_eq_t hc10) (by decide) (by decide) k') ?_
      show Go p e below s _ _ _ (T9.setTop (mkF m 44 #[.val (.ref ob), .val (.ref oc), .val (.ref oc)] []))
      refine Go.st (fun _ k' => XS.iconst X9.here hx rfl (hb hby d10_44) k') ?_
      show Go p e below s _ _ _ (T9.setTop (mkF m 45 #[.val (.ref ob), .val (.ref oc), .val (.ref oc)] [(.int (0 : Int32))]))
      refine Go.retB X9 hx hlk (t := .boolean) Bd.returns (by simp) (hb hby d10_45) (by decide) (by decide) eq9 ?_
      exact ⟨(by have q0 := hc6; have q1 := hc10; simp_all [nar]), N9, rfl⟩
    · refine Go.st (fun _ k' => XS.ifNo X9.here hx rfl (hb hby d10_37) rfl (XT.i0_eq_f hc10) k') ?_
      show Go p e below s _ _ _ (T9.setTop (mkF m 40 #[.val (.ref ob), .val (.ref oc), .val (.ref oc)] []))
      refine Go.st (fun _ k' => XS.iconst X9.here hx rfl (hb hby d10_40) k') ?_
      show Go p e below s _ _ _ (T9.setTop (mkF m 41 #[.val (.ref ob), .val (.ref oc), .val (.ref oc)] [(.int (1 : Int32))]))
      refine Go.st (fun _ k' => XS.goto X9.here hx rfl (pc0 := 41) (pc' := 45) rfl (hb hby d10_41) (by decide) (by decide) k') ?_
      show Go p e below s _ _ _ (T9.setTop (mkF m 45 #[.val (.ref ob), .val (.ref oc), .val (.ref oc)] [(.int (1 : Int32))]))
      refine Go.retB X9 hx hlk (t := .boolean) Bd.returns (by simp) (hb hby d10_45) (by decide) (by decide) eq9 ?_
      exact ⟨(by have q0 := hc6; have q1 := hc10; simp_all [nar]), N9, rfl⟩
theorem pd__I_Ljava_lang_String_ : parseMethodDescriptor "(I)Ljava/lang/String;" = some ⟨[.int], some (.object "java/lang/String")⟩ := by decide +kernel
theorem pd__Ljava_lang_String_Ljava_lang_String__V : parseMethodDescriptor "(Ljava/lang/String;Ljava/lang/String;)V" = some ⟨[(.object "java/lang/String"), (.object "java/lang/String")], none⟩ := by decide +kernel
theorem pd__II_Z : parseMethodDescriptor "(II)Z" = some ⟨[.int, .int], some .boolean⟩ := by decide +kernel
theorem ef_rm0 (m : MethodId) (ua : Int32) (ub : Int32) (uc : Int32) (ud : Int32) (sel : Int32) : entryFrame m #[(.int ua), (.int ub), (.int uc), (.int ud), (.int sel)] maxLocals = mkF m 0 #[.val (.int ua), .val (.int ub), .val (.int uc), .val (.int ud), .val (.int sel), .unset, .unset, .unset, .unset, .unset, .unset] [] := by first | (simp [entryFrame, mkF, argsToLocals, Value.category, maxLocals]; done) | rfl
def Q0 (Z : State) (ua : Int32) (ub : Int32) (uc : Int32) (ud : Int32) (sel : Int32) (cs : Int32) (h0 : Heap) (n0 : Nat) (v : Option Value) (h : Heap) (L : List Loc) : Prop := v = some (.int (1 : Int32)) ∧ Fr n0 L ∧ True
set_option maxRecDepth 65536 in
set_option maxHeartbeats 40000000 in
theorem rm0 (l : Launch) (Z : State) (a0 : Array Value) (hw : ∀ d ∈ tables_1, d.before a0 Z = true) (ws : List Jvm.Cond) (ua : Int32) (ub : Int32) (uc : Int32) (ud : Int32) (sel : Int32) (cs : Int32) (h0 : Heap) (n0 : Nat) (O0 : Old Z n0 h0) (S_cs : Sta Z Z.heap "java/lang/String" "COMPACT_STRINGS" "Z" (.int cs)) (q_cs : ¬ cs = (0 : Int32)) :
    MetFree l x (head1 (Jvm.Cond.code x code maxLocals ret :: ws) room_1) (fun ay U => ay = #[(.int ua), (.int ub), (.int uc), (.int ud), (.int sel)] ∧ Z.Warmed39 U.vm ∧ U.heap = h0 ∧ CHv Z EL U.vm h0 ∧ ∀ y ∈ ([] : List Addr), Safe Z EL U.vm h0 y) (fun _ _ _ _ _ => True) (fun _ U o U' => ∃ v L, o = .returned v ∧ Q0 Z ua ub uc ud sel cs h0 n0 v U'.heap L ∧ CHr Z EL U.vm U.heap U'.vm U'.heap ∧ ReturnedEndW U o U' L room_1.cells room_1.slots) := by
  refine MetFree.of_bodySF (plainFor_of_name pn_com_example_indenture_indenture_model_ProjectActivityEqualsPinLaw) hisR ?_
  intro p e s m args below meth c s₁ Bd hml0 hP hK
  obtain ⟨rfl, hZ, hh, hCH, hSf⟩ := hP
  have hx := Bd.exec
  have hby := Bd.bytes
  have hlk : meth.locks = false := BodyLoose.notSynchronized Bd
  have hml : c.maxLocals = 11 := hml0
  have hown : s.vm.findClass "com/example/indenture/indenture/model/ProjectActivityEqualsPinLaw" = some m.cls := findClass_of_methodNamed Bd.named
  have hnm := (name_of_methodNamed Bd.named Bd.method).1
  have X0 : Stand p l e room_1 (s.setVm s.vm) m #[(.int ua), (.int ub), (.int uc), (.int ud), (.int sel)] below meth c s₁ [] 0 0 := Stand.of_body Bd
  have e0 : s₁.heap = h0 := by rw [← hh, Bd.state]; rfl
  have N0 := Fr.nil n0
  have hS0 : s.Since s.vm 0 := (State.WarmedH.refl s).since 0
  have hk0 : 0 ≤ h0.size := Nat.zero_le _
  have CH0 : CHr Z EL s.vm s.heap s.vm h0 := by rw [hh]; exact CHr.refl hCH
  have hEL : EW Z a0 EL := own_EW hw
  have hwS := own_wS hw
  suffices hgo : GoW p e below s 48 3264 Z EL (Q0 Z ua ub uc ud sel cs h0 n0) (s₁.setTop (mkF m 0 #[.val (.int ua), .val (.int ub), .val (.int uc), .val (.int ud), .val (.int sel), .unset, .unset, .unset, .unset, .unset, .unset] [])) by
    obtain ⟨t, o, h1, h2⟩ := hgo; exact ⟨t, o, castTop (ef_rm0 m ua ub uc ud sel) h1, h2⟩
  show GoW p e below s _ _ _ _ _ (s₁.setTop (mkF m 0 #[.val (.int ua), .val (.int ub), .val (.int uc), .val (.int ud), .val (.int sel), .unset, .unset, .unset, .unset, .unset, .unset] []))
  have J1 : ∀ (pv : Int32), GoW p e below s 48 3264 Z EL (Q0 Z ua ub uc ud sel cs h0 n0) (s₁.setTop (mkF m 12 #[.val (.int ua), .val (.int ub), .val (.int uc), .val (.int ud), .val (.int sel), .unset, .unset, .unset, .unset, .unset, .unset] [(.int pv)])) := by
    intro pv
    show GoW p e below s _ _ _ _ _ (s₁.setTop (mkF m 12 #[.val (.int ua), .val (.int ub), .val (.int uc), .val (.int ud), .val (.int sel), .unset, .unset, .unset, .unset, .unset, .unset] [(.int pv)]))
    refine GoW.st (fun _ k' => XS.istore X0.here hx rfl (hb hby at_12) rfl (l' := #[.val (.int ua), .val (.int ub), .val (.int uc), .val (.int ud), .val (.int sel), .val (.int pv), .unset, .unset, .unset, .unset, .unset]) rfl k') ?_
    show GoW p e below s _ _ _ _ _ (s₁.setTop (mkF m 14 #[.val (.int ua), .val (.int ub), .val (.int uc), .val (.int ud), .val (.int sel), .val (.int pv), .unset, .unset, .unset, .unset, .unset] []))
    have J2 : ∀ (av : Int32), GoW p e below s 48 3264 Z EL (Q0 Z ua ub uc ud sel cs h0 n0) (s₁.setTop (mkF m 26 #[.val (.int ua), .val (.int ub), .val (.int uc), .val (.int ud), .val (.int sel), .val (.int pv), .unset, .unset, .unset, .unset, .unset] [(.int av)])) := by
      intro av
      show GoW p e below s _ _ _ _ _ (s₁.setTop (mkF m 26 #[.val (.int ua), .val (.int ub), .val (.int uc), .val (.int ud), .val (.int sel), .val (.int pv), .unset, .unset, .unset, .unset, .unset] [(.int av)]))
      refine GoW.st (fun _ k' => XS.istore X0.here hx rfl (hb hby at_26) rfl (l' := #[.val (.int ua), .val (.int ub), .val (.int uc), .val (.int ud), .val (.int sel), .val (.int pv), .val (.int av), .unset, .unset, .unset, .unset]) rfl k') ?_
      show GoW p e below s _ _ _ _ _ (s₁.setTop (mkF m 28 #[.val (.int ua), .val (.int ub), .val (.int uc), .val (.int ud), .val (.int sel), .val (.int pv), .val (.int av), .unset, .unset, .unset, .unset] []))
      obtain ⟨T3, h3, X3, e3, E3, A3, D3, -, st3⟩ := newO X0 hx hZ hown (wdx hw 0 rfl) (wdx hw 1 rfl) (wdx hw 2 rfl) e0 (g := (mkF m 28 #[.val (.int ua), .val (.int ub), .val (.int uc), .val (.int ud), .val (.int sel), .val (.int pv), .val (.int av), .unset, .unset, .unset, .unset] [])) rfl (hb hby at_28) (by decide) (by decide)
      obtain ⟨b3, g3⟩ : ∃ z, z = h0.size := ⟨_, rfl⟩
      rw [← g3] at A3 D3 st3
      refine GoW.st st3 ?_
      have g_b3 : n0 ≤ b3 := Nat.le_trans (own_le O0) (Nat.le_of_eq g3.symm)
      have sf_b3 : Safe Z EL s.vm h0 b3 := Safe.new (Nat.le_of_eq g3.symm)
      have f4 : Safe Z EL s.vm h3 b3 := Safe.ext E3 CH0.1 sf_b3
      have CH3 : CHr Z EL s.vm s.heap s.vm h3 := CH0.trans (CHr.ext E3 CH0.1)
      have hk3 : 0 ≤ Array.size h3 := Nat.le_trans hk0 E3.1
      have O3 : Old Z n0 h3 := O0.ext E3
      have f5 : Fld Z h3 b3 "com/example/indenture/indenture/model/ProjectActivity" "project" "Ljava/lang/String;" .null := D3 (Or.inr (wdx hw 48 rfl)) (ty := (.object "java/lang/String")) (by decide)
      have f6 : Fld Z h3 b3 "com/example/indenture/indenture/model/ProjectActivity" "activity" "Ljava/lang/String;" .null := D3 (Or.inr (wdx hw 50 rfl)) (ty := (.object "java/lang/String")) (by decide)
      show GoW p e below s _ _ _ _ _ (T3.setTop (mkF m 31 #[.val (.int ua), .val (.int ub), .val (.int uc), .val (.int ud), .val (.int sel), .val (.int pv), .val (.int av), .unset, .unset, .unset, .unset] [(.ref b3)]))
      refine GoW.st (fun _ k' => XS.dup X3.here hx rfl (hb hby at_31) rfl rfl k') ?_
      show GoW p e below s _ _ _ _ _ (T3.setTop (mkF m 32 #[.val (.int ua), .val (.int ub), .val (.int uc), .val (.int ud), .val (.int sel), .val (.int pv), .val (.int av), .unset, .unset, .unset, .unset] [(.ref b3), (.ref b3)]))
      refine GoW.st (fun _ k' => XS.iloadN X3.here hx rfl (hb hby at_32) rfl k') ?_
      show GoW p e below s _ _ _ _ _ (T3.setTop (mkF m 33 #[.val (.int ua), .val (.int ub), .val (.int uc), .val (.int ud), .val (.int sel), .val (.int pv), .val (.int av), .unset, .unset, .unset, .unset] [(.int ua), (.ref b3), (.ref b3)]))
      obtain ⟨_, _, ⟨T7, L7, k7, n7⟩, -, Xr7, hSr7, hgr7, ⟨Lc7, hQ7, l7, y7, z7, C7⟩, st7⟩ := callSS X3 hx (y := (⟨"com/example/indenture/indenture/model/ProjectActivityEqualsPinLaw", "str", "(I)Ljava/lang/String;"⟩ : MethodName)) hown (mvT hZ (wdx hw 3 rfl)) (mvT hZ (wdx hw 4 rfl)) (mvT hZ (wdx hw 5 rfl)) (mvT hZ (wdx hw 6 rfl)) (by decide) (own_back (W := 2) (rm1 l Z a0 hw [] ua cs h3 n0 O3 S_cs q_cs) hZ (wdx hw 6 rfl) (wdx hw 5 rfl) (by decide) (by decide) hEL CH3.1 all0) (g := (mkF m 33 #[.val (.int ua), .val (.int ub), .val (.int uc), .val (.int ud), .val (.int sel), .val (.int pv), .val (.int av), .unset, .unset, .unset, .unset] [(.int ua), (.ref b3), (.ref b3)])) rfl (by rw [hml]; rfl) (argsL := [(.int ua)]) (rest := [(.ref b3), (.ref b3)]) (lenOf pd__I_Ljava_lang_String_ rfl) rfl (by show 2 * 0 + _ ≤ _; exact Nat.le_of_eq rfl) (hb hby at_33) (fun _ _ => ⟨rfl, e3, (by exact Nat.le_of_ble_eq_true rfl), (by exact Nat.le_of_ble_eq_true rfl)⟩)
      dsimp only [Pt.U, Pt.locs, Pt.cells, Pt.slots] at Xr7 hSr7 hgr7 l7 y7 z7 C7 st7 hQ7
      subst l7 y7 z7
      obtain ⟨X7, hS7, hZ7, hown7⟩ := rebS hS0 (by rw [e3]; exact hk3) Xr7 hSr7 hgr7 hZ hown
      obtain ⟨rr_7, tb_7, kt_7, rfl, Nq7, Kq7, f8, f9, f10, f11, szr_7⟩ := hQ7
      have N7 := Fr.app N0 Nq7
      refine GoW.tr st7 ?_
      have f12 : Safe Z EL T7.vm T7.heap b3 := C7.safe A3.lt f4
      have f13 : Exa Z T7.heap b3 "com/example/indenture/indenture/model/ProjectActivity" := A3.keep Kq7
      have f14 : Fld Z T7.heap b3 "com/example/indenture/indenture/model/ProjectActivity" "project" "Ljava/lang/String;" .null := f5.keep Kq7 nin0
      have f15 : Fld Z T7.heap b3 "com/example/indenture/indenture/model/ProjectActivity" "activity" "Ljava/lang/String;" .null := f6.keep Kq7 nin0
      have CH7 : CHr Z EL s.vm s.heap T7.vm T7.heap := CH3.trans C7
      have O7 : Old Z n0 T7.heap := O3.keep Kq7 all0
      have g_rr_7 : n0 ≤ rr_7 := Nat.le_trans (own_le O3) szr_7
      have ne16 : b3 ≠ rr_7 := Nat.ne_of_lt (Nat.lt_of_lt_of_le A3.lt szr_7)
      show GoW p e below s _ _ _ _ _ (T7.setTop (mkF m 36 #[.val (.int ua), .val (.int ub), .val (.int uc), .val (.int ud), .val (.int sel), .val (.int pv), .val (.int av), .unset, .unset, .unset, .unset] [(.ref rr_7), (.ref b3), (.ref b3)]))
      refine GoW.st (fun _ k' => XS.iloadN X7.here hx rfl (hb hby at_36) rfl k') ?_
      show GoW p e below s _ _ _ _ _ (T7.setTop (mkF m 37 #[.val (.int ua), .val (.int ub), .val (.int uc), .val (.int ud), .val (.int sel), .val (.int pv), .val (.int av), .unset, .unset, .unset, .unset] [(.int ub), (.ref rr_7), (.ref b3), (.ref b3)]))
      obtain ⟨_, _, ⟨T17, L17, k17, n17⟩, -, Xr17, hSr17, hgr17, ⟨Lc17, hQ17, l17, y17, z17, C17⟩, st17⟩ := callSS X7 hx (y := (⟨"com/example/indenture/indenture/model/ProjectActivityEqualsPinLaw", "str", "(I)Ljava/lang/String;"⟩ : MethodName)) hown7 (mvT hZ7 (wdx hw 3 rfl)) (mvT hZ7 (wdx hw 4 rfl)) (mvT hZ7 (wdx hw 5 rfl)) (mvT hZ7 (wdx hw 6 rfl)) (by decide) (own_back (W := 3) (rm1 l Z a0 hw [] ub cs T7.heap n0 O7 S_cs q_cs) hZ7 (wdx hw 6 rfl) (wdx hw 5 rfl) (by decide) (by decide) hEL CH7.1 all0) (g := (mkF m 37 #[.val (.int ua), .val (.int ub), .val (.int uc), .val (.int ud), .val (.int sel), .val (.int pv), .val (.int av), .unset, .unset, .unset, .unset] [(.int ub), (.ref rr_7), (.ref b3), (.ref b3)])) rfl (by rw [hml]; rfl) (argsL := [(.int ub)]) (rest := [(.ref rr_7), (.ref b3), (.ref b3)]) (lenOf pd__I_Ljava_lang_String_ rfl) rfl (by show 2 * 0 + _ ≤ _; exact Nat.le_of_eq rfl) (hb hby at_37) (fun _ _ => ⟨rfl, rfl, (by exact Nat.le_of_ble_eq_true rfl), (by exact Nat.le_of_ble_eq_true rfl)⟩)
      dsimp only [Pt.U, Pt.locs, Pt.cells, Pt.slots] at Xr17 hSr17 hgr17 l17 y17 z17 C17 st17 hQ17
      subst l17 y17 z17
      obtain ⟨X17, hS17, hZ17, hown17⟩ := rebS hS7 (Nat.le_refl _) Xr17 hSr17 hgr17 hZ7 hown7
      obtain ⟨rr_17, tb_17, kt_17, rfl, Nq17, Kq17, f18, f19, f20, f21, szr_17⟩ := hQ17
      have N17 := Fr.app N7 Nq17
      refine GoW.tr st17 ?_
      have f22 : Safe Z EL T17.vm T17.heap b3 := C17.safe f13.lt f12
      have f23 : Exa Z T17.heap b3 "com/example/indenture/indenture/model/ProjectActivity" := f13.keep Kq17
      have f24 : Fld Z T17.heap b3 "com/example/indenture/indenture/model/ProjectActivity" "project" "Ljava/lang/String;" .null := f14.keep Kq17 nin0
      have f25 : Fld Z T17.heap b3 "com/example/indenture/indenture/model/ProjectActivity" "activity" "Ljava/lang/String;" .null := f15.keep Kq17 nin0
      have f26 : Exa Z T17.heap rr_7 "java/lang/String" := f8.keep Kq17
      have f27 : Fld Z T17.heap rr_7 "java/lang/String" "coder" "B" (.int (0 : Int32)) := f9.keep Kq17 nin0
      have f28 : Fld Z T17.heap rr_7 "java/lang/String" "value" "[B" (.ref tb_7) := f10.keep Kq17 nin0
      have f29 : Arv Z T17.heap tb_7 kt_7 .byte (Int32.ofNat (List.length (fls ua))) (List.map Value.int (fls ua)) (.int (0 : Int32)) := f11.keep Kq17 nin0
      have CH17 : CHr Z EL s.vm s.heap T17.vm T17.heap := CH7.trans C17
      have O17 : Old Z n0 T17.heap := O7.keep Kq17 all0
      have g_rr_17 : n0 ≤ rr_17 := Nat.le_trans (own_le O7) szr_17
      have ne30 : b3 ≠ rr_17 := Nat.ne_of_lt (Nat.lt_of_lt_of_le f13.lt szr_17)
      have ne31 : rr_7 ≠ rr_17 := Nat.ne_of_lt (Nat.lt_of_lt_of_le f8.lt szr_17)
      have ne32 : tb_7 ≠ rr_17 := Nat.ne_of_lt (Nat.lt_of_lt_of_le f11.lt szr_17)
      show GoW p e below s _ _ _ _ _ (T17.setTop (mkF m 40 #[.val (.int ua), .val (.int ub), .val (.int uc), .val (.int ud), .val (.int sel), .val (.int pv), .val (.int av), .unset, .unset, .unset, .unset] [(.ref rr_17), (.ref rr_7), (.ref b3), (.ref b3)]))
      obtain ⟨_, _, ⟨T33, L33, k33, n33⟩, -, Xr33, hSr33, hgr33, ⟨Lc33, hQ33, l33, y33, z33, C33⟩, st33⟩ := X17.specialBackS hx (y := (⟨"com/example/indenture/indenture/model/ProjectActivity", "<init>", "(Ljava/lang/String;Ljava/lang/String;)V"⟩ : MethodName)) rfl hown17 (mvT hZ17 (wdx hw 32 rfl)) (mvT hZ17 (wdx hw 33 rfl)) (mvT hZ17 (wdx hw 34 rfl)) (by decide) (own_back (W := 1) (rm6 l Z a0 hw [] b3 rr_7 rr_17 T17.heap n0 O17 f23 f24 f25 g_b3) hZ17 (wdx hw 34 rfl) (wdx hw 2 rfl) (by decide) (by decide) hEL CH17.1 (allS ⟨f23.lt, f22⟩ all0)) (g := (mkF m 40 #[.val (.int ua), .val (.int ub), .val (.int uc), .val (.int ud), .val (.int sel), .val (.int pv), .val (.int av), .unset, .unset, .unset, .unset] [(.ref rr_17), (.ref rr_7), (.ref b3), (.ref b3)])) rfl (by rw [hml]; rfl) (Steps.refl _) (a := b3) (argsL := [(.ref rr_7), (.ref rr_17)]) (rest := [(.ref b3)]) (lenOf pd__Ljava_lang_String_Ljava_lang_String__V rfl) rfl (by show 2 * 0 + _ ≤ _; exact Nat.le_of_eq rfl) (hb hby at_40) (fun _ _ => ⟨rfl, rfl, (by exact Nat.le_of_ble_eq_true rfl), (by exact Nat.le_of_ble_eq_true rfl)⟩)
      dsimp only [Pt.U, Pt.locs, Pt.cells, Pt.slots] at Xr33 hSr33 hgr33 l33 y33 z33 C33 st33 hQ33
      subst l33 y33 z33
      obtain ⟨X33, hS33, hZ33, hown33⟩ := rebS hS17 (Nat.le_refl _) Xr33 hSr33 hgr33 hZ17 hown17
      obtain ⟨rfl, Nq33, Kq33, f34, f35⟩ := hQ33
      have N33 := Fr.app N17 Nq33
      refine GoW.tr st33 ?_
      have f36 : Safe Z EL T33.vm T33.heap b3 := C33.safe f23.lt f22
      have f37 : Exa Z T33.heap b3 "com/example/indenture/indenture/model/ProjectActivity" := f23.keep Kq33
      have f38 : Exa Z T33.heap rr_7 "java/lang/String" := f26.keep Kq33
      have f39 : Fld Z T33.heap rr_7 "java/lang/String" "coder" "B" (.int (0 : Int32)) := f27.keep Kq33 (ninS (Ne.symm ne16) nin0)
      have f40 : Fld Z T33.heap rr_7 "java/lang/String" "value" "[B" (.ref tb_7) := f28.keep Kq33 (ninS (Ne.symm ne16) nin0)
      have ne41 : b3 ≠ tb_7 := Exa.neArv f23 f29 (wdx hw 1 rfl)
      have f42 : Arv Z T33.heap tb_7 kt_7 .byte (Int32.ofNat (List.length (fls ua))) (List.map Value.int (fls ua)) (.int (0 : Int32)) := f29.keep Kq33 (ninS (Ne.symm ne41) nin0)
      have f43 : Exa Z T33.heap rr_17 "java/lang/String" := f18.keep Kq33
      have f44 : Fld Z T33.heap rr_17 "java/lang/String" "coder" "B" (.int (0 : Int32)) := f19.keep Kq33 (ninS (Ne.symm ne30) nin0)
      have f45 : Fld Z T33.heap rr_17 "java/lang/String" "value" "[B" (.ref tb_17) := f20.keep Kq33 (ninS (Ne.symm ne30) nin0)
      have ne46 : b3 ≠ tb_17 := Exa.neArv f23 f21 (wdx hw 1 rfl)
      have f47 : Arv Z T33.heap tb_17 kt_17 .byte (Int32.ofNat (List.length (fls ub))) (List.map Value.int (fls ub)) (.int (0 : Int32)) := f21.keep Kq33 (ninS (Ne.symm ne46) nin0)
      have CH33 : CHr Z EL s.vm s.heap T33.vm T33.heap := CH17.trans C33
      have O33 : Old Z n0 T33.heap := O17.keep Kq33 (allS g_b3 all0)
      show GoW p e below s _ _ _ _ _ (T33.setTop (mkF m 43 #[.val (.int ua), .val (.int ub), .val (.int uc), .val (.int ud), .val (.int sel), .val (.int pv), .val (.int av), .unset, .unset, .unset, .unset] [(.ref b3)]))
      refine GoW.st (fun _ k' => XS.astore X33.here hx rfl (hb hby at_43) rfl rfl (l' := #[.val (.int ua), .val (.int ub), .val (.int uc), .val (.int ud), .val (.int sel), .val (.int pv), .val (.int av), .val (.ref b3), .unset, .unset, .unset]) rfl k') ?_
      show GoW p e below s _ _ _ _ _ (T33.setTop (mkF m 45 #[.val (.int ua), .val (.int ub), .val (.int uc), .val (.int ud), .val (.int sel), .val (.int pv), .val (.int av), .val (.ref b3), .unset, .unset, .unset] []))
      obtain ⟨T48, h48, X48, e48, E48, A48, D48, -, st48⟩ := newO X33 hx hZ33 hown33 (wdx hw 0 rfl) (wdx hw 1 rfl) (wdx hw 2 rfl) rfl (g := (mkF m 45 #[.val (.int ua), .val (.int ub), .val (.int uc), .val (.int ud), .val (.int sel), .val (.int pv), .val (.int av), .val (.ref b3), .unset, .unset, .unset] [])) rfl (hb hby at_45) (by decide) (by decide)
      obtain ⟨b48, g48⟩ : ∃ z, z = T33.heap.size := ⟨_, rfl⟩
      rw [← g48] at A48 D48 st48
      refine GoW.st st48 ?_
      have g_b48 : n0 ≤ b48 := Nat.le_trans (own_le O33) (Nat.le_of_eq g48.symm)
      have sf_b48 : Safe Z EL T33.vm T33.heap b48 := Safe.new (Nat.le_of_eq g48.symm)
      have ne49 : b3 ≠ b48 := Nat.ne_of_lt (Nat.lt_of_lt_of_le f37.lt (Nat.le_of_eq g48.symm))
      have ne50 : rr_7 ≠ b48 := Nat.ne_of_lt (Nat.lt_of_lt_of_le f38.lt (Nat.le_of_eq g48.symm))
      have ne51 : tb_7 ≠ b48 := Nat.ne_of_lt (Nat.lt_of_lt_of_le f42.lt (Nat.le_of_eq g48.symm))
      have ne52 : rr_17 ≠ b48 := Nat.ne_of_lt (Nat.lt_of_lt_of_le f43.lt (Nat.le_of_eq g48.symm))
      have ne53 : tb_17 ≠ b48 := Nat.ne_of_lt (Nat.lt_of_lt_of_le f47.lt (Nat.le_of_eq g48.symm))
      have f54 : Safe Z EL T33.vm h48 b3 := Safe.ext E48 CH33.1 f36
      have f55 : Exa Z h48 b3 "com/example/indenture/indenture/model/ProjectActivity" := f37.ext E48
      have f56 : Exa Z h48 rr_7 "java/lang/String" := f38.ext E48
      have f57 : Fld Z h48 rr_7 "java/lang/String" "coder" "B" (.int (0 : Int32)) := f39.ext E48
      have f58 : Fld Z h48 rr_7 "java/lang/String" "value" "[B" (.ref tb_7) := f40.ext E48
      have f59 : Arv Z h48 tb_7 kt_7 .byte (Int32.ofNat (List.length (fls ua))) (List.map Value.int (fls ua)) (.int (0 : Int32)) := f42.ext E48
      have f60 : Exa Z h48 rr_17 "java/lang/String" := f43.ext E48
      have f61 : Fld Z h48 rr_17 "java/lang/String" "coder" "B" (.int (0 : Int32)) := f44.ext E48
      have f62 : Fld Z h48 rr_17 "java/lang/String" "value" "[B" (.ref tb_17) := f45.ext E48
      have f63 : Arv Z h48 tb_17 kt_17 .byte (Int32.ofNat (List.length (fls ub))) (List.map Value.int (fls ub)) (.int (0 : Int32)) := f47.ext E48
      have f64 : Fld Z h48 b3 "com/example/indenture/indenture/model/ProjectActivity" "project" "Ljava/lang/String;" (.ref rr_7) := f34.ext E48
      have f65 : Fld Z h48 b3 "com/example/indenture/indenture/model/ProjectActivity" "activity" "Ljava/lang/String;" (.ref rr_17) := f35.ext E48
      have f66 : Safe Z EL T33.vm h48 b48 := Safe.ext E48 CH33.1 sf_b48
      have CH48 : CHr Z EL s.vm s.heap T33.vm h48 := CH33.trans (CHr.ext E48 CH33.1)
      have hk48 : Array.size T33.heap ≤ Array.size h48 := Nat.le_trans (Nat.le_refl _) E48.1
      have O48 : Old Z n0 h48 := O33.ext E48
      have f67 : Fld Z h48 b48 "com/example/indenture/indenture/model/ProjectActivity" "project" "Ljava/lang/String;" .null := D48 (Or.inr (wdx hw 48 rfl)) (ty := (.object "java/lang/String")) (by decide)
      have f68 : Fld Z h48 b48 "com/example/indenture/indenture/model/ProjectActivity" "activity" "Ljava/lang/String;" .null := D48 (Or.inr (wdx hw 50 rfl)) (ty := (.object "java/lang/String")) (by decide)
      show GoW p e below s _ _ _ _ _ (T48.setTop (mkF m 48 #[.val (.int ua), .val (.int ub), .val (.int uc), .val (.int ud), .val (.int sel), .val (.int pv), .val (.int av), .val (.ref b3), .unset, .unset, .unset] [(.ref b48)]))
      refine GoW.st (fun _ k' => XS.dup X48.here hx rfl (hb hby at_48) rfl rfl k') ?_
      show GoW p e below s _ _ _ _ _ (T48.setTop (mkF m 49 #[.val (.int ua), .val (.int ub), .val (.int uc), .val (.int ud), .val (.int sel), .val (.int pv), .val (.int av), .val (.ref b3), .unset, .unset, .unset] [(.ref b48), (.ref b48)]))
      refine GoW.st (fun _ k' => XS.iload X48.here hx rfl (hb hby at_49) rfl k') ?_
      show GoW p e below s _ _ _ _ _ (T48.setTop (mkF m 51 #[.val (.int ua), .val (.int ub), .val (.int uc), .val (.int ud), .val (.int sel), .val (.int pv), .val (.int av), .val (.ref b3), .unset, .unset, .unset] [(.int pv), (.ref b48), (.ref b48)]))
      obtain ⟨_, _, ⟨T69, L69, k69, n69⟩, -, Xr69, hSr69, hgr69, ⟨Lc69, hQ69, l69, y69, z69, C69⟩, st69⟩ := callSS X48 hx (y := (⟨"com/example/indenture/indenture/model/ProjectActivityEqualsPinLaw", "str", "(I)Ljava/lang/String;"⟩ : MethodName)) hown33 (mvT hZ33 (wdx hw 3 rfl)) (mvT hZ33 (wdx hw 4 rfl)) (mvT hZ33 (wdx hw 5 rfl)) (mvT hZ33 (wdx hw 6 rfl)) (by decide) (own_back (W := 2) (rm1 l Z a0 hw [] pv cs h48 n0 O48 S_cs q_cs) hZ33 (wdx hw 6 rfl) (wdx hw 5 rfl) (by decide) (by decide) hEL CH48.1 all0) (g := (mkF m 51 #[.val (.int ua), .val (.int ub), .val (.int uc), .val (.int ud), .val (.int sel), .val (.int pv), .val (.int av), .val (.ref b3), .unset, .unset, .unset] [(.int pv), (.ref b48), (.ref b48)])) rfl (by rw [hml]; rfl) (argsL := [(.int pv)]) (rest := [(.ref b48), (.ref b48)]) (lenOf pd__I_Ljava_lang_String_ rfl) rfl (by show 2 * 0 + _ ≤ _; exact Nat.le_of_eq rfl) (hb hby at_51) (fun _ _ => ⟨rfl, e48, (by exact Nat.le_of_ble_eq_true rfl), (by exact Nat.le_of_ble_eq_true rfl)⟩)
      dsimp only [Pt.U, Pt.locs, Pt.cells, Pt.slots] at Xr69 hSr69 hgr69 l69 y69 z69 C69 st69 hQ69
      subst l69 y69 z69
      obtain ⟨X69, hS69, hZ69, hown69⟩ := rebS hS33 (by rw [e48]; exact hk48) Xr69 hSr69 hgr69 hZ33 hown33
      obtain ⟨rr_69, tb_69, kt_69, rfl, Nq69, Kq69, f70, f71, f72, f73, szr_69⟩ := hQ69
      have N69 := Fr.app N33 Nq69
      refine GoW.tr st69 ?_
      have f74 : Safe Z EL T69.vm T69.heap b3 := C69.safe f55.lt f54
      have f75 : Exa Z T69.heap b3 "com/example/indenture/indenture/model/ProjectActivity" := f55.keep Kq69
      have f76 : Exa Z T69.heap rr_7 "java/lang/String" := f56.keep Kq69
      have f77 : Fld Z T69.heap rr_7 "java/lang/String" "coder" "B" (.int (0 : Int32)) := f57.keep Kq69 nin0
      have f78 : Fld Z T69.heap rr_7 "java/lang/String" "value" "[B" (.ref tb_7) := f58.keep Kq69 nin0
      have f79 : Arv Z T69.heap tb_7 kt_7 .byte (Int32.ofNat (List.length (fls ua))) (List.map Value.int (fls ua)) (.int (0 : Int32)) := f59.keep Kq69 nin0
      have f80 : Exa Z T69.heap rr_17 "java/lang/String" := f60.keep Kq69
      have f81 : Fld Z T69.heap rr_17 "java/lang/String" "coder" "B" (.int (0 : Int32)) := f61.keep Kq69 nin0
      have f82 : Fld Z T69.heap rr_17 "java/lang/String" "value" "[B" (.ref tb_17) := f62.keep Kq69 nin0
      have f83 : Arv Z T69.heap tb_17 kt_17 .byte (Int32.ofNat (List.length (fls ub))) (List.map Value.int (fls ub)) (.int (0 : Int32)) := f63.keep Kq69 nin0
      have f84 : Fld Z T69.heap b3 "com/example/indenture/indenture/model/ProjectActivity" "project" "Ljava/lang/String;" (.ref rr_7) := f64.keep Kq69 nin0
      have f85 : Fld Z T69.heap b3 "com/example/indenture/indenture/model/ProjectActivity" "activity" "Ljava/lang/String;" (.ref rr_17) := f65.keep Kq69 nin0
      have f86 : Safe Z EL T69.vm T69.heap b48 := C69.safe A48.lt f66
      have f87 : Exa Z T69.heap b48 "com/example/indenture/indenture/model/ProjectActivity" := A48.keep Kq69
      have f88 : Fld Z T69.heap b48 "com/example/indenture/indenture/model/ProjectActivity" "project" "Ljava/lang/String;" .null := f67.keep Kq69 nin0
      have f89 : Fld Z T69.heap b48 "com/example/indenture/indenture/model/ProjectActivity" "activity" "Ljava/lang/String;" .null := f68.keep Kq69 nin0
      have CH69 : CHr Z EL s.vm s.heap T69.vm T69.heap := CH48.trans C69
      have O69 : Old Z n0 T69.heap := O48.keep Kq69 all0
      have g_rr_69 : n0 ≤ rr_69 := Nat.le_trans (own_le O48) szr_69
      have ne90 : b3 ≠ rr_69 := Nat.ne_of_lt (Nat.lt_of_lt_of_le f55.lt szr_69)
      have ne91 : rr_7 ≠ rr_69 := Nat.ne_of_lt (Nat.lt_of_lt_of_le f56.lt szr_69)
      have ne92 : tb_7 ≠ rr_69 := Nat.ne_of_lt (Nat.lt_of_lt_of_le f59.lt szr_69)
      have ne93 : rr_17 ≠ rr_69 := Nat.ne_of_lt (Nat.lt_of_lt_of_le f60.lt szr_69)
      have ne94 : tb_17 ≠ rr_69 := Nat.ne_of_lt (Nat.lt_of_lt_of_le f63.lt szr_69)
      have ne95 : b48 ≠ rr_69 := Nat.ne_of_lt (Nat.lt_of_lt_of_le A48.lt szr_69)
      show GoW p e below s _ _ _ _ _ (T69.setTop (mkF m 54 #[.val (.int ua), .val (.int ub), .val (.int uc), .val (.int ud), .val (.int sel), .val (.int pv), .val (.int av), .val (.ref b3), .unset, .unset, .unset] [(.ref rr_69), (.ref b48), (.ref b48)]))
      refine GoW.st (fun _ k' => XS.iload X69.here hx rfl (hb hby at_54) rfl k') ?_
      show GoW p e below s _ _ _ _ _ (T69.setTop (mkF m 56 #[.val (.int ua), .val (.int ub), .val (.int uc), .val (.int ud), .val (.int sel), .val (.int pv), .val (.int av), .val (.ref b3), .unset, .unset, .unset] [(.int av), (.ref rr_69), (.ref b48), (.ref b48)]))
      obtain ⟨_, _, ⟨T96, L96, k96, n96⟩, -, Xr96, hSr96, hgr96, ⟨Lc96, hQ96, l96, y96, z96, C96⟩, st96⟩ := callSS X69 hx (y := (⟨"com/example/indenture/indenture/model/ProjectActivityEqualsPinLaw", "str", "(I)Ljava/lang/String;"⟩ : MethodName)) hown69 (mvT hZ69 (wdx hw 3 rfl)) (mvT hZ69 (wdx hw 4 rfl)) (mvT hZ69 (wdx hw 5 rfl)) (mvT hZ69 (wdx hw 6 rfl)) (by decide) (own_back (W := 3) (rm1 l Z a0 hw [] av cs T69.heap n0 O69 S_cs q_cs) hZ69 (wdx hw 6 rfl) (wdx hw 5 rfl) (by decide) (by decide) hEL CH69.1 all0) (g := (mkF m 56 #[.val (.int ua), .val (.int ub), .val (.int uc), .val (.int ud), .val (.int sel), .val (.int pv), .val (.int av), .val (.ref b3), .unset, .unset, .unset] [(.int av), (.ref rr_69), (.ref b48), (.ref b48)])) rfl (by rw [hml]; rfl) (argsL := [(.int av)]) (rest := [(.ref rr_69), (.ref b48), (.ref b48)]) (lenOf pd__I_Ljava_lang_String_ rfl) rfl (by show 2 * 0 + _ ≤ _; exact Nat.le_of_eq rfl) (hb hby at_56) (fun _ _ => ⟨rfl, rfl, (by exact Nat.le_of_ble_eq_true rfl), (by exact Nat.le_of_ble_eq_true rfl)⟩)
      dsimp only [Pt.U, Pt.locs, Pt.cells, Pt.slots] at Xr96 hSr96 hgr96 l96 y96 z96 C96 st96 hQ96
      subst l96 y96 z96
      obtain ⟨X96, hS96, hZ96, hown96⟩ := rebS hS69 (Nat.le_refl _) Xr96 hSr96 hgr96 hZ69 hown69
      obtain ⟨rr_96, tb_96, kt_96, rfl, Nq96, Kq96, f97, f98, f99, f100, szr_96⟩ := hQ96
      have N96 := Fr.app N69 Nq96
      refine GoW.tr st96 ?_
      have f101 : Safe Z EL T96.vm T96.heap b3 := C96.safe f75.lt f74
      have f102 : Exa Z T96.heap b3 "com/example/indenture/indenture/model/ProjectActivity" := f75.keep Kq96
      have f103 : Exa Z T96.heap rr_7 "java/lang/String" := f76.keep Kq96
      have f104 : Fld Z T96.heap rr_7 "java/lang/String" "coder" "B" (.int (0 : Int32)) := f77.keep Kq96 nin0
      have f105 : Fld Z T96.heap rr_7 "java/lang/String" "value" "[B" (.ref tb_7) := f78.keep Kq96 nin0
      have f106 : Arv Z T96.heap tb_7 kt_7 .byte (Int32.ofNat (List.length (fls ua))) (List.map Value.int (fls ua)) (.int (0 : Int32)) := f79.keep Kq96 nin0
      have f107 : Exa Z T96.heap rr_17 "java/lang/String" := f80.keep Kq96
      have f108 : Fld Z T96.heap rr_17 "java/lang/String" "coder" "B" (.int (0 : Int32)) := f81.keep Kq96 nin0
      have f109 : Fld Z T96.heap rr_17 "java/lang/String" "value" "[B" (.ref tb_17) := f82.keep Kq96 nin0
      have f110 : Arv Z T96.heap tb_17 kt_17 .byte (Int32.ofNat (List.length (fls ub))) (List.map Value.int (fls ub)) (.int (0 : Int32)) := f83.keep Kq96 nin0
      have f111 : Fld Z T96.heap b3 "com/example/indenture/indenture/model/ProjectActivity" "project" "Ljava/lang/String;" (.ref rr_7) := f84.keep Kq96 nin0
      have f112 : Fld Z T96.heap b3 "com/example/indenture/indenture/model/ProjectActivity" "activity" "Ljava/lang/String;" (.ref rr_17) := f85.keep Kq96 nin0
      have f113 : Safe Z EL T96.vm T96.heap b48 := C96.safe f87.lt f86
      have f114 : Exa Z T96.heap b48 "com/example/indenture/indenture/model/ProjectActivity" := f87.keep Kq96
      have f115 : Fld Z T96.heap b48 "com/example/indenture/indenture/model/ProjectActivity" "project" "Ljava/lang/String;" .null := f88.keep Kq96 nin0
      have f116 : Fld Z T96.heap b48 "com/example/indenture/indenture/model/ProjectActivity" "activity" "Ljava/lang/String;" .null := f89.keep Kq96 nin0
      have f117 : Exa Z T96.heap rr_69 "java/lang/String" := f70.keep Kq96
      have f118 : Fld Z T96.heap rr_69 "java/lang/String" "coder" "B" (.int (0 : Int32)) := f71.keep Kq96 nin0
      have f119 : Fld Z T96.heap rr_69 "java/lang/String" "value" "[B" (.ref tb_69) := f72.keep Kq96 nin0
      have f120 : Arv Z T96.heap tb_69 kt_69 .byte (Int32.ofNat (List.length (fls pv))) (List.map Value.int (fls pv)) (.int (0 : Int32)) := f73.keep Kq96 nin0
      have CH96 : CHr Z EL s.vm s.heap T96.vm T96.heap := CH69.trans C96
      have O96 : Old Z n0 T96.heap := O69.keep Kq96 all0
      have g_rr_96 : n0 ≤ rr_96 := Nat.le_trans (own_le O69) szr_96
      have ne121 : b3 ≠ rr_96 := Nat.ne_of_lt (Nat.lt_of_lt_of_le f75.lt szr_96)
      have ne122 : rr_7 ≠ rr_96 := Nat.ne_of_lt (Nat.lt_of_lt_of_le f76.lt szr_96)
      have ne123 : tb_7 ≠ rr_96 := Nat.ne_of_lt (Nat.lt_of_lt_of_le f79.lt szr_96)
      have ne124 : rr_17 ≠ rr_96 := Nat.ne_of_lt (Nat.lt_of_lt_of_le f80.lt szr_96)
      have ne125 : tb_17 ≠ rr_96 := Nat.ne_of_lt (Nat.lt_of_lt_of_le f83.lt szr_96)
      have ne126 : b48 ≠ rr_96 := Nat.ne_of_lt (Nat.lt_of_lt_of_le f87.lt szr_96)
      have ne127 : rr_69 ≠ rr_96 := Nat.ne_of_lt (Nat.lt_of_lt_of_le f70.lt szr_96)
      have ne128 : tb_69 ≠ rr_96 := Nat.ne_of_lt (Nat.lt_of_lt_of_le f73.lt szr_96)
      show GoW p e below s _ _ _ _ _ (T96.setTop (mkF m 59 #[.val (.int ua), .val (.int ub), .val (.int uc), .val (.int ud), .val (.int sel), .val (.int pv), .val (.int av), .val (.ref b3), .unset, .unset, .unset] [(.ref rr_96), (.ref rr_69), (.ref b48), (.ref b48)]))
      obtain ⟨_, _, ⟨T129, L129, k129, n129⟩, -, Xr129, hSr129, hgr129, ⟨Lc129, hQ129, l129, y129, z129, C129⟩, st129⟩ := X96.specialBackS hx (y := (⟨"com/example/indenture/indenture/model/ProjectActivity", "<init>", "(Ljava/lang/String;Ljava/lang/String;)V"⟩ : MethodName)) rfl hown96 (mvT hZ96 (wdx hw 32 rfl)) (mvT hZ96 (wdx hw 33 rfl)) (mvT hZ96 (wdx hw 34 rfl)) (by decide) (own_back (W := 1) (rm6 l Z a0 hw [] b48 rr_69 rr_96 T96.heap n0 O96 f114 f115 f116 g_b48) hZ96 (wdx hw 34 rfl) (wdx hw 2 rfl) (by decide) (by decide) hEL CH96.1 (allS ⟨f114.lt, f113⟩ all0)) (g := (mkF m 59 #[.val (.int ua), .val (.int ub), .val (.int uc), .val (.int ud), .val (.int sel), .val (.int pv), .val (.int av), .val (.ref b3), .unset, .unset, .unset] [(.ref rr_96), (.ref rr_69), (.ref b48), (.ref b48)])) rfl (by rw [hml]; rfl) (Steps.refl _) (a := b48) (argsL := [(.ref rr_69), (.ref rr_96)]) (rest := [(.ref b48)]) (lenOf pd__Ljava_lang_String_Ljava_lang_String__V rfl) rfl (by show 2 * 0 + _ ≤ _; exact Nat.le_of_eq rfl) (hb hby at_59) (fun _ _ => ⟨rfl, rfl, (by exact Nat.le_of_ble_eq_true rfl), (by exact Nat.le_of_ble_eq_true rfl)⟩)
      dsimp only [Pt.U, Pt.locs, Pt.cells, Pt.slots] at Xr129 hSr129 hgr129 l129 y129 z129 C129 st129 hQ129
      subst l129 y129 z129
      obtain ⟨X129, hS129, hZ129, hown129⟩ := rebS hS96 (Nat.le_refl _) Xr129 hSr129 hgr129 hZ96 hown96
      obtain ⟨rfl, Nq129, Kq129, f130, f131⟩ := hQ129
      have N129 := Fr.app N96 Nq129
      refine GoW.tr st129 ?_
      have f132 : Safe Z EL T129.vm T129.heap b3 := C129.safe f102.lt f101
      have f133 : Exa Z T129.heap b3 "com/example/indenture/indenture/model/ProjectActivity" := f102.keep Kq129
      have f134 : Exa Z T129.heap rr_7 "java/lang/String" := f103.keep Kq129
      have f135 : Fld Z T129.heap rr_7 "java/lang/String" "coder" "B" (.int (0 : Int32)) := f104.keep Kq129 (ninS ne50 nin0)
      have f136 : Fld Z T129.heap rr_7 "java/lang/String" "value" "[B" (.ref tb_7) := f105.keep Kq129 (ninS ne50 nin0)
      have f137 : Arv Z T129.heap tb_7 kt_7 .byte (Int32.ofNat (List.length (fls ua))) (List.map Value.int (fls ua)) (.int (0 : Int32)) := f106.keep Kq129 (ninS ne51 nin0)
      have f138 : Exa Z T129.heap rr_17 "java/lang/String" := f107.keep Kq129
      have f139 : Fld Z T129.heap rr_17 "java/lang/String" "coder" "B" (.int (0 : Int32)) := f108.keep Kq129 (ninS ne52 nin0)
      have f140 : Fld Z T129.heap rr_17 "java/lang/String" "value" "[B" (.ref tb_17) := f109.keep Kq129 (ninS ne52 nin0)
      have f141 : Arv Z T129.heap tb_17 kt_17 .byte (Int32.ofNat (List.length (fls ub))) (List.map Value.int (fls ub)) (.int (0 : Int32)) := f110.keep Kq129 (ninS ne53 nin0)
      have f142 : Fld Z T129.heap b3 "com/example/indenture/indenture/model/ProjectActivity" "project" "Ljava/lang/String;" (.ref rr_7) := f111.keep Kq129 (ninS ne49 nin0)
      have f143 : Fld Z T129.heap b3 "com/example/indenture/indenture/model/ProjectActivity" "activity" "Ljava/lang/String;" (.ref rr_17) := f112.keep Kq129 (ninS ne49 nin0)
      have f144 : Safe Z EL T129.vm T129.heap b48 := C129.safe f114.lt f113
      have f145 : Exa Z T129.heap b48 "com/example/indenture/indenture/model/ProjectActivity" := f114.keep Kq129
      have f146 : Exa Z T129.heap rr_69 "java/lang/String" := f117.keep Kq129
      have f147 : Fld Z T129.heap rr_69 "java/lang/String" "coder" "B" (.int (0 : Int32)) := f118.keep Kq129 (ninS (Ne.symm ne95) nin0)
      have f148 : Fld Z T129.heap rr_69 "java/lang/String" "value" "[B" (.ref tb_69) := f119.keep Kq129 (ninS (Ne.symm ne95) nin0)
      have ne149 : b48 ≠ tb_69 := Exa.neArv f114 f120 (wdx hw 1 rfl)
      have f150 : Arv Z T129.heap tb_69 kt_69 .byte (Int32.ofNat (List.length (fls pv))) (List.map Value.int (fls pv)) (.int (0 : Int32)) := f120.keep Kq129 (ninS (Ne.symm ne149) nin0)
      have f151 : Exa Z T129.heap rr_96 "java/lang/String" := f97.keep Kq129
      have f152 : Fld Z T129.heap rr_96 "java/lang/String" "coder" "B" (.int (0 : Int32)) := f98.keep Kq129 (ninS (Ne.symm ne126) nin0)
      have f153 : Fld Z T129.heap rr_96 "java/lang/String" "value" "[B" (.ref tb_96) := f99.keep Kq129 (ninS (Ne.symm ne126) nin0)
      have ne154 : b48 ≠ tb_96 := Exa.neArv f114 f100 (wdx hw 1 rfl)
      have f155 : Arv Z T129.heap tb_96 kt_96 .byte (Int32.ofNat (List.length (fls av))) (List.map Value.int (fls av)) (.int (0 : Int32)) := f100.keep Kq129 (ninS (Ne.symm ne154) nin0)
      have CH129 : CHr Z EL s.vm s.heap T129.vm T129.heap := CH96.trans C129
      have O129 : Old Z n0 T129.heap := O96.keep Kq129 (allS g_b48 all0)
      show GoW p e below s _ _ _ _ _ (T129.setTop (mkF m 62 #[.val (.int ua), .val (.int ub), .val (.int uc), .val (.int ud), .val (.int sel), .val (.int pv), .val (.int av), .val (.ref b3), .unset, .unset, .unset] [(.ref b48)]))
      refine GoW.st (fun _ k' => XS.astore X129.here hx rfl (hb hby at_62) rfl rfl (l' := #[.val (.int ua), .val (.int ub), .val (.int uc), .val (.int ud), .val (.int sel), .val (.int pv), .val (.int av), .val (.ref b3), .val (.ref b48), .unset, .unset]) rfl k') ?_
      show GoW p e below s _ _ _ _ _ (T129.setTop (mkF m 64 #[.val (.int ua), .val (.int ub), .val (.int uc), .val (.int ud), .val (.int sel), .val (.int pv), .val (.int av), .val (.ref b3), .val (.ref b48), .unset, .unset] []))
      refine GoW.st (fun _ k' => XS.iload X129.here hx rfl (hb hby at_64) rfl k') ?_
      show GoW p e below s _ _ _ _ _ (T129.setTop (mkF m 66 #[.val (.int ua), .val (.int ub), .val (.int uc), .val (.int ud), .val (.int sel), .val (.int pv), .val (.int av), .val (.ref b3), .val (.ref b48), .unset, .unset] [(.int sel)]))
      refine GoW.st (fun _ k' => XS.iconst X129.here hx rfl (hb hby at_66) k') ?_
      show GoW p e below s _ _ _ _ _ (T129.setTop (mkF m 67 #[.val (.int ua), .val (.int ub), .val (.int uc), .val (.int ud), .val (.int sel), .val (.int pv), .val (.int av), .val (.ref b3), .val (.ref b48), .unset, .unset] [(.int (2 : Int32)), (.int sel)]))
      refine GoW.st (fun _ k' => XS.iushr X129.here hx rfl (hb hby at_67) rfl k') ?_
      show GoW p e below s _ _ _ _ _ (T129.setTop (mkF m 68 #[.val (.int ua), .val (.int ub), .val (.int uc), .val (.int ud), .val (.int sel), .val (.int pv), .val (.int av), .val (.ref b3), .val (.ref b48), .unset, .unset] [(.int ((sel.toUInt32 >>> ((2 : Int32) &&& 31).toUInt32).toInt32))]))
      refine GoW.st (fun _ k' => XS.iconst X129.here hx rfl (hb hby at_68) k') ?_
      show GoW p e below s _ _ _ _ _ (T129.setTop (mkF m 69 #[.val (.int ua), .val (.int ub), .val (.int uc), .val (.int ud), .val (.int sel), .val (.int pv), .val (.int av), .val (.ref b3), .val (.ref b48), .unset, .unset] [(.int (3 : Int32)), (.int ((sel.toUInt32 >>> ((2 : Int32) &&& 31).toUInt32).toInt32))]))
      refine GoW.st (fun _ k' => XS.iand X129.here hx rfl (hb hby at_69) rfl k') ?_
      show GoW p e below s _ _ _ _ _ (T129.setTop (mkF m 70 #[.val (.int ua), .val (.int ub), .val (.int uc), .val (.int ud), .val (.int sel), .val (.int pv), .val (.int av), .val (.ref b3), .val (.ref b48), .unset, .unset] [(.int (((sel.toUInt32 >>> ((2 : Int32) &&& 31).toUInt32).toInt32) &&& (3 : Int32)))]))
      refine GoW.st (fun _ k' => XS.istore X129.here hx rfl (hb hby at_70) rfl (l' := #[.val (.int ua), .val (.int ub), .val (.int uc), .val (.int ud), .val (.int sel), .val (.int pv), .val (.int av), .val (.ref b3), .val (.ref b48), .val (.int (((sel.toUInt32 >>> ((2 : Int32) &&& 31).toUInt32).toInt32) &&& (3 : Int32))), .unset]) rfl k') ?_
      show GoW p e below s _ _ _ _ _ (T129.setTop (mkF m 72 #[.val (.int ua), .val (.int ub), .val (.int uc), .val (.int ud), .val (.int sel), .val (.int pv), .val (.int av), .val (.ref b3), .val (.ref b48), .val (.int (((sel.toUInt32 >>> ((2 : Int32) &&& 31).toUInt32).toInt32) &&& (3 : Int32))), .unset] []))
      obtain ⟨kd, hd_kd⟩ : ∃ z, z = (((sel.toUInt32 >>> ((2 : Int32) &&& 31).toUInt32).toInt32) &&& (3 : Int32)) := ⟨_, rfl⟩
      rw [← hd_kd]
      show GoW p e below s _ _ _ _ _ (T129.setTop (mkF m 72 #[.val (.int ua), .val (.int ub), .val (.int uc), .val (.int ud), .val (.int sel), .val (.int pv), .val (.int av), .val (.ref b3), .val (.ref b48), .val (.int kd), .unset] []))
      refine GoW.st (fun _ k' => XS.iload X129.here hx rfl (hb hby at_72) rfl k') ?_
      show GoW p e below s _ _ _ _ _ (T129.setTop (mkF m 74 #[.val (.int ua), .val (.int ub), .val (.int uc), .val (.int ud), .val (.int sel), .val (.int pv), .val (.int av), .val (.ref b3), .val (.ref b48), .val (.int kd), .unset] [(.int kd)]))
      refine GoW.st (fun _ k' => XS.iconst X129.here hx rfl (hb hby at_74) k') ?_
      show GoW p e below s _ _ _ _ _ (T129.setTop (mkF m 75 #[.val (.int ua), .val (.int ub), .val (.int uc), .val (.int ud), .val (.int sel), .val (.int pv), .val (.int av), .val (.ref b3), .val (.ref b48), .val (.int kd), .unset] [(.int (1 : Int32)), (.int kd)]))
      by_cases hc156 : kd = (1 : Int32)
      · refine GoW.st (fun _ k' => XS.icmpNo X129.here hx rfl (hb hby at_75) rfl (XT.ii_ne_f hc156) k') ?_
        show GoW p e below s _ _ _ _ _ (T129.setTop (mkF m 78 #[.val (.int ua), .val (.int ub), .val (.int uc), .val (.int ud), .val (.int sel), .val (.int pv), .val (.int av), .val (.ref b3), .val (.ref b48), .val (.int kd), .unset] []))
        refine GoW.st (fun _ k' => XS.aload X129.here hx rfl (hb hby at_78) rfl rfl k') ?_
        show GoW p e below s _ _ _ _ _ (T129.setTop (mkF m 80 #[.val (.int ua), .val (.int ub), .val (.int uc), .val (.int ud), .val (.int sel), .val (.int pv), .val (.int av), .val (.ref b3), .val (.ref b48), .val (.int kd), .unset] [(.ref b3)]))
        refine GoW.st (fun _ k' => XS.aconstNull X129.here hx rfl (hb hby at_80) k') ?_
        show GoW p e below s _ _ _ _ _ (T129.setTop (mkF m 81 #[.val (.int ua), .val (.int ub), .val (.int uc), .val (.int ud), .val (.int sel), .val (.int pv), .val (.int av), .val (.ref b3), .val (.ref b48), .val (.int kd), .unset] [.null, (.ref b3)]))
        obtain ⟨cq157, kq157, q157a, q157b, q157c⟩ := isOf hZ129 rfl f133
        obtain ⟨_, _, ⟨T157, L157, k157, n157⟩, -, X157, ⟨Lc157, hQ157, l157, y157, z157⟩, st157⟩ := X129.virtualBack hx (y := (⟨"com/example/indenture/indenture/model/ProjectActivity", "equals", "(Ljava/lang/Object;)Z"⟩ : MethodName)) (z := (⟨"com/example/indenture/indenture/model/ProjectActivity", "equals", "(Ljava/lang/Object;)Z"⟩ : MethodName)) hown129 (mvT hZ129 (wdx hw 54 rfl)) (mvT hZ129 (wdx hw 55 rfl)) (notFace_of_selects (args := #[]) (mvT hZ129 (wdx hw 57 rfl))) (mvT hZ129 (wdx hw 57 rfl)) (mvT hZ129 (wdx hw 56 rfl)) (by decide) (backOf (W := 0) (rm10_n l Z a0 hw [] b3 T129.heap n0 O129 ) hZ129 (wdx hw 58 rfl) (wdx hw 2 rfl) (by decide) (by decide)) q157a q157c (g := (mkF m 81 #[.val (.int ua), .val (.int ub), .val (.int uc), .val (.int ud), .val (.int sel), .val (.int pv), .val (.int av), .val (.ref b3), .val (.ref b48), .val (.int kd), .unset] [.null, (.ref b3)])) rfl (by rw [hml]; rfl) (Steps.refl _) (argsL := [.null]) (rest := []) (lenOf pd__Ljava_lang_Object__Z rfl) rfl (by show 2 * 0 + _ ≤ _; exact Nat.le_of_eq rfl) (hb hby at_81) (fun _ _ => ⟨rfl, rfl, (by exact Nat.le_of_ble_eq_true rfl), (by exact Nat.le_of_ble_eq_true rfl)⟩)
        dsimp only [Pt.U, Pt.locs, Pt.cells, Pt.slots] at X157 l157 y157 z157 st157 hQ157
        subst l157 y157 z157
        obtain ⟨rfl, Nq157, eq157⟩ := hQ157
        have N157 := Fr.app N129 Nq157
        refine GoW.tr st157 ?_
        show GoW p e below s _ _ _ _ _ (T157.setTop (mkF m 84 #[.val (.int ua), .val (.int ub), .val (.int uc), .val (.int ud), .val (.int sel), .val (.int pv), .val (.int av), .val (.ref b3), .val (.ref b48), .val (.int kd), .unset] [(.int (0 : Int32))]))
        refine GoW.st (fun _ k' => XS.ifNo X157.here hx rfl (hb hby at_84) rfl (XT.i0_ne_f (by decide)) k') ?_
        show GoW p e below s _ _ _ _ _ (T157.setTop (mkF m 87 #[.val (.int ua), .val (.int ub), .val (.int uc), .val (.int ud), .val (.int sel), .val (.int pv), .val (.int av), .val (.ref b3), .val (.ref b48), .val (.int kd), .unset] []))
        refine GoW.st (fun _ k' => XS.iconst X157.here hx rfl (hb hby at_87) k') ?_
        show GoW p e below s _ _ _ _ _ (T157.setTop (mkF m 88 #[.val (.int ua), .val (.int ub), .val (.int uc), .val (.int ud), .val (.int sel), .val (.int pv), .val (.int av), .val (.ref b3), .val (.ref b48), .val (.int kd), .unset] [(.int (1 : Int32))]))
        refine GoW.st (fun _ k' => XS.goto X157.here hx rfl (pc0 := 88) (pc' := 92) rfl (hb hby at_88) (by decide) (by decide) k') ?_
        show GoW p e below s _ _ _ _ _ (T157.setTop (mkF m 92 #[.val (.int ua), .val (.int ub), .val (.int uc), .val (.int ud), .val (.int sel), .val (.int pv), .val (.int av), .val (.ref b3), .val (.ref b48), .val (.int kd), .unset] [(.int (1 : Int32))]))
        refine GoW.retB X157 hx hlk hS129 (by rw [eq157]; exact (Nat.le_refl _)) hZ129 hEL CH129 (t := .boolean) Bd.returns (by simp) (hb hby at_92) (by decide) (by decide) eq157 ?_
        exact ⟨rfl, N157, trivial⟩
      · refine GoW.st (fun _ k' => XS.icmpYes X129.here hx rfl (pc0 := 75) (pc' := 93) rfl (hb hby at_75) rfl (XT.ii_ne_t hc156) (by decide) (by decide) k') ?_
        show GoW p e below s _ _ _ _ _ (T129.setTop (mkF m 93 #[.val (.int ua), .val (.int ub), .val (.int uc), .val (.int ud), .val (.int sel), .val (.int pv), .val (.int av), .val (.ref b3), .val (.ref b48), .val (.int kd), .unset] []))
        refine GoW.st (fun _ k' => XS.iload X129.here hx rfl (hb hby at_93) rfl k') ?_
        show GoW p e below s _ _ _ _ _ (T129.setTop (mkF m 95 #[.val (.int ua), .val (.int ub), .val (.int uc), .val (.int ud), .val (.int sel), .val (.int pv), .val (.int av), .val (.ref b3), .val (.ref b48), .val (.int kd), .unset] [(.int kd)]))
        refine GoW.st (fun _ k' => XS.iconst X129.here hx rfl (hb hby at_95) k') ?_
        show GoW p e below s _ _ _ _ _ (T129.setTop (mkF m 96 #[.val (.int ua), .val (.int ub), .val (.int uc), .val (.int ud), .val (.int sel), .val (.int pv), .val (.int av), .val (.ref b3), .val (.ref b48), .val (.int kd), .unset] [(.int (2 : Int32)), (.int kd)]))
        by_cases hc158 : kd = (2 : Int32)
        · refine GoW.st (fun _ k' => XS.icmpNo X129.here hx rfl (hb hby at_96) rfl (XT.ii_ne_f hc158) k') ?_
          show GoW p e below s _ _ _ _ _ (T129.setTop (mkF m 99 #[.val (.int ua), .val (.int ub), .val (.int uc), .val (.int ud), .val (.int sel), .val (.int pv), .val (.int av), .val (.ref b3), .val (.ref b48), .val (.int kd), .unset] []))
          refine GoW.st (fun _ k' => XS.aload X129.here hx rfl (hb hby at_99) rfl rfl k') ?_
          show GoW p e below s _ _ _ _ _ (T129.setTop (mkF m 101 #[.val (.int ua), .val (.int ub), .val (.int uc), .val (.int ud), .val (.int sel), .val (.int pv), .val (.int av), .val (.ref b3), .val (.ref b48), .val (.int kd), .unset] [(.ref b3)]))
          refine GoW.st (fun _ k' => XS.iloadN X129.here hx rfl (hb hby at_101) rfl k') ?_
          show GoW p e below s _ _ _ _ _ (T129.setTop (mkF m 102 #[.val (.int ua), .val (.int ub), .val (.int uc), .val (.int ud), .val (.int sel), .val (.int pv), .val (.int av), .val (.ref b3), .val (.ref b48), .val (.int kd), .unset] [(.int ua), (.ref b3)]))
          obtain ⟨_, _, ⟨T159, L159, k159, n159⟩, -, Xr159, hSr159, hgr159, ⟨Lc159, hQ159, l159, y159, z159, C159⟩, st159⟩ := callSS X129 hx (y := (⟨"com/example/indenture/indenture/model/ProjectActivityEqualsPinLaw", "str", "(I)Ljava/lang/String;"⟩ : MethodName)) hown129 (mvT hZ129 (wdx hw 3 rfl)) (mvT hZ129 (wdx hw 4 rfl)) (mvT hZ129 (wdx hw 5 rfl)) (mvT hZ129 (wdx hw 6 rfl)) (by decide) (own_back (W := 1) (rm1 l Z a0 hw [] ua cs T129.heap n0 O129 S_cs q_cs) hZ129 (wdx hw 6 rfl) (wdx hw 5 rfl) (by decide) (by decide) hEL CH129.1 all0) (g := (mkF m 102 #[.val (.int ua), .val (.int ub), .val (.int uc), .val (.int ud), .val (.int sel), .val (.int pv), .val (.int av), .val (.ref b3), .val (.ref b48), .val (.int kd), .unset] [(.int ua), (.ref b3)])) rfl (by rw [hml]; rfl) (argsL := [(.int ua)]) (rest := [(.ref b3)]) (lenOf pd__I_Ljava_lang_String_ rfl) rfl (by show 2 * 0 + _ ≤ _; exact Nat.le_of_eq rfl) (hb hby at_102) (fun _ _ => ⟨rfl, rfl, (by exact Nat.le_of_ble_eq_true rfl), (by exact Nat.le_of_ble_eq_true rfl)⟩)
          dsimp only [Pt.U, Pt.locs, Pt.cells, Pt.slots] at Xr159 hSr159 hgr159 l159 y159 z159 C159 st159 hQ159
          subst l159 y159 z159
          obtain ⟨X159, hS159, hZ159, hown159⟩ := rebS hS129 (Nat.le_refl _) Xr159 hSr159 hgr159 hZ129 hown129
          obtain ⟨rr_159, tb_159, kt_159, rfl, Nq159, Kq159, f160, f161, f162, f163, szr_159⟩ := hQ159
          have N159 := Fr.app N129 Nq159
          refine GoW.tr st159 ?_
          have f164 : Safe Z EL T159.vm T159.heap b3 := C159.safe f133.lt f132
          have f165 : Exa Z T159.heap b3 "com/example/indenture/indenture/model/ProjectActivity" := f133.keep Kq159
          have f166 : Exa Z T159.heap rr_7 "java/lang/String" := f134.keep Kq159
          have f167 : Fld Z T159.heap rr_7 "java/lang/String" "coder" "B" (.int (0 : Int32)) := f135.keep Kq159 nin0
          have f168 : Fld Z T159.heap rr_7 "java/lang/String" "value" "[B" (.ref tb_7) := f136.keep Kq159 nin0
          have f169 : Arv Z T159.heap tb_7 kt_7 .byte (Int32.ofNat (List.length (fls ua))) (List.map Value.int (fls ua)) (.int (0 : Int32)) := f137.keep Kq159 nin0
          have f170 : Exa Z T159.heap rr_17 "java/lang/String" := f138.keep Kq159
          have f171 : Fld Z T159.heap rr_17 "java/lang/String" "coder" "B" (.int (0 : Int32)) := f139.keep Kq159 nin0
          have f172 : Fld Z T159.heap rr_17 "java/lang/String" "value" "[B" (.ref tb_17) := f140.keep Kq159 nin0
          have f173 : Arv Z T159.heap tb_17 kt_17 .byte (Int32.ofNat (List.length (fls ub))) (List.map Value.int (fls ub)) (.int (0 : Int32)) := f141.keep Kq159 nin0
          have f174 : Fld Z T159.heap b3 "com/example/indenture/indenture/model/ProjectActivity" "project" "Ljava/lang/String;" (.ref rr_7) := f142.keep Kq159 nin0
          have f175 : Fld Z T159.heap b3 "com/example/indenture/indenture/model/ProjectActivity" "activity" "Ljava/lang/String;" (.ref rr_17) := f143.keep Kq159 nin0
          have f176 : Safe Z EL T159.vm T159.heap b48 := C159.safe f145.lt f144
          have f177 : Exa Z T159.heap b48 "com/example/indenture/indenture/model/ProjectActivity" := f145.keep Kq159
          have f178 : Exa Z T159.heap rr_69 "java/lang/String" := f146.keep Kq159
          have f179 : Fld Z T159.heap rr_69 "java/lang/String" "coder" "B" (.int (0 : Int32)) := f147.keep Kq159 nin0
          have f180 : Fld Z T159.heap rr_69 "java/lang/String" "value" "[B" (.ref tb_69) := f148.keep Kq159 nin0
          have f181 : Arv Z T159.heap tb_69 kt_69 .byte (Int32.ofNat (List.length (fls pv))) (List.map Value.int (fls pv)) (.int (0 : Int32)) := f150.keep Kq159 nin0
          have f182 : Exa Z T159.heap rr_96 "java/lang/String" := f151.keep Kq159
          have f183 : Fld Z T159.heap rr_96 "java/lang/String" "coder" "B" (.int (0 : Int32)) := f152.keep Kq159 nin0
          have f184 : Fld Z T159.heap rr_96 "java/lang/String" "value" "[B" (.ref tb_96) := f153.keep Kq159 nin0
          have f185 : Arv Z T159.heap tb_96 kt_96 .byte (Int32.ofNat (List.length (fls av))) (List.map Value.int (fls av)) (.int (0 : Int32)) := f155.keep Kq159 nin0
          have f186 : Fld Z T159.heap b48 "com/example/indenture/indenture/model/ProjectActivity" "project" "Ljava/lang/String;" (.ref rr_69) := f130.keep Kq159 nin0
          have f187 : Fld Z T159.heap b48 "com/example/indenture/indenture/model/ProjectActivity" "activity" "Ljava/lang/String;" (.ref rr_96) := f131.keep Kq159 nin0
          have CH159 : CHr Z EL s.vm s.heap T159.vm T159.heap := CH129.trans C159
          have O159 : Old Z n0 T159.heap := O129.keep Kq159 all0
          have g_rr_159 : n0 ≤ rr_159 := Nat.le_trans (own_le O129) szr_159
          have ne188 : b3 ≠ rr_159 := Nat.ne_of_lt (Nat.lt_of_lt_of_le f133.lt szr_159)
          have ne189 : rr_7 ≠ rr_159 := Nat.ne_of_lt (Nat.lt_of_lt_of_le f134.lt szr_159)
          have ne190 : tb_7 ≠ rr_159 := Nat.ne_of_lt (Nat.lt_of_lt_of_le f137.lt szr_159)
          have ne191 : rr_17 ≠ rr_159 := Nat.ne_of_lt (Nat.lt_of_lt_of_le f138.lt szr_159)
          have ne192 : tb_17 ≠ rr_159 := Nat.ne_of_lt (Nat.lt_of_lt_of_le f141.lt szr_159)
          have ne193 : b48 ≠ rr_159 := Nat.ne_of_lt (Nat.lt_of_lt_of_le f145.lt szr_159)
          have ne194 : rr_69 ≠ rr_159 := Nat.ne_of_lt (Nat.lt_of_lt_of_le f146.lt szr_159)
          have ne195 : tb_69 ≠ rr_159 := Nat.ne_of_lt (Nat.lt_of_lt_of_le f150.lt szr_159)
          have ne196 : rr_96 ≠ rr_159 := Nat.ne_of_lt (Nat.lt_of_lt_of_le f151.lt szr_159)
          have ne197 : tb_96 ≠ rr_159 := Nat.ne_of_lt (Nat.lt_of_lt_of_le f155.lt szr_159)
          show GoW p e below s _ _ _ _ _ (T159.setTop (mkF m 105 #[.val (.int ua), .val (.int ub), .val (.int uc), .val (.int ud), .val (.int sel), .val (.int pv), .val (.int av), .val (.ref b3), .val (.ref b48), .val (.int kd), .unset] [(.ref rr_159), (.ref b3)]))
          obtain ⟨cq198, kq198, q198a, q198b, q198c⟩ := isOf hZ159 rfl f165
          obtain ⟨_, _, ⟨T198, L198, k198, n198⟩, -, X198, ⟨Lc198, hQ198, l198, y198, z198⟩, st198⟩ := X159.virtualBack hx (y := (⟨"com/example/indenture/indenture/model/ProjectActivity", "equals", "(Ljava/lang/Object;)Z"⟩ : MethodName)) (z := (⟨"com/example/indenture/indenture/model/ProjectActivity", "equals", "(Ljava/lang/Object;)Z"⟩ : MethodName)) hown159 (mvT hZ159 (wdx hw 54 rfl)) (mvT hZ159 (wdx hw 55 rfl)) (notFace_of_selects (args := #[]) (mvT hZ159 (wdx hw 57 rfl))) (mvT hZ159 (wdx hw 57 rfl)) (mvT hZ159 (wdx hw 56 rfl)) (by decide) (backOf (W := 0) (rm10_s l Z a0 hw [] b3 rr_159 T159.heap n0 O159 f160) hZ159 (wdx hw 58 rfl) (wdx hw 2 rfl) (by decide) (by decide)) q198a q198c (g := (mkF m 105 #[.val (.int ua), .val (.int ub), .val (.int uc), .val (.int ud), .val (.int sel), .val (.int pv), .val (.int av), .val (.ref b3), .val (.ref b48), .val (.int kd), .unset] [(.ref rr_159), (.ref b3)])) rfl (by rw [hml]; rfl) (Steps.refl _) (argsL := [(.ref rr_159)]) (rest := []) (lenOf pd__Ljava_lang_Object__Z rfl) rfl (by show 2 * 0 + _ ≤ _; exact Nat.le_of_eq rfl) (hb hby at_105) (fun _ _ => ⟨rfl, rfl, (by exact Nat.le_of_ble_eq_true rfl), (by exact Nat.le_of_ble_eq_true rfl)⟩)
          dsimp only [Pt.U, Pt.locs, Pt.cells, Pt.slots] at X198 l198 y198 z198 st198 hQ198
          subst l198 y198 z198
          obtain ⟨rfl, Nq198, eq198⟩ := hQ198
          have N198 := Fr.app N159 Nq198
          refine GoW.tr st198 ?_
          show GoW p e below s _ _ _ _ _ (T198.setTop (mkF m 108 #[.val (.int ua), .val (.int ub), .val (.int uc), .val (.int ud), .val (.int sel), .val (.int pv), .val (.int av), .val (.ref b3), .val (.ref b48), .val (.int kd), .unset] [(.int (0 : Int32))]))
          refine GoW.st (fun _ k' => XS.ifNo X198.here hx rfl (hb hby at_108) rfl (XT.i0_ne_f (by decide)) k') ?_
          show GoW p e below s _ _ _ _ _ (T198.setTop (mkF m 111 #[.val (.int ua), .val (.int ub), .val (.int uc), .val (.int ud), .val (.int sel), .val (.int pv), .val (.int av), .val (.ref b3), .val (.ref b48), .val (.int kd), .unset] []))
          refine GoW.st (fun _ k' => XS.iconst X198.here hx rfl (hb hby at_111) k') ?_
          show GoW p e below s _ _ _ _ _ (T198.setTop (mkF m 112 #[.val (.int ua), .val (.int ub), .val (.int uc), .val (.int ud), .val (.int sel), .val (.int pv), .val (.int av), .val (.ref b3), .val (.ref b48), .val (.int kd), .unset] [(.int (1 : Int32))]))
          refine GoW.st (fun _ k' => XS.goto X198.here hx rfl (pc0 := 112) (pc' := 116) rfl (hb hby at_112) (by decide) (by decide) k') ?_
          show GoW p e below s _ _ _ _ _ (T198.setTop (mkF m 116 #[.val (.int ua), .val (.int ub), .val (.int uc), .val (.int ud), .val (.int sel), .val (.int pv), .val (.int av), .val (.ref b3), .val (.ref b48), .val (.int kd), .unset] [(.int (1 : Int32))]))
          refine GoW.retB X198 hx hlk hS159 (by rw [eq198]; exact (Nat.le_refl _)) hZ159 hEL CH159 (t := .boolean) Bd.returns (by simp) (hb hby at_116) (by decide) (by decide) eq198 ?_
          exact ⟨rfl, N198, trivial⟩
        · refine GoW.st (fun _ k' => XS.icmpYes X129.here hx rfl (pc0 := 96) (pc' := 117) rfl (hb hby at_96) rfl (XT.ii_ne_t hc158) (by decide) (by decide) k') ?_
          show GoW p e below s _ _ _ _ _ (T129.setTop (mkF m 117 #[.val (.int ua), .val (.int ub), .val (.int uc), .val (.int ud), .val (.int sel), .val (.int pv), .val (.int av), .val (.ref b3), .val (.ref b48), .val (.int kd), .unset] []))
          refine GoW.st (fun _ k' => XS.iload X129.here hx rfl (hb hby at_117) rfl k') ?_
          show GoW p e below s _ _ _ _ _ (T129.setTop (mkF m 119 #[.val (.int ua), .val (.int ub), .val (.int uc), .val (.int ud), .val (.int sel), .val (.int pv), .val (.int av), .val (.ref b3), .val (.ref b48), .val (.int kd), .unset] [(.int kd)]))
          refine GoW.st (fun _ k' => XS.iconst X129.here hx rfl (hb hby at_119) k') ?_
          show GoW p e below s _ _ _ _ _ (T129.setTop (mkF m 120 #[.val (.int ua), .val (.int ub), .val (.int uc), .val (.int ud), .val (.int sel), .val (.int pv), .val (.int av), .val (.ref b3), .val (.ref b48), .val (.int kd), .unset] [(.int (3 : Int32)), (.int kd)]))
          by_cases hc199 : kd = (3 : Int32)
          · refine GoW.st (fun _ k' => XS.icmpNo X129.here hx rfl (hb hby at_120) rfl (XT.ii_ne_f hc199) k') ?_
            show GoW p e below s _ _ _ _ _ (T129.setTop (mkF m 123 #[.val (.int ua), .val (.int ub), .val (.int uc), .val (.int ud), .val (.int sel), .val (.int pv), .val (.int av), .val (.ref b3), .val (.ref b48), .val (.int kd), .unset] []))
            refine GoW.st (fun _ k' => XS.aload X129.here hx rfl (hb hby at_123) rfl rfl k') ?_
            show GoW p e below s _ _ _ _ _ (T129.setTop (mkF m 125 #[.val (.int ua), .val (.int ub), .val (.int uc), .val (.int ud), .val (.int sel), .val (.int pv), .val (.int av), .val (.ref b3), .val (.ref b48), .val (.int kd), .unset] [(.ref b3)]))
            refine GoW.st (fun _ k' => XS.aload X129.here hx rfl (hb hby at_125) rfl rfl k') ?_
            show GoW p e below s _ _ _ _ _ (T129.setTop (mkF m 127 #[.val (.int ua), .val (.int ub), .val (.int uc), .val (.int ud), .val (.int sel), .val (.int pv), .val (.int av), .val (.ref b3), .val (.ref b48), .val (.int kd), .unset] [(.ref b3), (.ref b3)]))
            obtain ⟨cq200, kq200, q200a, q200b, q200c⟩ := isOf hZ129 rfl f133
            obtain ⟨_, _, ⟨T200, L200, k200, n200⟩, -, X200, ⟨Lc200, hQ200, l200, y200, z200⟩, st200⟩ := X129.virtualBack hx (y := (⟨"com/example/indenture/indenture/model/ProjectActivity", "equals", "(Ljava/lang/Object;)Z"⟩ : MethodName)) (z := (⟨"com/example/indenture/indenture/model/ProjectActivity", "equals", "(Ljava/lang/Object;)Z"⟩ : MethodName)) hown129 (mvT hZ129 (wdx hw 54 rfl)) (mvT hZ129 (wdx hw 55 rfl)) (notFace_of_selects (args := #[]) (mvT hZ129 (wdx hw 57 rfl))) (mvT hZ129 (wdx hw 57 rfl)) (mvT hZ129 (wdx hw 56 rfl)) (by decide) (backOf (W := 0) (rm10_r l Z a0 hw [] b3 rr_7 rr_17 T129.heap n0 O129 f133 f142 f143 f134 f138) hZ129 (wdx hw 58 rfl) (wdx hw 2 rfl) (by decide) (by decide)) q200a q200c (g := (mkF m 127 #[.val (.int ua), .val (.int ub), .val (.int uc), .val (.int ud), .val (.int sel), .val (.int pv), .val (.int av), .val (.ref b3), .val (.ref b48), .val (.int kd), .unset] [(.ref b3), (.ref b3)])) rfl (by rw [hml]; rfl) (Steps.refl _) (argsL := [(.ref b3)]) (rest := []) (lenOf pd__Ljava_lang_Object__Z rfl) rfl (by show 2 * 0 + _ ≤ _; exact Nat.le_of_eq rfl) (hb hby at_127) (fun _ _ => ⟨rfl, rfl, (by exact Nat.le_of_ble_eq_true rfl), (by exact Nat.le_of_ble_eq_true rfl)⟩)
            dsimp only [Pt.U, Pt.locs, Pt.cells, Pt.slots] at X200 l200 y200 z200 st200 hQ200
            subst l200 y200 z200
            obtain ⟨rfl, Nq200, eq200⟩ := hQ200
            have N200 := Fr.app N129 Nq200
            refine GoW.tr st200 ?_
            show GoW p e below s _ _ _ _ _ (T200.setTop (mkF m 130 #[.val (.int ua), .val (.int ub), .val (.int uc), .val (.int ud), .val (.int sel), .val (.int pv), .val (.int av), .val (.ref b3), .val (.ref b48), .val (.int kd), .unset] [(.int (1 : Int32))]))
            refine GoW.retB X200 hx hlk hS129 (by rw [eq200]; exact (Nat.le_refl _)) hZ129 hEL CH129 (t := .boolean) Bd.returns (by simp) (hb hby at_130) (by decide) (by decide) eq200 ?_
            exact ⟨rfl, N200, trivial⟩
          · refine GoW.st (fun _ k' => XS.icmpYes X129.here hx rfl (pc0 := 120) (pc' := 131) rfl (hb hby at_120) rfl (XT.ii_ne_t hc199) (by decide) (by decide) k') ?_
            show GoW p e below s _ _ _ _ _ (T129.setTop (mkF m 131 #[.val (.int ua), .val (.int ub), .val (.int uc), .val (.int ud), .val (.int sel), .val (.int pv), .val (.int av), .val (.ref b3), .val (.ref b48), .val (.int kd), .unset] []))
            have J201 : ∀ (TJ201' : State) (lJ201' : List Loc) (XJ201' : Stand p l e room_1 (s.setVm T129.vm) m #[(.int ua), (.int ub), (.int uc), (.int ud), (.int sel)] below meth c TJ201' lJ201' 34 188) (eJ201' : TJ201'.heap = T129.heap) (NJ201' : Fr n0 lJ201') (xe : Int32) (r_xe : xe = (if (fls ua) = (fls pv) then (if (fls ub) = (fls av) then (1 : Int32) else 0) else 0)), GoW p e below s 48 3264 Z EL (Q0 Z ua ub uc ud sel cs h0 n0) (TJ201'.setTop (mkF m 154 #[.val (.int ua), .val (.int ub), .val (.int uc), .val (.int ud), .val (.int sel), .val (.int pv), .val (.int av), .val (.ref b3), .val (.ref b48), .val (.int kd), .unset] [(.int xe)])) := by
              intro TJ201' lJ201' XJ201' eJ201' NJ201' xe r_xe
              show GoW p e below s _ _ _ _ _ (TJ201'.setTop (mkF m 154 #[.val (.int ua), .val (.int ub), .val (.int uc), .val (.int ud), .val (.int sel), .val (.int pv), .val (.int av), .val (.ref b3), .val (.ref b48), .val (.int kd), .unset] [(.int xe)]))
              refine GoW.st (fun _ k' => XS.istore XJ201'.here hx rfl (hb hby at_154) rfl (l' := #[.val (.int ua), .val (.int ub), .val (.int uc), .val (.int ud), .val (.int sel), .val (.int pv), .val (.int av), .val (.ref b3), .val (.ref b48), .val (.int kd), .val (.int xe)]) rfl k') ?_
              show GoW p e below s _ _ _ _ _ (TJ201'.setTop (mkF m 156 #[.val (.int ua), .val (.int ub), .val (.int uc), .val (.int ud), .val (.int sel), .val (.int pv), .val (.int av), .val (.ref b3), .val (.ref b48), .val (.int kd), .val (.int xe)] []))
              refine GoW.st (fun _ k' => XS.aload XJ201'.here hx rfl (hb hby at_156) rfl rfl k') ?_
              show GoW p e below s _ _ _ _ _ (TJ201'.setTop (mkF m 158 #[.val (.int ua), .val (.int ub), .val (.int uc), .val (.int ud), .val (.int sel), .val (.int pv), .val (.int av), .val (.ref b3), .val (.ref b48), .val (.int kd), .val (.int xe)] [(.ref b3)]))
              refine GoW.st (fun _ k' => XS.aload XJ201'.here hx rfl (hb hby at_158) rfl rfl k') ?_
              show GoW p e below s _ _ _ _ _ (TJ201'.setTop (mkF m 160 #[.val (.int ua), .val (.int ub), .val (.int uc), .val (.int ud), .val (.int sel), .val (.int pv), .val (.int av), .val (.ref b3), .val (.ref b48), .val (.int kd), .val (.int xe)] [(.ref b48), (.ref b3)]))
              obtain ⟨cq202, kq202, q202a, q202b, q202c⟩ := isOf hZ129 eJ201' f133
              obtain ⟨_, _, ⟨T202, L202, k202, n202⟩, -, X202, ⟨Lc202, hQ202, l202, y202, z202⟩, st202⟩ := XJ201'.virtualBack hx (y := (⟨"com/example/indenture/indenture/model/ProjectActivity", "equals", "(Ljava/lang/Object;)Z"⟩ : MethodName)) (z := (⟨"com/example/indenture/indenture/model/ProjectActivity", "equals", "(Ljava/lang/Object;)Z"⟩ : MethodName)) hown129 (mvT hZ129 (wdx hw 54 rfl)) (mvT hZ129 (wdx hw 55 rfl)) (notFace_of_selects (args := #[]) (mvT hZ129 (wdx hw 57 rfl))) (mvT hZ129 (wdx hw 57 rfl)) (mvT hZ129 (wdx hw 56 rfl)) (by decide) (backOf (W := 0) (rm10_d l Z a0 hw [] b3 b48 cs rr_7 rr_17 rr_69 rr_96 tb_7 kt_7 (fls ua) tb_17 kt_17 (fls ub) tb_69 kt_69 (fls pv) tb_96 kt_96 (fls av) T129.heap n0 O129 f145 f142 f143 f130 f131 f134 f136 f135 f137 f138 f140 f139 f141 f146 f148 f147 f150 f151 f153 f152 f155 S_cs q_cs ne91 ne124 (own_l3 _) (own_l3 _) (own_l3 _) (own_l3 _)) hZ129 (wdx hw 58 rfl) (wdx hw 2 rfl) (by decide) (by decide)) q202a q202c (g := (mkF m 160 #[.val (.int ua), .val (.int ub), .val (.int uc), .val (.int ud), .val (.int sel), .val (.int pv), .val (.int av), .val (.ref b3), .val (.ref b48), .val (.int kd), .val (.int xe)] [(.ref b48), (.ref b3)])) rfl (by rw [hml]; rfl) (Steps.refl _) (argsL := [(.ref b48)]) (rest := []) (lenOf pd__Ljava_lang_Object__Z rfl) rfl (by show 2 * 0 + _ ≤ _; exact Nat.le_of_eq rfl) (hb hby at_160) (fun _ _ => ⟨rfl, eJ201', (by exact Nat.le_of_ble_eq_true rfl), (by exact Nat.le_of_ble_eq_true rfl)⟩)
              dsimp only [Pt.U, Pt.locs, Pt.cells, Pt.slots] at X202 l202 y202 z202 st202 hQ202
              subst l202 y202 z202
              obtain ⟨rfl, Nq202, eq202⟩ := hQ202
              have N202 := Fr.app NJ201' Nq202
              refine GoW.tr st202 ?_
              show GoW p e below s _ _ _ _ _ (T202.setTop (mkF m 163 #[.val (.int ua), .val (.int ub), .val (.int uc), .val (.int ud), .val (.int sel), .val (.int pv), .val (.int av), .val (.ref b3), .val (.ref b48), .val (.int kd), .val (.int xe)] [(.int (if (fls ua) = (fls pv) then (if (fls ub) = (fls av) then (1 : Int32) else 0) else 0))]))
              refine GoW.st (fun _ k' => XS.iload X202.here hx rfl (hb hby at_163) rfl k') ?_
              show GoW p e below s _ _ _ _ _ (T202.setTop (mkF m 165 #[.val (.int ua), .val (.int ub), .val (.int uc), .val (.int ud), .val (.int sel), .val (.int pv), .val (.int av), .val (.ref b3), .val (.ref b48), .val (.int kd), .val (.int xe)] [(.int xe), (.int (if (fls ua) = (fls pv) then (if (fls ub) = (fls av) then (1 : Int32) else 0) else 0))]))
              refine GoW.st (fun _ k' => XS.icmpNo X202.here hx rfl (hb hby at_165) rfl (XT.ii_ne_f r_xe.symm) k') ?_
              show GoW p e below s _ _ _ _ _ (T202.setTop (mkF m 168 #[.val (.int ua), .val (.int ub), .val (.int uc), .val (.int ud), .val (.int sel), .val (.int pv), .val (.int av), .val (.ref b3), .val (.ref b48), .val (.int kd), .val (.int xe)] []))
              refine GoW.st (fun _ k' => XS.aload X202.here hx rfl (hb hby at_168) rfl rfl k') ?_
              show GoW p e below s _ _ _ _ _ (T202.setTop (mkF m 170 #[.val (.int ua), .val (.int ub), .val (.int uc), .val (.int ud), .val (.int sel), .val (.int pv), .val (.int av), .val (.ref b3), .val (.ref b48), .val (.int kd), .val (.int xe)] [(.ref b48)]))
              refine GoW.st (fun _ k' => XS.aload X202.here hx rfl (hb hby at_170) rfl rfl k') ?_
              show GoW p e below s _ _ _ _ _ (T202.setTop (mkF m 172 #[.val (.int ua), .val (.int ub), .val (.int uc), .val (.int ud), .val (.int sel), .val (.int pv), .val (.int av), .val (.ref b3), .val (.ref b48), .val (.int kd), .val (.int xe)] [(.ref b3), (.ref b48)]))
              obtain ⟨cq203, kq203, q203a, q203b, q203c⟩ := isOf hZ129 eq202 f145
              obtain ⟨_, _, ⟨T203, L203, k203, n203⟩, -, X203, ⟨Lc203, hQ203, l203, y203, z203⟩, st203⟩ := X202.virtualBack hx (y := (⟨"com/example/indenture/indenture/model/ProjectActivity", "equals", "(Ljava/lang/Object;)Z"⟩ : MethodName)) (z := (⟨"com/example/indenture/indenture/model/ProjectActivity", "equals", "(Ljava/lang/Object;)Z"⟩ : MethodName)) hown129 (mvT hZ129 (wdx hw 54 rfl)) (mvT hZ129 (wdx hw 55 rfl)) (notFace_of_selects (args := #[]) (mvT hZ129 (wdx hw 57 rfl))) (mvT hZ129 (wdx hw 57 rfl)) (mvT hZ129 (wdx hw 56 rfl)) (by decide) (backOf (W := 0) (rm10_d l Z a0 hw [] b48 b3 cs rr_69 rr_96 rr_7 rr_17 tb_69 kt_69 (fls pv) tb_96 kt_96 (fls av) tb_7 kt_7 (fls ua) tb_17 kt_17 (fls ub) T129.heap n0 O129 f133 f130 f131 f142 f143 f146 f148 f147 f150 f151 f153 f152 f155 f134 f136 f135 f137 f138 f140 f139 f141 S_cs q_cs (Ne.symm ne91) (Ne.symm ne124) (own_l3 _) (own_l3 _) (own_l3 _) (own_l3 _)) hZ129 (wdx hw 58 rfl) (wdx hw 2 rfl) (by decide) (by decide)) q203a q203c (g := (mkF m 172 #[.val (.int ua), .val (.int ub), .val (.int uc), .val (.int ud), .val (.int sel), .val (.int pv), .val (.int av), .val (.ref b3), .val (.ref b48), .val (.int kd), .val (.int xe)] [(.ref b3), (.ref b48)])) rfl (by rw [hml]; rfl) (Steps.refl _) (argsL := [(.ref b3)]) (rest := []) (lenOf pd__Ljava_lang_Object__Z rfl) rfl (by show 2 * 0 + _ ≤ _; exact Nat.le_of_eq rfl) (hb hby at_172) (fun _ _ => ⟨rfl, eq202, (by exact Nat.le_of_ble_eq_true rfl), (by exact Nat.le_of_ble_eq_true rfl)⟩)
              dsimp only [Pt.U, Pt.locs, Pt.cells, Pt.slots] at X203 l203 y203 z203 st203 hQ203
              subst l203 y203 z203
              obtain ⟨rfl, Nq203, eq203⟩ := hQ203
              have N203 := Fr.app N202 Nq203
              refine GoW.tr st203 ?_
              show GoW p e below s _ _ _ _ _ (T203.setTop (mkF m 175 #[.val (.int ua), .val (.int ub), .val (.int uc), .val (.int ud), .val (.int sel), .val (.int pv), .val (.int av), .val (.ref b3), .val (.ref b48), .val (.int kd), .val (.int xe)] [(.int (if (fls pv) = (fls ua) then (if (fls av) = (fls ub) then (1 : Int32) else 0) else 0))]))
              refine GoW.st (fun _ k' => XS.iload X203.here hx rfl (hb hby at_175) rfl k') ?_
              show GoW p e below s _ _ _ _ _ (T203.setTop (mkF m 177 #[.val (.int ua), .val (.int ub), .val (.int uc), .val (.int ud), .val (.int sel), .val (.int pv), .val (.int av), .val (.ref b3), .val (.ref b48), .val (.int kd), .val (.int xe)] [(.int xe), (.int (if (fls pv) = (fls ua) then (if (fls av) = (fls ub) then (1 : Int32) else 0) else 0))]))
              refine GoW.st (fun _ k' => XS.icmpNo X203.here hx rfl (hb hby at_177) rfl (XT.ii_ne_f ((own_sy _ _ _ _).trans r_xe.symm)) k') ?_
              show GoW p e below s _ _ _ _ _ (T203.setTop (mkF m 180 #[.val (.int ua), .val (.int ub), .val (.int uc), .val (.int ud), .val (.int sel), .val (.int pv), .val (.int av), .val (.ref b3), .val (.ref b48), .val (.int kd), .val (.int xe)] []))
              refine GoW.st (fun _ k' => XS.iconst X203.here hx rfl (hb hby at_180) k') ?_
              show GoW p e below s _ _ _ _ _ (T203.setTop (mkF m 181 #[.val (.int ua), .val (.int ub), .val (.int uc), .val (.int ud), .val (.int sel), .val (.int pv), .val (.int av), .val (.ref b3), .val (.ref b48), .val (.int kd), .val (.int xe)] [(.int (1 : Int32))]))
              refine GoW.st (fun _ k' => XS.goto X203.here hx rfl (pc0 := 181) (pc' := 185) rfl (hb hby at_181) (by decide) (by decide) k') ?_
              show GoW p e below s _ _ _ _ _ (T203.setTop (mkF m 185 #[.val (.int ua), .val (.int ub), .val (.int uc), .val (.int ud), .val (.int sel), .val (.int pv), .val (.int av), .val (.ref b3), .val (.ref b48), .val (.int kd), .val (.int xe)] [(.int (1 : Int32))]))
              refine GoW.retB X203 hx hlk hS129 (by rw [eq203]; exact (Nat.le_refl _)) hZ129 hEL CH129 (t := .boolean) Bd.returns (by simp) (hb hby at_185) (by decide) (by decide) eq203 ?_
              exact ⟨rfl, N203, trivial⟩
            refine GoW.st (fun _ k' => XS.iloadN X129.here hx rfl (hb hby at_131) rfl k') ?_
            show GoW p e below s _ _ _ _ _ (T129.setTop (mkF m 132 #[.val (.int ua), .val (.int ub), .val (.int uc), .val (.int ud), .val (.int sel), .val (.int pv), .val (.int av), .val (.ref b3), .val (.ref b48), .val (.int kd), .unset] [(.int ua)]))
            refine GoW.st (fun _ k' => XS.iload X129.here hx rfl (hb hby at_132) rfl k') ?_
            show GoW p e below s _ _ _ _ _ (T129.setTop (mkF m 134 #[.val (.int ua), .val (.int ub), .val (.int uc), .val (.int ud), .val (.int sel), .val (.int pv), .val (.int av), .val (.ref b3), .val (.ref b48), .val (.int kd), .unset] [(.int pv), (.int ua)]))
            obtain ⟨_, _, ⟨T204, L204, k204, n204⟩, -, X204, ⟨Lc204, hQ204, l204, y204, z204⟩, st204⟩ := Jvm.LawKit.callS X129 hx (y := (⟨"com/example/indenture/indenture/model/ProjectActivityEqualsPinLaw", "same", "(II)Z"⟩ : MethodName)) hown129 (mvT hZ129 (wdx hw 51 rfl)) (mvT hZ129 (wdx hw 52 rfl)) (mvT hZ129 (wdx hw 5 rfl)) (mvT hZ129 (wdx hw 53 rfl)) (by decide) (backOf (W := 0) (rm9 l Z a0 hw [] ua pv T129.heap n0 O129 ) hZ129 (wdx hw 53 rfl) (wdx hw 5 rfl) (by decide) (by decide)) (g := (mkF m 134 #[.val (.int ua), .val (.int ub), .val (.int uc), .val (.int ud), .val (.int sel), .val (.int pv), .val (.int av), .val (.ref b3), .val (.ref b48), .val (.int kd), .unset] [(.int pv), (.int ua)])) rfl (by rw [hml]; rfl) (argsL := [(.int ua), (.int pv)]) (rest := []) (lenOf pd__II_Z rfl) rfl (by show 2 * 0 + _ ≤ _; exact Nat.le_of_eq rfl) (hb hby at_134) (fun _ _ => ⟨rfl, rfl, (by exact Nat.le_of_ble_eq_true rfl), (by exact Nat.le_of_ble_eq_true rfl)⟩)
            dsimp only [Pt.U, Pt.locs, Pt.cells, Pt.slots] at X204 l204 y204 z204 st204 hQ204
            subst l204 y204 z204
            obtain ⟨rfl, Nq204, eq204⟩ := hQ204
            have N204 := Fr.app N129 Nq204
            refine GoW.st st204 ?_
            show GoW p e below s _ _ _ _ _ (T204.setTop (mkF m 137 #[.val (.int ua), .val (.int ub), .val (.int uc), .val (.int ud), .val (.int sel), .val (.int pv), .val (.int av), .val (.ref b3), .val (.ref b48), .val (.int kd), .unset] [(.int (if fls ua = fls pv then (1 : Int32) else 0))]))
            by_cases hc205 : (if fls ua = fls pv then (1 : Int32) else 0) = (0 : Int32)
            · refine GoW.st (fun _ k' => XS.ifYes X204.here hx rfl (pc0 := 137) (pc' := 153) rfl (hb hby at_137) rfl (XT.i0_eq_t hc205) (by decide) (by decide) k') ?_
              show GoW p e below s _ _ _ _ _ (T204.setTop (mkF m 153 #[.val (.int ua), .val (.int ub), .val (.int uc), .val (.int ud), .val (.int sel), .val (.int pv), .val (.int av), .val (.ref b3), .val (.ref b48), .val (.int kd), .unset] []))
              refine GoW.st (fun _ k' => XS.iconst X204.here hx rfl (hb hby at_153) k') ?_
              show GoW p e below s _ _ _ _ _ (T204.setTop (mkF m 154 #[.val (.int ua), .val (.int ub), .val (.int uc), .val (.int ud), .val (.int sel), .val (.int pv), .val (.int av), .val (.ref b3), .val (.ref b48), .val (.int kd), .unset] [(.int (0 : Int32))]))
              exact J201 T204 _ X204 eq204 N204 (0 : Int32) (by have q0 := hc156; have q1 := hc158; have q2 := hc199; have q3 := hc205; simp_all)
            · refine GoW.st (fun _ k' => XS.ifNo X204.here hx rfl (hb hby at_137) rfl (XT.i0_eq_f hc205) k') ?_
              show GoW p e below s _ _ _ _ _ (T204.setTop (mkF m 140 #[.val (.int ua), .val (.int ub), .val (.int uc), .val (.int ud), .val (.int sel), .val (.int pv), .val (.int av), .val (.ref b3), .val (.ref b48), .val (.int kd), .unset] []))
              refine GoW.st (fun _ k' => XS.iloadN X204.here hx rfl (hb hby at_140) rfl k') ?_
              show GoW p e below s _ _ _ _ _ (T204.setTop (mkF m 141 #[.val (.int ua), .val (.int ub), .val (.int uc), .val (.int ud), .val (.int sel), .val (.int pv), .val (.int av), .val (.ref b3), .val (.ref b48), .val (.int kd), .unset] [(.int ub)]))
              refine GoW.st (fun _ k' => XS.iload X204.here hx rfl (hb hby at_141) rfl k') ?_
              show GoW p e below s _ _ _ _ _ (T204.setTop (mkF m 143 #[.val (.int ua), .val (.int ub), .val (.int uc), .val (.int ud), .val (.int sel), .val (.int pv), .val (.int av), .val (.ref b3), .val (.ref b48), .val (.int kd), .unset] [(.int av), (.int ub)]))
              obtain ⟨_, _, ⟨T206, L206, k206, n206⟩, -, X206, ⟨Lc206, hQ206, l206, y206, z206⟩, st206⟩ := Jvm.LawKit.callS X204 hx (y := (⟨"com/example/indenture/indenture/model/ProjectActivityEqualsPinLaw", "same", "(II)Z"⟩ : MethodName)) hown129 (mvT hZ129 (wdx hw 51 rfl)) (mvT hZ129 (wdx hw 52 rfl)) (mvT hZ129 (wdx hw 5 rfl)) (mvT hZ129 (wdx hw 53 rfl)) (by decide) (backOf (W := 0) (rm9 l Z a0 hw [] ub av T129.heap n0 O129 ) hZ129 (wdx hw 53 rfl) (wdx hw 5 rfl) (by decide) (by decide)) (g := (mkF m 143 #[.val (.int ua), .val (.int ub), .val (.int uc), .val (.int ud), .val (.int sel), .val (.int pv), .val (.int av), .val (.ref b3), .val (.ref b48), .val (.int kd), .unset] [(.int av), (.int ub)])) rfl (by rw [hml]; rfl) (argsL := [(.int ub), (.int av)]) (rest := []) (lenOf pd__II_Z rfl) rfl (by show 2 * 0 + _ ≤ _; exact Nat.le_of_eq rfl) (hb hby at_143) (fun _ _ => ⟨rfl, eq204, (by exact Nat.le_of_ble_eq_true rfl), (by exact Nat.le_of_ble_eq_true rfl)⟩)
              dsimp only [Pt.U, Pt.locs, Pt.cells, Pt.slots] at X206 l206 y206 z206 st206 hQ206
              subst l206 y206 z206
              obtain ⟨rfl, Nq206, eq206⟩ := hQ206
              have N206 := Fr.app N204 Nq206
              refine GoW.st st206 ?_
              show GoW p e below s _ _ _ _ _ (T206.setTop (mkF m 146 #[.val (.int ua), .val (.int ub), .val (.int uc), .val (.int ud), .val (.int sel), .val (.int pv), .val (.int av), .val (.ref b3), .val (.ref b48), .val (.int kd), .unset] [(.int (if fls ub = fls av then (1 : Int32) else 0))]))
              by_cases hc207 : (if fls ub = fls av then (1 : Int32) else 0) = (0 : Int32)
              · refine GoW.st (fun _ k' => XS.ifYes X206.here hx rfl (pc0 := 146) (pc' := 153) rfl (hb hby at_146) rfl (XT.i0_eq_t hc207) (by decide) (by decide) k') ?_
                show GoW p e below s _ _ _ _ _ (T206.setTop (mkF m 153 #[.val (.int ua), .val (.int ub), .val (.int uc), .val (.int ud), .val (.int sel), .val (.int pv), .val (.int av), .val (.ref b3), .val (.ref b48), .val (.int kd), .unset] []))
                refine GoW.st (fun _ k' => XS.iconst X206.here hx rfl (hb hby at_153) k') ?_
                show GoW p e below s _ _ _ _ _ (T206.setTop (mkF m 154 #[.val (.int ua), .val (.int ub), .val (.int uc), .val (.int ud), .val (.int sel), .val (.int pv), .val (.int av), .val (.ref b3), .val (.ref b48), .val (.int kd), .unset] [(.int (0 : Int32))]))
                exact J201 T206 _ X206 eq206 N206 (0 : Int32) (by have q0 := hc156; have q1 := hc158; have q2 := hc199; have q3 := hc205; have q4 := hc207; simp_all)
              · refine GoW.st (fun _ k' => XS.ifNo X206.here hx rfl (hb hby at_146) rfl (XT.i0_eq_f hc207) k') ?_
                show GoW p e below s _ _ _ _ _ (T206.setTop (mkF m 149 #[.val (.int ua), .val (.int ub), .val (.int uc), .val (.int ud), .val (.int sel), .val (.int pv), .val (.int av), .val (.ref b3), .val (.ref b48), .val (.int kd), .unset] []))
                refine GoW.st (fun _ k' => XS.iconst X206.here hx rfl (hb hby at_149) k') ?_
                show GoW p e below s _ _ _ _ _ (T206.setTop (mkF m 150 #[.val (.int ua), .val (.int ub), .val (.int uc), .val (.int ud), .val (.int sel), .val (.int pv), .val (.int av), .val (.ref b3), .val (.ref b48), .val (.int kd), .unset] [(.int (1 : Int32))]))
                refine GoW.st (fun _ k' => XS.goto X206.here hx rfl (pc0 := 150) (pc' := 154) rfl (hb hby at_150) (by decide) (by decide) k') ?_
                show GoW p e below s _ _ _ _ _ (T206.setTop (mkF m 154 #[.val (.int ua), .val (.int ub), .val (.int uc), .val (.int ud), .val (.int sel), .val (.int pv), .val (.int av), .val (.ref b3), .val (.ref b48), .val (.int kd), .unset] [(.int (1 : Int32))]))
                exact J201 T206 _ X206 eq206 N206 (1 : Int32) (by have q0 := hc156; have q1 := hc158; have q2 := hc199; have q3 := hc205; have q4 := hc207; simp_all)
    refine GoW.st (fun _ k' => XS.iload X0.here hx rfl (hb hby at_14) rfl k') ?_
    show GoW p e below s _ _ _ _ _ (s₁.setTop (mkF m 16 #[.val (.int ua), .val (.int ub), .val (.int uc), .val (.int ud), .val (.int sel), .val (.int pv), .unset, .unset, .unset, .unset, .unset] [(.int sel)]))
    refine GoW.st (fun _ k' => XS.iconst X0.here hx rfl (hb hby at_16) k') ?_
    show GoW p e below s _ _ _ _ _ (s₁.setTop (mkF m 17 #[.val (.int ua), .val (.int ub), .val (.int uc), .val (.int ud), .val (.int sel), .val (.int pv), .unset, .unset, .unset, .unset, .unset] [(.int (2 : Int32)), (.int sel)]))
    refine GoW.st (fun _ k' => XS.iand X0.here hx rfl (hb hby at_17) rfl k') ?_
    show GoW p e below s _ _ _ _ _ (s₁.setTop (mkF m 18 #[.val (.int ua), .val (.int ub), .val (.int uc), .val (.int ud), .val (.int sel), .val (.int pv), .unset, .unset, .unset, .unset, .unset] [(.int (sel &&& (2 : Int32)))]))
    by_cases hc208 : (sel &&& (2 : Int32)) = (0 : Int32)
    · refine GoW.st (fun _ k' => XS.ifYes X0.here hx rfl (pc0 := 18) (pc' := 25) rfl (hb hby at_18) rfl (XT.i0_eq_t hc208) (by decide) (by decide) k') ?_
      show GoW p e below s _ _ _ _ _ (s₁.setTop (mkF m 25 #[.val (.int ua), .val (.int ub), .val (.int uc), .val (.int ud), .val (.int sel), .val (.int pv), .unset, .unset, .unset, .unset, .unset] []))
      refine GoW.st (fun _ k' => XS.iloadN X0.here hx rfl (hb hby at_25) rfl k') ?_
      show GoW p e below s _ _ _ _ _ (s₁.setTop (mkF m 26 #[.val (.int ua), .val (.int ub), .val (.int uc), .val (.int ud), .val (.int sel), .val (.int pv), .unset, .unset, .unset, .unset, .unset] [(.int ud)]))
      exact J2 ud
    · refine GoW.st (fun _ k' => XS.ifNo X0.here hx rfl (hb hby at_18) rfl (XT.i0_eq_f hc208) k') ?_
      show GoW p e below s _ _ _ _ _ (s₁.setTop (mkF m 21 #[.val (.int ua), .val (.int ub), .val (.int uc), .val (.int ud), .val (.int sel), .val (.int pv), .unset, .unset, .unset, .unset, .unset] []))
      refine GoW.st (fun _ k' => XS.iloadN X0.here hx rfl (hb hby at_21) rfl k') ?_
      show GoW p e below s _ _ _ _ _ (s₁.setTop (mkF m 22 #[.val (.int ua), .val (.int ub), .val (.int uc), .val (.int ud), .val (.int sel), .val (.int pv), .unset, .unset, .unset, .unset, .unset] [(.int ub)]))
      refine GoW.st (fun _ k' => XS.goto X0.here hx rfl (pc0 := 22) (pc' := 26) rfl (hb hby at_22) (by decide) (by decide) k') ?_
      show GoW p e below s _ _ _ _ _ (s₁.setTop (mkF m 26 #[.val (.int ua), .val (.int ub), .val (.int uc), .val (.int ud), .val (.int sel), .val (.int pv), .unset, .unset, .unset, .unset, .unset] [(.int ub)]))
      exact J2 ub
  refine GoW.st (fun _ k' => XS.iload X0.here hx rfl (hb hby at_0) rfl k') ?_
  show GoW p e below s _ _ _ _ _ (s₁.setTop (mkF m 2 #[.val (.int ua), .val (.int ub), .val (.int uc), .val (.int ud), .val (.int sel), .unset, .unset, .unset, .unset, .unset, .unset] [(.int sel)]))
  refine GoW.st (fun _ k' => XS.iconst X0.here hx rfl (hb hby at_2) k') ?_
  show GoW p e below s _ _ _ _ _ (s₁.setTop (mkF m 3 #[.val (.int ua), .val (.int ub), .val (.int uc), .val (.int ud), .val (.int sel), .unset, .unset, .unset, .unset, .unset, .unset] [(.int (1 : Int32)), (.int sel)]))
  refine GoW.st (fun _ k' => XS.iand X0.here hx rfl (hb hby at_3) rfl k') ?_
  show GoW p e below s _ _ _ _ _ (s₁.setTop (mkF m 4 #[.val (.int ua), .val (.int ub), .val (.int uc), .val (.int ud), .val (.int sel), .unset, .unset, .unset, .unset, .unset, .unset] [(.int (sel &&& (1 : Int32)))]))
  by_cases hc209 : (sel &&& (1 : Int32)) = (0 : Int32)
  · refine GoW.st (fun _ k' => XS.ifYes X0.here hx rfl (pc0 := 4) (pc' := 11) rfl (hb hby at_4) rfl (XT.i0_eq_t hc209) (by decide) (by decide) k') ?_
    show GoW p e below s _ _ _ _ _ (s₁.setTop (mkF m 11 #[.val (.int ua), .val (.int ub), .val (.int uc), .val (.int ud), .val (.int sel), .unset, .unset, .unset, .unset, .unset, .unset] []))
    refine GoW.st (fun _ k' => XS.iloadN X0.here hx rfl (hb hby at_11) rfl k') ?_
    show GoW p e below s _ _ _ _ _ (s₁.setTop (mkF m 12 #[.val (.int ua), .val (.int ub), .val (.int uc), .val (.int ud), .val (.int sel), .unset, .unset, .unset, .unset, .unset, .unset] [(.int uc)]))
    exact J1 uc
  · refine GoW.st (fun _ k' => XS.ifNo X0.here hx rfl (hb hby at_4) rfl (XT.i0_eq_f hc209) k') ?_
    show GoW p e below s _ _ _ _ _ (s₁.setTop (mkF m 7 #[.val (.int ua), .val (.int ub), .val (.int uc), .val (.int ud), .val (.int sel), .unset, .unset, .unset, .unset, .unset, .unset] []))
    refine GoW.st (fun _ k' => XS.iloadN X0.here hx rfl (hb hby at_7) rfl k') ?_
    show GoW p e below s _ _ _ _ _ (s₁.setTop (mkF m 8 #[.val (.int ua), .val (.int ub), .val (.int uc), .val (.int ud), .val (.int sel), .unset, .unset, .unset, .unset, .unset, .unset] [(.int ua)]))
    refine GoW.st (fun _ k' => XS.goto X0.here hx rfl (pc0 := 8) (pc' := 12) rfl (hb hby at_8) (by decide) (by decide) k') ?_
    show GoW p e below s _ _ _ _ _ (s₁.setTop (mkF m 12 #[.val (.int ua), .val (.int ub), .val (.int uc), .val (.int ud), .val (.int sel), .unset, .unset, .unset, .unset, .unset, .unset] [(.int ua)]))
    exact J1 ua
set_option maxRecDepth 65536 in
set_option maxHeartbeats 40000000 in
theorem comes_1 {Post : Tables → Env → Array Value → State → Outcome → State → Prop} (hpost : ∀ tb e args s v u, (limb_1_1.after args s (.returned v) u = true ∧ limb_1_2.after args s (.returned v) u = true ∧ True) → ReturnedEndW s (.returned v) u (Jvm.fieldLocs frame_1_writes args s ++ Jvm.arrayLocs frame_1_arrays args s ++ Jvm.staticLocs frame_1_statics s) 48 3264 → Post tb e args s (.returned v) u) :
    ArmFor flags0 classFile x code maxLocals ret World_1 tables_1 room_1 Calls_1 rest_1 Pre_1 Post := by
  intro l hfl _ _ p e ha hc hk s m args below hf hA hF happ hP
  obtain ⟨hcalls, hrest, hpre⟩ := hP
  obtain ⟨-, -, -, hnamed, -, -, -, hat⟩ := (Spec.applies_iff hf).mp happ
  obtain ⟨hg, hn⟩ := and_e (Cond.before_iff.mp (show (Jvm.Cond.and given_1 narrow_1).before args s = true from hpre))
  obtain ⟨hcnt, hg0⟩ := and_e hg
  obtain ⟨ha0, hg1⟩ := and_e hg0
  obtain ⟨ha1, hg2⟩ := and_e hg1
  obtain ⟨ha2, hg3⟩ := and_e hg2
  obtain ⟨ha3, hg4⟩ := and_e hg3
  have ha4 := hg4
  obtain ⟨w0, w1, w2, w3, w4, rfl⟩ : ∃ w0 w1 w2 w3 w4 : Value, args = #[w0, w1, w2, w3, w4] := by
    have hs : args.size = 5 := by simpa [Cond.value, given_1] using hcnt
    obtain ⟨L⟩ := args
    match L, hs with
    | [w0, w1, w2, w3, w4], _ => exact ⟨w0, w1, w2, w3, w4, rfl⟩
  have hw := fun d (hd : d ∈ tables_1) => atoms_spec (ws := Jvm.Cond.code x code maxLocals ret :: tables_1) hat d (List.mem_cons_of_mem _ hd)
  have hfit : Fit s := fun {y c} hc i hi => by
    obtain ⟨ha, rfl⟩ := Array.getElem?_eq_some_iff.mp hc
    have q := List.all_eq_true.mp ((Array.all_eq_true_iff_forall_mem.mp hF) _ (Array.getElem_mem ha)) i (List.mem_range.mpr hi)
    simpa [Array.getElem?_eq_getElem hi] using q
  obtain ⟨hsets, hown0⟩ := atoms_of _ (rest_1_c_eq ▸ (show rest_1_c.before _ s = true from hrest))
  have hr0 := Cond.before_iff.mp hown0
  obtain ⟨i0, ei0⟩ := is_v ha0
  obtain rfl : w0 = (.int i0) := Option.some.inj ei0
  obtain ⟨i1, ei1⟩ := is_v ha1
  obtain rfl : w1 = (.int i1) := Option.some.inj ei1
  obtain ⟨i2, ei2⟩ := is_v ha2
  obtain rfl : w2 = (.int i2) := Option.some.inj ei2
  obtain ⟨i3, ei3⟩ := is_v ha3
  obtain rfl : w3 = (.int i3) := Option.some.inj ei3
  obtain ⟨i4, ei4⟩ := is_v ha4
  obtain rfl : w4 = (.int i4) := Option.some.inj ei4
  obtain ⟨cs, S_cs, q_cs⟩ := own_cs (Cond.before_iff.mp (hsets _ (List.mem_of_getElem? (i := 1) rfl))) (Cond.before_iff.mp (hsets _ (List.mem_of_getElem? (i := 2) rfl))) (hsets _ (List.mem_of_getElem? (i := 0) rfl))
  have hCH0 : CHv s EL s.vm s.heap := CHv.start (own_EW hw) (fun q hq => hcalls.1 q ((by decide +kernel : ∀ z ∈ EL, z ∈ consts_1) q hq)) (hsets _ (List.mem_of_getElem? (i := 2) rfl)) (hw _ (List.mem_of_getElem? (i := 25) rfl)) (hw _ (List.mem_of_getElem? (i := 11) rfl))
  obtain ⟨n, o, h1, h2, h3, _, L, rfl, ⟨rfl, N, -⟩, -, hq⟩ := rm0 l s _ hw tables_1 i0 i1 i2 i3 i4 cs s.heap s.heap.size (Old.start s) S_cs q_cs p e ha hc hk s m _ below hf ((Spec.applies_iff_loose hf).mp happ).1 ⟨rfl, State.Warmed39.refl s, rfl, hCH0, all0⟩ trivial
  refine ⟨n, _, h1, h2, h3, hpost _ _ _ _ _ _ ⟨Cond.after_iff.mpr rfl, Cond.after_iff.mpr (eq_i res_at (Term.int_eval (1)) rfl), trivial⟩ ⟨hq.1, hq.2.1, hq.2.2.1, (hq.2.2.2.sift fun y hy => Or.inr (N y hy)).mono (by decide) (by decide)⟩⟩
theorem main_1_1 : Claimed_1_1 := comes_1 fun _ _ _ _ _ _ h hF => ⟨h.1, hF⟩
theorem main_1_2 : Claimed_1_2 := comes_1 fun _ _ _ _ _ _ h hF => ⟨h.2.1, hF⟩
end Jvm.Pilot.@@N@@
namespace Jvm.Pilot.@@N@@
open Jvm Jvm.ClassFile Sem Op Lib Jvm.Free Jvm.Stand Jvm.Pilot.@@N@@.Jvm.D
/-! MADE BY PROGRAM (witnessworld.py) out of the Statement's table words and the real class files: 22 classes; the members and pool entries that the words name. The judged class is class 1, her method 6. -/
namespace start1
open Jvm.ClassFile
def u (s : String) : CpInfo := .utf8 (stringToUtf16 s)
/-- a pool by its gaps: so many unusable entries, then the entry; so many at the end -/
def gap : Nat → List CpInfo → List CpInfo
  | 0, r => r
  | n + 1, r => .unusable :: gap n r
def poolList (es : List (Nat × CpInfo)) (last : Nat) : List CpInfo := es.foldr (fun e r => gap e.1 (e.2 :: r)) (gap last [])
def pool (es : List (Nat × CpInfo)) (last : Nat) : Array CpInfo := ⟨poolList es last⟩
def fileOf (pool : Array CpInfo) (this : Nat) (attrs : Array Attribute := #[]) (ms : Array MethodInfo := #[]) (fl : Nat := 33) (sup : Nat := 0) (ifs : Array Nat := #[]) (fds : Array FieldInfo := #[]) : ClassFile where
  minorVersion := 0
  majorVersion := 65
  constantPool := pool
  accessFlags := fl
  thisClass := this
  superClass := sup
  interfaces := ifs
  fields := fds
  methods := ms
  attributes := attrs
def plain (name : String) (sup : Option ClassId) : Class where
  name := name
  kind := .ordinary
  loader := none
  accessFlags := 33
  super := sup
  interfaces := #[]
  cf := none
  fields := #[]
  methods := #[]
  instanceTypes := #[]
  staticTypes := #[]
  resolved := #[]
  callSites := []
  init := .initialized
  statics := none
  mirror := none

def pool0 : Array CpInfo := pool [(5, u "<init>"), (0, u "()V"), (1, .class_ 10), (1, u "java/lang/Object")] 113

def k0c0 : Code := { maxStack := 0, maxLocals := 1, code := object_method_1_code, exceptionTable := #[], attributes := #[] }
def k0m0 : Method := { name := "<init>", desc := "()V", sig := { parameters := [], returnType := none }, accessFlags := 1, code := some k0c0 }
/-- java/lang/Object -/
def k0 : Class := { plain "java/lang/Object" none with
  accessFlags := 33
  interfaces := #[]
  cf := some (fileOf pool0 8 #[] #[{ accessFlags := 1, nameIndex := 5, descriptorIndex := 6, attributes := #[] }] 33 0 #[] #[])
  fields := #[]
  methods := #[k0m0]
  instanceTypes := #[]
  staticTypes := #[]
  resolved := Array.replicate 124 none
  statics := none }

def pool1 : Array CpInfo := pool [(2, .class_ 4), (1, u "java/lang/Object"), (0, u "<init>"), (0, u "()V"), (0, .methodref 8 9), (0, .class_ 10), (0, .nameAndType 11 12), (0, u "com/example/indenture/indenture/model/ProjectActivityEqualsPinLaw"), (0, u "len"), (0, u "(I)I"), (0, .class_ 14), (0, u "java/lang/String"), (0, .methodref 13 16), (0, .nameAndType 5 17), (0, u "([C)V"), (0, .methodref 8 19), (0, .nameAndType 20 21), (0, u "c0"), (0, u "(I)C"), (0, .methodref 8 23), (0, .nameAndType 24 21), (0, u "c1"), (0, .class_ 26), (0, u "com/example/indenture/indenture/model/ProjectActivity"), (0, .methodref 8 28), (0, .nameAndType 29 30), (0, u "str"), (0, u "(I)Ljava/lang/String;"), (0, .methodref 25 32), (0, .nameAndType 5 33), (0, u "(Ljava/lang/String;Ljava/lang/String;)V"), (0, .methodref 25 35), (0, .nameAndType 36 37), (0, u "equals"), (0, u "(Ljava/lang/Object;)Z"), (0, .methodref 8 39), (0, .nameAndType 40 41), (0, u "same"), (0, u "(II)Z"), (3, u "law"), (0, u "(IIIII)Z")] 2

def k1m0 : Method := { name := "<init>", desc := "()V", sig := { parameters := [], returnType := none }, accessFlags := 1, code := none }
def k1c1 : Code := { maxStack := 2, maxLocals := 1, code := method_2_code, exceptionTable := #[], attributes := #[] }
def k1m1 : Method := { name := "len", desc := "(I)I", sig := { parameters := [.int], returnType := some .int }, accessFlags := 10, code := some k1c1 }
def k1c2 : Code := { maxStack := 2, maxLocals := 1, code := method_3_code, exceptionTable := #[], attributes := #[] }
def k1m2 : Method := { name := "c0", desc := "(I)C", sig := { parameters := [.int], returnType := some .char }, accessFlags := 10, code := some k1c2 }
def k1c3 : Code := { maxStack := 2, maxLocals := 1, code := method_4_code, exceptionTable := #[], attributes := #[] }
def k1m3 : Method := { name := "c1", desc := "(I)C", sig := { parameters := [.int], returnType := some .char }, accessFlags := 10, code := some k1c3 }
def k1c4 : Code := { maxStack := 3, maxLocals := 3, code := method_5_code, exceptionTable := #[], attributes := #[] }
def k1m4 : Method := { name := "str", desc := "(I)Ljava/lang/String;", sig := { parameters := [.int], returnType := some (.object "java/lang/String") }, accessFlags := 10, code := some k1c4 }
def k1c5 : Code := { maxStack := 2, maxLocals := 3, code := method_6_code, exceptionTable := #[], attributes := #[] }
def k1m5 : Method := { name := "same", desc := "(II)Z", sig := { parameters := [.int, .int], returnType := some .boolean }, accessFlags := 10, code := some k1c5 }
def k1c6 : Code := { maxStack := 4, maxLocals := 11, code := code, exceptionTable := #[], attributes := #[] }
def k1m6 : Method := { name := "law", desc := "(IIIII)Z", sig := { parameters := [.int, .int, .int, .int, .int], returnType := some .boolean }, accessFlags := 9, code := some k1c6 }
/-- com/example/indenture/indenture/model/ProjectActivityEqualsPinLaw -/
def k1 : Class := { plain "com/example/indenture/indenture/model/ProjectActivityEqualsPinLaw" (some 0) with
  accessFlags := 49
  interfaces := #[]
  cf := some (fileOf pool1 8 #[] #[{ accessFlags := 1, nameIndex := 5, descriptorIndex := 6, attributes := #[] }, { accessFlags := 10, nameIndex := 11, descriptorIndex := 12, attributes := #[] }, { accessFlags := 10, nameIndex := 20, descriptorIndex := 21, attributes := #[] }, { accessFlags := 10, nameIndex := 24, descriptorIndex := 21, attributes := #[] }, { accessFlags := 10, nameIndex := 29, descriptorIndex := 30, attributes := #[] }, { accessFlags := 10, nameIndex := 40, descriptorIndex := 41, attributes := #[] }, { accessFlags := 9, nameIndex := 45, descriptorIndex := 46, attributes := #[] }] 49 2 #[] #[])
  fields := #[]
  methods := #[k1m0, k1m1, k1m2, k1m3, k1m4, k1m5, k1m6]
  instanceTypes := #[]
  staticTypes := #[]
  resolved := Array.replicate 49 none
  statics := none }

def pool2 : Array CpInfo := pool [(1, .methodref 2 3), (0, .class_ 4), (0, .nameAndType 5 6), (0, u "java/lang/Object"), (0, u "<init>"), (0, u "()V"), (0, .class_ 8), (0, u "java/lang/Record")] 13

def k2c0 : Code := { maxStack := 1, maxLocals := 1, code := jdk_30_method_1_code, exceptionTable := #[], attributes := #[] }
def k2m0 : Method := { name := "<init>", desc := "()V", sig := { parameters := [], returnType := none }, accessFlags := 4, code := some k2c0 }
/-- java/lang/Record -/
def k2 : Class := { plain "java/lang/Record" (some 0) with
  accessFlags := 1057
  interfaces := #[]
  cf := some (fileOf pool2 7 #[] #[{ accessFlags := 4, nameIndex := 5, descriptorIndex := 6, attributes := #[] }] 1057 2 #[] #[])
  fields := #[]
  methods := #[k2m0]
  instanceTypes := #[]
  staticTypes := #[]
  resolved := Array.replicate 22 none
  statics := none }

def pool3 : Array CpInfo := pool [(1, .methodref 2 3), (0, .class_ 4), (0, .nameAndType 5 6), (0, u "java/lang/Record"), (0, u "<init>"), (0, u "()V"), (0, .string 8), (0, u "project"), (0, .methodref 10 11), (0, .class_ 12), (0, .nameAndType 13 14), (0, u "java/util/Objects"), (0, u "requireNonNull"), (0, u "(Ljava/lang/Object;Ljava/lang/String;)Ljava/lang/Object;"), (0, .string 16), (0, u "activity"), (0, .fieldref 18 19), (0, .class_ 20), (0, .nameAndType 8 21), (0, u "com/example/indenture/indenture/model/ProjectActivity"), (0, u "Ljava/lang/String;"), (0, .fieldref 18 23), (0, .nameAndType 16 21), (0, .methodref 25 26), (0, .class_ 27), (0, .nameAndType 28 29), (0, u "java/lang/String"), (0, u "equals"), (0, u "(Ljava/lang/Object;)Z"), (18, u "(Ljava/lang/String;Ljava/lang/String;)V")] 34

def k3c0 : Code := { maxStack := 2, maxLocals := 3, code := prog_32_method_1_code, exceptionTable := #[], attributes := #[] }
def k3m0 : Method := { name := "<init>", desc := "(Ljava/lang/String;Ljava/lang/String;)V", sig := { parameters := [(.object "java/lang/String"), (.object "java/lang/String")], returnType := none }, accessFlags := 1, code := some k3c0 }
def k3c1 : Code := { maxStack := 2, maxLocals := 3, code := prog_32_method_2_code, exceptionTable := #[], attributes := #[] }
def k3m1 : Method := { name := "equals", desc := "(Ljava/lang/Object;)Z", sig := { parameters := [(.object "java/lang/Object")], returnType := some .boolean }, accessFlags := 1, code := some k3c1 }
/-- com/example/indenture/indenture/model/ProjectActivity -/
def k3 : Class := { plain "com/example/indenture/indenture/model/ProjectActivity" (some 2) with
  accessFlags := 49
  interfaces := #[]
  cf := some (fileOf pool3 18 #[] #[{ accessFlags := 1, nameIndex := 5, descriptorIndex := 48, attributes := #[] }, { accessFlags := 1, nameIndex := 28, descriptorIndex := 29, attributes := #[] }] 49 2 #[] #[{ accessFlags := 18, nameIndex := 8, descriptorIndex := 21, attributes := #[] }, { accessFlags := 18, nameIndex := 16, descriptorIndex := 21, attributes := #[] }])
  fields := #[{ name := "project", type := (.object "java/lang/String"), accessFlags := 18, slot := 0, constantValue := 0 }, { name := "activity", type := (.object "java/lang/String"), accessFlags := 18, slot := 1, constantValue := 0 }]
  methods := #[k3m0, k3m1]
  instanceTypes := #[(.object "java/lang/String"), (.object "java/lang/String")]
  staticTypes := #[]
  resolved := Array.replicate 83 none
  statics := none }

def pool4 : Array CpInfo := pool [(1, .class_ 2), (0, u "java/io/Serializable"), (0, .class_ 4), (0, u "java/lang/Object")] 2

/-- java/io/Serializable -/
def k4 : Class := { plain "java/io/Serializable" (some 0) with
  accessFlags := 1537
  interfaces := #[]
  cf := some (fileOf pool4 1 #[] #[] 1537 3 #[] #[])
  fields := #[]
  methods := #[]
  instanceTypes := #[]
  staticTypes := #[]
  resolved := Array.replicate 7 none
  statics := none }

def pool5 : Array CpInfo := pool [(1, .class_ 2), (0, u "java/lang/Comparable"), (0, .class_ 4), (0, u "java/lang/Object")] 7

/-- java/lang/Comparable -/
def k5 : Class := { plain "java/lang/Comparable" (some 0) with
  accessFlags := 1537
  interfaces := #[]
  cf := some (fileOf pool5 1 #[] #[] 1537 3 #[] #[])
  fields := #[]
  methods := #[]
  instanceTypes := #[]
  staticTypes := #[]
  resolved := Array.replicate 12 none
  statics := none }

def pool6 : Array CpInfo := pool [(2, .class_ 4), (1, u "java/lang/CharSequence"), (42, .class_ 48), (0, u "java/lang/CharSequence$1CodePointIterator"), (10, .class_ 60), (0, u "java/lang/CharSequence$1CharIterator"), (5, .class_ 67), (0, u "java/lang/Object")] 63

/-- java/lang/CharSequence -/
def k6 : Class := { plain "java/lang/CharSequence" (some 0) with
  accessFlags := 1537
  interfaces := #[]
  cf := some (fileOf pool6 2 #[.nestMembers #[47, 59]] #[] 1537 66 #[] #[])
  fields := #[]
  methods := #[]
  instanceTypes := #[]
  staticTypes := #[]
  resolved := Array.replicate 131 none
  statics := none }

def pool7 : Array CpInfo := pool [(1, .class_ 2), (0, u "java/lang/constant/Constable"), (0, .class_ 4), (0, u "java/lang/Object")] 6

/-- java/lang/constant/Constable -/
def k7 : Class := { plain "java/lang/constant/Constable" (some 0) with
  accessFlags := 1537
  interfaces := #[]
  cf := some (fileOf pool7 1 #[] #[] 1537 3 #[] #[])
  fields := #[]
  methods := #[]
  instanceTypes := #[]
  staticTypes := #[]
  resolved := Array.replicate 11 none
  statics := none }

def pool8 : Array CpInfo := pool [(1, .class_ 2), (0, u "java/lang/constant/ConstantDesc"), (0, .class_ 4), (0, u "java/lang/Object")] 32

/-- java/lang/constant/ConstantDesc -/
def k8 : Class := { plain "java/lang/constant/ConstantDesc" (some 0) with
  accessFlags := 1537
  interfaces := #[]
  cf := some (fileOf pool8 1 #[] #[] 1537 3 #[] #[])
  fields := #[]
  methods := #[]
  instanceTypes := #[]
  staticTypes := #[]
  resolved := Array.replicate 37 none
  statics := none }

def pool9 : Array CpInfo := pool [(1, .methodref 2 3), (0, .class_ 4), (0, .nameAndType 5 6), (0, u "java/lang/Object"), (0, u "<init>"), (0, u "()V"), (0, .string 8), (0, u ""), (0, .fieldref 10 11), (0, .class_ 12), (0, .nameAndType 13 14), (0, u "java/lang/String"), (0, u "value"), (0, u "[B"), (0, .fieldref 10 16), (0, .nameAndType 17 18), (0, u "coder"), (0, u "B"), (2, u "hash"), (0, u "I"), (2, u "hashIsZero"), (0, u "Z"), (0, .methodref 10 28), (0, .nameAndType 5 29), (0, u "([CIILjava/lang/Void;)V"), (8, .fieldref 10 39), (0, .nameAndType 40 26), (0, u "COMPACT_STRINGS"), (1, .class_ 44), (1, u "java/lang/StringUTF16"), (0, u "compress"), (1, .methodref 42 48), (0, .nameAndType 49 50), (0, u "coderFromArrayLen"), (0, u "([BI)B"), (56, .class_ 109), (1, u "java/lang/StringLatin1"), (67, .methodref 42 178), (0, .nameAndType 45 179), (0, u "([CII)[B"), (361, .methodref 107 542), (0, .nameAndType 543 544), (0, u "equals"), (0, u "([B[B)Z"), (28, u "(Ljava/lang/Object;)Z"), (1, .class_ 576), (0, u "java/lang/CharSequence"), (22, u "CASE_INSENSITIVE_ORDER"), (0, u "Ljava/util/Comparator;"), (409, u "([C)V"), (90, u "serialPersistentFields"), (0, u "[Ljava/io/ObjectStreamField;"), (0, .class_ 1104), (0, u "java/lang/String$CaseInsensitiveComparator"), (1, .class_ 1107), (0, u "java/io/Serializable"), (0, .class_ 1109), (0, u "java/lang/Comparable"), (0, .class_ 1111), (0, u "java/lang/constant/Constable"), (0, .class_ 1113), (0, u "java/lang/constant/ConstantDesc"), (2, u "serialVersionUID"), (0, u "J"), (3, u "REPL"), (0, u "C"), (2, u "LATIN1"), (1, u "UTF16")] 323

def k9m0 : Method := { name := "<init>", desc := "()V", sig := { parameters := [], returnType := none }, accessFlags := 1, code := none }
def k9c1 : Code := { maxStack := 5, maxLocals := 2, code := jdk_42_method_3_code, exceptionTable := #[], attributes := #[] }
def k9m1 : Method := { name := "<init>", desc := "([C)V", sig := { parameters := [(.array .char)], returnType := none }, accessFlags := 1, code := some k9c1 }
def k9c2 : Code := { maxStack := 2, maxLocals := 3, code := jdk_42_method_66_code, exceptionTable := #[], attributes := #[] }
def k9m2 : Method := { name := "equals", desc := "(Ljava/lang/Object;)Z", sig := { parameters := [(.object "java/lang/Object")], returnType := some .boolean }, accessFlags := 1, code := some k9c2 }
def k9c3 : Code := { maxStack := 4, maxLocals := 6, code := jdk_42_method_149_code, exceptionTable := #[], attributes := #[] }
def k9m3 : Method := { name := "<init>", desc := "([CIILjava/lang/Void;)V", sig := { parameters := [(.array .char), .int, .int, (.object "java/lang/Void")], returnType := none }, accessFlags := 2, code := some k9c3 }
/-- java/lang/String -/
def k9 : Class := { plain "java/lang/String" (some 0) with
  accessFlags := 49
  interfaces := #[4, 5, 6, 7, 8]
  cf := some (fileOf pool9 10 #[.nestMembers #[1103]] #[{ accessFlags := 1, nameIndex := 5, descriptorIndex := 6, attributes := #[] }, { accessFlags := 1, nameIndex := 5, descriptorIndex := 1010, attributes := #[] }, { accessFlags := 1, nameIndex := 543, descriptorIndex := 573, attributes := #[] }, { accessFlags := 2, nameIndex := 5, descriptorIndex := 29, attributes := #[] }] 49 2 #[1106, 1108, 575, 1110, 1112] #[{ accessFlags := 18, nameIndex := 13, descriptorIndex := 14, attributes := #[] }, { accessFlags := 18, nameIndex := 17, descriptorIndex := 18, attributes := #[] }, { accessFlags := 2, nameIndex := 21, descriptorIndex := 22, attributes := #[] }, { accessFlags := 2, nameIndex := 25, descriptorIndex := 26, attributes := #[] }, { accessFlags := 26, nameIndex := 1116, descriptorIndex := 1117, attributes := #[] }, { accessFlags := 24, nameIndex := 40, descriptorIndex := 26, attributes := #[] }, { accessFlags := 26, nameIndex := 1101, descriptorIndex := 1102, attributes := #[] }, { accessFlags := 26, nameIndex := 1121, descriptorIndex := 1122, attributes := #[] }, { accessFlags := 25, nameIndex := 599, descriptorIndex := 600, attributes := #[] }, { accessFlags := 24, nameIndex := 1125, descriptorIndex := 18, attributes := #[] }, { accessFlags := 24, nameIndex := 1127, descriptorIndex := 18, attributes := #[] }])
  fields := #[{ name := "value", type := (.array .byte), accessFlags := 18, slot := 0, constantValue := 0 }, { name := "coder", type := .byte, accessFlags := 18, slot := 1, constantValue := 0 }, { name := "hash", type := .int, accessFlags := 2, slot := 2, constantValue := 0 }, { name := "hashIsZero", type := .boolean, accessFlags := 2, slot := 3, constantValue := 0 }, { name := "serialVersionUID", type := .long, accessFlags := 26, slot := 0, constantValue := 0 }, { name := "COMPACT_STRINGS", type := .boolean, accessFlags := 24, slot := 1, constantValue := 0 }, { name := "serialPersistentFields", type := (.array (.object "java/io/ObjectStreamField")), accessFlags := 26, slot := 2, constantValue := 0 }, { name := "REPL", type := .char, accessFlags := 26, slot := 3, constantValue := 0 }, { name := "CASE_INSENSITIVE_ORDER", type := (.object "java/util/Comparator"), accessFlags := 25, slot := 4, constantValue := 0 }, { name := "LATIN1", type := .byte, accessFlags := 24, slot := 5, constantValue := 0 }, { name := "UTF16", type := .byte, accessFlags := 24, slot := 6, constantValue := 0 }]
  methods := #[k9m0, k9m1, k9m2, k9m3]
  instanceTypes := #[(.array .byte), .byte, .int, .boolean]
  staticTypes := #[.long, .boolean, (.array (.object "java/io/ObjectStreamField")), .char, (.object "java/util/Comparator"), .byte, .byte]
  resolved := Array.replicate 1451 none
  statics := some 0 }

def pool10 : Array CpInfo := pool [(2, .class_ 4), (1, u "java/lang/Object"), (0, u "<init>"), (0, u "()V"), (35, .class_ 44), (1, u "java/util/Objects"), (0, u "requireNonNull"), (48, u "(Ljava/lang/Object;Ljava/lang/String;)Ljava/lang/Object;")] 89

def k10m0 : Method := { name := "<init>", desc := "()V", sig := { parameters := [], returnType := none }, accessFlags := 2, code := none }
def k10c1 : Code := { maxStack := 3, maxLocals := 2, code := jdk_31_method_11_code, exceptionTable := #[], attributes := #[] }
def k10m1 : Method := { name := "requireNonNull", desc := "(Ljava/lang/Object;Ljava/lang/String;)Ljava/lang/Object;", sig := { parameters := [(.object "java/lang/Object"), (.object "java/lang/String")], returnType := some (.object "java/lang/Object") }, accessFlags := 9, code := some k10c1 }
/-- java/util/Objects -/
def k10 : Class := { plain "java/util/Objects" (some 0) with
  accessFlags := 49
  interfaces := #[]
  cf := some (fileOf pool10 42 #[] #[{ accessFlags := 2, nameIndex := 5, descriptorIndex := 6, attributes := #[] }, { accessFlags := 9, nameIndex := 45, descriptorIndex := 94, attributes := #[] }] 49 2 #[] #[])
  fields := #[]
  methods := #[k10m0, k10m1]
  instanceTypes := #[]
  staticTypes := #[]
  resolved := Array.replicate 184 none
  statics := none }

def pool11 : Array CpInfo := pool [(4, .class_ 6), (1, u "java/lang/Object"), (0, u "<init>"), (0, u "()V"), (5, .class_ 16), (1, u "java/lang/StringLatin1"), (104, u "$assertionsDisabled"), (0, u "Z"), (98, .class_ 223), (1, u "java/lang/StringLatin1$LinesSpliterator"), (57, u "equals"), (0, u "([B[B)Z"), (107, .class_ 391), (0, u "java/lang/StringLatin1$CharsSpliterator")] 3

def k11m0 : Method := { name := "<init>", desc := "()V", sig := { parameters := [], returnType := none }, accessFlags := 0, code := none }
def k11c1 : Code := { maxStack := 3, maxLocals := 3, code := jdk_43_method_13_code, exceptionTable := #[], attributes := #[] }
def k11m1 : Method := { name := "equals", desc := "([B[B)Z", sig := { parameters := [(.array .byte), (.array .byte)], returnType := some .boolean }, accessFlags := 9, code := some k11c1 }
/-- java/lang/StringLatin1 -/
def k11 : Class := { plain "java/lang/StringLatin1" (some 0) with
  accessFlags := 48
  interfaces := #[]
  cf := some (fileOf pool11 14 #[.nestMembers #[390, 221]] #[{ accessFlags := 0, nameIndex := 7, descriptorIndex := 8, attributes := #[] }, { accessFlags := 9, nameIndex := 281, descriptorIndex := 282, attributes := #[] }] 48 4 #[] #[{ accessFlags := 4120, nameIndex := 121, descriptorIndex := 122, attributes := #[] }])
  fields := #[{ name := "$assertionsDisabled", type := .boolean, accessFlags := 4120, slot := 0, constantValue := 0 }]
  methods := #[k11m0, k11m1]
  instanceTypes := #[]
  staticTypes := #[.boolean]
  resolved := Array.replicate 395 none
  statics := none }

def pool12 : Array CpInfo := pool [(6, .class_ 8), (1, u "java/lang/Object"), (0, u "<init>"), (0, u "()V"), (1, .class_ 14), (1, u "java/lang/StringUTF16"), (31, u "$assertionsDisabled"), (0, u "Z"), (13, u "HI_BYTE_SHIFT"), (0, u "I"), (2, u "LO_BYTE_SHIFT"), (49, .methodref 12 116), (0, .nameAndType 117 118), (0, u "compress"), (0, u "([CI[BII)I"), (3, u "([CII)[B"), (138, u "coderFromArrayLen"), (0, u "([BI)B"), (106, .class_ 371), (1, u "java/lang/StringUTF16$LinesSpliterator"), (58, u "MAX_LENGTH"), (196, .class_ 628), (0, u "java/lang/StringUTF16$CodePointsSpliterator"), (0, .class_ 630), (0, u "java/lang/StringUTF16$CharsSpliterator")] 4

def k12m0 : Method := { name := "<init>", desc := "()V", sig := { parameters := [], returnType := none }, accessFlags := 0, code := none }
def k12c1 : Code := { maxStack := 2, maxLocals := 2, code := jdk_52_method_15_code, exceptionTable := #[], attributes := #[] }
def k12m1 : Method := { name := "coderFromArrayLen", desc := "([BI)B", sig := { parameters := [(.array .byte), .int], returnType := some .byte }, accessFlags := 8, code := some k12c1 }
def k12c2 : Code := { maxStack := 5, maxLocals := 6, code := jdk_52_method_16_code, exceptionTable := #[], attributes := #[] }
def k12m2 : Method := { name := "compress", desc := "([CII)[B", sig := { parameters := [(.array .char), .int, .int], returnType := some (.array .byte) }, accessFlags := 9, code := some k12c2 }
def k12c3 : Code := { maxStack := 3, maxLocals := 7, code := jdk_52_method_21_code, exceptionTable := #[], attributes := #[] }
def k12m3 : Method := { name := "compress", desc := "([CI[BII)I", sig := { parameters := [(.array .char), .int, (.array .byte), .int, .int], returnType := some .int }, accessFlags := 9, code := some k12c3 }
/-- java/lang/StringUTF16 -/
def k12 : Class := { plain "java/lang/StringUTF16" (some 0) with
  accessFlags := 48
  interfaces := #[]
  cf := some (fileOf pool12 12 #[.nestMembers #[627, 629, 369]] #[{ accessFlags := 0, nameIndex := 9, descriptorIndex := 10, attributes := #[] }, { accessFlags := 8, nameIndex := 261, descriptorIndex := 262, attributes := #[] }, { accessFlags := 9, nameIndex := 117, descriptorIndex := 122, attributes := #[] }, { accessFlags := 9, nameIndex := 117, descriptorIndex := 118, attributes := #[] }] 48 6 #[] #[{ accessFlags := 26, nameIndex := 61, descriptorIndex := 62, attributes := #[] }, { accessFlags := 26, nameIndex := 65, descriptorIndex := 62, attributes := #[] }, { accessFlags := 24, nameIndex := 430, descriptorIndex := 62, attributes := #[] }, { accessFlags := 4120, nameIndex := 46, descriptorIndex := 47, attributes := #[] }])
  fields := #[{ name := "HI_BYTE_SHIFT", type := .int, accessFlags := 26, slot := 0, constantValue := 0 }, { name := "LO_BYTE_SHIFT", type := .int, accessFlags := 26, slot := 1, constantValue := 0 }, { name := "MAX_LENGTH", type := .int, accessFlags := 24, slot := 2, constantValue := 0 }, { name := "$assertionsDisabled", type := .boolean, accessFlags := 4120, slot := 3, constantValue := 0 }]
  methods := #[k12m0, k12m1, k12m2, k12m3]
  instanceTypes := #[]
  staticTypes := #[.int, .int, .int, .boolean]
  resolved := Array.replicate 635 none
  statics := none }

def pool13 : Array CpInfo := pool [(2, .class_ 4), (1, u "java/lang/Object"), (0, u "<init>"), (0, u "()V"), (17, .class_ 26), (1, u "jdk/internal/util/Preconditions"), (28, .class_ 56), (0, u "jdk/internal/util/Preconditions$4"), (57, .class_ 115), (0, u "jdk/internal/util/Preconditions$1"), (7, u "SIOOBE_FORMATTER"), (0, u "Ljava/util/function/BiFunction;"), (0, .class_ 126), (0, u "jdk/internal/util/Preconditions$2"), (3, u "AIOOBE_FORMATTER"), (0, .class_ 132), (0, u "jdk/internal/util/Preconditions$3"), (3, u "IOOBE_FORMATTER")] 57

def k13m0 : Method := { name := "<init>", desc := "()V", sig := { parameters := [], returnType := none }, accessFlags := 1, code := none }
/-- jdk/internal/util/Preconditions -/
def k13 : Class := { plain "jdk/internal/util/Preconditions" (some 0) with
  accessFlags := 33
  interfaces := #[]
  cf := some (fileOf pool13 24 #[.nestMembers #[55, 131, 125, 114]] #[{ accessFlags := 1, nameIndex := 5, descriptorIndex := 6, attributes := #[] }] 33 2 #[] #[{ accessFlags := 25, nameIndex := 123, descriptorIndex := 124, attributes := #[] }, { accessFlags := 25, nameIndex := 130, descriptorIndex := 124, attributes := #[] }, { accessFlags := 25, nameIndex := 136, descriptorIndex := 124, attributes := #[] }])
  fields := #[{ name := "SIOOBE_FORMATTER", type := (.object "java/util/function/BiFunction"), accessFlags := 25, slot := 0, constantValue := 0 }, { name := "AIOOBE_FORMATTER", type := (.object "java/util/function/BiFunction"), accessFlags := 25, slot := 1, constantValue := 0 }, { name := "IOOBE_FORMATTER", type := (.object "java/util/function/BiFunction"), accessFlags := 25, slot := 2, constantValue := 0 }]
  methods := #[k13m0]
  instanceTypes := #[]
  staticTypes := #[(.object "java/util/function/BiFunction"), (.object "java/util/function/BiFunction"), (.object "java/util/function/BiFunction")]
  resolved := Array.replicate 194 none
  statics := some 1 }

def pool14 : Array CpInfo := pool [(9, u "<init>"), (6, .class_ 18), (1, u "java/lang/Object"), (0, u "()V"), (1, .class_ 23), (1, u "jdk/internal/util/ArraysSupport"), (0, u "LOG2_ARRAY_LONG_INDEX_SCALE"), (0, u "I"), (2, u "U"), (0, u "Ljdk/internal/misc/Unsafe;"), (8, u "BIG_ENDIAN"), (0, u "Z"), (8, u "LOG2_BYTE_BIT_SIZE"), (4, u "LOG2_ARRAY_INT_INDEX_SCALE"), (54, u "JLA"), (0, u "Ljdk/internal/access/JavaLangAccess;"), (11, u "LOG2_ARRAY_BOOLEAN_INDEX_SCALE"), (9, u "LOG2_ARRAY_BYTE_INDEX_SCALE"), (5, u "LOG2_ARRAY_CHAR_INDEX_SCALE"), (5, u "LOG2_ARRAY_SHORT_INDEX_SCALE"), (18, u "LOG2_ARRAY_FLOAT_INDEX_SCALE"), (24, u "LOG2_ARRAY_DOUBLE_INDEX_SCALE"), (89, u "T_BOOLEAN"), (2, u "T_CHAR"), (1, u "T_FLOAT"), (1, u "T_DOUBLE"), (1, u "T_BYTE"), (1, u "T_SHORT"), (1, u "T_INT"), (1, u "T_LONG"), (1, u "SOFT_MAX_ARRAY_LENGTH")] 83

def k14m0 : Method := { name := "<init>", desc := "()V", sig := { parameters := [], returnType := none }, accessFlags := 2, code := none }
/-- jdk/internal/util/ArraysSupport -/
def k14 : Class := { plain "jdk/internal/util/ArraysSupport" (some 0) with
  accessFlags := 33
  interfaces := #[]
  cf := some (fileOf pool14 21 #[] #[{ accessFlags := 2, nameIndex := 9, descriptorIndex := 19, attributes := #[] }] 33 16 #[] #[{ accessFlags := 24, nameIndex := 28, descriptorIndex := 29, attributes := #[] }, { accessFlags := 26, nameIndex := 38, descriptorIndex := 39, attributes := #[] }, { accessFlags := 25, nameIndex := 121, descriptorIndex := 25, attributes := #[] }, { accessFlags := 25, nameIndex := 131, descriptorIndex := 25, attributes := #[] }, { accessFlags := 25, nameIndex := 137, descriptorIndex := 25, attributes := #[] }, { accessFlags := 25, nameIndex := 143, descriptorIndex := 25, attributes := #[] }, { accessFlags := 25, nameIndex := 53, descriptorIndex := 25, attributes := #[] }, { accessFlags := 25, nameIndex := 24, descriptorIndex := 25, attributes := #[] }, { accessFlags := 25, nameIndex := 162, descriptorIndex := 25, attributes := #[] }, { accessFlags := 25, nameIndex := 187, descriptorIndex := 25, attributes := #[] }, { accessFlags := 26, nameIndex := 48, descriptorIndex := 25, attributes := #[] }, { accessFlags := 25, nameIndex := 277, descriptorIndex := 25, attributes := #[] }, { accessFlags := 25, nameIndex := 280, descriptorIndex := 25, attributes := #[] }, { accessFlags := 25, nameIndex := 282, descriptorIndex := 25, attributes := #[] }, { accessFlags := 25, nameIndex := 284, descriptorIndex := 25, attributes := #[] }, { accessFlags := 25, nameIndex := 286, descriptorIndex := 25, attributes := #[] }, { accessFlags := 25, nameIndex := 288, descriptorIndex := 25, attributes := #[] }, { accessFlags := 25, nameIndex := 290, descriptorIndex := 25, attributes := #[] }, { accessFlags := 25, nameIndex := 292, descriptorIndex := 25, attributes := #[] }, { accessFlags := 26, nameIndex := 108, descriptorIndex := 109, attributes := #[] }, { accessFlags := 25, nameIndex := 294, descriptorIndex := 25, attributes := #[] }])
  fields := #[{ name := "U", type := (.object "jdk/internal/misc/Unsafe"), accessFlags := 24, slot := 0, constantValue := 0 }, { name := "BIG_ENDIAN", type := .boolean, accessFlags := 26, slot := 1, constantValue := 0 }, { name := "LOG2_ARRAY_BOOLEAN_INDEX_SCALE", type := .int, accessFlags := 25, slot := 2, constantValue := 0 }, { name := "LOG2_ARRAY_BYTE_INDEX_SCALE", type := .int, accessFlags := 25, slot := 3, constantValue := 0 }, { name := "LOG2_ARRAY_CHAR_INDEX_SCALE", type := .int, accessFlags := 25, slot := 4, constantValue := 0 }, { name := "LOG2_ARRAY_SHORT_INDEX_SCALE", type := .int, accessFlags := 25, slot := 5, constantValue := 0 }, { name := "LOG2_ARRAY_INT_INDEX_SCALE", type := .int, accessFlags := 25, slot := 6, constantValue := 0 }, { name := "LOG2_ARRAY_LONG_INDEX_SCALE", type := .int, accessFlags := 25, slot := 7, constantValue := 0 }, { name := "LOG2_ARRAY_FLOAT_INDEX_SCALE", type := .int, accessFlags := 25, slot := 8, constantValue := 0 }, { name := "LOG2_ARRAY_DOUBLE_INDEX_SCALE", type := .int, accessFlags := 25, slot := 9, constantValue := 0 }, { name := "LOG2_BYTE_BIT_SIZE", type := .int, accessFlags := 26, slot := 10, constantValue := 0 }, { name := "T_BOOLEAN", type := .int, accessFlags := 25, slot := 11, constantValue := 0 }, { name := "T_CHAR", type := .int, accessFlags := 25, slot := 12, constantValue := 0 }, { name := "T_FLOAT", type := .int, accessFlags := 25, slot := 13, constantValue := 0 }, { name := "T_DOUBLE", type := .int, accessFlags := 25, slot := 14, constantValue := 0 }, { name := "T_BYTE", type := .int, accessFlags := 25, slot := 15, constantValue := 0 }, { name := "T_SHORT", type := .int, accessFlags := 25, slot := 16, constantValue := 0 }, { name := "T_INT", type := .int, accessFlags := 25, slot := 17, constantValue := 0 }, { name := "T_LONG", type := .int, accessFlags := 25, slot := 18, constantValue := 0 }, { name := "JLA", type := (.object "jdk/internal/access/JavaLangAccess"), accessFlags := 26, slot := 19, constantValue := 0 }, { name := "SOFT_MAX_ARRAY_LENGTH", type := .int, accessFlags := 25, slot := 20, constantValue := 0 }]
  methods := #[k14m0]
  instanceTypes := #[]
  staticTypes := #[(.object "jdk/internal/misc/Unsafe"), .boolean, .int, .int, .int, .int, .int, .int, .int, .int, .int, .int, .int, .int, .int, .int, .int, .int, .int, (.object "jdk/internal/access/JavaLangAccess"), .int]
  resolved := Array.replicate 378 none
  statics := none }

def pool15 : Array CpInfo := pool [(1, u "java/lang/Cloneable"), (0, .class_ 1), (0, u "java/lang/Object"), (0, .class_ 3)] 3

/-- java/lang/Cloneable -/
def k15 : Class := { plain "java/lang/Cloneable" (some 0) with
  accessFlags := 1537
  interfaces := #[]
  cf := some (fileOf pool15 2 #[] #[] 1537 4 #[] #[])
  fields := #[]
  methods := #[]
  instanceTypes := #[]
  staticTypes := #[]
  resolved := Array.replicate 8 none
  statics := none }

/-- the primitive byte -/
def k16 : Class := { plain "byte" none with kind := .primitive 'B', accessFlags := 0x411 }
/-- [B -/
def k17 : Class := { plain "[B" (some 0) with kind := .array 16 .byte, interfaces := #[15, 4], accessFlags := 1041 }

/-- the primitive char -/
def k18 : Class := { plain "char" none with kind := .primitive 'C', accessFlags := 0x411 }
/-- [C -/
def k19 : Class := { plain "[C" (some 0) with kind := .array 18 .char, interfaces := #[15, 4], accessFlags := 1041 }

/-- the primitive int -/
def k20 : Class := { plain "int" none with kind := .primitive 'I', accessFlags := 0x411 }
/-- [I -/
def k21 : Class := { plain "[I" (some 0) with kind := .array 20 .int, interfaces := #[15, 4], accessFlags := 1041 }

def heap : Heap := #[{ cls := 9, slots := #[.long 0, .int 1, .null, .int 0, .null, .int 0, .int 0], vm := .statics 9 },
  { cls := 13, slots := #[.null, .null, .null], vm := .statics 13 }]
def classes : Array Class := #[k0, k1, k2, k3, k4, k5, k6, k7, k8, k9, k10, k11, k12, k13, k14, k15, k16, k17, k18, k19, k20, k21]
def interned : List (Array UInt16 × Addr) := []
def slotsUsed : Nat := 10
def theMethod : MethodId := ⟨1, 6⟩
def args0 : Array Value := #[.int 5, .int 5, .int 5, .int 5, .int 5]
def aboutOver (below : List Frame) : State where
  vm := { classes := classes, interned := interned.toArray }
  heap := heap
  slotsUsed := slotsUsed
  threads := #[{ frames := .invoking theMethod args0 :: below }]
def below0 : List Frame := [.native { method := ⟨0, 0⟩, args := #[] }]
def about1 : State := aboutOver below0
def p0 : Program := .bare "" "" ""
def e0 : Env := launch0.env 0 0 0
theorem w_frames : about1.frames = Frame.invoking theMethod args0 :: below0 := rfl
set_option maxRecDepth 65536 in
theorem w_args : argsFit about1.vm theMethod args0 = true := by decide +kernel
set_option maxRecDepth 65536 in
theorem w_heap : heapFits about1 = true := by decide +kernel
set_option maxRecDepth 65536 in
theorem w_runnable : about1.curStatus? = some .runnable := by decide +kernel
set_option maxRecDepth 65536 in
theorem w_alone : about1.alone = true := by decide +kernel
set_option maxRecDepth 65536 in
theorem w_named : about1.methodNamed? x = some theMethod := by decide +kernel
set_option maxRecDepth 65536 in
theorem w_hears : about1.hears theMethod below0 = true := by decide +kernel
set_option maxRecDepth 65536 in
theorem w_ripe : about1.ripe theMethod args0 below0 = true := by decide +kernel
theorem w_running : about1.status = .running := rfl
set_option maxRecDepth 65536 in
theorem w_room : about1.hasRoom e0.platform room_1 = true :=
  launch0.hasRoom_least _ room_1 (by decide +kernel) (by decide +kernel) (by decide +kernel) (by decide +kernel) (by decide +kernel) (by decide +kernel)
theorem allAtoms_all (ts : List Jvm.Cond) (a : Array Jvm.Value) (st : Jvm.State) : (allAtoms ts).before a st = ts.all (fun c => c.before a st) := by
  induction ts with
  | nil => rfl
  | cons c t ih =>
    show (Jvm.Cond.and c (allAtoms t)).before a st = _
    rw [Jvm.Cond.before_and, ih, List.all_cons]
def words1 : List Jvm.Cond := Jvm.Cond.code x code maxLocals ret :: tables_1
/-- a 'code' word, met by the world's own term for the bytes: nothing is compared byte by byte -/
theorem code_word {y : MethodName} {bytes : ByteArray} {mx : Nat} {rt : Option FieldType} {a : Array Value} {s : State} {m : MethodId} {meth : Method} {c : Code} (h1 : s.methodNamed? y = some m) (h2 : s.vm.method? m = some meth) (h3 : meth.code = some c) (h4 : c.code = bytes)
    (h5 : (c.maxLocals == mx && c.exceptionTable.isEmpty && decide (c.maxStack ≤ mostOperands) && decide (meth.sig.returnType = rt) && !meth.locks && decide (parseMethodDescriptor y.desc = some meth.sig)) = true) : (Jvm.Cond.code y bytes mx rt).before a s = true := by
  simp only [Bool.and_eq_true, beq_iff_eq, Bool.not_eq_true', decide_eq_true_eq] at h5
  obtain ⟨⟨⟨⟨⟨g1, g2⟩, g3⟩, g4⟩, g5⟩, g6⟩ := h5
  simp [Cond.before, Cond.holds, Cond.value, h1, h2, h3, h4, g1, g2, g3, g4, g5, g6]
def isCode : Jvm.Cond → Bool
  | .code _ _ _ _ => true
  | _ => false
theorem all_split {L : List Jvm.Cond} {P : Jvm.Cond → Bool} (h1 : L.all (fun c => isCode c || P c) = true) (h2 : ∀ c ∈ L.filter isCode, P c = true) : L.all P = true := by
  refine List.all_eq_true.mpr fun c hc => ?_
  have h := List.all_eq_true.mp h1 c hc
  rcases Bool.eq_false_or_eq_true (isCode c) with hi | hi
  · exact h2 c (List.mem_filter.mpr ⟨hc, hi⟩)
  · simpa [hi] using h
set_option maxRecDepth 65536 in
theorem w_c0 : (Jvm.Cond.code x code maxLocals ret).before args0 about1 = true := code_word (m := ⟨1, 6⟩) (meth := k1m6) (c := k1c6) (by decide +kernel) rfl rfl rfl (by decide +kernel)
set_option maxRecDepth 65536 in
theorem w_c1 : (Jvm.Cond.code ({ cls := "com/example/indenture/indenture/model/ProjectActivityEqualsPinLaw", name := "str", desc := "(I)Ljava/lang/String;" } : Jvm.MethodName) method_5_code (3 : Nat) (Option.some (Jvm.ClassFile.FieldType.object "java/lang/String"))).before args0 about1 = true := code_word (m := ⟨1, 4⟩) (meth := k1m4) (c := k1c4) (by decide +kernel) rfl rfl rfl (by decide +kernel)
set_option maxRecDepth 65536 in
theorem w_c2 : (Jvm.Cond.code ({ cls := "com/example/indenture/indenture/model/ProjectActivityEqualsPinLaw", name := "len", desc := "(I)I" } : Jvm.MethodName) method_2_code (1 : Nat) (Option.some Jvm.ClassFile.FieldType.int)).before args0 about1 = true := code_word (m := ⟨1, 1⟩) (meth := k1m1) (c := k1c1) (by decide +kernel) rfl rfl rfl (by decide +kernel)
set_option maxRecDepth 65536 in
theorem w_c3 : (Jvm.Cond.code ({ cls := "java/lang/String", name := "<init>", desc := "([C)V" } : Jvm.MethodName) jdk_42_method_3_code (2 : Nat) (Option.none : Option Jvm.ClassFile.FieldType)).before args0 about1 = true := code_word (m := ⟨9, 1⟩) (meth := k9m1) (c := k9c1) (by decide +kernel) rfl rfl rfl (by decide +kernel)
set_option maxRecDepth 65536 in
theorem w_c4 : (Jvm.Cond.code ({ cls := "java/lang/String", name := "<init>", desc := "([CIILjava/lang/Void;)V" } : Jvm.MethodName) jdk_42_method_149_code (6 : Nat) (Option.none : Option Jvm.ClassFile.FieldType)).before args0 about1 = true := code_word (m := ⟨9, 3⟩) (meth := k9m3) (c := k9c3) (by decide +kernel) rfl rfl rfl (by decide +kernel)
set_option maxRecDepth 65536 in
theorem w_c5 : (Jvm.Cond.code ({ cls := "java/lang/Object", name := "<init>", desc := "()V" } : Jvm.MethodName) object_method_1_code (1 : Nat) (Option.none : Option Jvm.ClassFile.FieldType)).before args0 about1 = true := code_word (m := ⟨0, 0⟩) (meth := k0m0) (c := k0c0) (by decide +kernel) rfl rfl rfl (by decide +kernel)
set_option maxRecDepth 65536 in
theorem w_c6 : (Jvm.Cond.code ({ cls := "com/example/indenture/indenture/model/ProjectActivity", name := "<init>", desc := "(Ljava/lang/String;Ljava/lang/String;)V" } : Jvm.MethodName) prog_32_method_1_code (3 : Nat) (Option.none : Option Jvm.ClassFile.FieldType)).before args0 about1 = true := code_word (m := ⟨3, 0⟩) (meth := k3m0) (c := k3c0) (by decide +kernel) rfl rfl rfl (by decide +kernel)
set_option maxRecDepth 65536 in
theorem w_c7 : (Jvm.Cond.code ({ cls := "java/lang/Record", name := "<init>", desc := "()V" } : Jvm.MethodName) jdk_30_method_1_code (1 : Nat) (Option.none : Option Jvm.ClassFile.FieldType)).before args0 about1 = true := code_word (m := ⟨2, 0⟩) (meth := k2m0) (c := k2c0) (by decide +kernel) rfl rfl rfl (by decide +kernel)
set_option maxRecDepth 65536 in
theorem w_c8 : (Jvm.Cond.code ({ cls := "java/util/Objects", name := "requireNonNull", desc := "(Ljava/lang/Object;Ljava/lang/String;)Ljava/lang/Object;" } : Jvm.MethodName) jdk_31_method_11_code (2 : Nat) (Option.some (Jvm.ClassFile.FieldType.object "java/lang/Object"))).before args0 about1 = true := code_word (m := ⟨10, 1⟩) (meth := k10m1) (c := k10c1) (by decide +kernel) rfl rfl rfl (by decide +kernel)
set_option maxRecDepth 65536 in
theorem w_c9 : (Jvm.Cond.code ({ cls := "com/example/indenture/indenture/model/ProjectActivityEqualsPinLaw", name := "same", desc := "(II)Z" } : Jvm.MethodName) method_6_code (3 : Nat) (Option.some Jvm.ClassFile.FieldType.boolean)).before args0 about1 = true := code_word (m := ⟨1, 5⟩) (meth := k1m5) (c := k1c5) (by decide +kernel) rfl rfl rfl (by decide +kernel)
set_option maxRecDepth 65536 in
theorem w_c10 : (Jvm.Cond.code ({ cls := "com/example/indenture/indenture/model/ProjectActivity", name := "equals", desc := "(Ljava/lang/Object;)Z" } : Jvm.MethodName) prog_32_method_2_code (3 : Nat) (Option.some Jvm.ClassFile.FieldType.boolean)).before args0 about1 = true := code_word (m := ⟨3, 1⟩) (meth := k3m1) (c := k3c1) (by decide +kernel) rfl rfl rfl (by decide +kernel)
set_option maxRecDepth 65536 in
theorem w_c11 : (Jvm.Cond.code ({ cls := "java/lang/String", name := "equals", desc := "(Ljava/lang/Object;)Z" } : Jvm.MethodName) jdk_42_method_66_code (3 : Nat) (Option.some Jvm.ClassFile.FieldType.boolean)).before args0 about1 = true := code_word (m := ⟨9, 2⟩) (meth := k9m2) (c := k9c2) (by decide +kernel) rfl rfl rfl (by decide +kernel)
set_option maxRecDepth 65536 in
theorem w_c12 : (Jvm.Cond.code ({ cls := "java/lang/StringLatin1", name := "equals", desc := "([B[B)Z" } : Jvm.MethodName) jdk_43_method_13_code (3 : Nat) (Option.some Jvm.ClassFile.FieldType.boolean)).before args0 about1 = true := code_word (m := ⟨11, 1⟩) (meth := k11m1) (c := k11c1) (by decide +kernel) rfl rfl rfl (by decide +kernel)
set_option maxRecDepth 65536 in
theorem w_c13 : (Jvm.Cond.code ({ cls := "com/example/indenture/indenture/model/ProjectActivityEqualsPinLaw", name := "c0", desc := "(I)C" } : Jvm.MethodName) method_3_code (1 : Nat) (Option.some Jvm.ClassFile.FieldType.char)).before args0 about1 = true := code_word (m := ⟨1, 2⟩) (meth := k1m2) (c := k1c2) (by decide +kernel) rfl rfl rfl (by decide +kernel)
set_option maxRecDepth 65536 in
theorem w_c14 : (Jvm.Cond.code ({ cls := "com/example/indenture/indenture/model/ProjectActivityEqualsPinLaw", name := "c1", desc := "(I)C" } : Jvm.MethodName) method_4_code (1 : Nat) (Option.some Jvm.ClassFile.FieldType.char)).before args0 about1 = true := code_word (m := ⟨1, 3⟩) (meth := k1m3) (c := k1c3) (by decide +kernel) rfl rfl rfl (by decide +kernel)
set_option maxRecDepth 65536 in
theorem w_c15 : (Jvm.Cond.code ({ cls := "java/lang/StringUTF16", name := "compress", desc := "([CII)[B" } : Jvm.MethodName) jdk_52_method_16_code (6 : Nat) (Option.some (Jvm.ClassFile.FieldType.array Jvm.ClassFile.FieldType.byte))).before args0 about1 = true := code_word (m := ⟨12, 2⟩) (meth := k12m2) (c := k12c2) (by decide +kernel) rfl rfl rfl (by decide +kernel)
set_option maxRecDepth 65536 in
theorem w_c16 : (Jvm.Cond.code ({ cls := "java/lang/StringUTF16", name := "compress", desc := "([CI[BII)I" } : Jvm.MethodName) jdk_52_method_21_code (7 : Nat) (Option.some Jvm.ClassFile.FieldType.int)).before args0 about1 = true := code_word (m := ⟨12, 3⟩) (meth := k12m3) (c := k12c3) (by decide +kernel) rfl rfl rfl (by decide +kernel)
set_option maxRecDepth 65536 in
theorem w_c17 : (Jvm.Cond.code ({ cls := "java/lang/StringUTF16", name := "coderFromArrayLen", desc := "([BI)B" } : Jvm.MethodName) jdk_52_method_15_code (2 : Nat) (Option.some Jvm.ClassFile.FieldType.byte)).before args0 about1 = true := code_word (m := ⟨12, 1⟩) (meth := k12m1) (c := k12c1) (by decide +kernel) rfl rfl rfl (by decide +kernel)
def codes1 : List Jvm.Cond := [Jvm.Cond.code x code maxLocals ret, Jvm.Cond.code ({ cls := "com/example/indenture/indenture/model/ProjectActivityEqualsPinLaw", name := "str", desc := "(I)Ljava/lang/String;" } : Jvm.MethodName) method_5_code (3 : Nat) (Option.some (Jvm.ClassFile.FieldType.object "java/lang/String")), Jvm.Cond.code ({ cls := "com/example/indenture/indenture/model/ProjectActivityEqualsPinLaw", name := "len", desc := "(I)I" } : Jvm.MethodName) method_2_code (1 : Nat) (Option.some Jvm.ClassFile.FieldType.int), Jvm.Cond.code ({ cls := "java/lang/String", name := "<init>", desc := "([C)V" } : Jvm.MethodName) jdk_42_method_3_code (2 : Nat) (Option.none : Option Jvm.ClassFile.FieldType), Jvm.Cond.code ({ cls := "java/lang/String", name := "<init>", desc := "([CIILjava/lang/Void;)V" } : Jvm.MethodName) jdk_42_method_149_code (6 : Nat) (Option.none : Option Jvm.ClassFile.FieldType), Jvm.Cond.code ({ cls := "java/lang/Object", name := "<init>", desc := "()V" } : Jvm.MethodName) object_method_1_code (1 : Nat) (Option.none : Option Jvm.ClassFile.FieldType), Jvm.Cond.code ({ cls := "com/example/indenture/indenture/model/ProjectActivity", name := "<init>", desc := "(Ljava/lang/String;Ljava/lang/String;)V" } : Jvm.MethodName) prog_32_method_1_code (3 : Nat) (Option.none : Option Jvm.ClassFile.FieldType), Jvm.Cond.code ({ cls := "java/lang/Record", name := "<init>", desc := "()V" } : Jvm.MethodName) jdk_30_method_1_code (1 : Nat) (Option.none : Option Jvm.ClassFile.FieldType), Jvm.Cond.code ({ cls := "java/util/Objects", name := "requireNonNull", desc := "(Ljava/lang/Object;Ljava/lang/String;)Ljava/lang/Object;" } : Jvm.MethodName) jdk_31_method_11_code (2 : Nat) (Option.some (Jvm.ClassFile.FieldType.object "java/lang/Object")), Jvm.Cond.code ({ cls := "com/example/indenture/indenture/model/ProjectActivityEqualsPinLaw", name := "same", desc := "(II)Z" } : Jvm.MethodName) method_6_code (3 : Nat) (Option.some Jvm.ClassFile.FieldType.boolean), Jvm.Cond.code ({ cls := "com/example/indenture/indenture/model/ProjectActivity", name := "equals", desc := "(Ljava/lang/Object;)Z" } : Jvm.MethodName) prog_32_method_2_code (3 : Nat) (Option.some Jvm.ClassFile.FieldType.boolean), Jvm.Cond.code ({ cls := "java/lang/String", name := "equals", desc := "(Ljava/lang/Object;)Z" } : Jvm.MethodName) jdk_42_method_66_code (3 : Nat) (Option.some Jvm.ClassFile.FieldType.boolean), Jvm.Cond.code ({ cls := "java/lang/StringLatin1", name := "equals", desc := "([B[B)Z" } : Jvm.MethodName) jdk_43_method_13_code (3 : Nat) (Option.some Jvm.ClassFile.FieldType.boolean), Jvm.Cond.code ({ cls := "com/example/indenture/indenture/model/ProjectActivityEqualsPinLaw", name := "c0", desc := "(I)C" } : Jvm.MethodName) method_3_code (1 : Nat) (Option.some Jvm.ClassFile.FieldType.char), Jvm.Cond.code ({ cls := "com/example/indenture/indenture/model/ProjectActivityEqualsPinLaw", name := "c1", desc := "(I)C" } : Jvm.MethodName) method_4_code (1 : Nat) (Option.some Jvm.ClassFile.FieldType.char), Jvm.Cond.code ({ cls := "java/lang/StringUTF16", name := "compress", desc := "([CII)[B" } : Jvm.MethodName) jdk_52_method_16_code (6 : Nat) (Option.some (Jvm.ClassFile.FieldType.array Jvm.ClassFile.FieldType.byte)), Jvm.Cond.code ({ cls := "java/lang/StringUTF16", name := "compress", desc := "([CI[BII)I" } : Jvm.MethodName) jdk_52_method_21_code (7 : Nat) (Option.some Jvm.ClassFile.FieldType.int), Jvm.Cond.code ({ cls := "java/lang/StringUTF16", name := "coderFromArrayLen", desc := "([BI)B" } : Jvm.MethodName) jdk_52_method_15_code (2 : Nat) (Option.some Jvm.ClassFile.FieldType.byte)]
set_option maxRecDepth 65536 in
theorem codes_eq : words1.filter isCode = codes1 := rfl
theorem w_codes : ∀ c ∈ words1.filter isCode, c.before args0 about1 = true := by
  rw [codes_eq]
  intro c hc
  simp only [codes1, List.mem_cons, List.not_mem_nil, or_false] at hc
  rcases hc with rfl | rfl | rfl | rfl | rfl | rfl | rfl | rfl | rfl | rfl | rfl | rfl | rfl | rfl | rfl | rfl | rfl | rfl
  · exact w_c0
  · exact w_c1
  · exact w_c2
  · exact w_c3
  · exact w_c4
  · exact w_c5
  · exact w_c6
  · exact w_c7
  · exact w_c8
  · exact w_c9
  · exact w_c10
  · exact w_c11
  · exact w_c12
  · exact w_c13
  · exact w_c14
  · exact w_c15
  · exact w_c16
  · exact w_c17
set_option maxRecDepth 65536 in
theorem w_t1 : (words1.take 24).all (fun c => isCode c || c.before args0 about1) = true := by decide +kernel
set_option maxRecDepth 65536 in
theorem w_t2 : ((words1.drop 24).take 24).all (fun c => isCode c || c.before args0 about1) = true := by decide +kernel
set_option maxRecDepth 65536 in
theorem w_t3 : (((words1.drop 24).drop 24).take 24).all (fun c => isCode c || c.before args0 about1) = true := by decide +kernel
set_option maxRecDepth 65536 in
theorem w_t4 : (((words1.drop 24).drop 24).drop 24).all (fun c => isCode c || c.before args0 about1) = true := by decide +kernel
theorem w_tables : (allAtoms (Jvm.Cond.code x code maxLocals ret :: tables_1)).before args0 about1 = true := by
  rw [allAtoms_all]
  show words1.all (fun c => c.before args0 about1) = true
  refine all_split ?_ w_codes
  rw [← List.take_append_drop 24 words1, List.all_append, w_t1, ← List.take_append_drop 24 (words1.drop 24), List.all_append, w_t2, ← List.take_append_drop 24 ((words1.drop 24).drop 24), List.all_append, w_t3, w_t4]
  rfl
set_option maxRecDepth 65536 in
theorem w_rest : rest_1_c.before args0 about1 = true := by decide +kernel
set_option maxRecDepth 65536 in
theorem w_case : (Jvm.Cond.and given_1 narrow_1).before args0 about1 = true := by decide +kernel
set_option maxRecDepth 65536 in
theorem w_consts : constsHeld consts_1 about1 := Jvm.Lit.constsHeldB_iff.mp (by decide +kernel)
theorem w_applies : (headSpec (Jvm.Cond.code x code maxLocals ret :: tables_1) room_1).applies x e0.platform about1 = true :=
  (Spec.applies_iff w_frames).mpr ⟨w_running, w_runnable, w_alone, w_named, w_hears, w_ripe, w_room, w_tables⟩
theorem atStart : AtStart classFile x code maxLocals ret World_1 tables_1 room_1 Calls_1 rest_1 Pre_1 launch0 p0 e0 about1 theMethod args0 below0 :=
  ⟨lists_1, trivial, launch0.admits_env _ _ _, launch0.least_env, fairChoices_fair.cas, fairChoices_fair.clock, w_frames, w_args, w_heap, w_applies, ⟨w_consts, trivial⟩, w_rest, w_case⟩
end start1
theorem witness_1 : WitnessClaimed_1 := ⟨start1.p0, start1.e0, start1.about1, start1.theMethod, start1.args0, start1.below0, start1.atStart⟩
end Jvm.Pilot.@@N@@
