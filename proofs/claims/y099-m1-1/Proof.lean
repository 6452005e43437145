import JvmDerived
import JvmDerived.Pilot.@@N@@Statement
import JvmDerived.Pilot.@@N@@Code
set_option linter.unusedVariables false
set_option linter.unusedSimpArgs false
@@BLOCK:HandJ.lean.txt@@
@@BLOCK:SymMore.lean.txt@@
namespace Jvm.Pilot.@@N@@
open Jvm Jvm.ClassFile Sem Op Lib Jvm.Free Jvm.Stand Jvm.LawKit Jvm.RoadKit Bundle Jvm.Pilot.@@N@@.Jvm.D
theorem lee {n m : Nat} (h : Nat.ble n m = true) : n ≤ m := Nat.le_of_ble_eq_true h
abbrev mn0 : MethodName := ⟨"com/example/spillway/spillway/assignment/HealthTally", "add", "(Lcom/example/spillway/spillway/assignment/Endpoint;)V"⟩
abbrev mn1 : MethodName := ⟨"com/example/spillway/spillway/assignment/HealthTally", "getHosts", "()I"⟩
abbrev mn2 : MethodName := ⟨"com/example/spillway/spillway/assignment/HealthTally", "getHealthy", "()I"⟩
abbrev mn3 : MethodName := ⟨"com/example/spillway/spillway/assignment/HealthTally", "getDegraded", "()I"⟩
abbrev mn4 : MethodName := ⟨"com/example/spillway/spillway/assignment/HealthTally", "getHostWeight", "()J"⟩
abbrev mn5 : MethodName := ⟨"com/example/spillway/spillway/assignment/HealthTally", "getHealthyWeight", "()J"⟩
abbrev mn6 : MethodName := ⟨"com/example/spillway/spillway/assignment/HealthTally", "getDegradedWeight", "()J"⟩
abbrev mn7 : MethodName := ⟨"com/example/spillway/spillway/assignment/Endpoint", "<init>", "(Lcom/example/spillway/spillway/assignment/EndpointAddress;Lcom/example/spillway/spillway/assignment/HealthStatus;J)V"⟩
abbrev mn8 : MethodName := ⟨"com/example/spillway/spillway/assignment/Endpoint", "getHealth", "()Lcom/example/spillway/spillway/assignment/HealthStatus;"⟩
abbrev mn9 : MethodName := ⟨"com/example/spillway/spillway/assignment/HealthTally", "<init>", "()V"⟩
abbrev mn10 : MethodName := ⟨"com/example/spillway/spillway/assignment/HealthTally", "count", "(Lcom/example/spillway/spillway/assignment/Endpoint;I)V"⟩
abbrev mn11 : MethodName := ⟨"com/example/spillway/spillway/assignment/Endpoint", "getLoadBalancingWeight", "()J"⟩
abbrev mn12 : MethodName := ⟨"com/example/spillway/spillway/assignment/HealthStatus", "isHealthy", "()Z"⟩
abbrev mn13 : MethodName := ⟨"com/example/spillway/spillway/assignment/HealthTallyAddPinLaw", "status", "(I)Lcom/example/spillway/spillway/assignment/HealthStatus;"⟩
abbrev mn14 : MethodName := ⟨"com/example/spillway/spillway/assignment/HealthStatus", "isDegraded", "()Z"⟩
abbrev mn15 : MethodName := ⟨"com/example/spillway/spillway/assignment/HealthTallyAddPinLaw", "weight", "(J)J"⟩
theorem wdx {a0 : Array Value} {Z : State} (hw : ∀ d ∈ tables_1, d.before a0 Z = true) (i : Nat) {d : Jvm.Cond} (h : tables_1[i]? = some d) : d.before a0 Z = true := hw d (List.mem_of_getElem? h)
/-! the walk in one predicate: from S the run comes to an end at which Q holds -/
def Go (p : Program) (e : Env) (below : List Frame) (s : State) (rc rs : Nat) (Q : Option Value → Heap → List Loc → Prop) (S : State) : Prop :=
  ∃ t o, Steps p.tables e below S t ∧ t.status = .running ∧ Ended t below o ∧ ∃ v L, o = .returned v ∧ Q v t.heap L ∧ FrameEnd s o t L rc rs
section Pre
variable {p : Program} {l : Launch} {e : Env} {R : Room} {s : State} {m : MethodId} {args : Array Value} {below : List Frame} {meth : Method} {c : Code} {T : State} {locs : List Loc} {cells slots rc rs : Nat} {Q : Option Value → Heap → List Loc → Prop} {S S' : State} {h : Heap} {Z : State} {n0 : Nat}
theorem Go.st (k : ∀ t, Steps p.tables e below S' t → Steps p.tables e below S t) (g : Go p e below s rc rs Q S') : Go p e below s rc rs Q S := by
  obtain ⟨t, o, h, r⟩ := g; exact ⟨t, o, k t h, r⟩
theorem Go.tr (k : Steps p.tables e below S S') (g : Go p e below s rc rs Q S') : Go p e below s rc rs Q S := by
  obtain ⟨t, o, h, r⟩ := g; exact ⟨t, o, k.trans h, r⟩
theorem Go.ret (X : Stand p l e R s m args below meth c T locs cells slots) (hx : p.tables.exec = Jvm.exec) (hlk : meth.locks = false) {pc : Nat} {Ls : Array Slot} {w : Value} {t : FieldType} {i : Instr} {rest : List Value} (hret : meth.sig.returnType = some t) (hn : narrow t w = w)
    (hi : (i = .ireturn ∧ (t = .int ∨ t = .boolean ∨ t = .byte ∨ t = .char ∨ t = .short) ∧ ∃ z, w = .int z) ∨ (i = .lreturn ∧ t = .long ∧ ∃ z, w = .long z) ∨ (i = .dreturn ∧ t = .double ∧ ∃ z, w = .double z) ∨ (i = .freturn ∧ t = .float ∧ ∃ z, w = .float z) ∨ (i = .areturn ∧ t.isReference = true ∧ w.isRef = true))
    (hd : decode c.code pc = .ok (i, 1)) (hc : cells ≤ rc) (hs : slots ≤ rs) (hh : T.heap = h) (hq : Q (some w) h locs) : Go p e below s rc rs Q (T.setTop (mkF m pc Ls (w :: rest))) := by
  obtain ⟨fs, hr, hrun, hended, hW, hsame⟩ := X.leave (v := some w) (fun h => by rw [hret] at h; cases h) hlk
  subst hh
  exact ⟨_, _, retOut X hx hret hn hi hd hr, hrun, hended, _, _, rfl, hq, ⟨_, rfl⟩, hW, hsame.mono hc hs⟩
theorem Go.retB (X : Stand p l e R s m args below meth c T locs cells slots) (hx : p.tables.exec = Jvm.exec) (hlk : meth.locks = false) {pc : Nat} {Ls : Array Slot} {z : Int32} {t : FieldType} {rest : List Value} (hret : meth.sig.returnType = some t) (ht : t = .boolean ∨ t = .byte ∨ t = .char ∨ t = .short)
    (hd : decode c.code pc = .ok (.ireturn, 1)) (hc : cells ≤ rc) (hs : slots ≤ rs) (hh : T.heap = h) (hq : Q (some (.int (nar t z))) h locs) : Go p e below s rc rs Q (T.setTop (mkF m pc Ls (.int z :: rest))) := by
  obtain ⟨fs, hr, hrun, hended, hW, hsame⟩ := X.leave (v := some (.int (nar t z))) (fun h => by rw [hret] at h; cases h) hlk
  subst hh
  exact ⟨_, _, retN X hx hret ht hd hr, hrun, hended, _, _, rfl, hq, ⟨_, rfl⟩, hW, hsame.mono hc hs⟩
theorem Go.retV (X : Stand p l e R s m args below meth c T locs cells slots) (hx : p.tables.exec = Jvm.exec) (hlk : meth.locks = false) {pc : Nat} {Ls : Array Slot} (hret : meth.sig.returnType = none)
    (hd : decode c.code pc = .ok (.return_, 1)) (hc : cells ≤ rc) (hs : slots ≤ rs) (hh : T.heap = h) (hq : Q none h locs) : Go p e below s rc rs Q (T.setTop (mkF m pc Ls [])) := by
  obtain ⟨fs, hr, hrun, hended, hW, hsame⟩ := X.leave (v := none) (fun _ => rfl) hlk
  subst hh
  exact ⟨_, _, X.returnOut hx hret hd hr, hrun, hended, _, _, rfl, hq, ⟨_, rfl⟩, hW, hsame.mono hc hs⟩
theorem own_le (O : Old Z n0 h) : n0 ≤ h.size := O.1 ▸ O.2.1
theorem own_nb (b : Bool) : nar .boolean (if b then 1 else 0) = if b then 1 else 0 := by cases b <;> rfl
end Pre
/-! the same where String constants may be loaded for the first time: the tables go on -/
def GoW (p : Program) (e : Env) (below : List Frame) (s : State) (rc rs : Nat) (Z : State) (EL : List (String × Nat)) (Q : Option Value → Heap → List Loc → Prop) (S : State) : Prop :=
  ∃ t o, Steps p.tables e below S t ∧ t.status = .running ∧ Ended t below o ∧ ∃ v L, o = .returned v ∧ Q v t.heap L ∧ CHr Z EL s.vm s.heap t.vm t.heap ∧ ReturnedEndW s o t L rc rs
section PreW
variable {p : Program} {l : Launch} {e : Env} {R : Room} {s : State} {m : MethodId} {args : Array Value} {below : List Frame} {meth : Method} {c : Code} {T : State} {locs : List Loc} {cells slots rc rs : Nat} {Q : Option Value → Heap → List Loc → Prop} {S S' : State} {h : Heap} {Z : State} {n0 k0 : Nat} {vm0 : Vm} {EL : List (String × Nat)} {a0 : Array Value}
theorem GoW.st (k : ∀ t, Steps p.tables e below S' t → Steps p.tables e below S t) (g : GoW p e below s rc rs Z EL Q S') : GoW p e below s rc rs Z EL Q S := by
  obtain ⟨t, o, h, r⟩ := g; exact ⟨t, o, k t h, r⟩
theorem GoW.tr (k : Steps p.tables e below S S') (g : GoW p e below s rc rs Z EL Q S') : GoW p e below s rc rs Z EL Q S := by
  obtain ⟨t, o, h, r⟩ := g; exact ⟨t, o, k.trans h, r⟩
theorem own_rm {o : Outcome} {t : State} {L : List Loc} {k n k' n' : Nat} (h : ReturnedEndW s o t L k n) (h1 : k ≤ k') (h2 : n ≤ n') : ReturnedEndW s o t L k' n' := ⟨h.1, h.2.1, h.2.2.1, h.2.2.2.mono h1 h2⟩
theorem GoW.ret (X : Stand p l e R (s.setVm vm0) m args below meth c T locs cells slots) (hx : p.tables.exec = Jvm.exec) (hlk : meth.locks = false) (hS : s.Since vm0 k0) (hk : k0 ≤ T.heap.size) (hZ : Z.Warmed39 vm0) (hEL : EW Z a0 EL) (hCH : CHr Z EL s.vm s.heap vm0 h) {pc : Nat} {Ls : Array Slot} {w : Value} {t : FieldType} {i : Instr} {rest : List Value} (hret : meth.sig.returnType = some t) (hn : narrow t w = w)
    (hi : (i = .ireturn ∧ (t = .int ∨ t = .boolean ∨ t = .byte ∨ t = .char ∨ t = .short) ∧ ∃ z, w = .int z) ∨ (i = .lreturn ∧ t = .long ∧ ∃ z, w = .long z) ∨ (i = .dreturn ∧ t = .double ∧ ∃ z, w = .double z) ∨ (i = .freturn ∧ t = .float ∧ ∃ z, w = .float z) ∨ (i = .areturn ∧ t.isReference = true ∧ w.isRef = true))
    (hd : decode c.code pc = .ok (i, 1)) (hc : cells ≤ rc) (hs : slots ≤ rs) (hh : T.heap = h) (hq : Q (some w) h locs) : GoW p e below s rc rs Z EL Q (T.setTop (mkF m pc Ls (w :: rest))) := by
  obtain ⟨fs, hr, hrun, hended, hW⟩ := X.leaveW hS hk (v := some w) (fun h => by rw [hret] at h; cases h) hlk
  subst hh
  have hCHt := hCH.trans (CHv.at X hZ hEL hCH.1)
  exact ⟨_, _, retOut X hx hret hn hi hd hr, hrun, hended, _, _, rfl, hq, hCHt, own_rm hW hc hs⟩
theorem GoW.retB (X : Stand p l e R (s.setVm vm0) m args below meth c T locs cells slots) (hx : p.tables.exec = Jvm.exec) (hlk : meth.locks = false) (hS : s.Since vm0 k0) (hk : k0 ≤ T.heap.size) (hZ : Z.Warmed39 vm0) (hEL : EW Z a0 EL) (hCH : CHr Z EL s.vm s.heap vm0 h) {pc : Nat} {Ls : Array Slot} {z : Int32} {t : FieldType} {rest : List Value} (hret : meth.sig.returnType = some t) (ht : t = .boolean ∨ t = .byte ∨ t = .char ∨ t = .short)
    (hd : decode c.code pc = .ok (.ireturn, 1)) (hc : cells ≤ rc) (hs : slots ≤ rs) (hh : T.heap = h) (hq : Q (some (.int (nar t z))) h locs) : GoW p e below s rc rs Z EL Q (T.setTop (mkF m pc Ls (.int z :: rest))) := by
  obtain ⟨fs, hr, hrun, hended, hW⟩ := X.leaveW hS hk (v := some (.int (nar t z))) (fun h => by rw [hret] at h; cases h) hlk
  subst hh
  have hCHt := hCH.trans (CHv.at X hZ hEL hCH.1)
  exact ⟨_, _, retN X hx hret ht hd hr, hrun, hended, _, _, rfl, hq, hCHt, own_rm hW hc hs⟩
theorem GoW.retV (X : Stand p l e R (s.setVm vm0) m args below meth c T locs cells slots) (hx : p.tables.exec = Jvm.exec) (hlk : meth.locks = false) (hS : s.Since vm0 k0) (hk : k0 ≤ T.heap.size) (hZ : Z.Warmed39 vm0) (hEL : EW Z a0 EL) (hCH : CHr Z EL s.vm s.heap vm0 h) {pc : Nat} {Ls : Array Slot} (hret : meth.sig.returnType = none)
    (hd : decode c.code pc = .ok (.return_, 1)) (hc : cells ≤ rc) (hs : slots ≤ rs) (hh : T.heap = h) (hq : Q none h locs) : GoW p e below s rc rs Z EL Q (T.setTop (mkF m pc Ls [])) := by
  obtain ⟨fs, hr, hrun, hended, hW⟩ := X.leaveW hS hk (v := none) (fun _ => rfl) hlk
  subst hh
  have hCHt := hCH.trans (CHv.at X hZ hEL hCH.1)
  exact ⟨_, _, X.returnOut hx hret hd hr, hrun, hended, _, _, rfl, hq, hCHt, own_rm hW hc hs⟩
theorem own_back {y : MethodName} {bytes : ByteArray} {maxL : Nat} {ret : Option FieldType} {rm : Room} {len W : Nat} {as' : Array Value} {Q : Option Value → Heap → List Loc → Prop} {xs : List Addr}
    (hM : MetFree l y (head1 [Jvm.Cond.code y bytes maxL ret] rm) (fun a U => a = as' ∧ Z.Warmed39 U.vm ∧ U.heap = h ∧ CHv Z EL U.vm h ∧ ∀ y ∈ xs, Safe Z EL U.vm h y) (fun _ _ _ _ _ => True) (fun _ U o U' => ∃ v L, o = .returned v ∧ Q v U'.heap L ∧ CHr Z EL U.vm U.heap U'.vm U'.heap ∧ ReturnedEndW U o U' L rm.cells rm.slots))
    (hZ : Z.Warmed39 vm0) (wc : (Jvm.Cond.code y bytes maxL ret).before a0 Z = true) (wz : (Jvm.Cond.initialized y.cls).before a0 Z = true) (hf : rm.frames + 1 ≤ R.frames) (hl : W + (maxL + 11) + rm.locals ≤ R.locals) (hEL : EW Z a0 EL) (H : CHv Z EL vm0 h) (hs : ∀ y ∈ xs, y < h.size ∧ Safe Z EL vm0 h y) :
    BackS l R p e below (s.setVm vm0) args y len W (fun A a => a = as' ∧ A.U.heap = h ∧ A.cells + rm.cells ≤ R.cells ∧ A.slots + rm.slots ≤ R.slots)
      (fun A _ v B => ∃ L, Q v B.U.heap L ∧ B.locs = A.locs ++ L ∧ B.cells = A.cells + rm.cells ∧ B.slots = A.slots + rm.slots ∧ CHr Z EL vm0 h B.U.vm B.U.heap) :=
  BackS.of_freeW (bytes := bytes) (maxL := maxL) (ret := ret) (E := fun _ first o t L k n => k = rm.cells ∧ n = rm.slots ∧ (∃ v, o = .returned v ∧ Q v t.heap L) ∧ CHr Z EL first.vm first.heap t.vm t.heap) hM hf hl
    (fun m meth c A a Y hp => have hU : Z.Warmed39 A.U.vm := wtrans (s := s.setVm vm0) hZ Y.warmed
      ⟨by show (Jvm.Cond.and _ .tt).before a A.U = true; rw [Cond.before_and, mv hU wc]; rfl, mv hU wc, mv hU wz, hp.2.2.1, hp.2.2.2⟩)
    (fun m meth c A a g mk Y hp => ⟨hp.1, wtrans (s := s.setVm vm0) hZ Y.warmed, hp.2.1, (CHv.at Y hZ hEL H).1, fun y hy => (CHv.at Y hZ hEL H).safe (hs y hy).1 (hs y hy).2⟩) (fun _ _ _ _ _ _ _ _ _ => trivial)
    (fun _ _ _ _ ⟨v, L, h1, h2, h3, h4⟩ => ⟨L, _, _, h4, rfl, rfl, ⟨v, h1, h2⟩, h3⟩)
    (fun m meth c A a g mk v t L k n Y hp _ _ ⟨e1, e2, ⟨v', e3, e4⟩, e5⟩ => by
      cases e3; subst e1 e2
      refine ⟨L, e4, rfl, rfl, rfl, (CHv.at Y hZ hEL H).trans ?_⟩
      rw [← hp.2.1]; exact e5)
end PreW
def EL : List (String × Nat) := []
theorem own_wS {a0 : Array Value} {Z : State} (hw : ∀ d ∈ tables_1, d.before a0 Z = true) : ∀ d ∈ Bundle.stringAtoms, d.before a0 Z = true := fun d hd => by
  simp only [Bundle.stringAtoms, List.mem_cons, List.not_mem_nil, or_false] at hd
  rcases hd with rfl | rfl | rfl | rfl | rfl | rfl | rfl
  · exact (wdx hw 33 rfl)
  · exact (wdx hw 34 rfl)
  · exact (wdx hw 35 rfl)
  · exact (wdx hw 36 rfl)
  · exact (wdx hw 37 rfl)
  · exact (wdx hw 38 rfl)
  · exact (wdx hw 39 rfl)
theorem own_EW {a0 : Array Value} {Z : State} (hw : ∀ d ∈ tables_1, d.before a0 Z = true) : EW Z a0 EL := EW.nil
theorem own_en {s : State} {args : Array Value} {C n d K : String} (hx : (Jvm.Cond.exactly (Term.static C n d) K).value args s none s [] = some true) (hi : (Jvm.Cond.initialized C).before args s = true) (hl : (Jvm.Cond.laysStatic C n d).before args s = true) :
    ∃ a, (Term.static C n d).eval args s none [] s = some (.ref a) ∧ Sta s s.heap C n d (.ref a) ∧ Exa s s.heap a K := by
  obtain ⟨a, e1⟩ := exa_v hx
  exact ⟨a, e1, Sta.start e1 (Or.inr ⟨hi, hl⟩), Exa.start e1 hx⟩
theorem own_ef {s : State} {args : Array Value} {t : Term} {a : Addr} {K f d : String} {z : Int32} (ev : t.eval args s none [] s = some (.ref a)) (h : (Jvm.Cond.eq (Term.field t K f d) (Term.int z)).value args s none s [] = some true) : Fld s s.heap a K f d (.int z) :=
  Fld.start ((fld_at ev).symm.trans (eqv_i rfl h))
theorem own_fne {s : State} {h : Heap} {a b : Addr} {K f d : String} {y z : Int32} (F : Fld s h a K f d (.int y)) (G : Fld s h b K f d (.int z)) (q : y ≠ z) : a ≠ b := F.ne G (fun e => q (Value.int.inj e))
theorem own_r6 (y : Int32) (h0 : 0 ≤ y.toInt) (h1 : y.toInt < 6) : y = 0 ∨ y = 1 ∨ y = 2 ∨ y = 3 ∨ y = 4 ∨ y = 5 := by
  have h : y.toInt = 0 ∨ y.toInt = 1 ∨ y.toInt = 2 ∨ y.toInt = 3 ∨ y.toInt = 4 ∨ y.toInt = 5 := by omega
  rcases h with h | h | h | h | h | h
  · exact Or.inl (Int32.toInt_inj.mp h)
  · exact Or.inr (Or.inl (Int32.toInt_inj.mp h))
  · exact Or.inr (Or.inr (Or.inl (Int32.toInt_inj.mp h)))
  · exact Or.inr (Or.inr (Or.inr (Or.inl (Int32.toInt_inj.mp h))))
  · exact Or.inr (Or.inr (Or.inr (Or.inr (Or.inl (Int32.toInt_inj.mp h)))))
  · exact Or.inr (Or.inr (Or.inr (Or.inr (Or.inr ((Int32.toInt_inj.mp h))))))
theorem own_c6 (u : Int32) : let y := (u &&& (2147483647 : Int32)) % (6 : Int32); y = 0 ∨ y = 1 ∨ y = 2 ∨ y = 3 ∨ y = 4 ∨ y = 5 := by
  intro y
  have hp : 0 ≤ (u &&& (2147483647 : Int32)).toInt := (c_andS u 2147483647).2.2 (by decide)
  have hm : y.toInt = (u &&& (2147483647 : Int32)).toInt % 6 := (c_irem (u &&& (2147483647 : Int32)) 6 6 rfl).1 hp
  exact own_r6 y (by omega) (by omega)
def fpick (u : Int32) (a_UNKNOWN a_HEALTHY a_UNHEALTHY a_DRAINING a_TIMEOUT a_DEGRADED : Addr) : Addr := if u = 0 then a_UNKNOWN else if u = 1 then a_HEALTHY else if u = 2 then a_UNHEALTHY else if u = 3 then a_DRAINING else if u = 4 then a_TIMEOUT else a_DEGRADED
def fmaxJ (a b : Int64) : Int64 := if a < b then b else a
theorem own_Ep {Z : State} {h : Heap} (u : Int32) (a_UNKNOWN a_HEALTHY a_UNHEALTHY a_DRAINING a_TIMEOUT a_DEGRADED : Addr) (E_UNKNOWN : Exa Z h a_UNKNOWN "com/example/spillway/spillway/assignment/HealthStatus") (E_HEALTHY : Exa Z h a_HEALTHY "com/example/spillway/spillway/assignment/HealthStatus") (E_UNHEALTHY : Exa Z h a_UNHEALTHY "com/example/spillway/spillway/assignment/HealthStatus") (E_DRAINING : Exa Z h a_DRAINING "com/example/spillway/spillway/assignment/HealthStatus") (E_TIMEOUT : Exa Z h a_TIMEOUT "com/example/spillway/spillway/assignment/HealthStatus") (E_DEGRADED : Exa Z h a_DEGRADED "com/example/spillway/spillway/assignment/HealthStatus") : Exa Z h (fpick u a_UNKNOWN a_HEALTHY a_UNHEALTHY a_DRAINING a_TIMEOUT a_DEGRADED) "com/example/spillway/spillway/assignment/HealthStatus" := by
  unfold fpick
  split <;> (try assumption) <;> split <;> (try assumption) <;> split <;> (try assumption) <;> split <;> (try assumption) <;> split <;> assumption
theorem own_kind (u : Int32) (hu : u = 0 ∨ u = 1 ∨ u = 2 ∨ u = 3 ∨ u = 4 ∨ u = 5) (a_UNKNOWN a_HEALTHY a_UNHEALTHY a_DRAINING a_TIMEOUT a_DEGRADED : Addr) (n_UNKNOWN_HEALTHY : a_UNKNOWN ≠ a_HEALTHY) (n_UNKNOWN_DEGRADED : a_UNKNOWN ≠ a_DEGRADED) (n_HEALTHY_UNKNOWN : a_HEALTHY ≠ a_UNKNOWN) (n_HEALTHY_DEGRADED : a_HEALTHY ≠ a_DEGRADED) (n_UNHEALTHY_HEALTHY : a_UNHEALTHY ≠ a_HEALTHY) (n_UNHEALTHY_UNKNOWN : a_UNHEALTHY ≠ a_UNKNOWN) (n_UNHEALTHY_DEGRADED : a_UNHEALTHY ≠ a_DEGRADED) (n_DRAINING_HEALTHY : a_DRAINING ≠ a_HEALTHY) (n_DRAINING_UNKNOWN : a_DRAINING ≠ a_UNKNOWN) (n_DRAINING_DEGRADED : a_DRAINING ≠ a_DEGRADED) (n_TIMEOUT_HEALTHY : a_TIMEOUT ≠ a_HEALTHY) (n_TIMEOUT_UNKNOWN : a_TIMEOUT ≠ a_UNKNOWN) (n_TIMEOUT_DEGRADED : a_TIMEOUT ≠ a_DEGRADED) (n_DEGRADED_HEALTHY : a_DEGRADED ≠ a_HEALTHY) (n_DEGRADED_UNKNOWN : a_DEGRADED ≠ a_UNKNOWN) :
    (¬ (1 : Int32) < u ∧ ¬ u = (5 : Int32) ∧ ¬ (if fpick u a_UNKNOWN a_HEALTHY a_UNHEALTHY a_DRAINING a_TIMEOUT a_DEGRADED = a_HEALTHY then (1 : Int32) else if fpick u a_UNKNOWN a_HEALTHY a_UNHEALTHY a_DRAINING a_TIMEOUT a_DEGRADED = a_UNKNOWN then 1 else 0) = (0 : Int32)) ∨ ((1 : Int32) < u ∧ u = (5 : Int32) ∧ (if fpick u a_UNKNOWN a_HEALTHY a_UNHEALTHY a_DRAINING a_TIMEOUT a_DEGRADED = a_HEALTHY then (1 : Int32) else if fpick u a_UNKNOWN a_HEALTHY a_UNHEALTHY a_DRAINING a_TIMEOUT a_DEGRADED = a_UNKNOWN then 1 else 0) = (0 : Int32) ∧ ¬ (if fpick u a_UNKNOWN a_HEALTHY a_UNHEALTHY a_DRAINING a_TIMEOUT a_DEGRADED = a_DEGRADED then (1 : Int32) else 0) = (0 : Int32)) ∨ ((1 : Int32) < u ∧ ¬ u = (5 : Int32) ∧ (if fpick u a_UNKNOWN a_HEALTHY a_UNHEALTHY a_DRAINING a_TIMEOUT a_DEGRADED = a_HEALTHY then (1 : Int32) else if fpick u a_UNKNOWN a_HEALTHY a_UNHEALTHY a_DRAINING a_TIMEOUT a_DEGRADED = a_UNKNOWN then 1 else 0) = (0 : Int32) ∧ (if fpick u a_UNKNOWN a_HEALTHY a_UNHEALTHY a_DRAINING a_TIMEOUT a_DEGRADED = a_DEGRADED then (1 : Int32) else 0) = (0 : Int32)) := by
  rcases hu with rfl | rfl | rfl | rfl | rfl | rfl
  · refine Or.inl ⟨by decide, by decide, ?_⟩
    show ¬ (if a_UNKNOWN = a_HEALTHY then (1 : Int32) else if a_UNKNOWN = a_UNKNOWN then 1 else 0) = 0
    simp
  · refine Or.inl ⟨by decide, by decide, ?_⟩
    show ¬ (if a_HEALTHY = a_HEALTHY then (1 : Int32) else if a_HEALTHY = a_UNKNOWN then 1 else 0) = 0
    simp
  · refine Or.inr (Or.inr ⟨by decide, by decide, ?_, ?_⟩)
    · exact (if_neg n_UNHEALTHY_HEALTHY).trans (if_neg n_UNHEALTHY_UNKNOWN)
    · exact if_neg n_UNHEALTHY_DEGRADED
  · refine Or.inr (Or.inr ⟨by decide, by decide, ?_, ?_⟩)
    · exact (if_neg n_DRAINING_HEALTHY).trans (if_neg n_DRAINING_UNKNOWN)
    · exact if_neg n_DRAINING_DEGRADED
  · refine Or.inr (Or.inr ⟨by decide, by decide, ?_, ?_⟩)
    · exact (if_neg n_TIMEOUT_HEALTHY).trans (if_neg n_TIMEOUT_UNKNOWN)
    · exact if_neg n_TIMEOUT_DEGRADED
  · refine Or.inr (Or.inl ⟨by decide, by decide, ?_, ?_⟩)
    · exact (if_neg n_DEGRADED_HEALTHY).trans (if_neg n_DEGRADED_UNKNOWN)
    · show ¬ (if a_DEGRADED = a_DEGRADED then (1 : Int32) else 0) = 0
      simp
theorem own_wa (v : Int64) : ¬ fmaxJ 1 (v &&& (4294967295 : Int64)) < (1 : Int64) := by
  unfold fmaxJ
  split
  · rename_i h; rw [Int64.lt_iff_toInt_lt] at *; omega
  · decide
theorem own_wb (v : Int64) : ¬ (4294967295 : Int64) < fmaxJ 1 (v &&& (4294967295 : Int64)) := by
  unfold fmaxJ
  split
  · have h := c_maskL v 4294967295 32 (by decide) (by decide)
    have e : (4294967295 : Int64).toInt = 4294967295 := rfl
    rw [Int64.lt_iff_toInt_lt]; omega
  · decide
theorem own_one (w : Int64) : (1 : Int32).toInt64 * w = w := by
  have : (1 : Int32).toInt64 = 1 := rfl
  rw [this, Int64.one_mul]
theorem d2_0 : decode jdk_29_method_66_code 0 = .ok (.lload_n 0, 1) := by decide +kernel
theorem d2_1 : decode jdk_29_method_66_code 1 = .ok (.lload_n 2, 1) := by decide +kernel
theorem d2_2 : decode jdk_29_method_66_code 2 = .ok (.lcmp, 1) := by decide +kernel
theorem d2_3 : decode jdk_29_method_66_code 3 = .ok (.ifCond .lt 7, 3) := by decide +kernel
theorem d2_10 : decode jdk_29_method_66_code 10 = .ok (.lload_n 2, 1) := by decide +kernel
theorem d2_11 : decode jdk_29_method_66_code 11 = .ok (.lreturn, 1) := by decide +kernel
theorem d2_6 : decode jdk_29_method_66_code 6 = .ok (.lload_n 0, 1) := by decide +kernel
theorem d2_7 : decode jdk_29_method_66_code 7 = .ok (.goto 4, 3) := by decide +kernel
theorem ef_rm2 (m : MethodId) (wa : Int64) (wb : Int64) : entryFrame m #[(.long wa), (.long wb)] 4 = mkF m 0 #[.val (.long wa), .second, .val (.long wb), .second] [] := by first | (simp [entryFrame, mkF, argsToLocals, Value.category]; done) | rfl
def Q2 (Z : State) (wa : Int64) (wb : Int64) (h0 : Heap) (n0 : Nat) (v : Option Value) (h : Heap) (L : List Loc) : Prop := v = some (.long (fmaxJ wa wb)) ∧ Fr n0 L ∧ h = h0
set_option maxRecDepth 65536 in
set_option maxHeartbeats 40000000 in
theorem rm2 (l : Launch) (Z : State) (a0 : Array Value) (hw : ∀ d ∈ tables_1, d.before a0 Z = true) (ws : List Jvm.Cond) (wa : Int64) (wb : Int64) (h0 : Heap) (n0 : Nat) (O0 : Old Z n0 h0) :
    MetFree l (⟨"java/lang/Math", "max", "(JJ)J"⟩ : MethodName) (head1 (Jvm.Cond.code (⟨"java/lang/Math", "max", "(JJ)J"⟩ : MethodName) jdk_29_method_66_code 4 (some .long) :: ws) ({ frames := 0, cells := 0, slots := 0, locals := 0 } : Room)) (fun ay U => ay = #[(.long wa), (.long wb)] ∧ Z.Warmed39 U.vm ∧ U.heap = h0) (fun _ _ _ _ _ => True) (fun _ U o U' => ∃ v L, o = .returned v ∧ Q2 Z wa wb h0 n0 v U'.heap L ∧ FrameEnd U o U' L ({ frames := 0, cells := 0, slots := 0, locals := 0 } : Room).cells ({ frames := 0, cells := 0, slots := 0, locals := 0 } : Room).slots) := by
  refine MetFree.of_bodySF (Jvm.Free.JP.mathPlain rfl (by decide +kernel)) hisR ?_
  intro p e s m args below meth c s₁ Bd hml0 hP hK
  obtain ⟨rfl, hZ, hh⟩ := hP
  have hx := Bd.exec
  have hby := Bd.bytes
  have hlk : meth.locks = false := BodyLoose.notSynchronized Bd
  have hml : c.maxLocals = 4 := hml0
  have hown : s.vm.findClass "java/lang/Math" = some m.cls := findClass_of_methodNamed Bd.named
  have hnm := (name_of_methodNamed Bd.named Bd.method).1
  have X0 : Stand p l e ({ frames := 0, cells := 0, slots := 0, locals := 0 } : Room) s m #[(.long wa), (.long wb)] below meth c s₁ [] 0 0 := Stand.of_body Bd
  have e0 : s₁.heap = h0 := by rw [← hh, Bd.state]; rfl
  have N0 := Fr.nil n0
  suffices hgo : Go p e below s 0 0 (Q2 Z wa wb h0 n0) (s₁.setTop (mkF m 0 #[.val (.long wa), .second, .val (.long wb), .second] [])) by
    obtain ⟨t, o, h1, h2⟩ := hgo; exact ⟨t, o, castTop (ef_rm2 m wa wb) h1, h2⟩
  show Go p e below s _ _ _ (s₁.setTop (mkF m 0 #[.val (.long wa), .second, .val (.long wb), .second] []))
  refine Go.st (fun _ k' => XS.lloadN X0.here hx rfl (hb hby d2_0) rfl k') ?_
  refine Go.st (fun _ k' => XS.lloadN X0.here hx rfl (hb hby d2_1) rfl k') ?_
  show Go p e below s _ _ _ (s₁.setTop (mkF m 2 #[.val (.long wa), .second, .val (.long wb), .second] [(.long wb), (.long wa)]))
  refine Go.st (fun _ k' => XT.lcmp X0.here hx rfl (hb hby d2_2) rfl k') ?_
  show Go p e below s _ _ _ (s₁.setTop (mkF m 3 #[.val (.long wa), .second, .val (.long wb), .second] [(.int (XT.cmpL wa wb))]))
  by_cases hc1 : wa < wb
  · refine Go.st (fun _ k' => XS.ifYes X0.here hx rfl (pc0 := 3) (pc' := 10) rfl (hb hby d2_3) rfl (XT.ll_lt_t hc1) (by decide) (by decide) k') ?_
    show Go p e below s _ _ _ (s₁.setTop (mkF m 10 #[.val (.long wa), .second, .val (.long wb), .second] []))
    refine Go.st (fun _ k' => XS.lloadN X0.here hx rfl (hb hby d2_10) rfl k') ?_
    show Go p e below s _ _ _ (s₁.setTop (mkF m 11 #[.val (.long wa), .second, .val (.long wb), .second] [(.long wb)]))
    refine Go.ret X0 hx hlk (t := .long) Bd.returns rfl (Or.inr (Or.inl ⟨rfl, rfl, _, rfl⟩)) (hb hby d2_11) (by decide) (by decide) e0 ?_
    exact ⟨(by simp [fmaxJ, hc1]), N0, rfl⟩
  · refine Go.st (fun _ k' => XS.ifNo X0.here hx rfl (hb hby d2_3) rfl (XT.ll_lt_f hc1) k') ?_
    show Go p e below s _ _ _ (s₁.setTop (mkF m 6 #[.val (.long wa), .second, .val (.long wb), .second] []))
    refine Go.st (fun _ k' => XS.lloadN X0.here hx rfl (hb hby d2_6) rfl k') ?_
    show Go p e below s _ _ _ (s₁.setTop (mkF m 7 #[.val (.long wa), .second, .val (.long wb), .second] [(.long wa)]))
    refine Go.st (fun _ k' => XS.goto X0.here hx rfl (pc0 := 7) (pc' := 11) rfl (hb hby d2_7) (by decide) (by decide) k') ?_
    show Go p e below s _ _ _ (s₁.setTop (mkF m 11 #[.val (.long wa), .second, .val (.long wb), .second] [(.long wa)]))
    refine Go.ret X0 hx hlk (t := .long) Bd.returns rfl (Or.inr (Or.inl ⟨rfl, rfl, _, rfl⟩)) (hb hby d2_11) (by decide) (by decide) e0 ?_
    exact ⟨(by simp [fmaxJ, hc1]), N0, rfl⟩
theorem d1_0 : decode method_3_code 0 = .ok (.lconst 1, 1) := by decide +kernel
theorem d1_1 : decode method_3_code 1 = .ok (.lload_n 0, 1) := by decide +kernel
theorem d1_2 : decode method_3_code 2 = .ok (.ldc2_w 28, 3) := by decide +kernel
theorem d1_5 : decode method_3_code 5 = .ok (.land, 1) := by decide +kernel
theorem pd__JJ_J : parseMethodDescriptor "(JJ)J" = some ⟨[.long, .long], some .long⟩ := by decide +kernel
theorem d1_6 : decode method_3_code 6 = .ok (.invokestatic 30, 3) := by decide +kernel
theorem d1_9 : decode method_3_code 9 = .ok (.lreturn, 1) := by decide +kernel
theorem pn_com_example_spillway_spillway_assignment_HealthTallyAddPinLaw : plainName "com/example/spillway/spillway/assignment/HealthTallyAddPinLaw" = true := by first | (simp [plainName, overriddenIn]; done) | decide +kernel
theorem ef_rm1 (m : MethodId) (wa : Int64) : entryFrame m #[(.long wa)] 2 = mkF m 0 #[.val (.long wa), .second] [] := by first | (simp [entryFrame, mkF, argsToLocals, Value.category]; done) | rfl
def Q1 (Z : State) (wa : Int64) (h0 : Heap) (n0 : Nat) (v : Option Value) (h : Heap) (L : List Loc) : Prop := v = some (.long (fmaxJ 1 (wa &&& (4294967295 : Int64)))) ∧ Fr n0 L ∧ h = h0
set_option maxRecDepth 65536 in
set_option maxHeartbeats 40000000 in
theorem rm1 (l : Launch) (Z : State) (a0 : Array Value) (hw : ∀ d ∈ tables_1, d.before a0 Z = true) (ws : List Jvm.Cond) (wa : Int64) (h0 : Heap) (n0 : Nat) (O0 : Old Z n0 h0) :
    MetFree l mn15 (head1 (Jvm.Cond.code mn15 method_3_code 2 (some .long) :: ws) ({ frames := 1, cells := 0, slots := 0, locals := 15 } : Room)) (fun ay U => ay = #[(.long wa)] ∧ Z.Warmed39 U.vm ∧ U.heap = h0) (fun _ _ _ _ _ => True) (fun _ U o U' => ∃ v L, o = .returned v ∧ Q1 Z wa h0 n0 v U'.heap L ∧ FrameEnd U o U' L ({ frames := 1, cells := 0, slots := 0, locals := 15 } : Room).cells ({ frames := 1, cells := 0, slots := 0, locals := 15 } : Room).slots) := by
  refine MetFree.of_bodySF (plainFor_of_name pn_com_example_spillway_spillway_assignment_HealthTallyAddPinLaw) hisR ?_
  intro p e s m args below meth c s₁ Bd hml0 hP hK
  obtain ⟨rfl, hZ, hh⟩ := hP
  have hx := Bd.exec
  have hby := Bd.bytes
  have hlk : meth.locks = false := BodyLoose.notSynchronized Bd
  have hml : c.maxLocals = 2 := hml0
  have hown : s.vm.findClass "com/example/spillway/spillway/assignment/HealthTallyAddPinLaw" = some m.cls := findClass_of_methodNamed Bd.named
  have hnm := (name_of_methodNamed Bd.named Bd.method).1
  have X0 : Stand p l e ({ frames := 1, cells := 0, slots := 0, locals := 15 } : Room) s m #[(.long wa)] below meth c s₁ [] 0 0 := Stand.of_body Bd
  have e0 : s₁.heap = h0 := by rw [← hh, Bd.state]; rfl
  have N0 := Fr.nil n0
  suffices hgo : Go p e below s 0 0 (Q1 Z wa h0 n0) (s₁.setTop (mkF m 0 #[.val (.long wa), .second] [])) by
    obtain ⟨t, o, h1, h2⟩ := hgo; exact ⟨t, o, castTop (ef_rm1 m wa) h1, h2⟩
  show Go p e below s _ _ _ (s₁.setTop (mkF m 0 #[.val (.long wa), .second] []))
  refine Go.st (fun _ k' => XS.lconst X0.here hx rfl (hb hby d1_0) k') ?_
  refine Go.st (fun _ k' => XS.lloadN X0.here hx rfl (hb hby d1_1) rfl k') ?_
  show Go p e below s _ _ _ (s₁.setTop (mkF m 2 #[.val (.long wa), .second] [(.long wa), (.long 1)]))
  refine Go.st (fun _ k' => X0.ldc2J hx hown (mvT hZ (wdx hw 5 rfl)) rfl (hb hby d1_2) k') ?_
  show Go p e below s _ _ _ (s₁.setTop (mkF m 5 #[.val (.long wa), .second] [(.long 4294967295), (.long wa), (.long 1)]))
  refine Go.st (fun _ k' => XS.land X0.here hx rfl (hb hby d1_5) rfl k') ?_
  show Go p e below s _ _ _ (s₁.setTop (mkF m 6 #[.val (.long wa), .second] [(.long (wa &&& (4294967295 : Int64))), (.long 1)]))
  obtain ⟨_, _, ⟨T1, L1, k1, n1⟩, -, X1, ⟨Lc1, hQ1, l1, y1, z1⟩, st1⟩ := Jvm.LawKit.callS X0 hx (y := (⟨"java/lang/Math", "max", "(JJ)J"⟩ : MethodName)) hown (mvT hZ (wdx hw 6 rfl)) (mvT hZ (wdx hw 7 rfl)) (mvT hZ (wdx hw 8 rfl)) (mvT hZ (wdx hw 9 rfl)) (by decide) (backOf (W := 0) (rm2 l Z a0 hw [] (1 : Int64) (wa &&& (4294967295 : Int64)) h0 n0 O0 ) hZ (wdx hw 9 rfl) (wdx hw 8 rfl) (by decide) (by decide)) (g := (mkF m 6 #[.val (.long wa), .second] [(.long (wa &&& (4294967295 : Int64))), (.long 1)])) rfl (by rw [hml]; rfl) (argsL := [(.long 1), (.long (wa &&& (4294967295 : Int64)))]) (rest := []) (lenOf pd__JJ_J rfl) rfl (by show 2 * 0 + _ ≤ _; exact Nat.le_of_eq rfl) (hb hby d1_6) (fun _ _ => ⟨rfl, e0, (by exact lee rfl), (by exact lee rfl)⟩)
  dsimp only [Pt.U, Pt.locs, Pt.cells, Pt.slots] at X1 l1 y1 z1 st1 hQ1
  subst l1 y1 z1
  obtain ⟨rfl, Nq1, eq1⟩ := hQ1
  have N1 := Fr.app N0 Nq1
  refine Go.st st1 ?_
  show Go p e below s _ _ _ (T1.setTop (mkF m 9 #[.val (.long wa), .second] [(.long (fmaxJ (1 : Int64) (wa &&& (4294967295 : Int64))))]))
  refine Go.ret X1 hx hlk (t := .long) Bd.returns rfl (Or.inr (Or.inl ⟨rfl, rfl, _, rfl⟩)) (hb hby d1_9) (by decide) (by decide) eq1 ?_
  exact ⟨rfl, N1, rfl⟩
theorem d3_0 : decode method_2_code 0 = .ok (.iload_n 0, 1) := by decide +kernel
theorem d3_1 : decode method_2_code 1 = .ok (.ifCond .ne 7, 3) := by decide +kernel
theorem d3_4 : decode method_2_code 4 = .ok (.getstatic 7, 3) := by decide +kernel
theorem d3_7 : decode method_2_code 7 = .ok (.areturn, 1) := by decide +kernel
theorem d3_8 : decode method_2_code 8 = .ok (.iload_n 0, 1) := by decide +kernel
theorem d3_9 : decode method_2_code 9 = .ok (.iconst 1, 1) := by decide +kernel
theorem d3_10 : decode method_2_code 10 = .ok (.if_icmp .ne 7, 3) := by decide +kernel
theorem d3_13 : decode method_2_code 13 = .ok (.getstatic 13, 3) := by decide +kernel
theorem d3_16 : decode method_2_code 16 = .ok (.areturn, 1) := by decide +kernel
theorem d3_17 : decode method_2_code 17 = .ok (.iload_n 0, 1) := by decide +kernel
theorem d3_18 : decode method_2_code 18 = .ok (.iconst 2, 1) := by decide +kernel
theorem d3_19 : decode method_2_code 19 = .ok (.if_icmp .ne 7, 3) := by decide +kernel
theorem d3_22 : decode method_2_code 22 = .ok (.getstatic 16, 3) := by decide +kernel
theorem d3_25 : decode method_2_code 25 = .ok (.areturn, 1) := by decide +kernel
theorem d3_26 : decode method_2_code 26 = .ok (.iload_n 0, 1) := by decide +kernel
theorem d3_27 : decode method_2_code 27 = .ok (.iconst 3, 1) := by decide +kernel
theorem d3_28 : decode method_2_code 28 = .ok (.if_icmp .ne 7, 3) := by decide +kernel
theorem d3_31 : decode method_2_code 31 = .ok (.getstatic 19, 3) := by decide +kernel
theorem d3_34 : decode method_2_code 34 = .ok (.areturn, 1) := by decide +kernel
theorem d3_35 : decode method_2_code 35 = .ok (.iload_n 0, 1) := by decide +kernel
theorem d3_36 : decode method_2_code 36 = .ok (.iconst 4, 1) := by decide +kernel
theorem d3_37 : decode method_2_code 37 = .ok (.if_icmp .ne 7, 3) := by decide +kernel
theorem d3_40 : decode method_2_code 40 = .ok (.getstatic 22, 3) := by decide +kernel
theorem d3_43 : decode method_2_code 43 = .ok (.areturn, 1) := by decide +kernel
theorem d3_44 : decode method_2_code 44 = .ok (.getstatic 25, 3) := by decide +kernel
theorem d3_47 : decode method_2_code 47 = .ok (.areturn, 1) := by decide +kernel
theorem ef_rm3 (m : MethodId) (u : Int32) : entryFrame m #[(.int u)] 1 = mkF m 0 #[.val (.int u)] [] := by first | (simp [entryFrame, mkF, argsToLocals, Value.category]; done) | rfl
def Q3 (Z : State) (u : Int32) (a_UNKNOWN : Addr) (a_HEALTHY : Addr) (a_UNHEALTHY : Addr) (a_DRAINING : Addr) (a_TIMEOUT : Addr) (a_DEGRADED : Addr) (h0 : Heap) (n0 : Nat) (v : Option Value) (h : Heap) (L : List Loc) : Prop := v = some (.ref (fpick u a_UNKNOWN a_HEALTHY a_UNHEALTHY a_DRAINING a_TIMEOUT a_DEGRADED)) ∧ Fr n0 L ∧ h = h0
set_option maxRecDepth 65536 in
set_option maxHeartbeats 40000000 in
theorem rm3 (l : Launch) (Z : State) (a0 : Array Value) (hw : ∀ d ∈ tables_1, d.before a0 Z = true) (ws : List Jvm.Cond) (u : Int32) (a_UNKNOWN : Addr) (a_HEALTHY : Addr) (a_UNHEALTHY : Addr) (a_DRAINING : Addr) (a_TIMEOUT : Addr) (a_DEGRADED : Addr) (h0 : Heap) (n0 : Nat) (O0 : Old Z n0 h0) (S_UNKNOWN : Sta Z Z.heap "com/example/spillway/spillway/assignment/HealthStatus" "UNKNOWN" "Lcom/example/spillway/spillway/assignment/HealthStatus;" (.ref a_UNKNOWN)) (S_HEALTHY : Sta Z Z.heap "com/example/spillway/spillway/assignment/HealthStatus" "HEALTHY" "Lcom/example/spillway/spillway/assignment/HealthStatus;" (.ref a_HEALTHY)) (S_UNHEALTHY : Sta Z Z.heap "com/example/spillway/spillway/assignment/HealthStatus" "UNHEALTHY" "Lcom/example/spillway/spillway/assignment/HealthStatus;" (.ref a_UNHEALTHY)) (S_DRAINING : Sta Z Z.heap "com/example/spillway/spillway/assignment/HealthStatus" "DRAINING" "Lcom/example/spillway/spillway/assignment/HealthStatus;" (.ref a_DRAINING)) (S_TIMEOUT : Sta Z Z.heap "com/example/spillway/spillway/assignment/HealthStatus" "TIMEOUT" "Lcom/example/spillway/spillway/assignment/HealthStatus;" (.ref a_TIMEOUT)) (S_DEGRADED : Sta Z Z.heap "com/example/spillway/spillway/assignment/HealthStatus" "DEGRADED" "Lcom/example/spillway/spillway/assignment/HealthStatus;" (.ref a_DEGRADED)) :
    MetFree l mn13 (head1 (Jvm.Cond.code mn13 method_2_code 1 (some (.object "com/example/spillway/spillway/assignment/HealthStatus")) :: ws) ({ frames := 0, cells := 0, slots := 0, locals := 0 } : Room)) (fun ay U => ay = #[(.int u)] ∧ Z.Warmed39 U.vm ∧ U.heap = h0) (fun _ _ _ _ _ => True) (fun _ U o U' => ∃ v L, o = .returned v ∧ Q3 Z u a_UNKNOWN a_HEALTHY a_UNHEALTHY a_DRAINING a_TIMEOUT a_DEGRADED h0 n0 v U'.heap L ∧ FrameEnd U o U' L ({ frames := 0, cells := 0, slots := 0, locals := 0 } : Room).cells ({ frames := 0, cells := 0, slots := 0, locals := 0 } : Room).slots) := by
  refine MetFree.of_bodySF (plainFor_of_name pn_com_example_spillway_spillway_assignment_HealthTallyAddPinLaw) hisR ?_
  intro p e s m args below meth c s₁ Bd hml0 hP hK
  obtain ⟨rfl, hZ, hh⟩ := hP
  have hx := Bd.exec
  have hby := Bd.bytes
  have hlk : meth.locks = false := BodyLoose.notSynchronized Bd
  have hml : c.maxLocals = 1 := hml0
  have hown : s.vm.findClass "com/example/spillway/spillway/assignment/HealthTallyAddPinLaw" = some m.cls := findClass_of_methodNamed Bd.named
  have hnm := (name_of_methodNamed Bd.named Bd.method).1
  have X0 : Stand p l e ({ frames := 0, cells := 0, slots := 0, locals := 0 } : Room) s m #[(.int u)] below meth c s₁ [] 0 0 := Stand.of_body Bd
  have e0 : s₁.heap = h0 := by rw [← hh, Bd.state]; rfl
  have N0 := Fr.nil n0
  suffices hgo : Go p e below s 0 0 (Q3 Z u a_UNKNOWN a_HEALTHY a_UNHEALTHY a_DRAINING a_TIMEOUT a_DEGRADED h0 n0) (s₁.setTop (mkF m 0 #[.val (.int u)] [])) by
    obtain ⟨t, o, h1, h2⟩ := hgo; exact ⟨t, o, castTop (ef_rm3 m u) h1, h2⟩
  show Go p e below s _ _ _ (s₁.setTop (mkF m 0 #[.val (.int u)] []))
  refine Go.st (fun _ k' => XS.iloadN X0.here hx rfl (hb hby d3_0) rfl k') ?_
  show Go p e below s _ _ _ (s₁.setTop (mkF m 1 #[.val (.int u)] [(.int u)]))
  by_cases hc1 : u = (0 : Int32)
  · refine Go.st (fun _ k' => XS.ifNo X0.here hx rfl (hb hby d3_1) rfl (XT.i0_ne_f hc1) k') ?_
    show Go p e below s _ _ _ (s₁.setTop (mkF m 4 #[.val (.int u)] []))
    obtain ⟨T2, X2, e2, st2⟩ := getS2 X0 hx hZ hown (host := "") (Or.inl (wdx hw 16 rfl)) Via.refl e0 (S_UNKNOWN.ext O0.2) (g := (mkF m 4 #[.val (.int u)] [])) rfl (hb hby d3_4)
    refine Go.st st2 ?_
    show Go p e below s _ _ _ (T2.setTop (mkF m 7 #[.val (.int u)] [(.ref a_UNKNOWN)]))
    refine Go.ret X2 hx hlk (t := (.object "com/example/spillway/spillway/assignment/HealthStatus")) Bd.returns rfl (Or.inr (Or.inr (Or.inr (Or.inr ⟨rfl, rfl, rfl⟩)))) (hb hby d3_7) (by decide) (by decide) e2 ?_
    exact ⟨(by simp [fpick, hc1]), N0, rfl⟩
  · refine Go.st (fun _ k' => XS.ifYes X0.here hx rfl (pc0 := 1) (pc' := 8) rfl (hb hby d3_1) rfl (XT.i0_ne_t hc1) (by decide) (by decide) k') ?_
    show Go p e below s _ _ _ (s₁.setTop (mkF m 8 #[.val (.int u)] []))
    refine Go.st (fun _ k' => XS.iloadN X0.here hx rfl (hb hby d3_8) rfl k') ?_
    refine Go.st (fun _ k' => XS.iconst X0.here hx rfl (hb hby d3_9) k') ?_
    show Go p e below s _ _ _ (s₁.setTop (mkF m 10 #[.val (.int u)] [(.int 1), (.int u)]))
    by_cases hc3 : u = (1 : Int32)
    · refine Go.st (fun _ k' => XS.icmpNo X0.here hx rfl (hb hby d3_10) rfl (XT.ii_ne_f hc3) k') ?_
      show Go p e below s _ _ _ (s₁.setTop (mkF m 13 #[.val (.int u)] []))
      obtain ⟨T4, X4, e4, st4⟩ := getS2 X0 hx hZ hown (host := "") (Or.inl (wdx hw 50 rfl)) Via.refl e0 (S_HEALTHY.ext O0.2) (g := (mkF m 13 #[.val (.int u)] [])) rfl (hb hby d3_13)
      refine Go.st st4 ?_
      show Go p e below s _ _ _ (T4.setTop (mkF m 16 #[.val (.int u)] [(.ref a_HEALTHY)]))
      refine Go.ret X4 hx hlk (t := (.object "com/example/spillway/spillway/assignment/HealthStatus")) Bd.returns rfl (Or.inr (Or.inr (Or.inr (Or.inr ⟨rfl, rfl, rfl⟩)))) (hb hby d3_16) (by decide) (by decide) e4 ?_
      exact ⟨(by simp [fpick, hc1, hc3]), N0, rfl⟩
    · refine Go.st (fun _ k' => XS.icmpYes X0.here hx rfl (pc0 := 10) (pc' := 17) rfl (hb hby d3_10) rfl (XT.ii_ne_t hc3) (by decide) (by decide) k') ?_
      show Go p e below s _ _ _ (s₁.setTop (mkF m 17 #[.val (.int u)] []))
      refine Go.st (fun _ k' => XS.iloadN X0.here hx rfl (hb hby d3_17) rfl k') ?_
      refine Go.st (fun _ k' => XS.iconst X0.here hx rfl (hb hby d3_18) k') ?_
      show Go p e below s _ _ _ (s₁.setTop (mkF m 19 #[.val (.int u)] [(.int 2), (.int u)]))
      by_cases hc5 : u = (2 : Int32)
      · refine Go.st (fun _ k' => XS.icmpNo X0.here hx rfl (hb hby d3_19) rfl (XT.ii_ne_f hc5) k') ?_
        show Go p e below s _ _ _ (s₁.setTop (mkF m 22 #[.val (.int u)] []))
        obtain ⟨T6, X6, e6, st6⟩ := getS2 X0 hx hZ hown (host := "") (Or.inl (wdx hw 129 rfl)) Via.refl e0 (S_UNHEALTHY.ext O0.2) (g := (mkF m 22 #[.val (.int u)] [])) rfl (hb hby d3_22)
        refine Go.st st6 ?_
        show Go p e below s _ _ _ (T6.setTop (mkF m 25 #[.val (.int u)] [(.ref a_UNHEALTHY)]))
        refine Go.ret X6 hx hlk (t := (.object "com/example/spillway/spillway/assignment/HealthStatus")) Bd.returns rfl (Or.inr (Or.inr (Or.inr (Or.inr ⟨rfl, rfl, rfl⟩)))) (hb hby d3_25) (by decide) (by decide) e6 ?_
        exact ⟨(by simp [fpick, hc1, hc3, hc5]), N0, rfl⟩
      · refine Go.st (fun _ k' => XS.icmpYes X0.here hx rfl (pc0 := 19) (pc' := 26) rfl (hb hby d3_19) rfl (XT.ii_ne_t hc5) (by decide) (by decide) k') ?_
        show Go p e below s _ _ _ (s₁.setTop (mkF m 26 #[.val (.int u)] []))
        refine Go.st (fun _ k' => XS.iloadN X0.here hx rfl (hb hby d3_26) rfl k') ?_
        refine Go.st (fun _ k' => XS.iconst X0.here hx rfl (hb hby d3_27) k') ?_
        show Go p e below s _ _ _ (s₁.setTop (mkF m 28 #[.val (.int u)] [(.int 3), (.int u)]))
        by_cases hc7 : u = (3 : Int32)
        · refine Go.st (fun _ k' => XS.icmpNo X0.here hx rfl (hb hby d3_28) rfl (XT.ii_ne_f hc7) k') ?_
          show Go p e below s _ _ _ (s₁.setTop (mkF m 31 #[.val (.int u)] []))
          obtain ⟨T8, X8, e8, st8⟩ := getS2 X0 hx hZ hown (host := "") (Or.inl (wdx hw 139 rfl)) Via.refl e0 (S_DRAINING.ext O0.2) (g := (mkF m 31 #[.val (.int u)] [])) rfl (hb hby d3_31)
          refine Go.st st8 ?_
          show Go p e below s _ _ _ (T8.setTop (mkF m 34 #[.val (.int u)] [(.ref a_DRAINING)]))
          refine Go.ret X8 hx hlk (t := (.object "com/example/spillway/spillway/assignment/HealthStatus")) Bd.returns rfl (Or.inr (Or.inr (Or.inr (Or.inr ⟨rfl, rfl, rfl⟩)))) (hb hby d3_34) (by decide) (by decide) e8 ?_
          exact ⟨(by simp [fpick, hc1, hc3, hc5, hc7]), N0, rfl⟩
        · refine Go.st (fun _ k' => XS.icmpYes X0.here hx rfl (pc0 := 28) (pc' := 35) rfl (hb hby d3_28) rfl (XT.ii_ne_t hc7) (by decide) (by decide) k') ?_
          show Go p e below s _ _ _ (s₁.setTop (mkF m 35 #[.val (.int u)] []))
          refine Go.st (fun _ k' => XS.iloadN X0.here hx rfl (hb hby d3_35) rfl k') ?_
          refine Go.st (fun _ k' => XS.iconst X0.here hx rfl (hb hby d3_36) k') ?_
          show Go p e below s _ _ _ (s₁.setTop (mkF m 37 #[.val (.int u)] [(.int 4), (.int u)]))
          by_cases hc9 : u = (4 : Int32)
          · refine Go.st (fun _ k' => XS.icmpNo X0.here hx rfl (hb hby d3_37) rfl (XT.ii_ne_f hc9) k') ?_
            show Go p e below s _ _ _ (s₁.setTop (mkF m 40 #[.val (.int u)] []))
            obtain ⟨T10, X10, e10, st10⟩ := getS2 X0 hx hZ hown (host := "") (Or.inl (wdx hw 127 rfl)) Via.refl e0 (S_TIMEOUT.ext O0.2) (g := (mkF m 40 #[.val (.int u)] [])) rfl (hb hby d3_40)
            refine Go.st st10 ?_
            show Go p e below s _ _ _ (T10.setTop (mkF m 43 #[.val (.int u)] [(.ref a_TIMEOUT)]))
            refine Go.ret X10 hx hlk (t := (.object "com/example/spillway/spillway/assignment/HealthStatus")) Bd.returns rfl (Or.inr (Or.inr (Or.inr (Or.inr ⟨rfl, rfl, rfl⟩)))) (hb hby d3_43) (by decide) (by decide) e10 ?_
            exact ⟨(by simp [fpick, hc1, hc3, hc5, hc7, hc9]), N0, rfl⟩
          · refine Go.st (fun _ k' => XS.icmpYes X0.here hx rfl (pc0 := 37) (pc' := 44) rfl (hb hby d3_37) rfl (XT.ii_ne_t hc9) (by decide) (by decide) k') ?_
            show Go p e below s _ _ _ (s₁.setTop (mkF m 44 #[.val (.int u)] []))
            obtain ⟨T11, X11, e11, st11⟩ := getS2 X0 hx hZ hown (host := "") (Or.inl (wdx hw 138 rfl)) Via.refl e0 (S_DEGRADED.ext O0.2) (g := (mkF m 44 #[.val (.int u)] [])) rfl (hb hby d3_44)
            refine Go.st st11 ?_
            show Go p e below s _ _ _ (T11.setTop (mkF m 47 #[.val (.int u)] [(.ref a_DEGRADED)]))
            refine Go.ret X11 hx hlk (t := (.object "com/example/spillway/spillway/assignment/HealthStatus")) Bd.returns rfl (Or.inr (Or.inr (Or.inr (Or.inr ⟨rfl, rfl, rfl⟩)))) (hb hby d3_47) (by decide) (by decide) e11 ?_
            exact ⟨(by simp [fpick, hc1, hc3, hc5, hc7, hc9]), N0, rfl⟩
theorem d6_0 : decode prog_7_method_8_code 0 = .ok (.lload_n 0, 1) := by decide +kernel
theorem d6_1 : decode prog_7_method_8_code 1 = .ok (.lconst 1, 1) := by decide +kernel
theorem d6_2 : decode prog_7_method_8_code 2 = .ok (.lcmp, 1) := by decide +kernel
theorem d6_3 : decode prog_7_method_8_code 3 = .ok (.ifCond .lt 11, 3) := by decide +kernel
theorem d6_6 : decode prog_7_method_8_code 6 = .ok (.lload_n 0, 1) := by decide +kernel
theorem d6_7 : decode prog_7_method_8_code 7 = .ok (.ldc2_w 193, 3) := by decide +kernel
theorem d6_10 : decode prog_7_method_8_code 10 = .ok (.lcmp, 1) := by decide +kernel
theorem d6_11 : decode prog_7_method_8_code 11 = .ok (.ifCond .le 17, 3) := by decide +kernel
theorem d6_28 : decode prog_7_method_8_code 28 = .ok (.return_, 1) := by decide +kernel
theorem pn_com_example_spillway_spillway_assignment_Assignment : plainName "com/example/spillway/spillway/assignment/Assignment" = true := by first | (simp [plainName, overriddenIn]; done) | decide +kernel
theorem ef_rm6 (m : MethodId) (ww : Int64) : entryFrame m #[(.long ww)] 2 = mkF m 0 #[.val (.long ww), .second] [] := by first | (simp [entryFrame, mkF, argsToLocals, Value.category]; done) | rfl
def Q6 (Z : State) (ww : Int64) (h0 : Heap) (n0 : Nat) (v : Option Value) (h : Heap) (L : List Loc) : Prop := v = none ∧ Fr n0 L ∧ h = h0
set_option maxRecDepth 65536 in
set_option maxHeartbeats 40000000 in
theorem rm6 (l : Launch) (Z : State) (a0 : Array Value) (hw : ∀ d ∈ tables_1, d.before a0 Z = true) (ws : List Jvm.Cond) (ww : Int64) (h0 : Heap) (n0 : Nat) (O0 : Old Z n0 h0) (q_wa : ¬ ww < (1 : Int64)) (q_wb : ¬ (4294967295 : Int64) < ww) :
    MetFree l (⟨"com/example/spillway/spillway/assignment/Assignment", "requireWeight", "(J)V"⟩ : MethodName) (head1 (Jvm.Cond.code (⟨"com/example/spillway/spillway/assignment/Assignment", "requireWeight", "(J)V"⟩ : MethodName) prog_7_method_8_code 2 none :: ws) ({ frames := 0, cells := 0, slots := 0, locals := 0 } : Room)) (fun ay U => ay = #[(.long ww)] ∧ Z.Warmed39 U.vm ∧ U.heap = h0) (fun _ _ _ _ _ => True) (fun _ U o U' => ∃ v L, o = .returned v ∧ Q6 Z ww h0 n0 v U'.heap L ∧ FrameEnd U o U' L ({ frames := 0, cells := 0, slots := 0, locals := 0 } : Room).cells ({ frames := 0, cells := 0, slots := 0, locals := 0 } : Room).slots) := by
  refine MetFree.of_bodySF (plainFor_of_name pn_com_example_spillway_spillway_assignment_Assignment) hisR ?_
  intro p e s m args below meth c s₁ Bd hml0 hP hK
  obtain ⟨rfl, hZ, hh⟩ := hP
  have hx := Bd.exec
  have hby := Bd.bytes
  have hlk : meth.locks = false := BodyLoose.notSynchronized Bd
  have hml : c.maxLocals = 2 := hml0
  have hown : s.vm.findClass "com/example/spillway/spillway/assignment/Assignment" = some m.cls := findClass_of_methodNamed Bd.named
  have hnm := (name_of_methodNamed Bd.named Bd.method).1
  have X0 : Stand p l e ({ frames := 0, cells := 0, slots := 0, locals := 0 } : Room) s m #[(.long ww)] below meth c s₁ [] 0 0 := Stand.of_body Bd
  have e0 : s₁.heap = h0 := by rw [← hh, Bd.state]; rfl
  have N0 := Fr.nil n0
  suffices hgo : Go p e below s 0 0 (Q6 Z ww h0 n0) (s₁.setTop (mkF m 0 #[.val (.long ww), .second] [])) by
    obtain ⟨t, o, h1, h2⟩ := hgo; exact ⟨t, o, castTop (ef_rm6 m ww) h1, h2⟩
  show Go p e below s _ _ _ (s₁.setTop (mkF m 0 #[.val (.long ww), .second] []))
  refine Go.st (fun _ k' => XS.lloadN X0.here hx rfl (hb hby d6_0) rfl k') ?_
  refine Go.st (fun _ k' => XS.lconst X0.here hx rfl (hb hby d6_1) k') ?_
  show Go p e below s _ _ _ (s₁.setTop (mkF m 2 #[.val (.long ww), .second] [(.long 1), (.long ww)]))
  refine Go.st (fun _ k' => XT.lcmp X0.here hx rfl (hb hby d6_2) rfl k') ?_
  show Go p e below s _ _ _ (s₁.setTop (mkF m 3 #[.val (.long ww), .second] [(.int (XT.cmpL ww (1 : Int64)))]))
  refine Go.st (fun _ k' => XS.ifNo X0.here hx rfl (hb hby d6_3) rfl (XT.ll_lt_f q_wa) k') ?_
  show Go p e below s _ _ _ (s₁.setTop (mkF m 6 #[.val (.long ww), .second] []))
  refine Go.st (fun _ k' => XS.lloadN X0.here hx rfl (hb hby d6_6) rfl k') ?_
  show Go p e below s _ _ _ (s₁.setTop (mkF m 7 #[.val (.long ww), .second] [(.long ww)]))
  refine Go.st (fun _ k' => X0.ldc2J hx hown (mvT hZ (wdx hw 29 rfl)) rfl (hb hby d6_7) k') ?_
  show Go p e below s _ _ _ (s₁.setTop (mkF m 10 #[.val (.long ww), .second] [(.long 4294967295), (.long ww)]))
  refine Go.st (fun _ k' => XT.lcmp X0.here hx rfl (hb hby d6_10) rfl k') ?_
  show Go p e below s _ _ _ (s₁.setTop (mkF m 11 #[.val (.long ww), .second] [(.int (XT.cmpL ww (4294967295 : Int64)))]))
  refine Go.st (fun _ k' => XS.ifYes X0.here hx rfl (pc0 := 11) (pc' := 28) rfl (hb hby d6_11) rfl (XT.ll_le_t q_wb) (by decide) (by decide) k') ?_
  show Go p e below s _ _ _ (s₁.setTop (mkF m 28 #[.val (.long ww), .second] []))
  refine Go.retV X0 hx hlk Bd.returns (hb hby d6_28) (by decide) (by decide) e0 ?_
  exact ⟨rfl, N0, rfl⟩
theorem d7_0 : decode jdk_31_method_11_code 0 = .ok (.aload_n 0, 1) := by decide +kernel
theorem d7_1 : decode jdk_31_method_11_code 1 = .ok (.ifnonnull 12, 3) := by decide +kernel
theorem d7_13 : decode jdk_31_method_11_code 13 = .ok (.aload_n 0, 1) := by decide +kernel
theorem d7_14 : decode jdk_31_method_11_code 14 = .ok (.areturn, 1) := by decide +kernel
theorem pn_java_util_Objects : plainName "java/util/Objects" = true := by first | (simp [plainName, overriddenIn]; done) | decide +kernel
theorem ef_rm7 (m : MethodId) (oa : Addr) (ob : Addr) : entryFrame m #[(.ref oa), (.ref ob)] 2 = mkF m 0 #[.val (.ref oa), .val (.ref ob)] [] := by first | (simp [entryFrame, mkF, argsToLocals, Value.category]; done) | rfl
def Q7 (Z : State) (oa : Addr) (ob : Addr) (h0 : Heap) (n0 : Nat) (v : Option Value) (h : Heap) (L : List Loc) : Prop := v = some (.ref oa) ∧ Fr n0 L ∧ h = h0
set_option maxRecDepth 65536 in
set_option maxHeartbeats 40000000 in
theorem rm7 (l : Launch) (Z : State) (a0 : Array Value) (hw : ∀ d ∈ tables_1, d.before a0 Z = true) (ws : List Jvm.Cond) (oa : Addr) (ob : Addr) (h0 : Heap) (n0 : Nat) (O0 : Old Z n0 h0) :
    MetFree l (⟨"java/util/Objects", "requireNonNull", "(Ljava/lang/Object;Ljava/lang/String;)Ljava/lang/Object;"⟩ : MethodName) (head1 (Jvm.Cond.code (⟨"java/util/Objects", "requireNonNull", "(Ljava/lang/Object;Ljava/lang/String;)Ljava/lang/Object;"⟩ : MethodName) jdk_31_method_11_code 2 (some (.object "java/lang/Object")) :: ws) ({ frames := 0, cells := 0, slots := 0, locals := 0 } : Room)) (fun ay U => ay = #[(.ref oa), (.ref ob)] ∧ Z.Warmed39 U.vm ∧ U.heap = h0) (fun _ _ _ _ _ => True) (fun _ U o U' => ∃ v L, o = .returned v ∧ Q7 Z oa ob h0 n0 v U'.heap L ∧ FrameEnd U o U' L ({ frames := 0, cells := 0, slots := 0, locals := 0 } : Room).cells ({ frames := 0, cells := 0, slots := 0, locals := 0 } : Room).slots) := by
  refine MetFree.of_bodySF (plainFor_of_name pn_java_util_Objects) hisR ?_
  intro p e s m args below meth c s₁ Bd hml0 hP hK
  obtain ⟨rfl, hZ, hh⟩ := hP
  have hx := Bd.exec
  have hby := Bd.bytes
  have hlk : meth.locks = false := BodyLoose.notSynchronized Bd
  have hml : c.maxLocals = 2 := hml0
  have hown : s.vm.findClass "java/util/Objects" = some m.cls := findClass_of_methodNamed Bd.named
  have hnm := (name_of_methodNamed Bd.named Bd.method).1
  have X0 : Stand p l e ({ frames := 0, cells := 0, slots := 0, locals := 0 } : Room) s m #[(.ref oa), (.ref ob)] below meth c s₁ [] 0 0 := Stand.of_body Bd
  have e0 : s₁.heap = h0 := by rw [← hh, Bd.state]; rfl
  have N0 := Fr.nil n0
  suffices hgo : Go p e below s 0 0 (Q7 Z oa ob h0 n0) (s₁.setTop (mkF m 0 #[.val (.ref oa), .val (.ref ob)] [])) by
    obtain ⟨t, o, h1, h2⟩ := hgo; exact ⟨t, o, castTop (ef_rm7 m oa ob) h1, h2⟩
  show Go p e below s _ _ _ (s₁.setTop (mkF m 0 #[.val (.ref oa), .val (.ref ob)] []))
  refine Go.st (fun _ k' => XS.aloadN X0.here hx rfl (hb hby d7_0) rfl rfl k') ?_
  show Go p e below s _ _ _ (s₁.setTop (mkF m 1 #[.val (.ref oa), .val (.ref ob)] [(.ref oa)]))
  refine Go.st (fun _ k' => XS.ifnonnullYes X0.here hx rfl (pc0 := 1) (pc' := 13) rfl (hb hby d7_1) rfl (by decide) (by decide) k') ?_
  show Go p e below s _ _ _ (s₁.setTop (mkF m 13 #[.val (.ref oa), .val (.ref ob)] []))
  refine Go.st (fun _ k' => XS.aloadN X0.here hx rfl (hb hby d7_13) rfl rfl k') ?_
  show Go p e below s _ _ _ (s₁.setTop (mkF m 14 #[.val (.ref oa), .val (.ref ob)] [(.ref oa)]))
  refine Go.ret X0 hx hlk (t := (.object "java/lang/Object")) Bd.returns rfl (Or.inr (Or.inr (Or.inr (Or.inr ⟨rfl, rfl, rfl⟩)))) (hb hby d7_14) (by decide) (by decide) e0 ?_
  exact ⟨rfl, N0, rfl⟩
theorem d4_0 : decode prog_10_method_1_code 0 = .ok (.aload_n 0, 1) := by decide +kernel
theorem d4_1 : decode prog_10_method_1_code 1 = .ok (.invokespecial 1, 3) := by decide +kernel
theorem d4_4 : decode prog_10_method_1_code 4 = .ok (.lload_n 3, 1) := by decide +kernel
theorem pd__J_V : parseMethodDescriptor "(J)V" = some ⟨[.long], none⟩ := by decide +kernel
theorem d4_5 : decode prog_10_method_1_code 5 = .ok (.invokestatic 7, 3) := by decide +kernel
theorem d4_8 : decode prog_10_method_1_code 8 = .ok (.aload_n 0, 1) := by decide +kernel
theorem d4_9 : decode prog_10_method_1_code 9 = .ok (.aload_n 1, 1) := by decide +kernel
theorem d4_10 : decode prog_10_method_1_code 10 = .ok (.putfield 13, 3) := by decide +kernel
theorem d4_13 : decode prog_10_method_1_code 13 = .ok (.aload_n 0, 1) := by decide +kernel
theorem d4_14 : decode prog_10_method_1_code 14 = .ok (.aload_n 2, 1) := by decide +kernel
theorem d4_15 : decode prog_10_method_1_code 15 = .ok (.ldc 19, 2) := by decide +kernel
theorem pd__Ljava_lang_Object_Ljava_lang_String__Ljava_lang_Object_ : parseMethodDescriptor "(Ljava/lang/Object;Ljava/lang/String;)Ljava/lang/Object;" = some ⟨[(.object "java/lang/Object"), (.object "java/lang/String")], some (.object "java/lang/Object")⟩ := by decide +kernel
theorem d4_17 : decode prog_10_method_1_code 17 = .ok (.invokestatic 21, 3) := by decide +kernel
theorem d4_20 : decode prog_10_method_1_code 20 = .ok (.checkcast 27, 3) := by decide +kernel
theorem d4_23 : decode prog_10_method_1_code 23 = .ok (.putfield 29, 3) := by decide +kernel
theorem d4_26 : decode prog_10_method_1_code 26 = .ok (.aload_n 0, 1) := by decide +kernel
theorem d4_27 : decode prog_10_method_1_code 27 = .ok (.lload_n 3, 1) := by decide +kernel
theorem d4_28 : decode prog_10_method_1_code 28 = .ok (.putfield 32, 3) := by decide +kernel
theorem d4_31 : decode prog_10_method_1_code 31 = .ok (.return_, 1) := by decide +kernel
theorem pn_com_example_spillway_spillway_assignment_Endpoint : plainName "com/example/spillway/spillway/assignment/Endpoint" = true := by first | (simp [plainName, overriddenIn]; done) | decide +kernel
theorem ef_rm4 (m : MethodId) (ob : Addr) (hs : Addr) (ww : Int64) : entryFrame m #[(.ref ob), .null, (.ref hs), (.long ww)] 5 = mkF m 0 #[.val (.ref ob), .val .null, .val (.ref hs), .val (.long ww), .second] [] := by first | (simp [entryFrame, mkF, argsToLocals, Value.category]; done) | rfl
def Q4 (Z : State) (ob : Addr) (hs : Addr) (ww : Int64) (h0 : Heap) (n0 : Nat) (v : Option Value) (h : Heap) (L : List Loc) : Prop := v = none ∧ Fr n0 L ∧ Keep h0 h [ob] ∧ Fld Z h ob "com/example/spillway/spillway/assignment/Endpoint" "health" "Lcom/example/spillway/spillway/assignment/HealthStatus;" (.ref hs) ∧ Fld Z h ob "com/example/spillway/spillway/assignment/Endpoint" "loadBalancingWeight" "J" (.long ww)
set_option maxRecDepth 65536 in
set_option maxHeartbeats 40000000 in
theorem rm4 (l : Launch) (Z : State) (a0 : Array Value) (hw : ∀ d ∈ tables_1, d.before a0 Z = true) (ws : List Jvm.Cond) (ob : Addr) (hs : Addr) (ww : Int64) (h0 : Heap) (n0 : Nat) (O0 : Old Z n0 h0) (E_o : Exa Z h0 ob "com/example/spillway/spillway/assignment/Endpoint") (Fa : Fld Z h0 ob "com/example/spillway/spillway/assignment/Endpoint" "address" "Lcom/example/spillway/spillway/assignment/EndpointAddress;" .null) (Fh : Fld Z h0 ob "com/example/spillway/spillway/assignment/Endpoint" "health" "Lcom/example/spillway/spillway/assignment/HealthStatus;" .null) (Fw : Fld Z h0 ob "com/example/spillway/spillway/assignment/Endpoint" "loadBalancingWeight" "J" (.long 0)) (E_h : Exa Z h0 hs "com/example/spillway/spillway/assignment/HealthStatus") (g_o : n0 ≤ ob) (q_wa : ¬ ww < (1 : Int64)) (q_wb : ¬ (4294967295 : Int64) < ww) :
    MetFree l mn7 (head1 (Jvm.Cond.code mn7 prog_10_method_1_code 5 none :: ws) ({ frames := 1, cells := 2, slots := 28, locals := 14 } : Room)) (fun ay U => ay = #[(.ref ob), .null, (.ref hs), (.long ww)] ∧ Z.Warmed39 U.vm ∧ U.heap = h0 ∧ CHv Z EL U.vm h0 ∧ ∀ y ∈ ([ob] : List Addr), Safe Z EL U.vm h0 y) (fun _ _ _ _ _ => True) (fun _ U o U' => ∃ v L, o = .returned v ∧ Q4 Z ob hs ww h0 n0 v U'.heap L ∧ CHr Z EL U.vm U.heap U'.vm U'.heap ∧ ReturnedEndW U o U' L ({ frames := 1, cells := 2, slots := 28, locals := 14 } : Room).cells ({ frames := 1, cells := 2, slots := 28, locals := 14 } : Room).slots) := by
  refine MetFree.of_bodySF (plainFor_of_name pn_com_example_spillway_spillway_assignment_Endpoint) hisR ?_
  intro p e s m args below meth c s₁ Bd hml0 hP hK
  obtain ⟨rfl, hZ, hh, hCH, hSf⟩ := hP
  have hx := Bd.exec
  have hby := Bd.bytes
  have hlk : meth.locks = false := BodyLoose.notSynchronized Bd
  have hml : c.maxLocals = 5 := hml0
  have hown : s.vm.findClass "com/example/spillway/spillway/assignment/Endpoint" = some m.cls := findClass_of_methodNamed Bd.named
  have hnm := (name_of_methodNamed Bd.named Bd.method).1
  have X0 : Stand p l e ({ frames := 1, cells := 2, slots := 28, locals := 14 } : Room) (s.setVm s.vm) m #[(.ref ob), .null, (.ref hs), (.long ww)] below meth c s₁ [] 0 0 := Stand.of_body Bd
  have e0 : s₁.heap = h0 := by rw [← hh, Bd.state]; rfl
  have N0 := Fr.nil n0
  have hS0 : s.Since s.vm 0 := (State.WarmedH.refl s).since 0
  have hk0 : 0 ≤ h0.size := Nat.zero_le _
  have CH0 : CHr Z EL s.vm s.heap s.vm h0 := by rw [hh]; exact CHr.refl hCH
  have hEL : EW Z a0 EL := own_EW hw
  have hwS := own_wS hw
  suffices hgo : GoW p e below s 2 28 Z EL (Q4 Z ob hs ww h0 n0) (s₁.setTop (mkF m 0 #[.val (.ref ob), .val .null, .val (.ref hs), .val (.long ww), .second] [])) by
    obtain ⟨t, o, h1, h2⟩ := hgo; exact ⟨t, o, castTop (ef_rm4 m ob hs ww) h1, h2⟩
  show GoW p e below s _ _ _ _ _ (s₁.setTop (mkF m 0 #[.val (.ref ob), .val .null, .val (.ref hs), .val (.long ww), .second] []))
  refine GoW.st (fun _ k' => XS.aloadN X0.here hx rfl (hb hby d4_0) rfl rfl k') ?_
  show GoW p e below s _ _ _ _ _ (s₁.setTop (mkF m 1 #[.val (.ref ob), .val .null, .val (.ref hs), .val (.long ww), .second] [(.ref ob)]))
  obtain ⟨T1, X1, e1, st1⟩ := initO X0 hx hZ hown (wdx hw 22 rfl) (wdx hw 23 rfl) (wdx hw 24 rfl) e0 (g := (mkF m 1 #[.val (.ref ob), .val .null, .val (.ref hs), .val (.long ww), .second] [(.ref ob)])) rfl (by rw [hml]; rfl) rfl (hb hby d4_1) (by decide) (W := 0) (by show 2 * 0 + _ ≤ _; exact Nat.le_of_eq rfl) (by decide)
  refine GoW.st st1 ?_
  show GoW p e below s _ _ _ _ _ (T1.setTop (mkF m 4 #[.val (.ref ob), .val .null, .val (.ref hs), .val (.long ww), .second] []))
  refine GoW.st (fun _ k' => XS.lloadN X1.here hx rfl (hb hby d4_4) rfl k') ?_
  show GoW p e below s _ _ _ _ _ (T1.setTop (mkF m 5 #[.val (.ref ob), .val .null, .val (.ref hs), .val (.long ww), .second] [(.long ww)]))
  obtain ⟨_, _, ⟨T2, L2, k2, n2⟩, -, X2, ⟨Lc2, hQ2, l2, y2, z2⟩, st2⟩ := Jvm.LawKit.callS X1 hx (y := (⟨"com/example/spillway/spillway/assignment/Assignment", "requireWeight", "(J)V"⟩ : MethodName)) hown (mvT hZ (wdx hw 25 rfl)) (mvT hZ (wdx hw 26 rfl)) (mvT hZ (wdx hw 27 rfl)) (mvT hZ (wdx hw 28 rfl)) (by decide) (backOf (W := 0) (rm6 l Z a0 hw [] ww h0 n0 O0 q_wa q_wb) hZ (wdx hw 28 rfl) (wdx hw 27 rfl) (by decide) (by decide)) (g := (mkF m 5 #[.val (.ref ob), .val .null, .val (.ref hs), .val (.long ww), .second] [(.long ww)])) rfl (by rw [hml]; rfl) (argsL := [(.long ww)]) (rest := []) (lenOf pd__J_V rfl) rfl (by show 2 * 0 + _ ≤ _; exact Nat.le_of_eq rfl) (hb hby d4_5) (fun _ _ => ⟨rfl, e1, (by exact lee rfl), (by exact lee rfl)⟩)
  dsimp only [Pt.U, Pt.locs, Pt.cells, Pt.slots] at X2 l2 y2 z2 st2 hQ2
  subst l2 y2 z2
  obtain ⟨rfl, Nq2, eq2⟩ := hQ2
  have N2 := Fr.app N0 Nq2
  refine GoW.st st2 ?_
  show GoW p e below s _ _ _ _ _ (T2.setTop (mkF m 8 #[.val (.ref ob), .val .null, .val (.ref hs), .val (.long ww), .second] []))
  refine GoW.st (fun _ k' => XS.aloadN X2.here hx rfl (hb hby d4_8) rfl rfl k') ?_
  refine GoW.st (fun _ k' => XS.aloadN X2.here hx rfl (hb hby d4_9) rfl rfl k') ?_
  show GoW p e below s _ _ _ _ _ (T2.setTop (mkF m 10 #[.val (.ref ob), .val .null, .val (.ref hs), .val (.long ww), .second] [.null, (.ref ob)]))
  obtain ⟨T3, h3, X3, e3, W3, st3⟩ := putF X2 hx hZ hown (host := "") (Or.inl (wdx hw 30 rfl)) Via.refl eq2 Fa E_o (Or.inr ⟨(wdx hw 31 rfl), rfl, hnm⟩) (wdx hw 11 rfl) (ty := (.object "com/example/spillway/spillway/assignment/EndpointAddress")) (by decide) rfl rfl (g := (mkF m 10 #[.val (.ref ob), .val .null, .val (.ref hs), .val (.long ww), .second] [.null, (.ref ob)])) rfl rfl (hb hby d4_10)
  refine GoW.st st3 ?_
  have f4 : Exa Z h3 ob "com/example/spillway/spillway/assignment/Endpoint" := E_o.wr W3
  have f5 : Fld Z h3 ob "com/example/spillway/spillway/assignment/Endpoint" "address" "Lcom/example/spillway/spillway/assignment/EndpointAddress;" .null := Fa.same W3
  have f6 : Fld Z h3 ob "com/example/spillway/spillway/assignment/Endpoint" "health" "Lcom/example/spillway/spillway/assignment/HealthStatus;" .null := Fh.other W3 (Or.inr (slot_ne (Or.inr (wdx hw 47 rfl)) (Or.inr (wdx hw 31 rfl)) (by decide) (t := (.object "com/example/spillway/spillway/assignment/HealthStatus")) (t' := (.object "com/example/spillway/spillway/assignment/EndpointAddress")) (by decide) (by decide)))
  have f7 : Fld Z h3 ob "com/example/spillway/spillway/assignment/Endpoint" "loadBalancingWeight" "J" (.long 0) := Fw.other W3 (Or.inr (slot_ne (Or.inr (wdx hw 49 rfl)) (Or.inr (wdx hw 31 rfl)) (by decide) (t := .long) (t' := (.object "com/example/spillway/spillway/assignment/EndpointAddress")) (by decide) (by decide)))
  have f8 : Exa Z h3 hs "com/example/spillway/spillway/assignment/HealthStatus" := E_h.wr W3
  have f9 : Safe Z EL s.vm h3 ob := Safe.wr W3 (hSf ob (List.mem_of_getElem? (i := 0) rfl)) CH0.1 (hSf ob (List.mem_of_getElem? (i := 0) rfl))
  have CH3 : CHr Z EL s.vm s.heap s.vm h3 := CH0.trans (CHr.wr W3 (hSf ob (List.mem_of_getElem? (i := 0) rfl)) CH0.1)
  have hk3 : 0 ≤ Array.size h3 := Nat.le_trans hk0 (Keep.of_wr W3).1
  have O3 : Old Z n0 h3 := O0.wr W3 g_o
  have N3 := Fr.snoc X3 N2 g_o
  have K3 : Keep h0 h3 [ob] := (Keep.refl h0 [ob]).wr W3 (Or.inl (by simp))
  show GoW p e below s _ _ _ _ _ (T3.setTop (mkF m 13 #[.val (.ref ob), .val .null, .val (.ref hs), .val (.long ww), .second] []))
  refine GoW.st (fun _ k' => XS.aloadN X3.here hx rfl (hb hby d4_13) rfl rfl k') ?_
  refine GoW.st (fun _ k' => XS.aloadN X3.here hx rfl (hb hby d4_14) rfl rfl k') ?_
  show GoW p e below s _ _ _ _ _ (T3.setTop (mkF m 15 #[.val (.ref ob), .val .null, .val (.ref hs), .val (.long ww), .second] [(.ref hs), (.ref ob)]))
  obtain ⟨a10, T10, h10, q10, X10, e10, E10, hS10, hk10, hZ10, hown10, C10, -, st10⟩ := ldcOH X3 hx hZ hown (wdx hw 32 rfl) hwS e3 hS0 hk3 hEL CH3.1 (g := (mkF m 15 #[.val (.ref ob), .val .null, .val (.ref hs), .val (.long ww), .second] [(.ref hs), (.ref ob)])) rfl (hb hby d4_15) (n := 24) (by decide) (by decide) (by decide) (by decide)
  refine GoW.st st10 ?_
  have f11 : Exa Z h10 ob "com/example/spillway/spillway/assignment/Endpoint" := f4.ext E10
  have f12 : Fld Z h10 ob "com/example/spillway/spillway/assignment/Endpoint" "address" "Lcom/example/spillway/spillway/assignment/EndpointAddress;" .null := f5.ext E10
  have f13 : Fld Z h10 ob "com/example/spillway/spillway/assignment/Endpoint" "health" "Lcom/example/spillway/spillway/assignment/HealthStatus;" .null := f6.ext E10
  have f14 : Fld Z h10 ob "com/example/spillway/spillway/assignment/Endpoint" "loadBalancingWeight" "J" (.long 0) := f7.ext E10
  have f15 : Exa Z h10 hs "com/example/spillway/spillway/assignment/HealthStatus" := f8.ext E10
  have f16 : Safe Z EL T10.vm h10 ob := C10.safe f4.lt f9
  have CH10 : CHr Z EL s.vm s.heap T10.vm h10 := CH3.trans C10
  have O10 : Old Z n0 h10 := O3.ext E10
  have K10 : Keep h0 h10 [ob] := K3.ext E10
  show GoW p e below s _ _ _ _ _ (T10.setTop (mkF m 17 #[.val (.ref ob), .val .null, .val (.ref hs), .val (.long ww), .second] [(.ref a10), (.ref hs), (.ref ob)]))
  obtain ⟨_, _, ⟨T17, L17, k17, n17⟩, -, X17, ⟨Lc17, hQ17, l17, y17, z17⟩, st17⟩ := Jvm.LawKit.callS X10 hx (y := (⟨"java/util/Objects", "requireNonNull", "(Ljava/lang/Object;Ljava/lang/String;)Ljava/lang/Object;"⟩ : MethodName)) hown10 (mvT hZ10 (wdx hw 40 rfl)) (mvT hZ10 (wdx hw 41 rfl)) (mvT hZ10 (wdx hw 42 rfl)) (mvT hZ10 (wdx hw 43 rfl)) (by decide) (backOf (W := 1) (rm7 l Z a0 hw [] hs a10 h10 n0 O10 ) hZ10 (wdx hw 43 rfl) (wdx hw 42 rfl) (by decide) (by decide)) (g := (mkF m 17 #[.val (.ref ob), .val .null, .val (.ref hs), .val (.long ww), .second] [(.ref a10), (.ref hs), (.ref ob)])) rfl (by rw [hml]; rfl) (argsL := [(.ref hs), (.ref a10)]) (rest := [(.ref ob)]) (lenOf pd__Ljava_lang_Object_Ljava_lang_String__Ljava_lang_Object_ rfl) rfl (by show 2 * 0 + _ ≤ _; exact Nat.le_of_eq rfl) (hb hby d4_17) (fun _ _ => ⟨rfl, e10, (by exact lee rfl), (by exact lee rfl)⟩)
  dsimp only [Pt.U, Pt.locs, Pt.cells, Pt.slots] at X17 l17 y17 z17 st17 hQ17
  subst l17 y17 z17
  obtain ⟨rfl, Nq17, eq17⟩ := hQ17
  have N17 := Fr.app N3 Nq17
  refine GoW.st st17 ?_
  show GoW p e below s _ _ _ _ _ (T17.setTop (mkF m 20 #[.val (.ref ob), .val .null, .val (.ref hs), .val (.long ww), .second] [(.ref hs), (.ref ob)]))
  obtain ⟨T18, X18, e18, st18⟩ := castY X17 hx hZ10 hown10 (wdx hw 44 rfl) eq17 (Ins.self f15) (g := (mkF m 20 #[.val (.ref ob), .val .null, .val (.ref hs), .val (.long ww), .second] [(.ref hs), (.ref ob)])) rfl rfl (hb hby d4_20)
  refine GoW.st st18 ?_
  show GoW p e below s _ _ _ _ _ (T18.setTop (mkF m 23 #[.val (.ref ob), .val .null, .val (.ref hs), .val (.long ww), .second] [(.ref hs), (.ref ob)]))
  obtain ⟨T19, h19, X19, e19, W19, st19⟩ := putF X18 hx hZ10 hown10 (host := "") (Or.inl (wdx hw 46 rfl)) Via.refl e18 f13 f11 (Or.inr ⟨(wdx hw 47 rfl), rfl, hnm⟩) (wdx hw 11 rfl) (ty := (.object "com/example/spillway/spillway/assignment/HealthStatus")) (by decide) rfl rfl (g := (mkF m 23 #[.val (.ref ob), .val .null, .val (.ref hs), .val (.long ww), .second] [(.ref hs), (.ref ob)])) rfl rfl (hb hby d4_23)
  refine GoW.st st19 ?_
  have f20 : Exa Z h19 ob "com/example/spillway/spillway/assignment/Endpoint" := f11.wr W19
  have f21 : Fld Z h19 ob "com/example/spillway/spillway/assignment/Endpoint" "address" "Lcom/example/spillway/spillway/assignment/EndpointAddress;" .null := f12.other W19 (Or.inr (slot_ne (Or.inr (wdx hw 31 rfl)) (Or.inr (wdx hw 47 rfl)) (by decide) (t := (.object "com/example/spillway/spillway/assignment/EndpointAddress")) (t' := (.object "com/example/spillway/spillway/assignment/HealthStatus")) (by decide) (by decide)))
  have f22 : Fld Z h19 ob "com/example/spillway/spillway/assignment/Endpoint" "health" "Lcom/example/spillway/spillway/assignment/HealthStatus;" (.ref hs) := f13.same W19
  have f23 : Fld Z h19 ob "com/example/spillway/spillway/assignment/Endpoint" "loadBalancingWeight" "J" (.long 0) := f14.other W19 (Or.inr (slot_ne (Or.inr (wdx hw 49 rfl)) (Or.inr (wdx hw 47 rfl)) (by decide) (t := .long) (t' := (.object "com/example/spillway/spillway/assignment/HealthStatus")) (by decide) (by decide)))
  have f24 : Exa Z h19 hs "com/example/spillway/spillway/assignment/HealthStatus" := f15.wr W19
  have f25 : Safe Z EL T10.vm h19 ob := Safe.wr W19 f16 CH10.1 f16
  have CH19 : CHr Z EL s.vm s.heap T10.vm h19 := CH10.trans (CHr.wr W19 f16 CH10.1)
  have hk19 : q10 ≤ Array.size h19 := Nat.le_trans hk10 (Keep.of_wr W19).1
  have O19 : Old Z n0 h19 := O10.wr W19 g_o
  have N19 := Fr.snoc X19 N17 g_o
  have K19 : Keep h0 h19 [ob] := K10.wr W19 (Or.inl (by simp))
  show GoW p e below s _ _ _ _ _ (T19.setTop (mkF m 26 #[.val (.ref ob), .val .null, .val (.ref hs), .val (.long ww), .second] []))
  refine GoW.st (fun _ k' => XS.aloadN X19.here hx rfl (hb hby d4_26) rfl rfl k') ?_
  refine GoW.st (fun _ k' => XS.lloadN X19.here hx rfl (hb hby d4_27) rfl k') ?_
  show GoW p e below s _ _ _ _ _ (T19.setTop (mkF m 28 #[.val (.ref ob), .val .null, .val (.ref hs), .val (.long ww), .second] [(.long ww), (.ref ob)]))
  obtain ⟨T26, h26, X26, e26, W26, st26⟩ := putF X19 hx hZ10 hown10 (host := "") (Or.inl (wdx hw 48 rfl)) Via.refl e19 f23 f20 (Or.inr ⟨(wdx hw 49 rfl), rfl, hnm⟩) (wdx hw 11 rfl) (ty := .long) (by decide) rfl rfl (g := (mkF m 28 #[.val (.ref ob), .val .null, .val (.ref hs), .val (.long ww), .second] [(.long ww), (.ref ob)])) rfl rfl (hb hby d4_28)
  refine GoW.st st26 ?_
  have f27 : Exa Z h26 ob "com/example/spillway/spillway/assignment/Endpoint" := f20.wr W26
  have f28 : Fld Z h26 ob "com/example/spillway/spillway/assignment/Endpoint" "address" "Lcom/example/spillway/spillway/assignment/EndpointAddress;" .null := f21.other W26 (Or.inr (slot_ne (Or.inr (wdx hw 31 rfl)) (Or.inr (wdx hw 49 rfl)) (by decide) (t := (.object "com/example/spillway/spillway/assignment/EndpointAddress")) (t' := .long) (by decide) (by decide)))
  have f29 : Fld Z h26 ob "com/example/spillway/spillway/assignment/Endpoint" "health" "Lcom/example/spillway/spillway/assignment/HealthStatus;" (.ref hs) := f22.other W26 (Or.inr (slot_ne (Or.inr (wdx hw 47 rfl)) (Or.inr (wdx hw 49 rfl)) (by decide) (t := (.object "com/example/spillway/spillway/assignment/HealthStatus")) (t' := .long) (by decide) (by decide)))
  have f30 : Fld Z h26 ob "com/example/spillway/spillway/assignment/Endpoint" "loadBalancingWeight" "J" (.long ww) := f23.same W26
  have f31 : Exa Z h26 hs "com/example/spillway/spillway/assignment/HealthStatus" := f24.wr W26
  have f32 : Safe Z EL T10.vm h26 ob := Safe.wr W26 f25 CH19.1 f25
  have CH26 : CHr Z EL s.vm s.heap T10.vm h26 := CH19.trans (CHr.wr W26 f25 CH19.1)
  have hk26 : q10 ≤ Array.size h26 := Nat.le_trans hk19 (Keep.of_wr W26).1
  have O26 : Old Z n0 h26 := O19.wr W26 g_o
  have N26 := Fr.snoc X26 N19 g_o
  have K26 : Keep h0 h26 [ob] := K19.wr W26 (Or.inl (by simp))
  show GoW p e below s _ _ _ _ _ (T26.setTop (mkF m 31 #[.val (.ref ob), .val .null, .val (.ref hs), .val (.long ww), .second] []))
  refine GoW.retV X26 hx hlk hS10 (by rw [e26]; exact hk26) hZ10 hEL CH26 Bd.returns (hb hby d4_31) (by decide) (by decide) e26 ?_
  exact ⟨rfl, N26, K26, f29, f30⟩
theorem d8_0 : decode prog_13_method_1_code 0 = .ok (.aload_n 0, 1) := by decide +kernel
theorem d8_1 : decode prog_13_method_1_code 1 = .ok (.invokespecial 1, 3) := by decide +kernel
theorem d8_4 : decode prog_13_method_1_code 4 = .ok (.return_, 1) := by decide +kernel
theorem pn_com_example_spillway_spillway_assignment_HealthTally : plainName "com/example/spillway/spillway/assignment/HealthTally" = true := by first | (simp [plainName, overriddenIn]; done) | decide +kernel
theorem ef_rm8 (m : MethodId) (ob : Addr) : entryFrame m #[(.ref ob)] 1 = mkF m 0 #[.val (.ref ob)] [] := by first | (simp [entryFrame, mkF, argsToLocals, Value.category]; done) | rfl
def Q8 (Z : State) (ob : Addr) (h0 : Heap) (n0 : Nat) (v : Option Value) (h : Heap) (L : List Loc) : Prop := v = none ∧ Fr n0 L ∧ h = h0
set_option maxRecDepth 65536 in
set_option maxHeartbeats 40000000 in
theorem rm8 (l : Launch) (Z : State) (a0 : Array Value) (hw : ∀ d ∈ tables_1, d.before a0 Z = true) (ws : List Jvm.Cond) (ob : Addr) (h0 : Heap) (n0 : Nat) (O0 : Old Z n0 h0) :
    MetFree l mn9 (head1 (Jvm.Cond.code mn9 prog_13_method_1_code 1 none :: ws) ({ frames := 1, cells := 0, slots := 0, locals := 12 } : Room)) (fun ay U => ay = #[(.ref ob)] ∧ Z.Warmed39 U.vm ∧ U.heap = h0) (fun _ _ _ _ _ => True) (fun _ U o U' => ∃ v L, o = .returned v ∧ Q8 Z ob h0 n0 v U'.heap L ∧ FrameEnd U o U' L ({ frames := 1, cells := 0, slots := 0, locals := 12 } : Room).cells ({ frames := 1, cells := 0, slots := 0, locals := 12 } : Room).slots) := by
  refine MetFree.of_bodySF (plainFor_of_name pn_com_example_spillway_spillway_assignment_HealthTally) hisR ?_
  intro p e s m args below meth c s₁ Bd hml0 hP hK
  obtain ⟨rfl, hZ, hh⟩ := hP
  have hx := Bd.exec
  have hby := Bd.bytes
  have hlk : meth.locks = false := BodyLoose.notSynchronized Bd
  have hml : c.maxLocals = 1 := hml0
  have hown : s.vm.findClass "com/example/spillway/spillway/assignment/HealthTally" = some m.cls := findClass_of_methodNamed Bd.named
  have hnm := (name_of_methodNamed Bd.named Bd.method).1
  have X0 : Stand p l e ({ frames := 1, cells := 0, slots := 0, locals := 12 } : Room) s m #[(.ref ob)] below meth c s₁ [] 0 0 := Stand.of_body Bd
  have e0 : s₁.heap = h0 := by rw [← hh, Bd.state]; rfl
  have N0 := Fr.nil n0
  suffices hgo : Go p e below s 0 0 (Q8 Z ob h0 n0) (s₁.setTop (mkF m 0 #[.val (.ref ob)] [])) by
    obtain ⟨t, o, h1, h2⟩ := hgo; exact ⟨t, o, castTop (ef_rm8 m ob) h1, h2⟩
  show Go p e below s _ _ _ (s₁.setTop (mkF m 0 #[.val (.ref ob)] []))
  refine Go.st (fun _ k' => XS.aloadN X0.here hx rfl (hb hby d8_0) rfl rfl k') ?_
  show Go p e below s _ _ _ (s₁.setTop (mkF m 1 #[.val (.ref ob)] [(.ref ob)]))
  obtain ⟨T1, X1, e1, st1⟩ := initO X0 hx hZ hown (wdx hw 58 rfl) (wdx hw 23 rfl) (wdx hw 24 rfl) e0 (g := (mkF m 1 #[.val (.ref ob)] [(.ref ob)])) rfl (by rw [hml]; rfl) rfl (hb hby d8_1) (by decide) (W := 0) (by show 2 * 0 + _ ≤ _; exact Nat.le_of_eq rfl) (by decide)
  refine Go.st st1 ?_
  show Go p e below s _ _ _ (T1.setTop (mkF m 4 #[.val (.ref ob)] []))
  refine Go.retV X1 hx hlk Bd.returns (hb hby d8_4) (by decide) (by decide) e1 ?_
  exact ⟨rfl, N0, rfl⟩
theorem d11_0 : decode prog_10_method_4_code 0 = .ok (.aload_n 0, 1) := by decide +kernel
theorem d11_1 : decode prog_10_method_4_code 1 = .ok (.getfield 32, 3) := by decide +kernel
theorem d11_4 : decode prog_10_method_4_code 4 = .ok (.lreturn, 1) := by decide +kernel
theorem ef_rm11 (m : MethodId) (ob : Addr) : entryFrame m #[(.ref ob)] 1 = mkF m 0 #[.val (.ref ob)] [] := by first | (simp [entryFrame, mkF, argsToLocals, Value.category]; done) | rfl
def Q11 (Z : State) (ob : Addr) (ww : Int64) (h0 : Heap) (n0 : Nat) (v : Option Value) (h : Heap) (L : List Loc) : Prop := v = some (.long ww) ∧ Fr n0 L ∧ h = h0
set_option maxRecDepth 65536 in
set_option maxHeartbeats 40000000 in
theorem rm11 (l : Launch) (Z : State) (a0 : Array Value) (hw : ∀ d ∈ tables_1, d.before a0 Z = true) (ws : List Jvm.Cond) (ob : Addr) (ww : Int64) (h0 : Heap) (n0 : Nat) (O0 : Old Z n0 h0) (Fw : Fld Z h0 ob "com/example/spillway/spillway/assignment/Endpoint" "loadBalancingWeight" "J" (.long ww)) :
    MetFree l mn11 (head1 (Jvm.Cond.code mn11 prog_10_method_4_code 1 (some .long) :: ws) ({ frames := 0, cells := 0, slots := 0, locals := 0 } : Room)) (fun ay U => ay = #[(.ref ob)] ∧ Z.Warmed39 U.vm ∧ U.heap = h0) (fun _ _ _ _ _ => True) (fun _ U o U' => ∃ v L, o = .returned v ∧ Q11 Z ob ww h0 n0 v U'.heap L ∧ FrameEnd U o U' L ({ frames := 0, cells := 0, slots := 0, locals := 0 } : Room).cells ({ frames := 0, cells := 0, slots := 0, locals := 0 } : Room).slots) := by
  refine MetFree.of_bodySF (plainFor_of_name pn_com_example_spillway_spillway_assignment_Endpoint) hisR ?_
  intro p e s m args below meth c s₁ Bd hml0 hP hK
  obtain ⟨rfl, hZ, hh⟩ := hP
  have hx := Bd.exec
  have hby := Bd.bytes
  have hlk : meth.locks = false := BodyLoose.notSynchronized Bd
  have hml : c.maxLocals = 1 := hml0
  have hown : s.vm.findClass "com/example/spillway/spillway/assignment/Endpoint" = some m.cls := findClass_of_methodNamed Bd.named
  have hnm := (name_of_methodNamed Bd.named Bd.method).1
  have X0 : Stand p l e ({ frames := 0, cells := 0, slots := 0, locals := 0 } : Room) s m #[(.ref ob)] below meth c s₁ [] 0 0 := Stand.of_body Bd
  have e0 : s₁.heap = h0 := by rw [← hh, Bd.state]; rfl
  have N0 := Fr.nil n0
  suffices hgo : Go p e below s 0 0 (Q11 Z ob ww h0 n0) (s₁.setTop (mkF m 0 #[.val (.ref ob)] [])) by
    obtain ⟨t, o, h1, h2⟩ := hgo; exact ⟨t, o, castTop (ef_rm11 m ob) h1, h2⟩
  show Go p e below s _ _ _ (s₁.setTop (mkF m 0 #[.val (.ref ob)] []))
  refine Go.st (fun _ k' => XS.aloadN X0.here hx rfl (hb hby d11_0) rfl rfl k') ?_
  show Go p e below s _ _ _ (s₁.setTop (mkF m 1 #[.val (.ref ob)] [(.ref ob)]))
  obtain ⟨T1, X1, e1, st1⟩ := getF X0 hx hZ hown (host := "") (Or.inl (wdx hw 48 rfl)) Via.refl e0 Fw (g := (mkF m 1 #[.val (.ref ob)] [(.ref ob)])) rfl rfl (hb hby d11_1)
  refine Go.st st1 ?_
  show Go p e below s _ _ _ (T1.setTop (mkF m 4 #[.val (.ref ob)] [(.long ww)]))
  refine Go.ret X1 hx hlk (t := .long) Bd.returns rfl (Or.inr (Or.inl ⟨rfl, rfl, _, rfl⟩)) (hb hby d11_4) (by decide) (by decide) e1 ?_
  exact ⟨rfl, N0, rfl⟩
theorem d12_0 : decode prog_10_method_3_code 0 = .ok (.aload_n 0, 1) := by decide +kernel
theorem d12_1 : decode prog_10_method_3_code 1 = .ok (.getfield 29, 3) := by decide +kernel
theorem d12_4 : decode prog_10_method_3_code 4 = .ok (.areturn, 1) := by decide +kernel
theorem ef_rm12 (m : MethodId) (ob : Addr) : entryFrame m #[(.ref ob)] 1 = mkF m 0 #[.val (.ref ob)] [] := by first | (simp [entryFrame, mkF, argsToLocals, Value.category]; done) | rfl
def Q12 (Z : State) (ob : Addr) (hs : Addr) (h0 : Heap) (n0 : Nat) (v : Option Value) (h : Heap) (L : List Loc) : Prop := v = some (.ref hs) ∧ Fr n0 L ∧ h = h0
set_option maxRecDepth 65536 in
set_option maxHeartbeats 40000000 in
theorem rm12 (l : Launch) (Z : State) (a0 : Array Value) (hw : ∀ d ∈ tables_1, d.before a0 Z = true) (ws : List Jvm.Cond) (ob : Addr) (hs : Addr) (h0 : Heap) (n0 : Nat) (O0 : Old Z n0 h0) (Fh : Fld Z h0 ob "com/example/spillway/spillway/assignment/Endpoint" "health" "Lcom/example/spillway/spillway/assignment/HealthStatus;" (.ref hs)) :
    MetFree l mn8 (head1 (Jvm.Cond.code mn8 prog_10_method_3_code 1 (some (.object "com/example/spillway/spillway/assignment/HealthStatus")) :: ws) ({ frames := 0, cells := 0, slots := 0, locals := 0 } : Room)) (fun ay U => ay = #[(.ref ob)] ∧ Z.Warmed39 U.vm ∧ U.heap = h0) (fun _ _ _ _ _ => True) (fun _ U o U' => ∃ v L, o = .returned v ∧ Q12 Z ob hs h0 n0 v U'.heap L ∧ FrameEnd U o U' L ({ frames := 0, cells := 0, slots := 0, locals := 0 } : Room).cells ({ frames := 0, cells := 0, slots := 0, locals := 0 } : Room).slots) := by
  refine MetFree.of_bodySF (plainFor_of_name pn_com_example_spillway_spillway_assignment_Endpoint) hisR ?_
  intro p e s m args below meth c s₁ Bd hml0 hP hK
  obtain ⟨rfl, hZ, hh⟩ := hP
  have hx := Bd.exec
  have hby := Bd.bytes
  have hlk : meth.locks = false := BodyLoose.notSynchronized Bd
  have hml : c.maxLocals = 1 := hml0
  have hown : s.vm.findClass "com/example/spillway/spillway/assignment/Endpoint" = some m.cls := findClass_of_methodNamed Bd.named
  have hnm := (name_of_methodNamed Bd.named Bd.method).1
  have X0 : Stand p l e ({ frames := 0, cells := 0, slots := 0, locals := 0 } : Room) s m #[(.ref ob)] below meth c s₁ [] 0 0 := Stand.of_body Bd
  have e0 : s₁.heap = h0 := by rw [← hh, Bd.state]; rfl
  have N0 := Fr.nil n0
  suffices hgo : Go p e below s 0 0 (Q12 Z ob hs h0 n0) (s₁.setTop (mkF m 0 #[.val (.ref ob)] [])) by
    obtain ⟨t, o, h1, h2⟩ := hgo; exact ⟨t, o, castTop (ef_rm12 m ob) h1, h2⟩
  show Go p e below s _ _ _ (s₁.setTop (mkF m 0 #[.val (.ref ob)] []))
  refine Go.st (fun _ k' => XS.aloadN X0.here hx rfl (hb hby d12_0) rfl rfl k') ?_
  show Go p e below s _ _ _ (s₁.setTop (mkF m 1 #[.val (.ref ob)] [(.ref ob)]))
  obtain ⟨T1, X1, e1, st1⟩ := getF X0 hx hZ hown (host := "") (Or.inl (wdx hw 46 rfl)) Via.refl e0 Fh (g := (mkF m 1 #[.val (.ref ob)] [(.ref ob)])) rfl rfl (hb hby d12_1)
  refine Go.st st1 ?_
  show Go p e below s _ _ _ (T1.setTop (mkF m 4 #[.val (.ref ob)] [(.ref hs)]))
  refine Go.ret X1 hx hlk (t := (.object "com/example/spillway/spillway/assignment/HealthStatus")) Bd.returns rfl (Or.inr (Or.inr (Or.inr (Or.inr ⟨rfl, rfl, rfl⟩)))) (hb hby d12_4) (by decide) (by decide) e1 ?_
  exact ⟨rfl, N0, rfl⟩
theorem d14_0 : decode prog_13_method_7_code 0 = .ok (.aload_n 0, 1) := by decide +kernel
theorem d14_1 : decode prog_13_method_7_code 1 = .ok (.getfield 18, 3) := by decide +kernel
theorem d14_4 : decode prog_13_method_7_code 4 = .ok (.ireturn, 1) := by decide +kernel
theorem ef_rm14 (m : MethodId) (ob : Addr) : entryFrame m #[(.ref ob)] 1 = mkF m 0 #[.val (.ref ob)] [] := by first | (simp [entryFrame, mkF, argsToLocals, Value.category]; done) | rfl
def Q14 (Z : State) (ob : Addr) (xx : Int32) (h0 : Heap) (n0 : Nat) (v : Option Value) (h : Heap) (L : List Loc) : Prop := v = some (.int xx) ∧ Fr n0 L ∧ h = h0
set_option maxRecDepth 65536 in
set_option maxHeartbeats 40000000 in
theorem rm14 (l : Launch) (Z : State) (a0 : Array Value) (hw : ∀ d ∈ tables_1, d.before a0 Z = true) (ws : List Jvm.Cond) (ob : Addr) (xx : Int32) (h0 : Heap) (n0 : Nat) (O0 : Old Z n0 h0) (Fx : Fld Z h0 ob "com/example/spillway/spillway/assignment/HealthTally" "hosts" "I" (.int xx)) :
    MetFree l mn1 (head1 (Jvm.Cond.code mn1 prog_13_method_7_code 1 (some .int) :: ws) ({ frames := 0, cells := 0, slots := 0, locals := 0 } : Room)) (fun ay U => ay = #[(.ref ob)] ∧ Z.Warmed39 U.vm ∧ U.heap = h0) (fun _ _ _ _ _ => True) (fun _ U o U' => ∃ v L, o = .returned v ∧ Q14 Z ob xx h0 n0 v U'.heap L ∧ FrameEnd U o U' L ({ frames := 0, cells := 0, slots := 0, locals := 0 } : Room).cells ({ frames := 0, cells := 0, slots := 0, locals := 0 } : Room).slots) := by
  refine MetFree.of_bodySF (plainFor_of_name pn_com_example_spillway_spillway_assignment_HealthTally) hisR ?_
  intro p e s m args below meth c s₁ Bd hml0 hP hK
  obtain ⟨rfl, hZ, hh⟩ := hP
  have hx := Bd.exec
  have hby := Bd.bytes
  have hlk : meth.locks = false := BodyLoose.notSynchronized Bd
  have hml : c.maxLocals = 1 := hml0
  have hown : s.vm.findClass "com/example/spillway/spillway/assignment/HealthTally" = some m.cls := findClass_of_methodNamed Bd.named
  have hnm := (name_of_methodNamed Bd.named Bd.method).1
  have X0 : Stand p l e ({ frames := 0, cells := 0, slots := 0, locals := 0 } : Room) s m #[(.ref ob)] below meth c s₁ [] 0 0 := Stand.of_body Bd
  have e0 : s₁.heap = h0 := by rw [← hh, Bd.state]; rfl
  have N0 := Fr.nil n0
  suffices hgo : Go p e below s 0 0 (Q14 Z ob xx h0 n0) (s₁.setTop (mkF m 0 #[.val (.ref ob)] [])) by
    obtain ⟨t, o, h1, h2⟩ := hgo; exact ⟨t, o, castTop (ef_rm14 m ob) h1, h2⟩
  show Go p e below s _ _ _ (s₁.setTop (mkF m 0 #[.val (.ref ob)] []))
  refine Go.st (fun _ k' => XS.aloadN X0.here hx rfl (hb hby d14_0) rfl rfl k') ?_
  show Go p e below s _ _ _ (s₁.setTop (mkF m 1 #[.val (.ref ob)] [(.ref ob)]))
  obtain ⟨T1, X1, e1, st1⟩ := getF X0 hx hZ hown (host := "") (Or.inl (wdx hw 73 rfl)) Via.refl e0 Fx (g := (mkF m 1 #[.val (.ref ob)] [(.ref ob)])) rfl rfl (hb hby d14_1)
  refine Go.st st1 ?_
  show Go p e below s _ _ _ (T1.setTop (mkF m 4 #[.val (.ref ob)] [(.int xx)]))
  refine Go.ret X1 hx hlk (t := .int) Bd.returns rfl (Or.inl ⟨rfl, Or.inl rfl, _, rfl⟩) (hb hby d14_4) (by decide) (by decide) e1 ?_
  exact ⟨rfl, N0, rfl⟩
theorem d15_0 : decode prog_13_method_8_code 0 = .ok (.aload_n 0, 1) := by decide +kernel
theorem d15_1 : decode prog_13_method_8_code 1 = .ok (.getfield 22, 3) := by decide +kernel
theorem d15_4 : decode prog_13_method_8_code 4 = .ok (.ireturn, 1) := by decide +kernel
theorem ef_rm15 (m : MethodId) (ob : Addr) : entryFrame m #[(.ref ob)] 1 = mkF m 0 #[.val (.ref ob)] [] := by first | (simp [entryFrame, mkF, argsToLocals, Value.category]; done) | rfl
def Q15 (Z : State) (ob : Addr) (xx : Int32) (h0 : Heap) (n0 : Nat) (v : Option Value) (h : Heap) (L : List Loc) : Prop := v = some (.int xx) ∧ Fr n0 L ∧ h = h0
set_option maxRecDepth 65536 in
set_option maxHeartbeats 40000000 in
theorem rm15 (l : Launch) (Z : State) (a0 : Array Value) (hw : ∀ d ∈ tables_1, d.before a0 Z = true) (ws : List Jvm.Cond) (ob : Addr) (xx : Int32) (h0 : Heap) (n0 : Nat) (O0 : Old Z n0 h0) (Fx : Fld Z h0 ob "com/example/spillway/spillway/assignment/HealthTally" "healthy" "I" (.int xx)) :
    MetFree l mn2 (head1 (Jvm.Cond.code mn2 prog_13_method_8_code 1 (some .int) :: ws) ({ frames := 0, cells := 0, slots := 0, locals := 0 } : Room)) (fun ay U => ay = #[(.ref ob)] ∧ Z.Warmed39 U.vm ∧ U.heap = h0) (fun _ _ _ _ _ => True) (fun _ U o U' => ∃ v L, o = .returned v ∧ Q15 Z ob xx h0 n0 v U'.heap L ∧ FrameEnd U o U' L ({ frames := 0, cells := 0, slots := 0, locals := 0 } : Room).cells ({ frames := 0, cells := 0, slots := 0, locals := 0 } : Room).slots) := by
  refine MetFree.of_bodySF (plainFor_of_name pn_com_example_spillway_spillway_assignment_HealthTally) hisR ?_
  intro p e s m args below meth c s₁ Bd hml0 hP hK
  obtain ⟨rfl, hZ, hh⟩ := hP
  have hx := Bd.exec
  have hby := Bd.bytes
  have hlk : meth.locks = false := BodyLoose.notSynchronized Bd
  have hml : c.maxLocals = 1 := hml0
  have hown : s.vm.findClass "com/example/spillway/spillway/assignment/HealthTally" = some m.cls := findClass_of_methodNamed Bd.named
  have hnm := (name_of_methodNamed Bd.named Bd.method).1
  have X0 : Stand p l e ({ frames := 0, cells := 0, slots := 0, locals := 0 } : Room) s m #[(.ref ob)] below meth c s₁ [] 0 0 := Stand.of_body Bd
  have e0 : s₁.heap = h0 := by rw [← hh, Bd.state]; rfl
  have N0 := Fr.nil n0
  suffices hgo : Go p e below s 0 0 (Q15 Z ob xx h0 n0) (s₁.setTop (mkF m 0 #[.val (.ref ob)] [])) by
    obtain ⟨t, o, h1, h2⟩ := hgo; exact ⟨t, o, castTop (ef_rm15 m ob) h1, h2⟩
  show Go p e below s _ _ _ (s₁.setTop (mkF m 0 #[.val (.ref ob)] []))
  refine Go.st (fun _ k' => XS.aloadN X0.here hx rfl (hb hby d15_0) rfl rfl k') ?_
  show Go p e below s _ _ _ (s₁.setTop (mkF m 1 #[.val (.ref ob)] [(.ref ob)]))
  obtain ⟨T1, X1, e1, st1⟩ := getF X0 hx hZ hown (host := "") (Or.inl (wdx hw 89 rfl)) Via.refl e0 Fx (g := (mkF m 1 #[.val (.ref ob)] [(.ref ob)])) rfl rfl (hb hby d15_1)
  refine Go.st st1 ?_
  show Go p e below s _ _ _ (T1.setTop (mkF m 4 #[.val (.ref ob)] [(.int xx)]))
  refine Go.ret X1 hx hlk (t := .int) Bd.returns rfl (Or.inl ⟨rfl, Or.inl rfl, _, rfl⟩) (hb hby d15_4) (by decide) (by decide) e1 ?_
  exact ⟨rfl, N0, rfl⟩
theorem d16_0 : decode prog_13_method_9_code 0 = .ok (.aload_n 0, 1) := by decide +kernel
theorem d16_1 : decode prog_13_method_9_code 1 = .ok (.getfield 25, 3) := by decide +kernel
theorem d16_4 : decode prog_13_method_9_code 4 = .ok (.ireturn, 1) := by decide +kernel
theorem ef_rm16 (m : MethodId) (ob : Addr) : entryFrame m #[(.ref ob)] 1 = mkF m 0 #[.val (.ref ob)] [] := by first | (simp [entryFrame, mkF, argsToLocals, Value.category]; done) | rfl
def Q16 (Z : State) (ob : Addr) (xx : Int32) (h0 : Heap) (n0 : Nat) (v : Option Value) (h : Heap) (L : List Loc) : Prop := v = some (.int xx) ∧ Fr n0 L ∧ h = h0
set_option maxRecDepth 65536 in
set_option maxHeartbeats 40000000 in
theorem rm16 (l : Launch) (Z : State) (a0 : Array Value) (hw : ∀ d ∈ tables_1, d.before a0 Z = true) (ws : List Jvm.Cond) (ob : Addr) (xx : Int32) (h0 : Heap) (n0 : Nat) (O0 : Old Z n0 h0) (Fx : Fld Z h0 ob "com/example/spillway/spillway/assignment/HealthTally" "degraded" "I" (.int xx)) :
    MetFree l mn3 (head1 (Jvm.Cond.code mn3 prog_13_method_9_code 1 (some .int) :: ws) ({ frames := 0, cells := 0, slots := 0, locals := 0 } : Room)) (fun ay U => ay = #[(.ref ob)] ∧ Z.Warmed39 U.vm ∧ U.heap = h0) (fun _ _ _ _ _ => True) (fun _ U o U' => ∃ v L, o = .returned v ∧ Q16 Z ob xx h0 n0 v U'.heap L ∧ FrameEnd U o U' L ({ frames := 0, cells := 0, slots := 0, locals := 0 } : Room).cells ({ frames := 0, cells := 0, slots := 0, locals := 0 } : Room).slots) := by
  refine MetFree.of_bodySF (plainFor_of_name pn_com_example_spillway_spillway_assignment_HealthTally) hisR ?_
  intro p e s m args below meth c s₁ Bd hml0 hP hK
  obtain ⟨rfl, hZ, hh⟩ := hP
  have hx := Bd.exec
  have hby := Bd.bytes
  have hlk : meth.locks = false := BodyLoose.notSynchronized Bd
  have hml : c.maxLocals = 1 := hml0
  have hown : s.vm.findClass "com/example/spillway/spillway/assignment/HealthTally" = some m.cls := findClass_of_methodNamed Bd.named
  have hnm := (name_of_methodNamed Bd.named Bd.method).1
  have X0 : Stand p l e ({ frames := 0, cells := 0, slots := 0, locals := 0 } : Room) s m #[(.ref ob)] below meth c s₁ [] 0 0 := Stand.of_body Bd
  have e0 : s₁.heap = h0 := by rw [← hh, Bd.state]; rfl
  have N0 := Fr.nil n0
  suffices hgo : Go p e below s 0 0 (Q16 Z ob xx h0 n0) (s₁.setTop (mkF m 0 #[.val (.ref ob)] [])) by
    obtain ⟨t, o, h1, h2⟩ := hgo; exact ⟨t, o, castTop (ef_rm16 m ob) h1, h2⟩
  show Go p e below s _ _ _ (s₁.setTop (mkF m 0 #[.val (.ref ob)] []))
  refine Go.st (fun _ k' => XS.aloadN X0.here hx rfl (hb hby d16_0) rfl rfl k') ?_
  show Go p e below s _ _ _ (s₁.setTop (mkF m 1 #[.val (.ref ob)] [(.ref ob)]))
  obtain ⟨T1, X1, e1, st1⟩ := getF X0 hx hZ hown (host := "") (Or.inl (wdx hw 108 rfl)) Via.refl e0 Fx (g := (mkF m 1 #[.val (.ref ob)] [(.ref ob)])) rfl rfl (hb hby d16_1)
  refine Go.st st1 ?_
  show Go p e below s _ _ _ (T1.setTop (mkF m 4 #[.val (.ref ob)] [(.int xx)]))
  refine Go.ret X1 hx hlk (t := .int) Bd.returns rfl (Or.inl ⟨rfl, Or.inl rfl, _, rfl⟩) (hb hby d16_4) (by decide) (by decide) e1 ?_
  exact ⟨rfl, N0, rfl⟩
theorem d17_0 : decode prog_13_method_10_code 0 = .ok (.aload_n 0, 1) := by decide +kernel
theorem d17_1 : decode prog_13_method_10_code 1 = .ok (.getfield 28, 3) := by decide +kernel
theorem d17_4 : decode prog_13_method_10_code 4 = .ok (.lreturn, 1) := by decide +kernel
theorem ef_rm17 (m : MethodId) (ob : Addr) : entryFrame m #[(.ref ob)] 1 = mkF m 0 #[.val (.ref ob)] [] := by first | (simp [entryFrame, mkF, argsToLocals, Value.category]; done) | rfl
def Q17 (Z : State) (ob : Addr) (xx : Int64) (h0 : Heap) (n0 : Nat) (v : Option Value) (h : Heap) (L : List Loc) : Prop := v = some (.long xx) ∧ Fr n0 L ∧ h = h0
set_option maxRecDepth 65536 in
set_option maxHeartbeats 40000000 in
theorem rm17 (l : Launch) (Z : State) (a0 : Array Value) (hw : ∀ d ∈ tables_1, d.before a0 Z = true) (ws : List Jvm.Cond) (ob : Addr) (xx : Int64) (h0 : Heap) (n0 : Nat) (O0 : Old Z n0 h0) (Fx : Fld Z h0 ob "com/example/spillway/spillway/assignment/HealthTally" "hostWeight" "J" (.long xx)) :
    MetFree l mn4 (head1 (Jvm.Cond.code mn4 prog_13_method_10_code 1 (some .long) :: ws) ({ frames := 0, cells := 0, slots := 0, locals := 0 } : Room)) (fun ay U => ay = #[(.ref ob)] ∧ Z.Warmed39 U.vm ∧ U.heap = h0) (fun _ _ _ _ _ => True) (fun _ U o U' => ∃ v L, o = .returned v ∧ Q17 Z ob xx h0 n0 v U'.heap L ∧ FrameEnd U o U' L ({ frames := 0, cells := 0, slots := 0, locals := 0 } : Room).cells ({ frames := 0, cells := 0, slots := 0, locals := 0 } : Room).slots) := by
  refine MetFree.of_bodySF (plainFor_of_name pn_com_example_spillway_spillway_assignment_HealthTally) hisR ?_
  intro p e s m args below meth c s₁ Bd hml0 hP hK
  obtain ⟨rfl, hZ, hh⟩ := hP
  have hx := Bd.exec
  have hby := Bd.bytes
  have hlk : meth.locks = false := BodyLoose.notSynchronized Bd
  have hml : c.maxLocals = 1 := hml0
  have hown : s.vm.findClass "com/example/spillway/spillway/assignment/HealthTally" = some m.cls := findClass_of_methodNamed Bd.named
  have hnm := (name_of_methodNamed Bd.named Bd.method).1
  have X0 : Stand p l e ({ frames := 0, cells := 0, slots := 0, locals := 0 } : Room) s m #[(.ref ob)] below meth c s₁ [] 0 0 := Stand.of_body Bd
  have e0 : s₁.heap = h0 := by rw [← hh, Bd.state]; rfl
  have N0 := Fr.nil n0
  suffices hgo : Go p e below s 0 0 (Q17 Z ob xx h0 n0) (s₁.setTop (mkF m 0 #[.val (.ref ob)] [])) by
    obtain ⟨t, o, h1, h2⟩ := hgo; exact ⟨t, o, castTop (ef_rm17 m ob) h1, h2⟩
  show Go p e below s _ _ _ (s₁.setTop (mkF m 0 #[.val (.ref ob)] []))
  refine Go.st (fun _ k' => XS.aloadN X0.here hx rfl (hb hby d17_0) rfl rfl k') ?_
  show Go p e below s _ _ _ (s₁.setTop (mkF m 1 #[.val (.ref ob)] [(.ref ob)]))
  obtain ⟨T1, X1, e1, st1⟩ := getF X0 hx hZ hown (host := "") (Or.inl (wdx hw 75 rfl)) Via.refl e0 Fx (g := (mkF m 1 #[.val (.ref ob)] [(.ref ob)])) rfl rfl (hb hby d17_1)
  refine Go.st st1 ?_
  show Go p e below s _ _ _ (T1.setTop (mkF m 4 #[.val (.ref ob)] [(.long xx)]))
  refine Go.ret X1 hx hlk (t := .long) Bd.returns rfl (Or.inr (Or.inl ⟨rfl, rfl, _, rfl⟩)) (hb hby d17_4) (by decide) (by decide) e1 ?_
  exact ⟨rfl, N0, rfl⟩
theorem d18_0 : decode prog_13_method_11_code 0 = .ok (.aload_n 0, 1) := by decide +kernel
theorem d18_1 : decode prog_13_method_11_code 1 = .ok (.getfield 32, 3) := by decide +kernel
theorem d18_4 : decode prog_13_method_11_code 4 = .ok (.lreturn, 1) := by decide +kernel
theorem ef_rm18 (m : MethodId) (ob : Addr) : entryFrame m #[(.ref ob)] 1 = mkF m 0 #[.val (.ref ob)] [] := by first | (simp [entryFrame, mkF, argsToLocals, Value.category]; done) | rfl
def Q18 (Z : State) (ob : Addr) (xx : Int64) (h0 : Heap) (n0 : Nat) (v : Option Value) (h : Heap) (L : List Loc) : Prop := v = some (.long xx) ∧ Fr n0 L ∧ h = h0
set_option maxRecDepth 65536 in
set_option maxHeartbeats 40000000 in
theorem rm18 (l : Launch) (Z : State) (a0 : Array Value) (hw : ∀ d ∈ tables_1, d.before a0 Z = true) (ws : List Jvm.Cond) (ob : Addr) (xx : Int64) (h0 : Heap) (n0 : Nat) (O0 : Old Z n0 h0) (Fx : Fld Z h0 ob "com/example/spillway/spillway/assignment/HealthTally" "healthyWeight" "J" (.long xx)) :
    MetFree l mn5 (head1 (Jvm.Cond.code mn5 prog_13_method_11_code 1 (some .long) :: ws) ({ frames := 0, cells := 0, slots := 0, locals := 0 } : Room)) (fun ay U => ay = #[(.ref ob)] ∧ Z.Warmed39 U.vm ∧ U.heap = h0) (fun _ _ _ _ _ => True) (fun _ U o U' => ∃ v L, o = .returned v ∧ Q18 Z ob xx h0 n0 v U'.heap L ∧ FrameEnd U o U' L ({ frames := 0, cells := 0, slots := 0, locals := 0 } : Room).cells ({ frames := 0, cells := 0, slots := 0, locals := 0 } : Room).slots) := by
  refine MetFree.of_bodySF (plainFor_of_name pn_com_example_spillway_spillway_assignment_HealthTally) hisR ?_
  intro p e s m args below meth c s₁ Bd hml0 hP hK
  obtain ⟨rfl, hZ, hh⟩ := hP
  have hx := Bd.exec
  have hby := Bd.bytes
  have hlk : meth.locks = false := BodyLoose.notSynchronized Bd
  have hml : c.maxLocals = 1 := hml0
  have hown : s.vm.findClass "com/example/spillway/spillway/assignment/HealthTally" = some m.cls := findClass_of_methodNamed Bd.named
  have hnm := (name_of_methodNamed Bd.named Bd.method).1
  have X0 : Stand p l e ({ frames := 0, cells := 0, slots := 0, locals := 0 } : Room) s m #[(.ref ob)] below meth c s₁ [] 0 0 := Stand.of_body Bd
  have e0 : s₁.heap = h0 := by rw [← hh, Bd.state]; rfl
  have N0 := Fr.nil n0
  suffices hgo : Go p e below s 0 0 (Q18 Z ob xx h0 n0) (s₁.setTop (mkF m 0 #[.val (.ref ob)] [])) by
    obtain ⟨t, o, h1, h2⟩ := hgo; exact ⟨t, o, castTop (ef_rm18 m ob) h1, h2⟩
  show Go p e below s _ _ _ (s₁.setTop (mkF m 0 #[.val (.ref ob)] []))
  refine Go.st (fun _ k' => XS.aloadN X0.here hx rfl (hb hby d18_0) rfl rfl k') ?_
  show Go p e below s _ _ _ (s₁.setTop (mkF m 1 #[.val (.ref ob)] [(.ref ob)]))
  obtain ⟨T1, X1, e1, st1⟩ := getF X0 hx hZ hown (host := "") (Or.inl (wdx hw 91 rfl)) Via.refl e0 Fx (g := (mkF m 1 #[.val (.ref ob)] [(.ref ob)])) rfl rfl (hb hby d18_1)
  refine Go.st st1 ?_
  show Go p e below s _ _ _ (T1.setTop (mkF m 4 #[.val (.ref ob)] [(.long xx)]))
  refine Go.ret X1 hx hlk (t := .long) Bd.returns rfl (Or.inr (Or.inl ⟨rfl, rfl, _, rfl⟩)) (hb hby d18_4) (by decide) (by decide) e1 ?_
  exact ⟨rfl, N0, rfl⟩
theorem d19_0 : decode prog_13_method_12_code 0 = .ok (.aload_n 0, 1) := by decide +kernel
theorem d19_1 : decode prog_13_method_12_code 1 = .ok (.getfield 35, 3) := by decide +kernel
theorem d19_4 : decode prog_13_method_12_code 4 = .ok (.lreturn, 1) := by decide +kernel
theorem ef_rm19 (m : MethodId) (ob : Addr) : entryFrame m #[(.ref ob)] 1 = mkF m 0 #[.val (.ref ob)] [] := by first | (simp [entryFrame, mkF, argsToLocals, Value.category]; done) | rfl
def Q19 (Z : State) (ob : Addr) (xx : Int64) (h0 : Heap) (n0 : Nat) (v : Option Value) (h : Heap) (L : List Loc) : Prop := v = some (.long xx) ∧ Fr n0 L ∧ h = h0
set_option maxRecDepth 65536 in
set_option maxHeartbeats 40000000 in
theorem rm19 (l : Launch) (Z : State) (a0 : Array Value) (hw : ∀ d ∈ tables_1, d.before a0 Z = true) (ws : List Jvm.Cond) (ob : Addr) (xx : Int64) (h0 : Heap) (n0 : Nat) (O0 : Old Z n0 h0) (Fx : Fld Z h0 ob "com/example/spillway/spillway/assignment/HealthTally" "degradedWeight" "J" (.long xx)) :
    MetFree l mn6 (head1 (Jvm.Cond.code mn6 prog_13_method_12_code 1 (some .long) :: ws) ({ frames := 0, cells := 0, slots := 0, locals := 0 } : Room)) (fun ay U => ay = #[(.ref ob)] ∧ Z.Warmed39 U.vm ∧ U.heap = h0) (fun _ _ _ _ _ => True) (fun _ U o U' => ∃ v L, o = .returned v ∧ Q19 Z ob xx h0 n0 v U'.heap L ∧ FrameEnd U o U' L ({ frames := 0, cells := 0, slots := 0, locals := 0 } : Room).cells ({ frames := 0, cells := 0, slots := 0, locals := 0 } : Room).slots) := by
  refine MetFree.of_bodySF (plainFor_of_name pn_com_example_spillway_spillway_assignment_HealthTally) hisR ?_
  intro p e s m args below meth c s₁ Bd hml0 hP hK
  obtain ⟨rfl, hZ, hh⟩ := hP
  have hx := Bd.exec
  have hby := Bd.bytes
  have hlk : meth.locks = false := BodyLoose.notSynchronized Bd
  have hml : c.maxLocals = 1 := hml0
  have hown : s.vm.findClass "com/example/spillway/spillway/assignment/HealthTally" = some m.cls := findClass_of_methodNamed Bd.named
  have hnm := (name_of_methodNamed Bd.named Bd.method).1
  have X0 : Stand p l e ({ frames := 0, cells := 0, slots := 0, locals := 0 } : Room) s m #[(.ref ob)] below meth c s₁ [] 0 0 := Stand.of_body Bd
  have e0 : s₁.heap = h0 := by rw [← hh, Bd.state]; rfl
  have N0 := Fr.nil n0
  suffices hgo : Go p e below s 0 0 (Q19 Z ob xx h0 n0) (s₁.setTop (mkF m 0 #[.val (.ref ob)] [])) by
    obtain ⟨t, o, h1, h2⟩ := hgo; exact ⟨t, o, castTop (ef_rm19 m ob) h1, h2⟩
  show Go p e below s _ _ _ (s₁.setTop (mkF m 0 #[.val (.ref ob)] []))
  refine Go.st (fun _ k' => XS.aloadN X0.here hx rfl (hb hby d19_0) rfl rfl k') ?_
  show Go p e below s _ _ _ (s₁.setTop (mkF m 1 #[.val (.ref ob)] [(.ref ob)]))
  obtain ⟨T1, X1, e1, st1⟩ := getF X0 hx hZ hown (host := "") (Or.inl (wdx hw 125 rfl)) Via.refl e0 Fx (g := (mkF m 1 #[.val (.ref ob)] [(.ref ob)])) rfl rfl (hb hby d19_1)
  refine Go.st st1 ?_
  show Go p e below s _ _ _ (T1.setTop (mkF m 4 #[.val (.ref ob)] [(.long xx)]))
  refine Go.ret X1 hx hlk (t := .long) Bd.returns rfl (Or.inr (Or.inl ⟨rfl, rfl, _, rfl⟩)) (hb hby d19_4) (by decide) (by decide) e1 ?_
  exact ⟨rfl, N0, rfl⟩
theorem d13_0 : decode prog_12_method_4_code 0 = .ok (.aload_n 0, 1) := by decide +kernel
theorem d13_1 : decode prog_12_method_4_code 1 = .ok (.getstatic 7, 3) := by decide +kernel
theorem d13_4 : decode prog_12_method_4_code 4 = .ok (.if_acmp .eq 10, 3) := by decide +kernel
theorem d13_14 : decode prog_12_method_4_code 14 = .ok (.iconst 1, 1) := by decide +kernel
theorem d13_15 : decode prog_12_method_4_code 15 = .ok (.goto 4, 3) := by decide +kernel
theorem d13_19 : decode prog_12_method_4_code 19 = .ok (.ireturn, 1) := by decide +kernel
theorem d13_7 : decode prog_12_method_4_code 7 = .ok (.aload_n 0, 1) := by decide +kernel
theorem d13_8 : decode prog_12_method_4_code 8 = .ok (.getstatic 3, 3) := by decide +kernel
theorem d13_11 : decode prog_12_method_4_code 11 = .ok (.if_acmp .ne 7, 3) := by decide +kernel
theorem d13_18 : decode prog_12_method_4_code 18 = .ok (.iconst 0, 1) := by decide +kernel
theorem pn_com_example_spillway_spillway_assignment_HealthStatus : plainName "com/example/spillway/spillway/assignment/HealthStatus" = true := by first | (simp [plainName, overriddenIn]; done) | decide +kernel
theorem ef_rm13 (m : MethodId) (hs : Addr) : entryFrame m #[(.ref hs)] 1 = mkF m 0 #[.val (.ref hs)] [] := by first | (simp [entryFrame, mkF, argsToLocals, Value.category]; done) | rfl
def Q13 (Z : State) (hs : Addr) (a_UNKNOWN : Addr) (a_HEALTHY : Addr) (h0 : Heap) (n0 : Nat) (v : Option Value) (h : Heap) (L : List Loc) : Prop := v = some (.int (if hs = a_HEALTHY then (1 : Int32) else if hs = a_UNKNOWN then 1 else 0)) ∧ Fr n0 L ∧ h = h0
set_option maxRecDepth 65536 in
set_option maxHeartbeats 40000000 in
theorem rm13 (l : Launch) (Z : State) (a0 : Array Value) (hw : ∀ d ∈ tables_1, d.before a0 Z = true) (ws : List Jvm.Cond) (hs : Addr) (a_UNKNOWN : Addr) (a_HEALTHY : Addr) (h0 : Heap) (n0 : Nat) (O0 : Old Z n0 h0) (S_UNKNOWN : Sta Z Z.heap "com/example/spillway/spillway/assignment/HealthStatus" "UNKNOWN" "Lcom/example/spillway/spillway/assignment/HealthStatus;" (.ref a_UNKNOWN)) (S_HEALTHY : Sta Z Z.heap "com/example/spillway/spillway/assignment/HealthStatus" "HEALTHY" "Lcom/example/spillway/spillway/assignment/HealthStatus;" (.ref a_HEALTHY)) :
    MetFree l mn12 (head1 (Jvm.Cond.code mn12 prog_12_method_4_code 1 (some .boolean) :: ws) ({ frames := 0, cells := 0, slots := 0, locals := 0 } : Room)) (fun ay U => ay = #[(.ref hs)] ∧ Z.Warmed39 U.vm ∧ U.heap = h0) (fun _ _ _ _ _ => True) (fun _ U o U' => ∃ v L, o = .returned v ∧ Q13 Z hs a_UNKNOWN a_HEALTHY h0 n0 v U'.heap L ∧ FrameEnd U o U' L ({ frames := 0, cells := 0, slots := 0, locals := 0 } : Room).cells ({ frames := 0, cells := 0, slots := 0, locals := 0 } : Room).slots) := by
  refine MetFree.of_bodySF (plainFor_of_name pn_com_example_spillway_spillway_assignment_HealthStatus) hisR ?_
  intro p e s m args below meth c s₁ Bd hml0 hP hK
  obtain ⟨rfl, hZ, hh⟩ := hP
  have hx := Bd.exec
  have hby := Bd.bytes
  have hlk : meth.locks = false := BodyLoose.notSynchronized Bd
  have hml : c.maxLocals = 1 := hml0
  have hown : s.vm.findClass "com/example/spillway/spillway/assignment/HealthStatus" = some m.cls := findClass_of_methodNamed Bd.named
  have hnm := (name_of_methodNamed Bd.named Bd.method).1
  have X0 : Stand p l e ({ frames := 0, cells := 0, slots := 0, locals := 0 } : Room) s m #[(.ref hs)] below meth c s₁ [] 0 0 := Stand.of_body Bd
  have e0 : s₁.heap = h0 := by rw [← hh, Bd.state]; rfl
  have N0 := Fr.nil n0
  suffices hgo : Go p e below s 0 0 (Q13 Z hs a_UNKNOWN a_HEALTHY h0 n0) (s₁.setTop (mkF m 0 #[.val (.ref hs)] [])) by
    obtain ⟨t, o, h1, h2⟩ := hgo; exact ⟨t, o, castTop (ef_rm13 m hs) h1, h2⟩
  show Go p e below s _ _ _ (s₁.setTop (mkF m 0 #[.val (.ref hs)] []))
  refine Go.st (fun _ k' => XS.aloadN X0.here hx rfl (hb hby d13_0) rfl rfl k') ?_
  show Go p e below s _ _ _ (s₁.setTop (mkF m 1 #[.val (.ref hs)] [(.ref hs)]))
  obtain ⟨T1, X1, e1, st1⟩ := getS2 X0 hx hZ hown (host := "") (Or.inl (wdx hw 87 rfl)) Via.refl e0 (S_HEALTHY.ext O0.2) (g := (mkF m 1 #[.val (.ref hs)] [(.ref hs)])) rfl (hb hby d13_1)
  refine Go.st st1 ?_
  show Go p e below s _ _ _ (T1.setTop (mkF m 4 #[.val (.ref hs)] [(.ref a_HEALTHY), (.ref hs)]))
  by_cases hc2 : hs = a_HEALTHY
  · refine Go.st (fun _ k' => Jvm.RoadKit.acmp (g := (mkF m 4 #[.val (.ref hs)] [(.ref a_HEALTHY), (.ref hs)])) X1 hx rfl rfl rfl (pc0 := 4) (pc' := 14) (same := true) rfl (hb hby d13_4) rfl (decide_eq_true (congrArg Value.ref hc2)) (by decide) (by decide) k') ?_
    show Go p e below s _ _ _ (T1.setTop (mkF m 14 #[.val (.ref hs)] []))
    refine Go.st (fun _ k' => XS.iconst X1.here hx rfl (hb hby d13_14) k') ?_
    show Go p e below s _ _ _ (T1.setTop (mkF m 15 #[.val (.ref hs)] [(.int 1)]))
    refine Go.st (fun _ k' => XS.goto X1.here hx rfl (pc0 := 15) (pc' := 19) rfl (hb hby d13_15) (by decide) (by decide) k') ?_
    show Go p e below s _ _ _ (T1.setTop (mkF m 19 #[.val (.ref hs)] [(.int 1)]))
    refine Go.retB X1 hx hlk (t := .boolean) Bd.returns (by simp) (hb hby d13_19) (by decide) (by decide) e1 ?_
    exact ⟨(by simp [nar, hc2]), N0, rfl⟩
  · refine Go.st (fun _ k' => Jvm.RoadKit.acmp (g := (mkF m 4 #[.val (.ref hs)] [(.ref a_HEALTHY), (.ref hs)])) X1 hx rfl rfl rfl (pc0 := 4) (pc' := 7) (same := false) rfl (hb hby d13_4) rfl (decide_eq_false fun q => hc2 (Value.ref.inj q)) (by decide) (by decide) k') ?_
    show Go p e below s _ _ _ (T1.setTop (mkF m 7 #[.val (.ref hs)] []))
    refine Go.st (fun _ k' => XS.aloadN X1.here hx rfl (hb hby d13_7) rfl rfl k') ?_
    show Go p e below s _ _ _ (T1.setTop (mkF m 8 #[.val (.ref hs)] [(.ref hs)]))
    obtain ⟨T3, X3, e3, st3⟩ := getS2 X1 hx hZ hown (host := "") (Or.inl (wdx hw 88 rfl)) Via.refl e1 (S_UNKNOWN.ext O0.2) (g := (mkF m 8 #[.val (.ref hs)] [(.ref hs)])) rfl (hb hby d13_8)
    refine Go.st st3 ?_
    show Go p e below s _ _ _ (T3.setTop (mkF m 11 #[.val (.ref hs)] [(.ref a_UNKNOWN), (.ref hs)]))
    by_cases hc4 : hs = a_UNKNOWN
    · refine Go.st (fun _ k' => Jvm.RoadKit.acmp (g := (mkF m 11 #[.val (.ref hs)] [(.ref a_UNKNOWN), (.ref hs)])) X3 hx rfl rfl rfl (pc0 := 11) (pc' := 14) (same := true) rfl (hb hby d13_11) rfl (decide_eq_true (congrArg Value.ref hc4)) (by decide) (by decide) k') ?_
      show Go p e below s _ _ _ (T3.setTop (mkF m 14 #[.val (.ref hs)] []))
      refine Go.st (fun _ k' => XS.iconst X3.here hx rfl (hb hby d13_14) k') ?_
      show Go p e below s _ _ _ (T3.setTop (mkF m 15 #[.val (.ref hs)] [(.int 1)]))
      refine Go.st (fun _ k' => XS.goto X3.here hx rfl (pc0 := 15) (pc' := 19) rfl (hb hby d13_15) (by decide) (by decide) k') ?_
      show Go p e below s _ _ _ (T3.setTop (mkF m 19 #[.val (.ref hs)] [(.int 1)]))
      refine Go.retB X3 hx hlk (t := .boolean) Bd.returns (by simp) (hb hby d13_19) (by decide) (by decide) e3 ?_
      exact ⟨(by simp [nar, hc2, hc4]), N0, rfl⟩
    · refine Go.st (fun _ k' => Jvm.RoadKit.acmp (g := (mkF m 11 #[.val (.ref hs)] [(.ref a_UNKNOWN), (.ref hs)])) X3 hx rfl rfl rfl (pc0 := 11) (pc' := 18) (same := false) rfl (hb hby d13_11) rfl (decide_eq_false fun q => hc4 (Value.ref.inj q)) (by decide) (by decide) k') ?_
      show Go p e below s _ _ _ (T3.setTop (mkF m 18 #[.val (.ref hs)] []))
      refine Go.st (fun _ k' => XS.iconst X3.here hx rfl (hb hby d13_18) k') ?_
      show Go p e below s _ _ _ (T3.setTop (mkF m 19 #[.val (.ref hs)] [(.int 0)]))
      refine Go.retB X3 hx hlk (t := .boolean) Bd.returns (by simp) (hb hby d13_19) (by decide) (by decide) e3 ?_
      exact ⟨(by simp [nar, hc2, hc4]), N0, rfl⟩
theorem d20_0 : decode prog_12_method_5_code 0 = .ok (.aload_n 0, 1) := by decide +kernel
theorem d20_1 : decode prog_12_method_5_code 1 = .ok (.getstatic 19, 3) := by decide +kernel
theorem d20_4 : decode prog_12_method_5_code 4 = .ok (.if_acmp .ne 7, 3) := by decide +kernel
theorem d20_7 : decode prog_12_method_5_code 7 = .ok (.iconst 1, 1) := by decide +kernel
theorem d20_8 : decode prog_12_method_5_code 8 = .ok (.goto 4, 3) := by decide +kernel
theorem d20_12 : decode prog_12_method_5_code 12 = .ok (.ireturn, 1) := by decide +kernel
theorem d20_11 : decode prog_12_method_5_code 11 = .ok (.iconst 0, 1) := by decide +kernel
theorem ef_rm20 (m : MethodId) (hs : Addr) : entryFrame m #[(.ref hs)] 1 = mkF m 0 #[.val (.ref hs)] [] := by first | (simp [entryFrame, mkF, argsToLocals, Value.category]; done) | rfl
def Q20 (Z : State) (hs : Addr) (a_DEGRADED : Addr) (h0 : Heap) (n0 : Nat) (v : Option Value) (h : Heap) (L : List Loc) : Prop := v = some (.int (if hs = a_DEGRADED then (1 : Int32) else 0)) ∧ Fr n0 L ∧ h = h0
set_option maxRecDepth 65536 in
set_option maxHeartbeats 40000000 in
theorem rm20 (l : Launch) (Z : State) (a0 : Array Value) (hw : ∀ d ∈ tables_1, d.before a0 Z = true) (ws : List Jvm.Cond) (hs : Addr) (a_DEGRADED : Addr) (h0 : Heap) (n0 : Nat) (O0 : Old Z n0 h0) (S_DEGRADED : Sta Z Z.heap "com/example/spillway/spillway/assignment/HealthStatus" "DEGRADED" "Lcom/example/spillway/spillway/assignment/HealthStatus;" (.ref a_DEGRADED)) :
    MetFree l mn14 (head1 (Jvm.Cond.code mn14 prog_12_method_5_code 1 (some .boolean) :: ws) ({ frames := 0, cells := 0, slots := 0, locals := 0 } : Room)) (fun ay U => ay = #[(.ref hs)] ∧ Z.Warmed39 U.vm ∧ U.heap = h0) (fun _ _ _ _ _ => True) (fun _ U o U' => ∃ v L, o = .returned v ∧ Q20 Z hs a_DEGRADED h0 n0 v U'.heap L ∧ FrameEnd U o U' L ({ frames := 0, cells := 0, slots := 0, locals := 0 } : Room).cells ({ frames := 0, cells := 0, slots := 0, locals := 0 } : Room).slots) := by
  refine MetFree.of_bodySF (plainFor_of_name pn_com_example_spillway_spillway_assignment_HealthStatus) hisR ?_
  intro p e s m args below meth c s₁ Bd hml0 hP hK
  obtain ⟨rfl, hZ, hh⟩ := hP
  have hx := Bd.exec
  have hby := Bd.bytes
  have hlk : meth.locks = false := BodyLoose.notSynchronized Bd
  have hml : c.maxLocals = 1 := hml0
  have hown : s.vm.findClass "com/example/spillway/spillway/assignment/HealthStatus" = some m.cls := findClass_of_methodNamed Bd.named
  have hnm := (name_of_methodNamed Bd.named Bd.method).1
  have X0 : Stand p l e ({ frames := 0, cells := 0, slots := 0, locals := 0 } : Room) s m #[(.ref hs)] below meth c s₁ [] 0 0 := Stand.of_body Bd
  have e0 : s₁.heap = h0 := by rw [← hh, Bd.state]; rfl
  have N0 := Fr.nil n0
  suffices hgo : Go p e below s 0 0 (Q20 Z hs a_DEGRADED h0 n0) (s₁.setTop (mkF m 0 #[.val (.ref hs)] [])) by
    obtain ⟨t, o, h1, h2⟩ := hgo; exact ⟨t, o, castTop (ef_rm20 m hs) h1, h2⟩
  show Go p e below s _ _ _ (s₁.setTop (mkF m 0 #[.val (.ref hs)] []))
  refine Go.st (fun _ k' => XS.aloadN X0.here hx rfl (hb hby d20_0) rfl rfl k') ?_
  show Go p e below s _ _ _ (s₁.setTop (mkF m 1 #[.val (.ref hs)] [(.ref hs)]))
  obtain ⟨T1, X1, e1, st1⟩ := getS2 X0 hx hZ hown (host := "") (Or.inl (wdx hw 136 rfl)) Via.refl e0 (S_DEGRADED.ext O0.2) (g := (mkF m 1 #[.val (.ref hs)] [(.ref hs)])) rfl (hb hby d20_1)
  refine Go.st st1 ?_
  show Go p e below s _ _ _ (T1.setTop (mkF m 4 #[.val (.ref hs)] [(.ref a_DEGRADED), (.ref hs)]))
  by_cases hc2 : hs = a_DEGRADED
  · refine Go.st (fun _ k' => Jvm.RoadKit.acmp (g := (mkF m 4 #[.val (.ref hs)] [(.ref a_DEGRADED), (.ref hs)])) X1 hx rfl rfl rfl (pc0 := 4) (pc' := 7) (same := true) rfl (hb hby d20_4) rfl (decide_eq_true (congrArg Value.ref hc2)) (by decide) (by decide) k') ?_
    show Go p e below s _ _ _ (T1.setTop (mkF m 7 #[.val (.ref hs)] []))
    refine Go.st (fun _ k' => XS.iconst X1.here hx rfl (hb hby d20_7) k') ?_
    show Go p e below s _ _ _ (T1.setTop (mkF m 8 #[.val (.ref hs)] [(.int 1)]))
    refine Go.st (fun _ k' => XS.goto X1.here hx rfl (pc0 := 8) (pc' := 12) rfl (hb hby d20_8) (by decide) (by decide) k') ?_
    show Go p e below s _ _ _ (T1.setTop (mkF m 12 #[.val (.ref hs)] [(.int 1)]))
    refine Go.retB X1 hx hlk (t := .boolean) Bd.returns (by simp) (hb hby d20_12) (by decide) (by decide) e1 ?_
    exact ⟨(by simp [nar, hc2]), N0, rfl⟩
  · refine Go.st (fun _ k' => Jvm.RoadKit.acmp (g := (mkF m 4 #[.val (.ref hs)] [(.ref a_DEGRADED), (.ref hs)])) X1 hx rfl rfl rfl (pc0 := 4) (pc' := 11) (same := false) rfl (hb hby d20_4) rfl (decide_eq_false fun q => hc2 (Value.ref.inj q)) (by decide) (by decide) k') ?_
    show Go p e below s _ _ _ (T1.setTop (mkF m 11 #[.val (.ref hs)] []))
    refine Go.st (fun _ k' => XS.iconst X1.here hx rfl (hb hby d20_11) k') ?_
    show Go p e below s _ _ _ (T1.setTop (mkF m 12 #[.val (.ref hs)] [(.int 0)]))
    refine Go.retB X1 hx hlk (t := .boolean) Bd.returns (by simp) (hb hby d20_12) (by decide) (by decide) e1 ?_
    exact ⟨(by simp [nar, hc2]), N0, rfl⟩
theorem d10_0 : decode prog_13_method_6_code 0 = .ok (.iload_n 2, 1) := by decide +kernel
theorem d10_1 : decode prog_13_method_6_code 1 = .ok (.i2l, 1) := by decide +kernel
theorem d10_2 : decode prog_13_method_6_code 2 = .ok (.aload_n 1, 1) := by decide +kernel
theorem pd___J : parseMethodDescriptor "()J" = some ⟨[], some .long⟩ := by decide +kernel
theorem d10_3 : decode prog_13_method_6_code 3 = .ok (.invokevirtual 38, 3) := by decide +kernel
theorem d10_6 : decode prog_13_method_6_code 6 = .ok (.lmul, 1) := by decide +kernel
theorem d10_7 : decode prog_13_method_6_code 7 = .ok (.lstore_n 3, 1) := by decide +kernel
theorem d10_8 : decode prog_13_method_6_code 8 = .ok (.aload_n 0, 1) := by decide +kernel
theorem d10_9 : decode prog_13_method_6_code 9 = .ok (.dup, 1) := by decide +kernel
theorem d10_10 : decode prog_13_method_6_code 10 = .ok (.getfield 18, 3) := by decide +kernel
theorem d10_13 : decode prog_13_method_6_code 13 = .ok (.iload_n 2, 1) := by decide +kernel
theorem d10_14 : decode prog_13_method_6_code 14 = .ok (.iadd, 1) := by decide +kernel
theorem d10_15 : decode prog_13_method_6_code 15 = .ok (.putfield 18, 3) := by decide +kernel
theorem d10_18 : decode prog_13_method_6_code 18 = .ok (.aload_n 0, 1) := by decide +kernel
theorem d10_19 : decode prog_13_method_6_code 19 = .ok (.dup, 1) := by decide +kernel
theorem d10_20 : decode prog_13_method_6_code 20 = .ok (.getfield 28, 3) := by decide +kernel
theorem d10_23 : decode prog_13_method_6_code 23 = .ok (.lload_n 3, 1) := by decide +kernel
theorem d10_24 : decode prog_13_method_6_code 24 = .ok (.ladd, 1) := by decide +kernel
theorem d10_25 : decode prog_13_method_6_code 25 = .ok (.putfield 28, 3) := by decide +kernel
theorem d10_28 : decode prog_13_method_6_code 28 = .ok (.aload_n 1, 1) := by decide +kernel
theorem pd___Lcom_example_spillway_spillway_assignment_HealthStatus_ : parseMethodDescriptor "()Lcom/example/spillway/spillway/assignment/HealthStatus;" = some ⟨[], some (.object "com/example/spillway/spillway/assignment/HealthStatus")⟩ := by decide +kernel
theorem d10_29 : decode prog_13_method_6_code 29 = .ok (.invokevirtual 44, 3) := by decide +kernel
theorem pd___Z : parseMethodDescriptor "()Z" = some ⟨[], some .boolean⟩ := by decide +kernel
theorem d10_32 : decode prog_13_method_6_code 32 = .ok (.invokevirtual 48, 3) := by decide +kernel
theorem d10_35 : decode prog_13_method_6_code 35 = .ok (.ifCond .eq 26, 3) := by decide +kernel
theorem d10_38 : decode prog_13_method_6_code 38 = .ok (.aload_n 0, 1) := by decide +kernel
theorem d10_39 : decode prog_13_method_6_code 39 = .ok (.dup, 1) := by decide +kernel
theorem d10_40 : decode prog_13_method_6_code 40 = .ok (.getfield 22, 3) := by decide +kernel
theorem d10_43 : decode prog_13_method_6_code 43 = .ok (.iload_n 2, 1) := by decide +kernel
theorem d10_44 : decode prog_13_method_6_code 44 = .ok (.iadd, 1) := by decide +kernel
theorem d10_45 : decode prog_13_method_6_code 45 = .ok (.putfield 22, 3) := by decide +kernel
theorem d10_48 : decode prog_13_method_6_code 48 = .ok (.aload_n 0, 1) := by decide +kernel
theorem d10_49 : decode prog_13_method_6_code 49 = .ok (.dup, 1) := by decide +kernel
theorem d10_50 : decode prog_13_method_6_code 50 = .ok (.getfield 32, 3) := by decide +kernel
theorem d10_53 : decode prog_13_method_6_code 53 = .ok (.lload_n 3, 1) := by decide +kernel
theorem d10_54 : decode prog_13_method_6_code 54 = .ok (.ladd, 1) := by decide +kernel
theorem d10_55 : decode prog_13_method_6_code 55 = .ok (.putfield 32, 3) := by decide +kernel
theorem d10_58 : decode prog_13_method_6_code 58 = .ok (.goto 33, 3) := by decide +kernel
theorem d10_91 : decode prog_13_method_6_code 91 = .ok (.return_, 1) := by decide +kernel
theorem ef_rm10_h (m : MethodId) (ob : Addr) (oe : Addr) : entryFrame m #[(.ref ob), (.ref oe), (.int 1)] 5 = mkF m 0 #[.val (.ref ob), .val (.ref oe), .val (.int 1), .unset, .unset] [] := by first | (simp [entryFrame, mkF, argsToLocals, Value.category]; done) | rfl
def Q10_h (Z : State) (ob : Addr) (oe : Addr) (xa : Int32) (xb : Int32) (xc : Int32) (ya : Int64) (yb : Int64) (yc : Int64) (hs : Addr) (ww : Int64) (a_UNKNOWN : Addr) (a_HEALTHY : Addr) (a_DEGRADED : Addr) (h0 : Heap) (n0 : Nat) (v : Option Value) (h : Heap) (L : List Loc) : Prop := v = none ∧ Fr n0 L ∧ Keep h0 h [ob] ∧ Fld Z h ob "com/example/spillway/spillway/assignment/HealthTally" "hosts" "I" (.int (xa + (1 : Int32))) ∧ Fld Z h ob "com/example/spillway/spillway/assignment/HealthTally" "healthy" "I" (.int (xb + (1 : Int32))) ∧ Fld Z h ob "com/example/spillway/spillway/assignment/HealthTally" "degraded" "I" (.int xc) ∧ Fld Z h ob "com/example/spillway/spillway/assignment/HealthTally" "hostWeight" "J" (.long (ya + (((1 : Int32).toInt64) * ww))) ∧ Fld Z h ob "com/example/spillway/spillway/assignment/HealthTally" "healthyWeight" "J" (.long (yb + (((1 : Int32).toInt64) * ww))) ∧ Fld Z h ob "com/example/spillway/spillway/assignment/HealthTally" "degradedWeight" "J" (.long yc)
set_option maxRecDepth 65536 in
set_option maxHeartbeats 40000000 in
theorem rm10_h (l : Launch) (Z : State) (a0 : Array Value) (hw : ∀ d ∈ tables_1, d.before a0 Z = true) (ws : List Jvm.Cond) (ob : Addr) (oe : Addr) (xa : Int32) (xb : Int32) (xc : Int32) (ya : Int64) (yb : Int64) (yc : Int64) (hs : Addr) (ww : Int64) (a_UNKNOWN : Addr) (a_HEALTHY : Addr) (a_DEGRADED : Addr) (h0 : Heap) (n0 : Nat) (O0 : Old Z n0 h0) (E_o : Exa Z h0 ob "com/example/spillway/spillway/assignment/HealthTally") (Fxa : Fld Z h0 ob "com/example/spillway/spillway/assignment/HealthTally" "hosts" "I" (.int xa)) (Fxb : Fld Z h0 ob "com/example/spillway/spillway/assignment/HealthTally" "healthy" "I" (.int xb)) (Fxc : Fld Z h0 ob "com/example/spillway/spillway/assignment/HealthTally" "degraded" "I" (.int xc)) (Fya : Fld Z h0 ob "com/example/spillway/spillway/assignment/HealthTally" "hostWeight" "J" (.long ya)) (Fyb : Fld Z h0 ob "com/example/spillway/spillway/assignment/HealthTally" "healthyWeight" "J" (.long yb)) (Fyc : Fld Z h0 ob "com/example/spillway/spillway/assignment/HealthTally" "degradedWeight" "J" (.long yc)) (E_p : Exa Z h0 oe "com/example/spillway/spillway/assignment/Endpoint") (Fh : Fld Z h0 oe "com/example/spillway/spillway/assignment/Endpoint" "health" "Lcom/example/spillway/spillway/assignment/HealthStatus;" (.ref hs)) (Fw : Fld Z h0 oe "com/example/spillway/spillway/assignment/Endpoint" "loadBalancingWeight" "J" (.long ww)) (E_h : Exa Z h0 hs "com/example/spillway/spillway/assignment/HealthStatus") (S_UNKNOWN : Sta Z Z.heap "com/example/spillway/spillway/assignment/HealthStatus" "UNKNOWN" "Lcom/example/spillway/spillway/assignment/HealthStatus;" (.ref a_UNKNOWN)) (S_HEALTHY : Sta Z Z.heap "com/example/spillway/spillway/assignment/HealthStatus" "HEALTHY" "Lcom/example/spillway/spillway/assignment/HealthStatus;" (.ref a_HEALTHY)) (S_DEGRADED : Sta Z Z.heap "com/example/spillway/spillway/assignment/HealthStatus" "DEGRADED" "Lcom/example/spillway/spillway/assignment/HealthStatus;" (.ref a_DEGRADED)) (g_o : n0 ≤ ob) (ne_oe : ob ≠ oe) (q_h : ¬ (if hs = a_HEALTHY then (1 : Int32) else if hs = a_UNKNOWN then 1 else 0) = (0 : Int32)) :
    MetFree l mn10 (head1 (Jvm.Cond.code mn10 prog_13_method_6_code 5 none :: ws) ({ frames := 1, cells := 0, slots := 0, locals := 14 } : Room)) (fun ay U => ay = #[(.ref ob), (.ref oe), (.int 1)] ∧ Z.Warmed39 U.vm ∧ U.heap = h0) (fun _ _ _ _ _ => True) (fun _ U o U' => ∃ v L, o = .returned v ∧ Q10_h Z ob oe xa xb xc ya yb yc hs ww a_UNKNOWN a_HEALTHY a_DEGRADED h0 n0 v U'.heap L ∧ FrameEnd U o U' L ({ frames := 1, cells := 0, slots := 0, locals := 14 } : Room).cells ({ frames := 1, cells := 0, slots := 0, locals := 14 } : Room).slots) := by
  refine MetFree.of_bodySF (plainFor_of_name pn_com_example_spillway_spillway_assignment_HealthTally) hisR ?_
  intro p e s m args below meth c s₁ Bd hml0 hP hK
  obtain ⟨rfl, hZ, hh⟩ := hP
  have hx := Bd.exec
  have hby := Bd.bytes
  have hlk : meth.locks = false := BodyLoose.notSynchronized Bd
  have hml : c.maxLocals = 5 := hml0
  have hown : s.vm.findClass "com/example/spillway/spillway/assignment/HealthTally" = some m.cls := findClass_of_methodNamed Bd.named
  have hnm := (name_of_methodNamed Bd.named Bd.method).1
  have X0 : Stand p l e ({ frames := 1, cells := 0, slots := 0, locals := 14 } : Room) s m #[(.ref ob), (.ref oe), (.int 1)] below meth c s₁ [] 0 0 := Stand.of_body Bd
  have e0 : s₁.heap = h0 := by rw [← hh, Bd.state]; rfl
  have N0 := Fr.nil n0
  suffices hgo : Go p e below s 0 0 (Q10_h Z ob oe xa xb xc ya yb yc hs ww a_UNKNOWN a_HEALTHY a_DEGRADED h0 n0) (s₁.setTop (mkF m 0 #[.val (.ref ob), .val (.ref oe), .val (.int 1), .unset, .unset] [])) by
    obtain ⟨t, o, h1, h2⟩ := hgo; exact ⟨t, o, castTop (ef_rm10_h m ob oe) h1, h2⟩
  show Go p e below s _ _ _ (s₁.setTop (mkF m 0 #[.val (.ref ob), .val (.ref oe), .val (.int 1), .unset, .unset] []))
  refine Go.st (fun _ k' => XS.iloadN X0.here hx rfl (hb hby d10_0) rfl k') ?_
  refine Go.st (fun _ k' => XS.i2l X0.here hx rfl (hb hby d10_1) rfl k') ?_
  refine Go.st (fun _ k' => XS.aloadN X0.here hx rfl (hb hby d10_2) rfl rfl k') ?_
  show Go p e below s _ _ _ (s₁.setTop (mkF m 3 #[.val (.ref ob), .val (.ref oe), .val (.int 1), .unset, .unset] [(.ref oe), (.long ((1 : Int32).toInt64))]))
  obtain ⟨cq1, kq1, q1a, q1b, q1c⟩ := isOf hZ e0 E_p
  obtain ⟨_, _, ⟨T1, L1, k1, n1⟩, -, X1, ⟨Lc1, hQ1, l1, y1, z1⟩, st1⟩ := X0.virtualBack hx (y := mn11) (z := mn11) hown (mvT hZ (wdx hw 68 rfl)) (mvT hZ (wdx hw 69 rfl)) (notFace_of_selects (args := #[]) (mvT hZ (wdx hw 71 rfl))) (mvT hZ (wdx hw 71 rfl)) (mvT hZ (wdx hw 70 rfl)) (by decide) (backOf (W := 2) (rm11 l Z a0 hw [] oe ww h0 n0 O0 Fw) hZ (wdx hw 72 rfl) (wdx hw 12 rfl) (by decide) (by decide)) q1a q1c (g := (mkF m 3 #[.val (.ref ob), .val (.ref oe), .val (.int 1), .unset, .unset] [(.ref oe), (.long ((1 : Int32).toInt64))])) rfl (by rw [hml]; rfl) (Steps.refl _) (argsL := []) (rest := [(.long ((1 : Int32).toInt64))]) (lenOf pd___J rfl) rfl (by show 2 * 0 + _ ≤ _; exact Nat.le_of_eq rfl) (hb hby d10_3) (fun _ _ => ⟨rfl, e0, (by exact lee rfl), (by exact lee rfl)⟩)
  dsimp only [Pt.U, Pt.locs, Pt.cells, Pt.slots] at X1 l1 y1 z1 st1 hQ1
  subst l1 y1 z1
  obtain ⟨rfl, Nq1, eq1⟩ := hQ1
  have N1 := Fr.app N0 Nq1
  refine Go.tr st1 ?_
  show Go p e below s _ _ _ (T1.setTop (mkF m 6 #[.val (.ref ob), .val (.ref oe), .val (.int 1), .unset, .unset] [(.long ww), (.long ((1 : Int32).toInt64))]))
  refine Go.st (fun _ k' => XS.lmul X1.here hx rfl (hb hby d10_6) rfl k') ?_
  refine Go.st (fun _ k' => XS.lstoreN X1.here hx rfl (hb hby d10_7) rfl (l' := #[.val (.ref ob), .val (.ref oe), .val (.int 1), .val (.long (((1 : Int32).toInt64) * ww)), .second]) rfl k') ?_
  refine Go.st (fun _ k' => XS.aloadN X1.here hx rfl (hb hby d10_8) rfl rfl k') ?_
  refine Go.st (fun _ k' => XS.dup X1.here hx rfl (hb hby d10_9) rfl rfl k') ?_
  show Go p e below s _ _ _ (T1.setTop (mkF m 10 #[.val (.ref ob), .val (.ref oe), .val (.int 1), .val (.long (((1 : Int32).toInt64) * ww)), .second] [(.ref ob), (.ref ob)]))
  obtain ⟨T2, X2, e2, st2⟩ := getF X1 hx hZ hown (host := "") (Or.inl (wdx hw 73 rfl)) Via.refl eq1 Fxa (g := (mkF m 10 #[.val (.ref ob), .val (.ref oe), .val (.int 1), .val (.long (((1 : Int32).toInt64) * ww)), .second] [(.ref ob), (.ref ob)])) rfl rfl (hb hby d10_10)
  refine Go.st st2 ?_
  show Go p e below s _ _ _ (T2.setTop (mkF m 13 #[.val (.ref ob), .val (.ref oe), .val (.int 1), .val (.long (((1 : Int32).toInt64) * ww)), .second] [(.int xa), (.ref ob)]))
  refine Go.st (fun _ k' => XS.iloadN X2.here hx rfl (hb hby d10_13) rfl k') ?_
  refine Go.st (fun _ k' => XS.iadd X2.here hx rfl (hb hby d10_14) rfl k') ?_
  show Go p e below s _ _ _ (T2.setTop (mkF m 15 #[.val (.ref ob), .val (.ref oe), .val (.int 1), .val (.long (((1 : Int32).toInt64) * ww)), .second] [(.int (xa + (1 : Int32))), (.ref ob)]))
  obtain ⟨T3, h3, X3, e3, W3, st3⟩ := putF X2 hx hZ hown (host := "") (Or.inl (wdx hw 73 rfl)) Via.refl e2 Fxa E_o (Or.inl (wdx hw 74 rfl)) (wdx hw 53 rfl) (ty := .int) (by decide) rfl rfl (g := (mkF m 15 #[.val (.ref ob), .val (.ref oe), .val (.int 1), .val (.long (((1 : Int32).toInt64) * ww)), .second] [(.int (xa + (1 : Int32))), (.ref ob)])) rfl rfl (hb hby d10_15)
  refine Go.st st3 ?_
  have f4 : Exa Z h3 ob "com/example/spillway/spillway/assignment/HealthTally" := E_o.wr W3
  have f5 : Fld Z h3 ob "com/example/spillway/spillway/assignment/HealthTally" "hosts" "I" (.int (xa + (1 : Int32))) := Fxa.same W3
  have f6 : Fld Z h3 ob "com/example/spillway/spillway/assignment/HealthTally" "healthy" "I" (.int xb) := Fxb.other W3 (Or.inr (slot_ne (Or.inl (wdx hw 90 rfl)) (Or.inl (wdx hw 74 rfl)) (by decide) (t := .int) (t' := .int) (by decide) (by decide)))
  have f7 : Fld Z h3 ob "com/example/spillway/spillway/assignment/HealthTally" "degraded" "I" (.int xc) := Fxc.other W3 (Or.inr (slot_ne (Or.inl (wdx hw 109 rfl)) (Or.inl (wdx hw 74 rfl)) (by decide) (t := .int) (t' := .int) (by decide) (by decide)))
  have f8 : Fld Z h3 ob "com/example/spillway/spillway/assignment/HealthTally" "hostWeight" "J" (.long ya) := Fya.other W3 (Or.inr (slot_ne (Or.inl (wdx hw 76 rfl)) (Or.inl (wdx hw 74 rfl)) (by decide) (t := .long) (t' := .int) (by decide) (by decide)))
  have f9 : Fld Z h3 ob "com/example/spillway/spillway/assignment/HealthTally" "healthyWeight" "J" (.long yb) := Fyb.other W3 (Or.inr (slot_ne (Or.inl (wdx hw 92 rfl)) (Or.inl (wdx hw 74 rfl)) (by decide) (t := .long) (t' := .int) (by decide) (by decide)))
  have f10 : Fld Z h3 ob "com/example/spillway/spillway/assignment/HealthTally" "degradedWeight" "J" (.long yc) := Fyc.other W3 (Or.inr (slot_ne (Or.inl (wdx hw 126 rfl)) (Or.inl (wdx hw 74 rfl)) (by decide) (t := .long) (t' := .int) (by decide) (by decide)))
  have f11 : Exa Z h3 oe "com/example/spillway/spillway/assignment/Endpoint" := E_p.wr W3
  have f12 : Fld Z h3 oe "com/example/spillway/spillway/assignment/Endpoint" "health" "Lcom/example/spillway/spillway/assignment/HealthStatus;" (.ref hs) := Fh.other W3 (Or.inl (Ne.symm ne_oe))
  have f13 : Fld Z h3 oe "com/example/spillway/spillway/assignment/Endpoint" "loadBalancingWeight" "J" (.long ww) := Fw.other W3 (Or.inl (Ne.symm ne_oe))
  have f14 : Exa Z h3 hs "com/example/spillway/spillway/assignment/HealthStatus" := E_h.wr W3
  have O3 : Old Z n0 h3 := O0.wr W3 g_o
  have N3 := Fr.snoc X3 N1 g_o
  have K3 : Keep h0 h3 [ob] := (Keep.refl h0 [ob]).wr W3 (Or.inl (by simp))
  show Go p e below s _ _ _ (T3.setTop (mkF m 18 #[.val (.ref ob), .val (.ref oe), .val (.int 1), .val (.long (((1 : Int32).toInt64) * ww)), .second] []))
  refine Go.st (fun _ k' => XS.aloadN X3.here hx rfl (hb hby d10_18) rfl rfl k') ?_
  refine Go.st (fun _ k' => XS.dup X3.here hx rfl (hb hby d10_19) rfl rfl k') ?_
  show Go p e below s _ _ _ (T3.setTop (mkF m 20 #[.val (.ref ob), .val (.ref oe), .val (.int 1), .val (.long (((1 : Int32).toInt64) * ww)), .second] [(.ref ob), (.ref ob)]))
  obtain ⟨T15, X15, e15, st15⟩ := getF X3 hx hZ hown (host := "") (Or.inl (wdx hw 75 rfl)) Via.refl e3 f8 (g := (mkF m 20 #[.val (.ref ob), .val (.ref oe), .val (.int 1), .val (.long (((1 : Int32).toInt64) * ww)), .second] [(.ref ob), (.ref ob)])) rfl rfl (hb hby d10_20)
  refine Go.st st15 ?_
  show Go p e below s _ _ _ (T15.setTop (mkF m 23 #[.val (.ref ob), .val (.ref oe), .val (.int 1), .val (.long (((1 : Int32).toInt64) * ww)), .second] [(.long ya), (.ref ob)]))
  refine Go.st (fun _ k' => XS.lloadN X15.here hx rfl (hb hby d10_23) rfl k') ?_
  refine Go.st (fun _ k' => XS.ladd X15.here hx rfl (hb hby d10_24) rfl k') ?_
  show Go p e below s _ _ _ (T15.setTop (mkF m 25 #[.val (.ref ob), .val (.ref oe), .val (.int 1), .val (.long (((1 : Int32).toInt64) * ww)), .second] [(.long (ya + (((1 : Int32).toInt64) * ww))), (.ref ob)]))
  obtain ⟨T16, h16, X16, e16, W16, st16⟩ := putF X15 hx hZ hown (host := "") (Or.inl (wdx hw 75 rfl)) Via.refl e15 f8 f4 (Or.inl (wdx hw 76 rfl)) (wdx hw 53 rfl) (ty := .long) (by decide) rfl rfl (g := (mkF m 25 #[.val (.ref ob), .val (.ref oe), .val (.int 1), .val (.long (((1 : Int32).toInt64) * ww)), .second] [(.long (ya + (((1 : Int32).toInt64) * ww))), (.ref ob)])) rfl rfl (hb hby d10_25)
  refine Go.st st16 ?_
  have f17 : Exa Z h16 ob "com/example/spillway/spillway/assignment/HealthTally" := f4.wr W16
  have f18 : Fld Z h16 ob "com/example/spillway/spillway/assignment/HealthTally" "hosts" "I" (.int (xa + (1 : Int32))) := f5.other W16 (Or.inr (slot_ne (Or.inl (wdx hw 74 rfl)) (Or.inl (wdx hw 76 rfl)) (by decide) (t := .int) (t' := .long) (by decide) (by decide)))
  have f19 : Fld Z h16 ob "com/example/spillway/spillway/assignment/HealthTally" "healthy" "I" (.int xb) := f6.other W16 (Or.inr (slot_ne (Or.inl (wdx hw 90 rfl)) (Or.inl (wdx hw 76 rfl)) (by decide) (t := .int) (t' := .long) (by decide) (by decide)))
  have f20 : Fld Z h16 ob "com/example/spillway/spillway/assignment/HealthTally" "degraded" "I" (.int xc) := f7.other W16 (Or.inr (slot_ne (Or.inl (wdx hw 109 rfl)) (Or.inl (wdx hw 76 rfl)) (by decide) (t := .int) (t' := .long) (by decide) (by decide)))
  have f21 : Fld Z h16 ob "com/example/spillway/spillway/assignment/HealthTally" "hostWeight" "J" (.long (ya + (((1 : Int32).toInt64) * ww))) := f8.same W16
  have f22 : Fld Z h16 ob "com/example/spillway/spillway/assignment/HealthTally" "healthyWeight" "J" (.long yb) := f9.other W16 (Or.inr (slot_ne (Or.inl (wdx hw 92 rfl)) (Or.inl (wdx hw 76 rfl)) (by decide) (t := .long) (t' := .long) (by decide) (by decide)))
  have f23 : Fld Z h16 ob "com/example/spillway/spillway/assignment/HealthTally" "degradedWeight" "J" (.long yc) := f10.other W16 (Or.inr (slot_ne (Or.inl (wdx hw 126 rfl)) (Or.inl (wdx hw 76 rfl)) (by decide) (t := .long) (t' := .long) (by decide) (by decide)))
  have f24 : Exa Z h16 oe "com/example/spillway/spillway/assignment/Endpoint" := f11.wr W16
  have f25 : Fld Z h16 oe "com/example/spillway/spillway/assignment/Endpoint" "health" "Lcom/example/spillway/spillway/assignment/HealthStatus;" (.ref hs) := f12.other W16 (Or.inl (Ne.symm ne_oe))
  have f26 : Fld Z h16 oe "com/example/spillway/spillway/assignment/Endpoint" "loadBalancingWeight" "J" (.long ww) := f13.other W16 (Or.inl (Ne.symm ne_oe))
  have f27 : Exa Z h16 hs "com/example/spillway/spillway/assignment/HealthStatus" := f14.wr W16
  have O16 : Old Z n0 h16 := O3.wr W16 g_o
  have N16 := Fr.snoc X16 N3 g_o
  have K16 : Keep h0 h16 [ob] := K3.wr W16 (Or.inl (by simp))
  show Go p e below s _ _ _ (T16.setTop (mkF m 28 #[.val (.ref ob), .val (.ref oe), .val (.int 1), .val (.long (((1 : Int32).toInt64) * ww)), .second] []))
  refine Go.st (fun _ k' => XS.aloadN X16.here hx rfl (hb hby d10_28) rfl rfl k') ?_
  show Go p e below s _ _ _ (T16.setTop (mkF m 29 #[.val (.ref ob), .val (.ref oe), .val (.int 1), .val (.long (((1 : Int32).toInt64) * ww)), .second] [(.ref oe)]))
  obtain ⟨cq28, kq28, q28a, q28b, q28c⟩ := isOf hZ e16 f24
  obtain ⟨_, _, ⟨T28, L28, k28, n28⟩, -, X28, ⟨Lc28, hQ28, l28, y28, z28⟩, st28⟩ := X16.virtualBack hx (y := mn8) (z := mn8) hown (mvT hZ (wdx hw 77 rfl)) (mvT hZ (wdx hw 78 rfl)) (notFace_of_selects (args := #[]) (mvT hZ (wdx hw 80 rfl))) (mvT hZ (wdx hw 80 rfl)) (mvT hZ (wdx hw 79 rfl)) (by decide) (backOf (W := 0) (rm12 l Z a0 hw [] oe hs h16 n0 O16 f25) hZ (wdx hw 81 rfl) (wdx hw 12 rfl) (by decide) (by decide)) q28a q28c (g := (mkF m 29 #[.val (.ref ob), .val (.ref oe), .val (.int 1), .val (.long (((1 : Int32).toInt64) * ww)), .second] [(.ref oe)])) rfl (by rw [hml]; rfl) (Steps.refl _) (argsL := []) (rest := []) (lenOf pd___Lcom_example_spillway_spillway_assignment_HealthStatus_ rfl) rfl (by show 2 * 0 + _ ≤ _; exact Nat.le_of_eq rfl) (hb hby d10_29) (fun _ _ => ⟨rfl, e16, (by exact lee rfl), (by exact lee rfl)⟩)
  dsimp only [Pt.U, Pt.locs, Pt.cells, Pt.slots] at X28 l28 y28 z28 st28 hQ28
  subst l28 y28 z28
  obtain ⟨rfl, Nq28, eq28⟩ := hQ28
  have N28 := Fr.app N16 Nq28
  refine Go.tr st28 ?_
  show Go p e below s _ _ _ (T28.setTop (mkF m 32 #[.val (.ref ob), .val (.ref oe), .val (.int 1), .val (.long (((1 : Int32).toInt64) * ww)), .second] [(.ref hs)]))
  obtain ⟨cq29, kq29, q29a, q29b, q29c⟩ := isOf hZ eq28 f27
  obtain ⟨_, _, ⟨T29, L29, k29, n29⟩, -, X29, ⟨Lc29, hQ29, l29, y29, z29⟩, st29⟩ := X28.virtualBack hx (y := mn12) (z := mn12) hown (mvT hZ (wdx hw 82 rfl)) (mvT hZ (wdx hw 83 rfl)) (notFace_of_selects (args := #[]) (mvT hZ (wdx hw 85 rfl))) (mvT hZ (wdx hw 85 rfl)) (mvT hZ (wdx hw 84 rfl)) (by decide) (backOf (W := 0) (rm13 l Z a0 hw [] hs a_UNKNOWN a_HEALTHY h16 n0 O16 S_UNKNOWN S_HEALTHY) hZ (wdx hw 86 rfl) (wdx hw 17 rfl) (by decide) (by decide)) q29a q29c (g := (mkF m 32 #[.val (.ref ob), .val (.ref oe), .val (.int 1), .val (.long (((1 : Int32).toInt64) * ww)), .second] [(.ref hs)])) rfl (by rw [hml]; rfl) (Steps.refl _) (argsL := []) (rest := []) (lenOf pd___Z rfl) rfl (by show 2 * 0 + _ ≤ _; exact Nat.le_of_eq rfl) (hb hby d10_32) (fun _ _ => ⟨rfl, eq28, (by exact lee rfl), (by exact lee rfl)⟩)
  dsimp only [Pt.U, Pt.locs, Pt.cells, Pt.slots] at X29 l29 y29 z29 st29 hQ29
  subst l29 y29 z29
  obtain ⟨rfl, Nq29, eq29⟩ := hQ29
  have N29 := Fr.app N28 Nq29
  refine Go.tr st29 ?_
  show Go p e below s _ _ _ (T29.setTop (mkF m 35 #[.val (.ref ob), .val (.ref oe), .val (.int 1), .val (.long (((1 : Int32).toInt64) * ww)), .second] [(.int (if hs = a_HEALTHY then (1 : Int32) else if hs = a_UNKNOWN then 1 else 0))]))
  refine Go.st (fun _ k' => XS.ifNo X29.here hx rfl (hb hby d10_35) rfl (XT.i0_eq_f q_h) k') ?_
  show Go p e below s _ _ _ (T29.setTop (mkF m 38 #[.val (.ref ob), .val (.ref oe), .val (.int 1), .val (.long (((1 : Int32).toInt64) * ww)), .second] []))
  refine Go.st (fun _ k' => XS.aloadN X29.here hx rfl (hb hby d10_38) rfl rfl k') ?_
  refine Go.st (fun _ k' => XS.dup X29.here hx rfl (hb hby d10_39) rfl rfl k') ?_
  show Go p e below s _ _ _ (T29.setTop (mkF m 40 #[.val (.ref ob), .val (.ref oe), .val (.int 1), .val (.long (((1 : Int32).toInt64) * ww)), .second] [(.ref ob), (.ref ob)]))
  obtain ⟨T30, X30, e30, st30⟩ := getF X29 hx hZ hown (host := "") (Or.inl (wdx hw 89 rfl)) Via.refl eq29 f19 (g := (mkF m 40 #[.val (.ref ob), .val (.ref oe), .val (.int 1), .val (.long (((1 : Int32).toInt64) * ww)), .second] [(.ref ob), (.ref ob)])) rfl rfl (hb hby d10_40)
  refine Go.st st30 ?_
  show Go p e below s _ _ _ (T30.setTop (mkF m 43 #[.val (.ref ob), .val (.ref oe), .val (.int 1), .val (.long (((1 : Int32).toInt64) * ww)), .second] [(.int xb), (.ref ob)]))
  refine Go.st (fun _ k' => XS.iloadN X30.here hx rfl (hb hby d10_43) rfl k') ?_
  refine Go.st (fun _ k' => XS.iadd X30.here hx rfl (hb hby d10_44) rfl k') ?_
  show Go p e below s _ _ _ (T30.setTop (mkF m 45 #[.val (.ref ob), .val (.ref oe), .val (.int 1), .val (.long (((1 : Int32).toInt64) * ww)), .second] [(.int (xb + (1 : Int32))), (.ref ob)]))
  obtain ⟨T31, h31, X31, e31, W31, st31⟩ := putF X30 hx hZ hown (host := "") (Or.inl (wdx hw 89 rfl)) Via.refl e30 f19 f17 (Or.inl (wdx hw 90 rfl)) (wdx hw 53 rfl) (ty := .int) (by decide) rfl rfl (g := (mkF m 45 #[.val (.ref ob), .val (.ref oe), .val (.int 1), .val (.long (((1 : Int32).toInt64) * ww)), .second] [(.int (xb + (1 : Int32))), (.ref ob)])) rfl rfl (hb hby d10_45)
  refine Go.st st31 ?_
  have f32 : Exa Z h31 ob "com/example/spillway/spillway/assignment/HealthTally" := f17.wr W31
  have f33 : Fld Z h31 ob "com/example/spillway/spillway/assignment/HealthTally" "hosts" "I" (.int (xa + (1 : Int32))) := f18.other W31 (Or.inr (slot_ne (Or.inl (wdx hw 74 rfl)) (Or.inl (wdx hw 90 rfl)) (by decide) (t := .int) (t' := .int) (by decide) (by decide)))
  have f34 : Fld Z h31 ob "com/example/spillway/spillway/assignment/HealthTally" "healthy" "I" (.int (xb + (1 : Int32))) := f19.same W31
  have f35 : Fld Z h31 ob "com/example/spillway/spillway/assignment/HealthTally" "degraded" "I" (.int xc) := f20.other W31 (Or.inr (slot_ne (Or.inl (wdx hw 109 rfl)) (Or.inl (wdx hw 90 rfl)) (by decide) (t := .int) (t' := .int) (by decide) (by decide)))
  have f36 : Fld Z h31 ob "com/example/spillway/spillway/assignment/HealthTally" "hostWeight" "J" (.long (ya + (((1 : Int32).toInt64) * ww))) := f21.other W31 (Or.inr (slot_ne (Or.inl (wdx hw 76 rfl)) (Or.inl (wdx hw 90 rfl)) (by decide) (t := .long) (t' := .int) (by decide) (by decide)))
  have f37 : Fld Z h31 ob "com/example/spillway/spillway/assignment/HealthTally" "healthyWeight" "J" (.long yb) := f22.other W31 (Or.inr (slot_ne (Or.inl (wdx hw 92 rfl)) (Or.inl (wdx hw 90 rfl)) (by decide) (t := .long) (t' := .int) (by decide) (by decide)))
  have f38 : Fld Z h31 ob "com/example/spillway/spillway/assignment/HealthTally" "degradedWeight" "J" (.long yc) := f23.other W31 (Or.inr (slot_ne (Or.inl (wdx hw 126 rfl)) (Or.inl (wdx hw 90 rfl)) (by decide) (t := .long) (t' := .int) (by decide) (by decide)))
  have f39 : Exa Z h31 oe "com/example/spillway/spillway/assignment/Endpoint" := f24.wr W31
  have f40 : Fld Z h31 oe "com/example/spillway/spillway/assignment/Endpoint" "health" "Lcom/example/spillway/spillway/assignment/HealthStatus;" (.ref hs) := f25.other W31 (Or.inl (Ne.symm ne_oe))
  have f41 : Fld Z h31 oe "com/example/spillway/spillway/assignment/Endpoint" "loadBalancingWeight" "J" (.long ww) := f26.other W31 (Or.inl (Ne.symm ne_oe))
  have f42 : Exa Z h31 hs "com/example/spillway/spillway/assignment/HealthStatus" := f27.wr W31
  have O31 : Old Z n0 h31 := O16.wr W31 g_o
  have N31 := Fr.snoc X31 N29 g_o
  have K31 : Keep h0 h31 [ob] := K16.wr W31 (Or.inl (by simp))
  show Go p e below s _ _ _ (T31.setTop (mkF m 48 #[.val (.ref ob), .val (.ref oe), .val (.int 1), .val (.long (((1 : Int32).toInt64) * ww)), .second] []))
  refine Go.st (fun _ k' => XS.aloadN X31.here hx rfl (hb hby d10_48) rfl rfl k') ?_
  refine Go.st (fun _ k' => XS.dup X31.here hx rfl (hb hby d10_49) rfl rfl k') ?_
  show Go p e below s _ _ _ (T31.setTop (mkF m 50 #[.val (.ref ob), .val (.ref oe), .val (.int 1), .val (.long (((1 : Int32).toInt64) * ww)), .second] [(.ref ob), (.ref ob)]))
  obtain ⟨T43, X43, e43, st43⟩ := getF X31 hx hZ hown (host := "") (Or.inl (wdx hw 91 rfl)) Via.refl e31 f37 (g := (mkF m 50 #[.val (.ref ob), .val (.ref oe), .val (.int 1), .val (.long (((1 : Int32).toInt64) * ww)), .second] [(.ref ob), (.ref ob)])) rfl rfl (hb hby d10_50)
  refine Go.st st43 ?_
  show Go p e below s _ _ _ (T43.setTop (mkF m 53 #[.val (.ref ob), .val (.ref oe), .val (.int 1), .val (.long (((1 : Int32).toInt64) * ww)), .second] [(.long yb), (.ref ob)]))
  refine Go.st (fun _ k' => XS.lloadN X43.here hx rfl (hb hby d10_53) rfl k') ?_
  refine Go.st (fun _ k' => XS.ladd X43.here hx rfl (hb hby d10_54) rfl k') ?_
  show Go p e below s _ _ _ (T43.setTop (mkF m 55 #[.val (.ref ob), .val (.ref oe), .val (.int 1), .val (.long (((1 : Int32).toInt64) * ww)), .second] [(.long (yb + (((1 : Int32).toInt64) * ww))), (.ref ob)]))
  obtain ⟨T44, h44, X44, e44, W44, st44⟩ := putF X43 hx hZ hown (host := "") (Or.inl (wdx hw 91 rfl)) Via.refl e43 f37 f32 (Or.inl (wdx hw 92 rfl)) (wdx hw 53 rfl) (ty := .long) (by decide) rfl rfl (g := (mkF m 55 #[.val (.ref ob), .val (.ref oe), .val (.int 1), .val (.long (((1 : Int32).toInt64) * ww)), .second] [(.long (yb + (((1 : Int32).toInt64) * ww))), (.ref ob)])) rfl rfl (hb hby d10_55)
  refine Go.st st44 ?_
  have f45 : Exa Z h44 ob "com/example/spillway/spillway/assignment/HealthTally" := f32.wr W44
  have f46 : Fld Z h44 ob "com/example/spillway/spillway/assignment/HealthTally" "hosts" "I" (.int (xa + (1 : Int32))) := f33.other W44 (Or.inr (slot_ne (Or.inl (wdx hw 74 rfl)) (Or.inl (wdx hw 92 rfl)) (by decide) (t := .int) (t' := .long) (by decide) (by decide)))
  have f47 : Fld Z h44 ob "com/example/spillway/spillway/assignment/HealthTally" "healthy" "I" (.int (xb + (1 : Int32))) := f34.other W44 (Or.inr (slot_ne (Or.inl (wdx hw 90 rfl)) (Or.inl (wdx hw 92 rfl)) (by decide) (t := .int) (t' := .long) (by decide) (by decide)))
  have f48 : Fld Z h44 ob "com/example/spillway/spillway/assignment/HealthTally" "degraded" "I" (.int xc) := f35.other W44 (Or.inr (slot_ne (Or.inl (wdx hw 109 rfl)) (Or.inl (wdx hw 92 rfl)) (by decide) (t := .int) (t' := .long) (by decide) (by decide)))
  have f49 : Fld Z h44 ob "com/example/spillway/spillway/assignment/HealthTally" "hostWeight" "J" (.long (ya + (((1 : Int32).toInt64) * ww))) := f36.other W44 (Or.inr (slot_ne (Or.inl (wdx hw 76 rfl)) (Or.inl (wdx hw 92 rfl)) (by decide) (t := .long) (t' := .long) (by decide) (by decide)))
  have f50 : Fld Z h44 ob "com/example/spillway/spillway/assignment/HealthTally" "healthyWeight" "J" (.long (yb + (((1 : Int32).toInt64) * ww))) := f37.same W44
  have f51 : Fld Z h44 ob "com/example/spillway/spillway/assignment/HealthTally" "degradedWeight" "J" (.long yc) := f38.other W44 (Or.inr (slot_ne (Or.inl (wdx hw 126 rfl)) (Or.inl (wdx hw 92 rfl)) (by decide) (t := .long) (t' := .long) (by decide) (by decide)))
  have f52 : Exa Z h44 oe "com/example/spillway/spillway/assignment/Endpoint" := f39.wr W44
  have f53 : Fld Z h44 oe "com/example/spillway/spillway/assignment/Endpoint" "health" "Lcom/example/spillway/spillway/assignment/HealthStatus;" (.ref hs) := f40.other W44 (Or.inl (Ne.symm ne_oe))
  have f54 : Fld Z h44 oe "com/example/spillway/spillway/assignment/Endpoint" "loadBalancingWeight" "J" (.long ww) := f41.other W44 (Or.inl (Ne.symm ne_oe))
  have f55 : Exa Z h44 hs "com/example/spillway/spillway/assignment/HealthStatus" := f42.wr W44
  have O44 : Old Z n0 h44 := O31.wr W44 g_o
  have N44 := Fr.snoc X44 N31 g_o
  have K44 : Keep h0 h44 [ob] := K31.wr W44 (Or.inl (by simp))
  show Go p e below s _ _ _ (T44.setTop (mkF m 58 #[.val (.ref ob), .val (.ref oe), .val (.int 1), .val (.long (((1 : Int32).toInt64) * ww)), .second] []))
  refine Go.st (fun _ k' => XS.goto X44.here hx rfl (pc0 := 58) (pc' := 91) rfl (hb hby d10_58) (by decide) (by decide) k') ?_
  show Go p e below s _ _ _ (T44.setTop (mkF m 91 #[.val (.ref ob), .val (.ref oe), .val (.int 1), .val (.long (((1 : Int32).toInt64) * ww)), .second] []))
  refine Go.retV X44 hx hlk Bd.returns (hb hby d10_91) (by decide) (by decide) e44 ?_
  exact ⟨rfl, N44, K44, f46, f47, f48, f49, f50, f51⟩
theorem d9_0 : decode prog_13_method_3_code 0 = .ok (.aload_n 0, 1) := by decide +kernel
theorem d9_1 : decode prog_13_method_3_code 1 = .ok (.aload_n 1, 1) := by decide +kernel
theorem d9_2 : decode prog_13_method_3_code 2 = .ok (.iconst 1, 1) := by decide +kernel
theorem pd__Lcom_example_spillway_spillway_assignment_Endpoint_I_V : parseMethodDescriptor "(Lcom/example/spillway/spillway/assignment/Endpoint;I)V" = some ⟨[(.object "com/example/spillway/spillway/assignment/Endpoint"), .int], none⟩ := by decide +kernel
theorem d9_3 : decode prog_13_method_3_code 3 = .ok (.invokevirtual 14, 3) := by decide +kernel
theorem d9_6 : decode prog_13_method_3_code 6 = .ok (.return_, 1) := by decide +kernel
theorem ef_rm9_h (m : MethodId) (ob : Addr) (oe : Addr) : entryFrame m #[(.ref ob), (.ref oe)] 2 = mkF m 0 #[.val (.ref ob), .val (.ref oe)] [] := by first | (simp [entryFrame, mkF, argsToLocals, Value.category]; done) | rfl
def Q9_h (Z : State) (ob : Addr) (oe : Addr) (xa : Int32) (xb : Int32) (xc : Int32) (ya : Int64) (yb : Int64) (yc : Int64) (hs : Addr) (ww : Int64) (a_UNKNOWN : Addr) (a_HEALTHY : Addr) (a_DEGRADED : Addr) (h0 : Heap) (n0 : Nat) (v : Option Value) (h : Heap) (L : List Loc) : Prop := v = none ∧ Fr n0 L ∧ Keep h0 h [ob] ∧ Fld Z h ob "com/example/spillway/spillway/assignment/HealthTally" "hosts" "I" (.int (xa + (1 : Int32))) ∧ Fld Z h ob "com/example/spillway/spillway/assignment/HealthTally" "healthy" "I" (.int (xb + (1 : Int32))) ∧ Fld Z h ob "com/example/spillway/spillway/assignment/HealthTally" "degraded" "I" (.int xc) ∧ Fld Z h ob "com/example/spillway/spillway/assignment/HealthTally" "hostWeight" "J" (.long (ya + (((1 : Int32).toInt64) * ww))) ∧ Fld Z h ob "com/example/spillway/spillway/assignment/HealthTally" "healthyWeight" "J" (.long (yb + (((1 : Int32).toInt64) * ww))) ∧ Fld Z h ob "com/example/spillway/spillway/assignment/HealthTally" "degradedWeight" "J" (.long yc)
set_option maxRecDepth 65536 in
set_option maxHeartbeats 40000000 in
theorem rm9_h (l : Launch) (Z : State) (a0 : Array Value) (hw : ∀ d ∈ tables_1, d.before a0 Z = true) (ws : List Jvm.Cond) (ob : Addr) (oe : Addr) (xa : Int32) (xb : Int32) (xc : Int32) (ya : Int64) (yb : Int64) (yc : Int64) (hs : Addr) (ww : Int64) (a_UNKNOWN : Addr) (a_HEALTHY : Addr) (a_DEGRADED : Addr) (h0 : Heap) (n0 : Nat) (O0 : Old Z n0 h0) (E_o : Exa Z h0 ob "com/example/spillway/spillway/assignment/HealthTally") (Fxa : Fld Z h0 ob "com/example/spillway/spillway/assignment/HealthTally" "hosts" "I" (.int xa)) (Fxb : Fld Z h0 ob "com/example/spillway/spillway/assignment/HealthTally" "healthy" "I" (.int xb)) (Fxc : Fld Z h0 ob "com/example/spillway/spillway/assignment/HealthTally" "degraded" "I" (.int xc)) (Fya : Fld Z h0 ob "com/example/spillway/spillway/assignment/HealthTally" "hostWeight" "J" (.long ya)) (Fyb : Fld Z h0 ob "com/example/spillway/spillway/assignment/HealthTally" "healthyWeight" "J" (.long yb)) (Fyc : Fld Z h0 ob "com/example/spillway/spillway/assignment/HealthTally" "degradedWeight" "J" (.long yc)) (E_p : Exa Z h0 oe "com/example/spillway/spillway/assignment/Endpoint") (Fh : Fld Z h0 oe "com/example/spillway/spillway/assignment/Endpoint" "health" "Lcom/example/spillway/spillway/assignment/HealthStatus;" (.ref hs)) (Fw : Fld Z h0 oe "com/example/spillway/spillway/assignment/Endpoint" "loadBalancingWeight" "J" (.long ww)) (E_h : Exa Z h0 hs "com/example/spillway/spillway/assignment/HealthStatus") (S_UNKNOWN : Sta Z Z.heap "com/example/spillway/spillway/assignment/HealthStatus" "UNKNOWN" "Lcom/example/spillway/spillway/assignment/HealthStatus;" (.ref a_UNKNOWN)) (S_HEALTHY : Sta Z Z.heap "com/example/spillway/spillway/assignment/HealthStatus" "HEALTHY" "Lcom/example/spillway/spillway/assignment/HealthStatus;" (.ref a_HEALTHY)) (S_DEGRADED : Sta Z Z.heap "com/example/spillway/spillway/assignment/HealthStatus" "DEGRADED" "Lcom/example/spillway/spillway/assignment/HealthStatus;" (.ref a_DEGRADED)) (g_o : n0 ≤ ob) (ne_oe : ob ≠ oe) (q_h : ¬ (if hs = a_HEALTHY then (1 : Int32) else if hs = a_UNKNOWN then 1 else 0) = (0 : Int32)) :
    MetFree l mn0 (head1 (Jvm.Cond.code mn0 prog_13_method_3_code 2 none :: ws) ({ frames := 2, cells := 0, slots := 0, locals := 30 } : Room)) (fun ay U => ay = #[(.ref ob), (.ref oe)] ∧ Z.Warmed39 U.vm ∧ U.heap = h0) (fun _ _ _ _ _ => True) (fun _ U o U' => ∃ v L, o = .returned v ∧ Q9_h Z ob oe xa xb xc ya yb yc hs ww a_UNKNOWN a_HEALTHY a_DEGRADED h0 n0 v U'.heap L ∧ FrameEnd U o U' L ({ frames := 2, cells := 0, slots := 0, locals := 30 } : Room).cells ({ frames := 2, cells := 0, slots := 0, locals := 30 } : Room).slots) := by
  refine MetFree.of_bodySF (plainFor_of_name pn_com_example_spillway_spillway_assignment_HealthTally) hisR ?_
  intro p e s m args below meth c s₁ Bd hml0 hP hK
  obtain ⟨rfl, hZ, hh⟩ := hP
  have hx := Bd.exec
  have hby := Bd.bytes
  have hlk : meth.locks = false := BodyLoose.notSynchronized Bd
  have hml : c.maxLocals = 2 := hml0
  have hown : s.vm.findClass "com/example/spillway/spillway/assignment/HealthTally" = some m.cls := findClass_of_methodNamed Bd.named
  have hnm := (name_of_methodNamed Bd.named Bd.method).1
  have X0 : Stand p l e ({ frames := 2, cells := 0, slots := 0, locals := 30 } : Room) s m #[(.ref ob), (.ref oe)] below meth c s₁ [] 0 0 := Stand.of_body Bd
  have e0 : s₁.heap = h0 := by rw [← hh, Bd.state]; rfl
  have N0 := Fr.nil n0
  suffices hgo : Go p e below s 0 0 (Q9_h Z ob oe xa xb xc ya yb yc hs ww a_UNKNOWN a_HEALTHY a_DEGRADED h0 n0) (s₁.setTop (mkF m 0 #[.val (.ref ob), .val (.ref oe)] [])) by
    obtain ⟨t, o, h1, h2⟩ := hgo; exact ⟨t, o, castTop (ef_rm9_h m ob oe) h1, h2⟩
  show Go p e below s _ _ _ (s₁.setTop (mkF m 0 #[.val (.ref ob), .val (.ref oe)] []))
  refine Go.st (fun _ k' => XS.aloadN X0.here hx rfl (hb hby d9_0) rfl rfl k') ?_
  refine Go.st (fun _ k' => XS.aloadN X0.here hx rfl (hb hby d9_1) rfl rfl k') ?_
  refine Go.st (fun _ k' => XS.iconst X0.here hx rfl (hb hby d9_2) k') ?_
  show Go p e below s _ _ _ (s₁.setTop (mkF m 3 #[.val (.ref ob), .val (.ref oe)] [(.int 1), (.ref oe), (.ref ob)]))
  obtain ⟨cq1, q1, q1'⟩ := E_o.cell
  obtain ⟨_, _, ⟨T1, L1, k1, n1⟩, -, X1, ⟨Lc1, hQ1, l1, y1, z1⟩, st1⟩ := X0.privateBack hx (y := mn10) hown (mvT hZ (wdx hw 64 rfl)) (mvT hZ (wdx hw 65 rfl)) (Jvm.Kit.selects_private (by decide) (mvT hZ (wdx hw 53 rfl)) (mvP hZ (wdx hw 66 rfl)) (mvT hZ (wdx hw 65 rfl))) (Cond.privateMethod_at (mvP hZ (wdx hw 66 rfl) (args := #[]))) (mvT hZ (wdx hw 67 rfl)) (by decide) (backOf (W := 0) (rm10_h l Z a0 hw [] ob oe xa xb xc ya yb yc hs ww a_UNKNOWN a_HEALTHY a_DEGRADED h0 n0 O0 E_o Fxa Fxb Fxc Fya Fyb Fyc E_p Fh Fw E_h S_UNKNOWN S_HEALTHY S_DEGRADED g_o ne_oe q_h) hZ (wdx hw 67 rfl) (wdx hw 54 rfl) (by decide) (by decide)) (g := (mkF m 3 #[.val (.ref ob), .val (.ref oe)] [(.int 1), (.ref oe), (.ref ob)])) rfl (by rw [hml]; rfl) (Steps.refl _) (a := ob) (by rw [e0]; exact q1) q1' (argsL := [(.ref oe), (.int 1)]) (rest := []) (lenOf pd__Lcom_example_spillway_spillway_assignment_Endpoint_I_V rfl) rfl (by show 2 * 0 + _ ≤ _; exact Nat.le_of_eq rfl) (hb hby d9_3) (fun _ _ => ⟨rfl, e0, (by exact lee rfl), (by exact lee rfl)⟩)
  dsimp only [Pt.U, Pt.locs, Pt.cells, Pt.slots] at X1 l1 y1 z1 st1 hQ1
  subst l1 y1 z1
  obtain ⟨rfl, Nq1, Kq1, f2, f3, f4, f5, f6, f7⟩ := hQ1
  have N1 := Fr.app N0 Nq1
  refine Go.tr st1 ?_
  have f8 : Exa Z T1.heap ob "com/example/spillway/spillway/assignment/HealthTally" := E_o.keep Kq1
  have f9 : Exa Z T1.heap oe "com/example/spillway/spillway/assignment/Endpoint" := E_p.keep Kq1
  have f10 : Fld Z T1.heap oe "com/example/spillway/spillway/assignment/Endpoint" "health" "Lcom/example/spillway/spillway/assignment/HealthStatus;" (.ref hs) := Fh.keep Kq1 (ninS (Ne.symm ne_oe) nin0)
  have f11 : Fld Z T1.heap oe "com/example/spillway/spillway/assignment/Endpoint" "loadBalancingWeight" "J" (.long ww) := Fw.keep Kq1 (ninS (Ne.symm ne_oe) nin0)
  have f12 : Exa Z T1.heap hs "com/example/spillway/spillway/assignment/HealthStatus" := E_h.keep Kq1
  have O1 : Old Z n0 T1.heap := O0.keep Kq1 (allS g_o all0)
  have K1 : Keep h0 T1.heap [ob] := (Keep.refl h0 [ob]).trans Kq1 (allS (Or.inl (by simp)) all0)
  show Go p e below s _ _ _ (T1.setTop (mkF m 6 #[.val (.ref ob), .val (.ref oe)] []))
  refine Go.retV X1 hx hlk Bd.returns (hb hby d9_6) (by decide) (by decide) rfl ?_
  exact ⟨rfl, N1, K1, f2, f3, f4, f5, f6, f7⟩
theorem d10_61 : decode prog_13_method_6_code 61 = .ok (.aload_n 1, 1) := by decide +kernel
theorem d10_62 : decode prog_13_method_6_code 62 = .ok (.invokevirtual 44, 3) := by decide +kernel
theorem d10_65 : decode prog_13_method_6_code 65 = .ok (.invokevirtual 54, 3) := by decide +kernel
theorem d10_68 : decode prog_13_method_6_code 68 = .ok (.ifCond .eq 23, 3) := by decide +kernel
theorem d10_71 : decode prog_13_method_6_code 71 = .ok (.aload_n 0, 1) := by decide +kernel
theorem d10_72 : decode prog_13_method_6_code 72 = .ok (.dup, 1) := by decide +kernel
theorem d10_73 : decode prog_13_method_6_code 73 = .ok (.getfield 25, 3) := by decide +kernel
theorem d10_76 : decode prog_13_method_6_code 76 = .ok (.iload_n 2, 1) := by decide +kernel
theorem d10_77 : decode prog_13_method_6_code 77 = .ok (.iadd, 1) := by decide +kernel
theorem d10_78 : decode prog_13_method_6_code 78 = .ok (.putfield 25, 3) := by decide +kernel
theorem d10_81 : decode prog_13_method_6_code 81 = .ok (.aload_n 0, 1) := by decide +kernel
theorem d10_82 : decode prog_13_method_6_code 82 = .ok (.dup, 1) := by decide +kernel
theorem d10_83 : decode prog_13_method_6_code 83 = .ok (.getfield 35, 3) := by decide +kernel
theorem d10_86 : decode prog_13_method_6_code 86 = .ok (.lload_n 3, 1) := by decide +kernel
theorem d10_87 : decode prog_13_method_6_code 87 = .ok (.ladd, 1) := by decide +kernel
theorem d10_88 : decode prog_13_method_6_code 88 = .ok (.putfield 35, 3) := by decide +kernel
theorem ef_rm10_d (m : MethodId) (ob : Addr) (oe : Addr) : entryFrame m #[(.ref ob), (.ref oe), (.int 1)] 5 = mkF m 0 #[.val (.ref ob), .val (.ref oe), .val (.int 1), .unset, .unset] [] := by first | (simp [entryFrame, mkF, argsToLocals, Value.category]; done) | rfl
def Q10_d (Z : State) (ob : Addr) (oe : Addr) (xa : Int32) (xb : Int32) (xc : Int32) (ya : Int64) (yb : Int64) (yc : Int64) (hs : Addr) (ww : Int64) (a_UNKNOWN : Addr) (a_HEALTHY : Addr) (a_DEGRADED : Addr) (h0 : Heap) (n0 : Nat) (v : Option Value) (h : Heap) (L : List Loc) : Prop := v = none ∧ Fr n0 L ∧ Keep h0 h [ob] ∧ Fld Z h ob "com/example/spillway/spillway/assignment/HealthTally" "hosts" "I" (.int (xa + (1 : Int32))) ∧ Fld Z h ob "com/example/spillway/spillway/assignment/HealthTally" "healthy" "I" (.int xb) ∧ Fld Z h ob "com/example/spillway/spillway/assignment/HealthTally" "degraded" "I" (.int (xc + (1 : Int32))) ∧ Fld Z h ob "com/example/spillway/spillway/assignment/HealthTally" "hostWeight" "J" (.long (ya + (((1 : Int32).toInt64) * ww))) ∧ Fld Z h ob "com/example/spillway/spillway/assignment/HealthTally" "healthyWeight" "J" (.long yb) ∧ Fld Z h ob "com/example/spillway/spillway/assignment/HealthTally" "degradedWeight" "J" (.long (yc + (((1 : Int32).toInt64) * ww)))
set_option maxRecDepth 65536 in
set_option maxHeartbeats 40000000 in
theorem rm10_d (l : Launch) (Z : State) (a0 : Array Value) (hw : ∀ d ∈ tables_1, d.before a0 Z = true) (ws : List Jvm.Cond) (ob : Addr) (oe : Addr) (xa : Int32) (xb : Int32) (xc : Int32) (ya : Int64) (yb : Int64) (yc : Int64) (hs : Addr) (ww : Int64) (a_UNKNOWN : Addr) (a_HEALTHY : Addr) (a_DEGRADED : Addr) (h0 : Heap) (n0 : Nat) (O0 : Old Z n0 h0) (E_o : Exa Z h0 ob "com/example/spillway/spillway/assignment/HealthTally") (Fxa : Fld Z h0 ob "com/example/spillway/spillway/assignment/HealthTally" "hosts" "I" (.int xa)) (Fxb : Fld Z h0 ob "com/example/spillway/spillway/assignment/HealthTally" "healthy" "I" (.int xb)) (Fxc : Fld Z h0 ob "com/example/spillway/spillway/assignment/HealthTally" "degraded" "I" (.int xc)) (Fya : Fld Z h0 ob "com/example/spillway/spillway/assignment/HealthTally" "hostWeight" "J" (.long ya)) (Fyb : Fld Z h0 ob "com/example/spillway/spillway/assignment/HealthTally" "healthyWeight" "J" (.long yb)) (Fyc : Fld Z h0 ob "com/example/spillway/spillway/assignment/HealthTally" "degradedWeight" "J" (.long yc)) (E_p : Exa Z h0 oe "com/example/spillway/spillway/assignment/Endpoint") (Fh : Fld Z h0 oe "com/example/spillway/spillway/assignment/Endpoint" "health" "Lcom/example/spillway/spillway/assignment/HealthStatus;" (.ref hs)) (Fw : Fld Z h0 oe "com/example/spillway/spillway/assignment/Endpoint" "loadBalancingWeight" "J" (.long ww)) (E_h : Exa Z h0 hs "com/example/spillway/spillway/assignment/HealthStatus") (S_UNKNOWN : Sta Z Z.heap "com/example/spillway/spillway/assignment/HealthStatus" "UNKNOWN" "Lcom/example/spillway/spillway/assignment/HealthStatus;" (.ref a_UNKNOWN)) (S_HEALTHY : Sta Z Z.heap "com/example/spillway/spillway/assignment/HealthStatus" "HEALTHY" "Lcom/example/spillway/spillway/assignment/HealthStatus;" (.ref a_HEALTHY)) (S_DEGRADED : Sta Z Z.heap "com/example/spillway/spillway/assignment/HealthStatus" "DEGRADED" "Lcom/example/spillway/spillway/assignment/HealthStatus;" (.ref a_DEGRADED)) (g_o : n0 ≤ ob) (ne_oe : ob ≠ oe) (q_h : (if hs = a_HEALTHY then (1 : Int32) else if hs = a_UNKNOWN then 1 else 0) = (0 : Int32)) (q_d : ¬ (if hs = a_DEGRADED then (1 : Int32) else 0) = (0 : Int32)) :
    MetFree l mn10 (head1 (Jvm.Cond.code mn10 prog_13_method_6_code 5 none :: ws) ({ frames := 1, cells := 0, slots := 0, locals := 14 } : Room)) (fun ay U => ay = #[(.ref ob), (.ref oe), (.int 1)] ∧ Z.Warmed39 U.vm ∧ U.heap = h0) (fun _ _ _ _ _ => True) (fun _ U o U' => ∃ v L, o = .returned v ∧ Q10_d Z ob oe xa xb xc ya yb yc hs ww a_UNKNOWN a_HEALTHY a_DEGRADED h0 n0 v U'.heap L ∧ FrameEnd U o U' L ({ frames := 1, cells := 0, slots := 0, locals := 14 } : Room).cells ({ frames := 1, cells := 0, slots := 0, locals := 14 } : Room).slots) := by
  refine MetFree.of_bodySF (plainFor_of_name pn_com_example_spillway_spillway_assignment_HealthTally) hisR ?_
  intro p e s m args below meth c s₁ Bd hml0 hP hK
  obtain ⟨rfl, hZ, hh⟩ := hP
  have hx := Bd.exec
  have hby := Bd.bytes
  have hlk : meth.locks = false := BodyLoose.notSynchronized Bd
  have hml : c.maxLocals = 5 := hml0
  have hown : s.vm.findClass "com/example/spillway/spillway/assignment/HealthTally" = some m.cls := findClass_of_methodNamed Bd.named
  have hnm := (name_of_methodNamed Bd.named Bd.method).1
  have X0 : Stand p l e ({ frames := 1, cells := 0, slots := 0, locals := 14 } : Room) s m #[(.ref ob), (.ref oe), (.int 1)] below meth c s₁ [] 0 0 := Stand.of_body Bd
  have e0 : s₁.heap = h0 := by rw [← hh, Bd.state]; rfl
  have N0 := Fr.nil n0
  suffices hgo : Go p e below s 0 0 (Q10_d Z ob oe xa xb xc ya yb yc hs ww a_UNKNOWN a_HEALTHY a_DEGRADED h0 n0) (s₁.setTop (mkF m 0 #[.val (.ref ob), .val (.ref oe), .val (.int 1), .unset, .unset] [])) by
    obtain ⟨t, o, h1, h2⟩ := hgo; exact ⟨t, o, castTop (ef_rm10_d m ob oe) h1, h2⟩
  show Go p e below s _ _ _ (s₁.setTop (mkF m 0 #[.val (.ref ob), .val (.ref oe), .val (.int 1), .unset, .unset] []))
  refine Go.st (fun _ k' => XS.iloadN X0.here hx rfl (hb hby d10_0) rfl k') ?_
  refine Go.st (fun _ k' => XS.i2l X0.here hx rfl (hb hby d10_1) rfl k') ?_
  refine Go.st (fun _ k' => XS.aloadN X0.here hx rfl (hb hby d10_2) rfl rfl k') ?_
  show Go p e below s _ _ _ (s₁.setTop (mkF m 3 #[.val (.ref ob), .val (.ref oe), .val (.int 1), .unset, .unset] [(.ref oe), (.long ((1 : Int32).toInt64))]))
  obtain ⟨cq1, kq1, q1a, q1b, q1c⟩ := isOf hZ e0 E_p
  obtain ⟨_, _, ⟨T1, L1, k1, n1⟩, -, X1, ⟨Lc1, hQ1, l1, y1, z1⟩, st1⟩ := X0.virtualBack hx (y := mn11) (z := mn11) hown (mvT hZ (wdx hw 68 rfl)) (mvT hZ (wdx hw 69 rfl)) (notFace_of_selects (args := #[]) (mvT hZ (wdx hw 71 rfl))) (mvT hZ (wdx hw 71 rfl)) (mvT hZ (wdx hw 70 rfl)) (by decide) (backOf (W := 2) (rm11 l Z a0 hw [] oe ww h0 n0 O0 Fw) hZ (wdx hw 72 rfl) (wdx hw 12 rfl) (by decide) (by decide)) q1a q1c (g := (mkF m 3 #[.val (.ref ob), .val (.ref oe), .val (.int 1), .unset, .unset] [(.ref oe), (.long ((1 : Int32).toInt64))])) rfl (by rw [hml]; rfl) (Steps.refl _) (argsL := []) (rest := [(.long ((1 : Int32).toInt64))]) (lenOf pd___J rfl) rfl (by show 2 * 0 + _ ≤ _; exact Nat.le_of_eq rfl) (hb hby d10_3) (fun _ _ => ⟨rfl, e0, (by exact lee rfl), (by exact lee rfl)⟩)
  dsimp only [Pt.U, Pt.locs, Pt.cells, Pt.slots] at X1 l1 y1 z1 st1 hQ1
  subst l1 y1 z1
  obtain ⟨rfl, Nq1, eq1⟩ := hQ1
  have N1 := Fr.app N0 Nq1
  refine Go.tr st1 ?_
  show Go p e below s _ _ _ (T1.setTop (mkF m 6 #[.val (.ref ob), .val (.ref oe), .val (.int 1), .unset, .unset] [(.long ww), (.long ((1 : Int32).toInt64))]))
  refine Go.st (fun _ k' => XS.lmul X1.here hx rfl (hb hby d10_6) rfl k') ?_
  refine Go.st (fun _ k' => XS.lstoreN X1.here hx rfl (hb hby d10_7) rfl (l' := #[.val (.ref ob), .val (.ref oe), .val (.int 1), .val (.long (((1 : Int32).toInt64) * ww)), .second]) rfl k') ?_
  refine Go.st (fun _ k' => XS.aloadN X1.here hx rfl (hb hby d10_8) rfl rfl k') ?_
  refine Go.st (fun _ k' => XS.dup X1.here hx rfl (hb hby d10_9) rfl rfl k') ?_
  show Go p e below s _ _ _ (T1.setTop (mkF m 10 #[.val (.ref ob), .val (.ref oe), .val (.int 1), .val (.long (((1 : Int32).toInt64) * ww)), .second] [(.ref ob), (.ref ob)]))
  obtain ⟨T2, X2, e2, st2⟩ := getF X1 hx hZ hown (host := "") (Or.inl (wdx hw 73 rfl)) Via.refl eq1 Fxa (g := (mkF m 10 #[.val (.ref ob), .val (.ref oe), .val (.int 1), .val (.long (((1 : Int32).toInt64) * ww)), .second] [(.ref ob), (.ref ob)])) rfl rfl (hb hby d10_10)
  refine Go.st st2 ?_
  show Go p e below s _ _ _ (T2.setTop (mkF m 13 #[.val (.ref ob), .val (.ref oe), .val (.int 1), .val (.long (((1 : Int32).toInt64) * ww)), .second] [(.int xa), (.ref ob)]))
  refine Go.st (fun _ k' => XS.iloadN X2.here hx rfl (hb hby d10_13) rfl k') ?_
  refine Go.st (fun _ k' => XS.iadd X2.here hx rfl (hb hby d10_14) rfl k') ?_
  show Go p e below s _ _ _ (T2.setTop (mkF m 15 #[.val (.ref ob), .val (.ref oe), .val (.int 1), .val (.long (((1 : Int32).toInt64) * ww)), .second] [(.int (xa + (1 : Int32))), (.ref ob)]))
  obtain ⟨T3, h3, X3, e3, W3, st3⟩ := putF X2 hx hZ hown (host := "") (Or.inl (wdx hw 73 rfl)) Via.refl e2 Fxa E_o (Or.inl (wdx hw 74 rfl)) (wdx hw 53 rfl) (ty := .int) (by decide) rfl rfl (g := (mkF m 15 #[.val (.ref ob), .val (.ref oe), .val (.int 1), .val (.long (((1 : Int32).toInt64) * ww)), .second] [(.int (xa + (1 : Int32))), (.ref ob)])) rfl rfl (hb hby d10_15)
  refine Go.st st3 ?_
  have f4 : Exa Z h3 ob "com/example/spillway/spillway/assignment/HealthTally" := E_o.wr W3
  have f5 : Fld Z h3 ob "com/example/spillway/spillway/assignment/HealthTally" "hosts" "I" (.int (xa + (1 : Int32))) := Fxa.same W3
  have f6 : Fld Z h3 ob "com/example/spillway/spillway/assignment/HealthTally" "healthy" "I" (.int xb) := Fxb.other W3 (Or.inr (slot_ne (Or.inl (wdx hw 90 rfl)) (Or.inl (wdx hw 74 rfl)) (by decide) (t := .int) (t' := .int) (by decide) (by decide)))
  have f7 : Fld Z h3 ob "com/example/spillway/spillway/assignment/HealthTally" "degraded" "I" (.int xc) := Fxc.other W3 (Or.inr (slot_ne (Or.inl (wdx hw 109 rfl)) (Or.inl (wdx hw 74 rfl)) (by decide) (t := .int) (t' := .int) (by decide) (by decide)))
  have f8 : Fld Z h3 ob "com/example/spillway/spillway/assignment/HealthTally" "hostWeight" "J" (.long ya) := Fya.other W3 (Or.inr (slot_ne (Or.inl (wdx hw 76 rfl)) (Or.inl (wdx hw 74 rfl)) (by decide) (t := .long) (t' := .int) (by decide) (by decide)))
  have f9 : Fld Z h3 ob "com/example/spillway/spillway/assignment/HealthTally" "healthyWeight" "J" (.long yb) := Fyb.other W3 (Or.inr (slot_ne (Or.inl (wdx hw 92 rfl)) (Or.inl (wdx hw 74 rfl)) (by decide) (t := .long) (t' := .int) (by decide) (by decide)))
  have f10 : Fld Z h3 ob "com/example/spillway/spillway/assignment/HealthTally" "degradedWeight" "J" (.long yc) := Fyc.other W3 (Or.inr (slot_ne (Or.inl (wdx hw 126 rfl)) (Or.inl (wdx hw 74 rfl)) (by decide) (t := .long) (t' := .int) (by decide) (by decide)))
  have f11 : Exa Z h3 oe "com/example/spillway/spillway/assignment/Endpoint" := E_p.wr W3
  have f12 : Fld Z h3 oe "com/example/spillway/spillway/assignment/Endpoint" "health" "Lcom/example/spillway/spillway/assignment/HealthStatus;" (.ref hs) := Fh.other W3 (Or.inl (Ne.symm ne_oe))
  have f13 : Fld Z h3 oe "com/example/spillway/spillway/assignment/Endpoint" "loadBalancingWeight" "J" (.long ww) := Fw.other W3 (Or.inl (Ne.symm ne_oe))
  have f14 : Exa Z h3 hs "com/example/spillway/spillway/assignment/HealthStatus" := E_h.wr W3
  have O3 : Old Z n0 h3 := O0.wr W3 g_o
  have N3 := Fr.snoc X3 N1 g_o
  have K3 : Keep h0 h3 [ob] := (Keep.refl h0 [ob]).wr W3 (Or.inl (by simp))
  show Go p e below s _ _ _ (T3.setTop (mkF m 18 #[.val (.ref ob), .val (.ref oe), .val (.int 1), .val (.long (((1 : Int32).toInt64) * ww)), .second] []))
  refine Go.st (fun _ k' => XS.aloadN X3.here hx rfl (hb hby d10_18) rfl rfl k') ?_
  refine Go.st (fun _ k' => XS.dup X3.here hx rfl (hb hby d10_19) rfl rfl k') ?_
  show Go p e below s _ _ _ (T3.setTop (mkF m 20 #[.val (.ref ob), .val (.ref oe), .val (.int 1), .val (.long (((1 : Int32).toInt64) * ww)), .second] [(.ref ob), (.ref ob)]))
  obtain ⟨T15, X15, e15, st15⟩ := getF X3 hx hZ hown (host := "") (Or.inl (wdx hw 75 rfl)) Via.refl e3 f8 (g := (mkF m 20 #[.val (.ref ob), .val (.ref oe), .val (.int 1), .val (.long (((1 : Int32).toInt64) * ww)), .second] [(.ref ob), (.ref ob)])) rfl rfl (hb hby d10_20)
  refine Go.st st15 ?_
  show Go p e below s _ _ _ (T15.setTop (mkF m 23 #[.val (.ref ob), .val (.ref oe), .val (.int 1), .val (.long (((1 : Int32).toInt64) * ww)), .second] [(.long ya), (.ref ob)]))
  refine Go.st (fun _ k' => XS.lloadN X15.here hx rfl (hb hby d10_23) rfl k') ?_
  refine Go.st (fun _ k' => XS.ladd X15.here hx rfl (hb hby d10_24) rfl k') ?_
  show Go p e below s _ _ _ (T15.setTop (mkF m 25 #[.val (.ref ob), .val (.ref oe), .val (.int 1), .val (.long (((1 : Int32).toInt64) * ww)), .second] [(.long (ya + (((1 : Int32).toInt64) * ww))), (.ref ob)]))
  obtain ⟨T16, h16, X16, e16, W16, st16⟩ := putF X15 hx hZ hown (host := "") (Or.inl (wdx hw 75 rfl)) Via.refl e15 f8 f4 (Or.inl (wdx hw 76 rfl)) (wdx hw 53 rfl) (ty := .long) (by decide) rfl rfl (g := (mkF m 25 #[.val (.ref ob), .val (.ref oe), .val (.int 1), .val (.long (((1 : Int32).toInt64) * ww)), .second] [(.long (ya + (((1 : Int32).toInt64) * ww))), (.ref ob)])) rfl rfl (hb hby d10_25)
  refine Go.st st16 ?_
  have f17 : Exa Z h16 ob "com/example/spillway/spillway/assignment/HealthTally" := f4.wr W16
  have f18 : Fld Z h16 ob "com/example/spillway/spillway/assignment/HealthTally" "hosts" "I" (.int (xa + (1 : Int32))) := f5.other W16 (Or.inr (slot_ne (Or.inl (wdx hw 74 rfl)) (Or.inl (wdx hw 76 rfl)) (by decide) (t := .int) (t' := .long) (by decide) (by decide)))
  have f19 : Fld Z h16 ob "com/example/spillway/spillway/assignment/HealthTally" "healthy" "I" (.int xb) := f6.other W16 (Or.inr (slot_ne (Or.inl (wdx hw 90 rfl)) (Or.inl (wdx hw 76 rfl)) (by decide) (t := .int) (t' := .long) (by decide) (by decide)))
  have f20 : Fld Z h16 ob "com/example/spillway/spillway/assignment/HealthTally" "degraded" "I" (.int xc) := f7.other W16 (Or.inr (slot_ne (Or.inl (wdx hw 109 rfl)) (Or.inl (wdx hw 76 rfl)) (by decide) (t := .int) (t' := .long) (by decide) (by decide)))
  have f21 : Fld Z h16 ob "com/example/spillway/spillway/assignment/HealthTally" "hostWeight" "J" (.long (ya + (((1 : Int32).toInt64) * ww))) := f8.same W16
  have f22 : Fld Z h16 ob "com/example/spillway/spillway/assignment/HealthTally" "healthyWeight" "J" (.long yb) := f9.other W16 (Or.inr (slot_ne (Or.inl (wdx hw 92 rfl)) (Or.inl (wdx hw 76 rfl)) (by decide) (t := .long) (t' := .long) (by decide) (by decide)))
  have f23 : Fld Z h16 ob "com/example/spillway/spillway/assignment/HealthTally" "degradedWeight" "J" (.long yc) := f10.other W16 (Or.inr (slot_ne (Or.inl (wdx hw 126 rfl)) (Or.inl (wdx hw 76 rfl)) (by decide) (t := .long) (t' := .long) (by decide) (by decide)))
  have f24 : Exa Z h16 oe "com/example/spillway/spillway/assignment/Endpoint" := f11.wr W16
  have f25 : Fld Z h16 oe "com/example/spillway/spillway/assignment/Endpoint" "health" "Lcom/example/spillway/spillway/assignment/HealthStatus;" (.ref hs) := f12.other W16 (Or.inl (Ne.symm ne_oe))
  have f26 : Fld Z h16 oe "com/example/spillway/spillway/assignment/Endpoint" "loadBalancingWeight" "J" (.long ww) := f13.other W16 (Or.inl (Ne.symm ne_oe))
  have f27 : Exa Z h16 hs "com/example/spillway/spillway/assignment/HealthStatus" := f14.wr W16
  have O16 : Old Z n0 h16 := O3.wr W16 g_o
  have N16 := Fr.snoc X16 N3 g_o
  have K16 : Keep h0 h16 [ob] := K3.wr W16 (Or.inl (by simp))
  show Go p e below s _ _ _ (T16.setTop (mkF m 28 #[.val (.ref ob), .val (.ref oe), .val (.int 1), .val (.long (((1 : Int32).toInt64) * ww)), .second] []))
  refine Go.st (fun _ k' => XS.aloadN X16.here hx rfl (hb hby d10_28) rfl rfl k') ?_
  show Go p e below s _ _ _ (T16.setTop (mkF m 29 #[.val (.ref ob), .val (.ref oe), .val (.int 1), .val (.long (((1 : Int32).toInt64) * ww)), .second] [(.ref oe)]))
  obtain ⟨cq28, kq28, q28a, q28b, q28c⟩ := isOf hZ e16 f24
  obtain ⟨_, _, ⟨T28, L28, k28, n28⟩, -, X28, ⟨Lc28, hQ28, l28, y28, z28⟩, st28⟩ := X16.virtualBack hx (y := mn8) (z := mn8) hown (mvT hZ (wdx hw 77 rfl)) (mvT hZ (wdx hw 78 rfl)) (notFace_of_selects (args := #[]) (mvT hZ (wdx hw 80 rfl))) (mvT hZ (wdx hw 80 rfl)) (mvT hZ (wdx hw 79 rfl)) (by decide) (backOf (W := 0) (rm12 l Z a0 hw [] oe hs h16 n0 O16 f25) hZ (wdx hw 81 rfl) (wdx hw 12 rfl) (by decide) (by decide)) q28a q28c (g := (mkF m 29 #[.val (.ref ob), .val (.ref oe), .val (.int 1), .val (.long (((1 : Int32).toInt64) * ww)), .second] [(.ref oe)])) rfl (by rw [hml]; rfl) (Steps.refl _) (argsL := []) (rest := []) (lenOf pd___Lcom_example_spillway_spillway_assignment_HealthStatus_ rfl) rfl (by show 2 * 0 + _ ≤ _; exact Nat.le_of_eq rfl) (hb hby d10_29) (fun _ _ => ⟨rfl, e16, (by exact lee rfl), (by exact lee rfl)⟩)
  dsimp only [Pt.U, Pt.locs, Pt.cells, Pt.slots] at X28 l28 y28 z28 st28 hQ28
  subst l28 y28 z28
  obtain ⟨rfl, Nq28, eq28⟩ := hQ28
  have N28 := Fr.app N16 Nq28
  refine Go.tr st28 ?_
  show Go p e below s _ _ _ (T28.setTop (mkF m 32 #[.val (.ref ob), .val (.ref oe), .val (.int 1), .val (.long (((1 : Int32).toInt64) * ww)), .second] [(.ref hs)]))
  obtain ⟨cq29, kq29, q29a, q29b, q29c⟩ := isOf hZ eq28 f27
  obtain ⟨_, _, ⟨T29, L29, k29, n29⟩, -, X29, ⟨Lc29, hQ29, l29, y29, z29⟩, st29⟩ := X28.virtualBack hx (y := mn12) (z := mn12) hown (mvT hZ (wdx hw 82 rfl)) (mvT hZ (wdx hw 83 rfl)) (notFace_of_selects (args := #[]) (mvT hZ (wdx hw 85 rfl))) (mvT hZ (wdx hw 85 rfl)) (mvT hZ (wdx hw 84 rfl)) (by decide) (backOf (W := 0) (rm13 l Z a0 hw [] hs a_UNKNOWN a_HEALTHY h16 n0 O16 S_UNKNOWN S_HEALTHY) hZ (wdx hw 86 rfl) (wdx hw 17 rfl) (by decide) (by decide)) q29a q29c (g := (mkF m 32 #[.val (.ref ob), .val (.ref oe), .val (.int 1), .val (.long (((1 : Int32).toInt64) * ww)), .second] [(.ref hs)])) rfl (by rw [hml]; rfl) (Steps.refl _) (argsL := []) (rest := []) (lenOf pd___Z rfl) rfl (by show 2 * 0 + _ ≤ _; exact Nat.le_of_eq rfl) (hb hby d10_32) (fun _ _ => ⟨rfl, eq28, (by exact lee rfl), (by exact lee rfl)⟩)
  dsimp only [Pt.U, Pt.locs, Pt.cells, Pt.slots] at X29 l29 y29 z29 st29 hQ29
  subst l29 y29 z29
  obtain ⟨rfl, Nq29, eq29⟩ := hQ29
  have N29 := Fr.app N28 Nq29
  refine Go.tr st29 ?_
  show Go p e below s _ _ _ (T29.setTop (mkF m 35 #[.val (.ref ob), .val (.ref oe), .val (.int 1), .val (.long (((1 : Int32).toInt64) * ww)), .second] [(.int (if hs = a_HEALTHY then (1 : Int32) else if hs = a_UNKNOWN then 1 else 0))]))
  refine Go.st (fun _ k' => XS.ifYes X29.here hx rfl (pc0 := 35) (pc' := 61) rfl (hb hby d10_35) rfl (XT.i0_eq_t q_h) (by decide) (by decide) k') ?_
  show Go p e below s _ _ _ (T29.setTop (mkF m 61 #[.val (.ref ob), .val (.ref oe), .val (.int 1), .val (.long (((1 : Int32).toInt64) * ww)), .second] []))
  refine Go.st (fun _ k' => XS.aloadN X29.here hx rfl (hb hby d10_61) rfl rfl k') ?_
  show Go p e below s _ _ _ (T29.setTop (mkF m 62 #[.val (.ref ob), .val (.ref oe), .val (.int 1), .val (.long (((1 : Int32).toInt64) * ww)), .second] [(.ref oe)]))
  obtain ⟨cq30, kq30, q30a, q30b, q30c⟩ := isOf hZ eq29 f24
  obtain ⟨_, _, ⟨T30, L30, k30, n30⟩, -, X30, ⟨Lc30, hQ30, l30, y30, z30⟩, st30⟩ := X29.virtualBack hx (y := mn8) (z := mn8) hown (mvT hZ (wdx hw 77 rfl)) (mvT hZ (wdx hw 78 rfl)) (notFace_of_selects (args := #[]) (mvT hZ (wdx hw 80 rfl))) (mvT hZ (wdx hw 80 rfl)) (mvT hZ (wdx hw 79 rfl)) (by decide) (backOf (W := 0) (rm12 l Z a0 hw [] oe hs h16 n0 O16 f25) hZ (wdx hw 81 rfl) (wdx hw 12 rfl) (by decide) (by decide)) q30a q30c (g := (mkF m 62 #[.val (.ref ob), .val (.ref oe), .val (.int 1), .val (.long (((1 : Int32).toInt64) * ww)), .second] [(.ref oe)])) rfl (by rw [hml]; rfl) (Steps.refl _) (argsL := []) (rest := []) (lenOf pd___Lcom_example_spillway_spillway_assignment_HealthStatus_ rfl) rfl (by show 2 * 0 + _ ≤ _; exact Nat.le_of_eq rfl) (hb hby d10_62) (fun _ _ => ⟨rfl, eq29, (by exact lee rfl), (by exact lee rfl)⟩)
  dsimp only [Pt.U, Pt.locs, Pt.cells, Pt.slots] at X30 l30 y30 z30 st30 hQ30
  subst l30 y30 z30
  obtain ⟨rfl, Nq30, eq30⟩ := hQ30
  have N30 := Fr.app N29 Nq30
  refine Go.tr st30 ?_
  show Go p e below s _ _ _ (T30.setTop (mkF m 65 #[.val (.ref ob), .val (.ref oe), .val (.int 1), .val (.long (((1 : Int32).toInt64) * ww)), .second] [(.ref hs)]))
  obtain ⟨cq31, kq31, q31a, q31b, q31c⟩ := isOf hZ eq30 f27
  obtain ⟨_, _, ⟨T31, L31, k31, n31⟩, -, X31, ⟨Lc31, hQ31, l31, y31, z31⟩, st31⟩ := X30.virtualBack hx (y := mn14) (z := mn14) hown (mvT hZ (wdx hw 131 rfl)) (mvT hZ (wdx hw 132 rfl)) (notFace_of_selects (args := #[]) (mvT hZ (wdx hw 134 rfl))) (mvT hZ (wdx hw 134 rfl)) (mvT hZ (wdx hw 133 rfl)) (by decide) (backOf (W := 0) (rm20 l Z a0 hw [] hs a_DEGRADED h16 n0 O16 S_DEGRADED) hZ (wdx hw 135 rfl) (wdx hw 17 rfl) (by decide) (by decide)) q31a q31c (g := (mkF m 65 #[.val (.ref ob), .val (.ref oe), .val (.int 1), .val (.long (((1 : Int32).toInt64) * ww)), .second] [(.ref hs)])) rfl (by rw [hml]; rfl) (Steps.refl _) (argsL := []) (rest := []) (lenOf pd___Z rfl) rfl (by show 2 * 0 + _ ≤ _; exact Nat.le_of_eq rfl) (hb hby d10_65) (fun _ _ => ⟨rfl, eq30, (by exact lee rfl), (by exact lee rfl)⟩)
  dsimp only [Pt.U, Pt.locs, Pt.cells, Pt.slots] at X31 l31 y31 z31 st31 hQ31
  subst l31 y31 z31
  obtain ⟨rfl, Nq31, eq31⟩ := hQ31
  have N31 := Fr.app N30 Nq31
  refine Go.tr st31 ?_
  show Go p e below s _ _ _ (T31.setTop (mkF m 68 #[.val (.ref ob), .val (.ref oe), .val (.int 1), .val (.long (((1 : Int32).toInt64) * ww)), .second] [(.int (if hs = a_DEGRADED then (1 : Int32) else 0))]))
  refine Go.st (fun _ k' => XS.ifNo X31.here hx rfl (hb hby d10_68) rfl (XT.i0_eq_f q_d) k') ?_
  show Go p e below s _ _ _ (T31.setTop (mkF m 71 #[.val (.ref ob), .val (.ref oe), .val (.int 1), .val (.long (((1 : Int32).toInt64) * ww)), .second] []))
  refine Go.st (fun _ k' => XS.aloadN X31.here hx rfl (hb hby d10_71) rfl rfl k') ?_
  refine Go.st (fun _ k' => XS.dup X31.here hx rfl (hb hby d10_72) rfl rfl k') ?_
  show Go p e below s _ _ _ (T31.setTop (mkF m 73 #[.val (.ref ob), .val (.ref oe), .val (.int 1), .val (.long (((1 : Int32).toInt64) * ww)), .second] [(.ref ob), (.ref ob)]))
  obtain ⟨T32, X32, e32, st32⟩ := getF X31 hx hZ hown (host := "") (Or.inl (wdx hw 108 rfl)) Via.refl eq31 f20 (g := (mkF m 73 #[.val (.ref ob), .val (.ref oe), .val (.int 1), .val (.long (((1 : Int32).toInt64) * ww)), .second] [(.ref ob), (.ref ob)])) rfl rfl (hb hby d10_73)
  refine Go.st st32 ?_
  show Go p e below s _ _ _ (T32.setTop (mkF m 76 #[.val (.ref ob), .val (.ref oe), .val (.int 1), .val (.long (((1 : Int32).toInt64) * ww)), .second] [(.int xc), (.ref ob)]))
  refine Go.st (fun _ k' => XS.iloadN X32.here hx rfl (hb hby d10_76) rfl k') ?_
  refine Go.st (fun _ k' => XS.iadd X32.here hx rfl (hb hby d10_77) rfl k') ?_
  show Go p e below s _ _ _ (T32.setTop (mkF m 78 #[.val (.ref ob), .val (.ref oe), .val (.int 1), .val (.long (((1 : Int32).toInt64) * ww)), .second] [(.int (xc + (1 : Int32))), (.ref ob)]))
  obtain ⟨T33, h33, X33, e33, W33, st33⟩ := putF X32 hx hZ hown (host := "") (Or.inl (wdx hw 108 rfl)) Via.refl e32 f20 f17 (Or.inl (wdx hw 109 rfl)) (wdx hw 53 rfl) (ty := .int) (by decide) rfl rfl (g := (mkF m 78 #[.val (.ref ob), .val (.ref oe), .val (.int 1), .val (.long (((1 : Int32).toInt64) * ww)), .second] [(.int (xc + (1 : Int32))), (.ref ob)])) rfl rfl (hb hby d10_78)
  refine Go.st st33 ?_
  have f34 : Exa Z h33 ob "com/example/spillway/spillway/assignment/HealthTally" := f17.wr W33
  have f35 : Fld Z h33 ob "com/example/spillway/spillway/assignment/HealthTally" "hosts" "I" (.int (xa + (1 : Int32))) := f18.other W33 (Or.inr (slot_ne (Or.inl (wdx hw 74 rfl)) (Or.inl (wdx hw 109 rfl)) (by decide) (t := .int) (t' := .int) (by decide) (by decide)))
  have f36 : Fld Z h33 ob "com/example/spillway/spillway/assignment/HealthTally" "healthy" "I" (.int xb) := f19.other W33 (Or.inr (slot_ne (Or.inl (wdx hw 90 rfl)) (Or.inl (wdx hw 109 rfl)) (by decide) (t := .int) (t' := .int) (by decide) (by decide)))
  have f37 : Fld Z h33 ob "com/example/spillway/spillway/assignment/HealthTally" "degraded" "I" (.int (xc + (1 : Int32))) := f20.same W33
  have f38 : Fld Z h33 ob "com/example/spillway/spillway/assignment/HealthTally" "hostWeight" "J" (.long (ya + (((1 : Int32).toInt64) * ww))) := f21.other W33 (Or.inr (slot_ne (Or.inl (wdx hw 76 rfl)) (Or.inl (wdx hw 109 rfl)) (by decide) (t := .long) (t' := .int) (by decide) (by decide)))
  have f39 : Fld Z h33 ob "com/example/spillway/spillway/assignment/HealthTally" "healthyWeight" "J" (.long yb) := f22.other W33 (Or.inr (slot_ne (Or.inl (wdx hw 92 rfl)) (Or.inl (wdx hw 109 rfl)) (by decide) (t := .long) (t' := .int) (by decide) (by decide)))
  have f40 : Fld Z h33 ob "com/example/spillway/spillway/assignment/HealthTally" "degradedWeight" "J" (.long yc) := f23.other W33 (Or.inr (slot_ne (Or.inl (wdx hw 126 rfl)) (Or.inl (wdx hw 109 rfl)) (by decide) (t := .long) (t' := .int) (by decide) (by decide)))
  have f41 : Exa Z h33 oe "com/example/spillway/spillway/assignment/Endpoint" := f24.wr W33
  have f42 : Fld Z h33 oe "com/example/spillway/spillway/assignment/Endpoint" "health" "Lcom/example/spillway/spillway/assignment/HealthStatus;" (.ref hs) := f25.other W33 (Or.inl (Ne.symm ne_oe))
  have f43 : Fld Z h33 oe "com/example/spillway/spillway/assignment/Endpoint" "loadBalancingWeight" "J" (.long ww) := f26.other W33 (Or.inl (Ne.symm ne_oe))
  have f44 : Exa Z h33 hs "com/example/spillway/spillway/assignment/HealthStatus" := f27.wr W33
  have O33 : Old Z n0 h33 := O16.wr W33 g_o
  have N33 := Fr.snoc X33 N31 g_o
  have K33 : Keep h0 h33 [ob] := K16.wr W33 (Or.inl (by simp))
  show Go p e below s _ _ _ (T33.setTop (mkF m 81 #[.val (.ref ob), .val (.ref oe), .val (.int 1), .val (.long (((1 : Int32).toInt64) * ww)), .second] []))
  refine Go.st (fun _ k' => XS.aloadN X33.here hx rfl (hb hby d10_81) rfl rfl k') ?_
  refine Go.st (fun _ k' => XS.dup X33.here hx rfl (hb hby d10_82) rfl rfl k') ?_
  show Go p e below s _ _ _ (T33.setTop (mkF m 83 #[.val (.ref ob), .val (.ref oe), .val (.int 1), .val (.long (((1 : Int32).toInt64) * ww)), .second] [(.ref ob), (.ref ob)]))
  obtain ⟨T45, X45, e45, st45⟩ := getF X33 hx hZ hown (host := "") (Or.inl (wdx hw 125 rfl)) Via.refl e33 f40 (g := (mkF m 83 #[.val (.ref ob), .val (.ref oe), .val (.int 1), .val (.long (((1 : Int32).toInt64) * ww)), .second] [(.ref ob), (.ref ob)])) rfl rfl (hb hby d10_83)
  refine Go.st st45 ?_
  show Go p e below s _ _ _ (T45.setTop (mkF m 86 #[.val (.ref ob), .val (.ref oe), .val (.int 1), .val (.long (((1 : Int32).toInt64) * ww)), .second] [(.long yc), (.ref ob)]))
  refine Go.st (fun _ k' => XS.lloadN X45.here hx rfl (hb hby d10_86) rfl k') ?_
  refine Go.st (fun _ k' => XS.ladd X45.here hx rfl (hb hby d10_87) rfl k') ?_
  show Go p e below s _ _ _ (T45.setTop (mkF m 88 #[.val (.ref ob), .val (.ref oe), .val (.int 1), .val (.long (((1 : Int32).toInt64) * ww)), .second] [(.long (yc + (((1 : Int32).toInt64) * ww))), (.ref ob)]))
  obtain ⟨T46, h46, X46, e46, W46, st46⟩ := putF X45 hx hZ hown (host := "") (Or.inl (wdx hw 125 rfl)) Via.refl e45 f40 f34 (Or.inl (wdx hw 126 rfl)) (wdx hw 53 rfl) (ty := .long) (by decide) rfl rfl (g := (mkF m 88 #[.val (.ref ob), .val (.ref oe), .val (.int 1), .val (.long (((1 : Int32).toInt64) * ww)), .second] [(.long (yc + (((1 : Int32).toInt64) * ww))), (.ref ob)])) rfl rfl (hb hby d10_88)
  refine Go.st st46 ?_
  have f47 : Exa Z h46 ob "com/example/spillway/spillway/assignment/HealthTally" := f34.wr W46
  have f48 : Fld Z h46 ob "com/example/spillway/spillway/assignment/HealthTally" "hosts" "I" (.int (xa + (1 : Int32))) := f35.other W46 (Or.inr (slot_ne (Or.inl (wdx hw 74 rfl)) (Or.inl (wdx hw 126 rfl)) (by decide) (t := .int) (t' := .long) (by decide) (by decide)))
  have f49 : Fld Z h46 ob "com/example/spillway/spillway/assignment/HealthTally" "healthy" "I" (.int xb) := f36.other W46 (Or.inr (slot_ne (Or.inl (wdx hw 90 rfl)) (Or.inl (wdx hw 126 rfl)) (by decide) (t := .int) (t' := .long) (by decide) (by decide)))
  have f50 : Fld Z h46 ob "com/example/spillway/spillway/assignment/HealthTally" "degraded" "I" (.int (xc + (1 : Int32))) := f37.other W46 (Or.inr (slot_ne (Or.inl (wdx hw 109 rfl)) (Or.inl (wdx hw 126 rfl)) (by decide) (t := .int) (t' := .long) (by decide) (by decide)))
  have f51 : Fld Z h46 ob "com/example/spillway/spillway/assignment/HealthTally" "hostWeight" "J" (.long (ya + (((1 : Int32).toInt64) * ww))) := f38.other W46 (Or.inr (slot_ne (Or.inl (wdx hw 76 rfl)) (Or.inl (wdx hw 126 rfl)) (by decide) (t := .long) (t' := .long) (by decide) (by decide)))
  have f52 : Fld Z h46 ob "com/example/spillway/spillway/assignment/HealthTally" "healthyWeight" "J" (.long yb) := f39.other W46 (Or.inr (slot_ne (Or.inl (wdx hw 92 rfl)) (Or.inl (wdx hw 126 rfl)) (by decide) (t := .long) (t' := .long) (by decide) (by decide)))
  have f53 : Fld Z h46 ob "com/example/spillway/spillway/assignment/HealthTally" "degradedWeight" "J" (.long (yc + (((1 : Int32).toInt64) * ww))) := f40.same W46
  have f54 : Exa Z h46 oe "com/example/spillway/spillway/assignment/Endpoint" := f41.wr W46
  have f55 : Fld Z h46 oe "com/example/spillway/spillway/assignment/Endpoint" "health" "Lcom/example/spillway/spillway/assignment/HealthStatus;" (.ref hs) := f42.other W46 (Or.inl (Ne.symm ne_oe))
  have f56 : Fld Z h46 oe "com/example/spillway/spillway/assignment/Endpoint" "loadBalancingWeight" "J" (.long ww) := f43.other W46 (Or.inl (Ne.symm ne_oe))
  have f57 : Exa Z h46 hs "com/example/spillway/spillway/assignment/HealthStatus" := f44.wr W46
  have O46 : Old Z n0 h46 := O33.wr W46 g_o
  have N46 := Fr.snoc X46 N33 g_o
  have K46 : Keep h0 h46 [ob] := K33.wr W46 (Or.inl (by simp))
  show Go p e below s _ _ _ (T46.setTop (mkF m 91 #[.val (.ref ob), .val (.ref oe), .val (.int 1), .val (.long (((1 : Int32).toInt64) * ww)), .second] []))
  refine Go.retV X46 hx hlk Bd.returns (hb hby d10_91) (by decide) (by decide) e46 ?_
  exact ⟨rfl, N46, K46, f48, f49, f50, f51, f52, f53⟩
theorem ef_rm9_d (m : MethodId) (ob : Addr) (oe : Addr) : entryFrame m #[(.ref ob), (.ref oe)] 2 = mkF m 0 #[.val (.ref ob), .val (.ref oe)] [] := by first | (simp [entryFrame, mkF, argsToLocals, Value.category]; done) | rfl
def Q9_d (Z : State) (ob : Addr) (oe : Addr) (xa : Int32) (xb : Int32) (xc : Int32) (ya : Int64) (yb : Int64) (yc : Int64) (hs : Addr) (ww : Int64) (a_UNKNOWN : Addr) (a_HEALTHY : Addr) (a_DEGRADED : Addr) (h0 : Heap) (n0 : Nat) (v : Option Value) (h : Heap) (L : List Loc) : Prop := v = none ∧ Fr n0 L ∧ Keep h0 h [ob] ∧ Fld Z h ob "com/example/spillway/spillway/assignment/HealthTally" "hosts" "I" (.int (xa + (1 : Int32))) ∧ Fld Z h ob "com/example/spillway/spillway/assignment/HealthTally" "healthy" "I" (.int xb) ∧ Fld Z h ob "com/example/spillway/spillway/assignment/HealthTally" "degraded" "I" (.int (xc + (1 : Int32))) ∧ Fld Z h ob "com/example/spillway/spillway/assignment/HealthTally" "hostWeight" "J" (.long (ya + (((1 : Int32).toInt64) * ww))) ∧ Fld Z h ob "com/example/spillway/spillway/assignment/HealthTally" "healthyWeight" "J" (.long yb) ∧ Fld Z h ob "com/example/spillway/spillway/assignment/HealthTally" "degradedWeight" "J" (.long (yc + (((1 : Int32).toInt64) * ww)))
set_option maxRecDepth 65536 in
set_option maxHeartbeats 40000000 in
theorem rm9_d (l : Launch) (Z : State) (a0 : Array Value) (hw : ∀ d ∈ tables_1, d.before a0 Z = true) (ws : List Jvm.Cond) (ob : Addr) (oe : Addr) (xa : Int32) (xb : Int32) (xc : Int32) (ya : Int64) (yb : Int64) (yc : Int64) (hs : Addr) (ww : Int64) (a_UNKNOWN : Addr) (a_HEALTHY : Addr) (a_DEGRADED : Addr) (h0 : Heap) (n0 : Nat) (O0 : Old Z n0 h0) (E_o : Exa Z h0 ob "com/example/spillway/spillway/assignment/HealthTally") (Fxa : Fld Z h0 ob "com/example/spillway/spillway/assignment/HealthTally" "hosts" "I" (.int xa)) (Fxb : Fld Z h0 ob "com/example/spillway/spillway/assignment/HealthTally" "healthy" "I" (.int xb)) (Fxc : Fld Z h0 ob "com/example/spillway/spillway/assignment/HealthTally" "degraded" "I" (.int xc)) (Fya : Fld Z h0 ob "com/example/spillway/spillway/assignment/HealthTally" "hostWeight" "J" (.long ya)) (Fyb : Fld Z h0 ob "com/example/spillway/spillway/assignment/HealthTally" "healthyWeight" "J" (.long yb)) (Fyc : Fld Z h0 ob "com/example/spillway/spillway/assignment/HealthTally" "degradedWeight" "J" (.long yc)) (E_p : Exa Z h0 oe "com/example/spillway/spillway/assignment/Endpoint") (Fh : Fld Z h0 oe "com/example/spillway/spillway/assignment/Endpoint" "health" "Lcom/example/spillway/spillway/assignment/HealthStatus;" (.ref hs)) (Fw : Fld Z h0 oe "com/example/spillway/spillway/assignment/Endpoint" "loadBalancingWeight" "J" (.long ww)) (E_h : Exa Z h0 hs "com/example/spillway/spillway/assignment/HealthStatus") (S_UNKNOWN : Sta Z Z.heap "com/example/spillway/spillway/assignment/HealthStatus" "UNKNOWN" "Lcom/example/spillway/spillway/assignment/HealthStatus;" (.ref a_UNKNOWN)) (S_HEALTHY : Sta Z Z.heap "com/example/spillway/spillway/assignment/HealthStatus" "HEALTHY" "Lcom/example/spillway/spillway/assignment/HealthStatus;" (.ref a_HEALTHY)) (S_DEGRADED : Sta Z Z.heap "com/example/spillway/spillway/assignment/HealthStatus" "DEGRADED" "Lcom/example/spillway/spillway/assignment/HealthStatus;" (.ref a_DEGRADED)) (g_o : n0 ≤ ob) (ne_oe : ob ≠ oe) (q_h : (if hs = a_HEALTHY then (1 : Int32) else if hs = a_UNKNOWN then 1 else 0) = (0 : Int32)) (q_d : ¬ (if hs = a_DEGRADED then (1 : Int32) else 0) = (0 : Int32)) :
    MetFree l mn0 (head1 (Jvm.Cond.code mn0 prog_13_method_3_code 2 none :: ws) ({ frames := 2, cells := 0, slots := 0, locals := 30 } : Room)) (fun ay U => ay = #[(.ref ob), (.ref oe)] ∧ Z.Warmed39 U.vm ∧ U.heap = h0) (fun _ _ _ _ _ => True) (fun _ U o U' => ∃ v L, o = .returned v ∧ Q9_d Z ob oe xa xb xc ya yb yc hs ww a_UNKNOWN a_HEALTHY a_DEGRADED h0 n0 v U'.heap L ∧ FrameEnd U o U' L ({ frames := 2, cells := 0, slots := 0, locals := 30 } : Room).cells ({ frames := 2, cells := 0, slots := 0, locals := 30 } : Room).slots) := by
  refine MetFree.of_bodySF (plainFor_of_name pn_com_example_spillway_spillway_assignment_HealthTally) hisR ?_
  intro p e s m args below meth c s₁ Bd hml0 hP hK
  obtain ⟨rfl, hZ, hh⟩ := hP
  have hx := Bd.exec
  have hby := Bd.bytes
  have hlk : meth.locks = false := BodyLoose.notSynchronized Bd
  have hml : c.maxLocals = 2 := hml0
  have hown : s.vm.findClass "com/example/spillway/spillway/assignment/HealthTally" = some m.cls := findClass_of_methodNamed Bd.named
  have hnm := (name_of_methodNamed Bd.named Bd.method).1
  have X0 : Stand p l e ({ frames := 2, cells := 0, slots := 0, locals := 30 } : Room) s m #[(.ref ob), (.ref oe)] below meth c s₁ [] 0 0 := Stand.of_body Bd
  have e0 : s₁.heap = h0 := by rw [← hh, Bd.state]; rfl
  have N0 := Fr.nil n0
  suffices hgo : Go p e below s 0 0 (Q9_d Z ob oe xa xb xc ya yb yc hs ww a_UNKNOWN a_HEALTHY a_DEGRADED h0 n0) (s₁.setTop (mkF m 0 #[.val (.ref ob), .val (.ref oe)] [])) by
    obtain ⟨t, o, h1, h2⟩ := hgo; exact ⟨t, o, castTop (ef_rm9_d m ob oe) h1, h2⟩
  show Go p e below s _ _ _ (s₁.setTop (mkF m 0 #[.val (.ref ob), .val (.ref oe)] []))
  refine Go.st (fun _ k' => XS.aloadN X0.here hx rfl (hb hby d9_0) rfl rfl k') ?_
  refine Go.st (fun _ k' => XS.aloadN X0.here hx rfl (hb hby d9_1) rfl rfl k') ?_
  refine Go.st (fun _ k' => XS.iconst X0.here hx rfl (hb hby d9_2) k') ?_
  show Go p e below s _ _ _ (s₁.setTop (mkF m 3 #[.val (.ref ob), .val (.ref oe)] [(.int 1), (.ref oe), (.ref ob)]))
  obtain ⟨cq1, q1, q1'⟩ := E_o.cell
  obtain ⟨_, _, ⟨T1, L1, k1, n1⟩, -, X1, ⟨Lc1, hQ1, l1, y1, z1⟩, st1⟩ := X0.privateBack hx (y := mn10) hown (mvT hZ (wdx hw 64 rfl)) (mvT hZ (wdx hw 65 rfl)) (Jvm.Kit.selects_private (by decide) (mvT hZ (wdx hw 53 rfl)) (mvP hZ (wdx hw 66 rfl)) (mvT hZ (wdx hw 65 rfl))) (Cond.privateMethod_at (mvP hZ (wdx hw 66 rfl) (args := #[]))) (mvT hZ (wdx hw 67 rfl)) (by decide) (backOf (W := 0) (rm10_d l Z a0 hw [] ob oe xa xb xc ya yb yc hs ww a_UNKNOWN a_HEALTHY a_DEGRADED h0 n0 O0 E_o Fxa Fxb Fxc Fya Fyb Fyc E_p Fh Fw E_h S_UNKNOWN S_HEALTHY S_DEGRADED g_o ne_oe q_h q_d) hZ (wdx hw 67 rfl) (wdx hw 54 rfl) (by decide) (by decide)) (g := (mkF m 3 #[.val (.ref ob), .val (.ref oe)] [(.int 1), (.ref oe), (.ref ob)])) rfl (by rw [hml]; rfl) (Steps.refl _) (a := ob) (by rw [e0]; exact q1) q1' (argsL := [(.ref oe), (.int 1)]) (rest := []) (lenOf pd__Lcom_example_spillway_spillway_assignment_Endpoint_I_V rfl) rfl (by show 2 * 0 + _ ≤ _; exact Nat.le_of_eq rfl) (hb hby d9_3) (fun _ _ => ⟨rfl, e0, (by exact lee rfl), (by exact lee rfl)⟩)
  dsimp only [Pt.U, Pt.locs, Pt.cells, Pt.slots] at X1 l1 y1 z1 st1 hQ1
  subst l1 y1 z1
  obtain ⟨rfl, Nq1, Kq1, f2, f3, f4, f5, f6, f7⟩ := hQ1
  have N1 := Fr.app N0 Nq1
  refine Go.tr st1 ?_
  have f8 : Exa Z T1.heap ob "com/example/spillway/spillway/assignment/HealthTally" := E_o.keep Kq1
  have f9 : Exa Z T1.heap oe "com/example/spillway/spillway/assignment/Endpoint" := E_p.keep Kq1
  have f10 : Fld Z T1.heap oe "com/example/spillway/spillway/assignment/Endpoint" "health" "Lcom/example/spillway/spillway/assignment/HealthStatus;" (.ref hs) := Fh.keep Kq1 (ninS (Ne.symm ne_oe) nin0)
  have f11 : Fld Z T1.heap oe "com/example/spillway/spillway/assignment/Endpoint" "loadBalancingWeight" "J" (.long ww) := Fw.keep Kq1 (ninS (Ne.symm ne_oe) nin0)
  have f12 : Exa Z T1.heap hs "com/example/spillway/spillway/assignment/HealthStatus" := E_h.keep Kq1
  have O1 : Old Z n0 T1.heap := O0.keep Kq1 (allS g_o all0)
  have K1 : Keep h0 T1.heap [ob] := (Keep.refl h0 [ob]).trans Kq1 (allS (Or.inl (by simp)) all0)
  show Go p e below s _ _ _ (T1.setTop (mkF m 6 #[.val (.ref ob), .val (.ref oe)] []))
  refine Go.retV X1 hx hlk Bd.returns (hb hby d9_6) (by decide) (by decide) rfl ?_
  exact ⟨rfl, N1, K1, f2, f3, f4, f5, f6, f7⟩
theorem ef_rm10_o (m : MethodId) (ob : Addr) (oe : Addr) : entryFrame m #[(.ref ob), (.ref oe), (.int 1)] 5 = mkF m 0 #[.val (.ref ob), .val (.ref oe), .val (.int 1), .unset, .unset] [] := by first | (simp [entryFrame, mkF, argsToLocals, Value.category]; done) | rfl
def Q10_o (Z : State) (ob : Addr) (oe : Addr) (xa : Int32) (xb : Int32) (xc : Int32) (ya : Int64) (yb : Int64) (yc : Int64) (hs : Addr) (ww : Int64) (a_UNKNOWN : Addr) (a_HEALTHY : Addr) (a_DEGRADED : Addr) (h0 : Heap) (n0 : Nat) (v : Option Value) (h : Heap) (L : List Loc) : Prop := v = none ∧ Fr n0 L ∧ Keep h0 h [ob] ∧ Fld Z h ob "com/example/spillway/spillway/assignment/HealthTally" "hosts" "I" (.int (xa + (1 : Int32))) ∧ Fld Z h ob "com/example/spillway/spillway/assignment/HealthTally" "healthy" "I" (.int xb) ∧ Fld Z h ob "com/example/spillway/spillway/assignment/HealthTally" "degraded" "I" (.int xc) ∧ Fld Z h ob "com/example/spillway/spillway/assignment/HealthTally" "hostWeight" "J" (.long (ya + (((1 : Int32).toInt64) * ww))) ∧ Fld Z h ob "com/example/spillway/spillway/assignment/HealthTally" "healthyWeight" "J" (.long yb) ∧ Fld Z h ob "com/example/spillway/spillway/assignment/HealthTally" "degradedWeight" "J" (.long yc)
set_option maxRecDepth 65536 in
set_option maxHeartbeats 40000000 in
theorem rm10_o (l : Launch) (Z : State) (a0 : Array Value) (hw : ∀ d ∈ tables_1, d.before a0 Z = true) (ws : List Jvm.Cond) (ob : Addr) (oe : Addr) (xa : Int32) (xb : Int32) (xc : Int32) (ya : Int64) (yb : Int64) (yc : Int64) (hs : Addr) (ww : Int64) (a_UNKNOWN : Addr) (a_HEALTHY : Addr) (a_DEGRADED : Addr) (h0 : Heap) (n0 : Nat) (O0 : Old Z n0 h0) (E_o : Exa Z h0 ob "com/example/spillway/spillway/assignment/HealthTally") (Fxa : Fld Z h0 ob "com/example/spillway/spillway/assignment/HealthTally" "hosts" "I" (.int xa)) (Fxb : Fld Z h0 ob "com/example/spillway/spillway/assignment/HealthTally" "healthy" "I" (.int xb)) (Fxc : Fld Z h0 ob "com/example/spillway/spillway/assignment/HealthTally" "degraded" "I" (.int xc)) (Fya : Fld Z h0 ob "com/example/spillway/spillway/assignment/HealthTally" "hostWeight" "J" (.long ya)) (Fyb : Fld Z h0 ob "com/example/spillway/spillway/assignment/HealthTally" "healthyWeight" "J" (.long yb)) (Fyc : Fld Z h0 ob "com/example/spillway/spillway/assignment/HealthTally" "degradedWeight" "J" (.long yc)) (E_p : Exa Z h0 oe "com/example/spillway/spillway/assignment/Endpoint") (Fh : Fld Z h0 oe "com/example/spillway/spillway/assignment/Endpoint" "health" "Lcom/example/spillway/spillway/assignment/HealthStatus;" (.ref hs)) (Fw : Fld Z h0 oe "com/example/spillway/spillway/assignment/Endpoint" "loadBalancingWeight" "J" (.long ww)) (E_h : Exa Z h0 hs "com/example/spillway/spillway/assignment/HealthStatus") (S_UNKNOWN : Sta Z Z.heap "com/example/spillway/spillway/assignment/HealthStatus" "UNKNOWN" "Lcom/example/spillway/spillway/assignment/HealthStatus;" (.ref a_UNKNOWN)) (S_HEALTHY : Sta Z Z.heap "com/example/spillway/spillway/assignment/HealthStatus" "HEALTHY" "Lcom/example/spillway/spillway/assignment/HealthStatus;" (.ref a_HEALTHY)) (S_DEGRADED : Sta Z Z.heap "com/example/spillway/spillway/assignment/HealthStatus" "DEGRADED" "Lcom/example/spillway/spillway/assignment/HealthStatus;" (.ref a_DEGRADED)) (g_o : n0 ≤ ob) (ne_oe : ob ≠ oe) (q_h : (if hs = a_HEALTHY then (1 : Int32) else if hs = a_UNKNOWN then 1 else 0) = (0 : Int32)) (q_d : (if hs = a_DEGRADED then (1 : Int32) else 0) = (0 : Int32)) :
    MetFree l mn10 (head1 (Jvm.Cond.code mn10 prog_13_method_6_code 5 none :: ws) ({ frames := 1, cells := 0, slots := 0, locals := 14 } : Room)) (fun ay U => ay = #[(.ref ob), (.ref oe), (.int 1)] ∧ Z.Warmed39 U.vm ∧ U.heap = h0) (fun _ _ _ _ _ => True) (fun _ U o U' => ∃ v L, o = .returned v ∧ Q10_o Z ob oe xa xb xc ya yb yc hs ww a_UNKNOWN a_HEALTHY a_DEGRADED h0 n0 v U'.heap L ∧ FrameEnd U o U' L ({ frames := 1, cells := 0, slots := 0, locals := 14 } : Room).cells ({ frames := 1, cells := 0, slots := 0, locals := 14 } : Room).slots) := by
  refine MetFree.of_bodySF (plainFor_of_name pn_com_example_spillway_spillway_assignment_HealthTally) hisR ?_
  intro p e s m args below meth c s₁ Bd hml0 hP hK
  obtain ⟨rfl, hZ, hh⟩ := hP
  have hx := Bd.exec
  have hby := Bd.bytes
  have hlk : meth.locks = false := BodyLoose.notSynchronized Bd
  have hml : c.maxLocals = 5 := hml0
  have hown : s.vm.findClass "com/example/spillway/spillway/assignment/HealthTally" = some m.cls := findClass_of_methodNamed Bd.named
  have hnm := (name_of_methodNamed Bd.named Bd.method).1
  have X0 : Stand p l e ({ frames := 1, cells := 0, slots := 0, locals := 14 } : Room) s m #[(.ref ob), (.ref oe), (.int 1)] below meth c s₁ [] 0 0 := Stand.of_body Bd
  have e0 : s₁.heap = h0 := by rw [← hh, Bd.state]; rfl
  have N0 := Fr.nil n0
  suffices hgo : Go p e below s 0 0 (Q10_o Z ob oe xa xb xc ya yb yc hs ww a_UNKNOWN a_HEALTHY a_DEGRADED h0 n0) (s₁.setTop (mkF m 0 #[.val (.ref ob), .val (.ref oe), .val (.int 1), .unset, .unset] [])) by
    obtain ⟨t, o, h1, h2⟩ := hgo; exact ⟨t, o, castTop (ef_rm10_o m ob oe) h1, h2⟩
  show Go p e below s _ _ _ (s₁.setTop (mkF m 0 #[.val (.ref ob), .val (.ref oe), .val (.int 1), .unset, .unset] []))
  refine Go.st (fun _ k' => XS.iloadN X0.here hx rfl (hb hby d10_0) rfl k') ?_
  refine Go.st (fun _ k' => XS.i2l X0.here hx rfl (hb hby d10_1) rfl k') ?_
  refine Go.st (fun _ k' => XS.aloadN X0.here hx rfl (hb hby d10_2) rfl rfl k') ?_
  show Go p e below s _ _ _ (s₁.setTop (mkF m 3 #[.val (.ref ob), .val (.ref oe), .val (.int 1), .unset, .unset] [(.ref oe), (.long ((1 : Int32).toInt64))]))
  obtain ⟨cq1, kq1, q1a, q1b, q1c⟩ := isOf hZ e0 E_p
  obtain ⟨_, _, ⟨T1, L1, k1, n1⟩, -, X1, ⟨Lc1, hQ1, l1, y1, z1⟩, st1⟩ := X0.virtualBack hx (y := mn11) (z := mn11) hown (mvT hZ (wdx hw 68 rfl)) (mvT hZ (wdx hw 69 rfl)) (notFace_of_selects (args := #[]) (mvT hZ (wdx hw 71 rfl))) (mvT hZ (wdx hw 71 rfl)) (mvT hZ (wdx hw 70 rfl)) (by decide) (backOf (W := 2) (rm11 l Z a0 hw [] oe ww h0 n0 O0 Fw) hZ (wdx hw 72 rfl) (wdx hw 12 rfl) (by decide) (by decide)) q1a q1c (g := (mkF m 3 #[.val (.ref ob), .val (.ref oe), .val (.int 1), .unset, .unset] [(.ref oe), (.long ((1 : Int32).toInt64))])) rfl (by rw [hml]; rfl) (Steps.refl _) (argsL := []) (rest := [(.long ((1 : Int32).toInt64))]) (lenOf pd___J rfl) rfl (by show 2 * 0 + _ ≤ _; exact Nat.le_of_eq rfl) (hb hby d10_3) (fun _ _ => ⟨rfl, e0, (by exact lee rfl), (by exact lee rfl)⟩)
  dsimp only [Pt.U, Pt.locs, Pt.cells, Pt.slots] at X1 l1 y1 z1 st1 hQ1
  subst l1 y1 z1
  obtain ⟨rfl, Nq1, eq1⟩ := hQ1
  have N1 := Fr.app N0 Nq1
  refine Go.tr st1 ?_
  show Go p e below s _ _ _ (T1.setTop (mkF m 6 #[.val (.ref ob), .val (.ref oe), .val (.int 1), .unset, .unset] [(.long ww), (.long ((1 : Int32).toInt64))]))
  refine Go.st (fun _ k' => XS.lmul X1.here hx rfl (hb hby d10_6) rfl k') ?_
  refine Go.st (fun _ k' => XS.lstoreN X1.here hx rfl (hb hby d10_7) rfl (l' := #[.val (.ref ob), .val (.ref oe), .val (.int 1), .val (.long (((1 : Int32).toInt64) * ww)), .second]) rfl k') ?_
  refine Go.st (fun _ k' => XS.aloadN X1.here hx rfl (hb hby d10_8) rfl rfl k') ?_
  refine Go.st (fun _ k' => XS.dup X1.here hx rfl (hb hby d10_9) rfl rfl k') ?_
  show Go p e below s _ _ _ (T1.setTop (mkF m 10 #[.val (.ref ob), .val (.ref oe), .val (.int 1), .val (.long (((1 : Int32).toInt64) * ww)), .second] [(.ref ob), (.ref ob)]))
  obtain ⟨T2, X2, e2, st2⟩ := getF X1 hx hZ hown (host := "") (Or.inl (wdx hw 73 rfl)) Via.refl eq1 Fxa (g := (mkF m 10 #[.val (.ref ob), .val (.ref oe), .val (.int 1), .val (.long (((1 : Int32).toInt64) * ww)), .second] [(.ref ob), (.ref ob)])) rfl rfl (hb hby d10_10)
  refine Go.st st2 ?_
  show Go p e below s _ _ _ (T2.setTop (mkF m 13 #[.val (.ref ob), .val (.ref oe), .val (.int 1), .val (.long (((1 : Int32).toInt64) * ww)), .second] [(.int xa), (.ref ob)]))
  refine Go.st (fun _ k' => XS.iloadN X2.here hx rfl (hb hby d10_13) rfl k') ?_
  refine Go.st (fun _ k' => XS.iadd X2.here hx rfl (hb hby d10_14) rfl k') ?_
  show Go p e below s _ _ _ (T2.setTop (mkF m 15 #[.val (.ref ob), .val (.ref oe), .val (.int 1), .val (.long (((1 : Int32).toInt64) * ww)), .second] [(.int (xa + (1 : Int32))), (.ref ob)]))
  obtain ⟨T3, h3, X3, e3, W3, st3⟩ := putF X2 hx hZ hown (host := "") (Or.inl (wdx hw 73 rfl)) Via.refl e2 Fxa E_o (Or.inl (wdx hw 74 rfl)) (wdx hw 53 rfl) (ty := .int) (by decide) rfl rfl (g := (mkF m 15 #[.val (.ref ob), .val (.ref oe), .val (.int 1), .val (.long (((1 : Int32).toInt64) * ww)), .second] [(.int (xa + (1 : Int32))), (.ref ob)])) rfl rfl (hb hby d10_15)
  refine Go.st st3 ?_
  have f4 : Exa Z h3 ob "com/example/spillway/spillway/assignment/HealthTally" := E_o.wr W3
  have f5 : Fld Z h3 ob "com/example/spillway/spillway/assignment/HealthTally" "hosts" "I" (.int (xa + (1 : Int32))) := Fxa.same W3
  have f6 : Fld Z h3 ob "com/example/spillway/spillway/assignment/HealthTally" "healthy" "I" (.int xb) := Fxb.other W3 (Or.inr (slot_ne (Or.inl (wdx hw 90 rfl)) (Or.inl (wdx hw 74 rfl)) (by decide) (t := .int) (t' := .int) (by decide) (by decide)))
  have f7 : Fld Z h3 ob "com/example/spillway/spillway/assignment/HealthTally" "degraded" "I" (.int xc) := Fxc.other W3 (Or.inr (slot_ne (Or.inl (wdx hw 109 rfl)) (Or.inl (wdx hw 74 rfl)) (by decide) (t := .int) (t' := .int) (by decide) (by decide)))
  have f8 : Fld Z h3 ob "com/example/spillway/spillway/assignment/HealthTally" "hostWeight" "J" (.long ya) := Fya.other W3 (Or.inr (slot_ne (Or.inl (wdx hw 76 rfl)) (Or.inl (wdx hw 74 rfl)) (by decide) (t := .long) (t' := .int) (by decide) (by decide)))
  have f9 : Fld Z h3 ob "com/example/spillway/spillway/assignment/HealthTally" "healthyWeight" "J" (.long yb) := Fyb.other W3 (Or.inr (slot_ne (Or.inl (wdx hw 92 rfl)) (Or.inl (wdx hw 74 rfl)) (by decide) (t := .long) (t' := .int) (by decide) (by decide)))
  have f10 : Fld Z h3 ob "com/example/spillway/spillway/assignment/HealthTally" "degradedWeight" "J" (.long yc) := Fyc.other W3 (Or.inr (slot_ne (Or.inl (wdx hw 126 rfl)) (Or.inl (wdx hw 74 rfl)) (by decide) (t := .long) (t' := .int) (by decide) (by decide)))
  have f11 : Exa Z h3 oe "com/example/spillway/spillway/assignment/Endpoint" := E_p.wr W3
  have f12 : Fld Z h3 oe "com/example/spillway/spillway/assignment/Endpoint" "health" "Lcom/example/spillway/spillway/assignment/HealthStatus;" (.ref hs) := Fh.other W3 (Or.inl (Ne.symm ne_oe))
  have f13 : Fld Z h3 oe "com/example/spillway/spillway/assignment/Endpoint" "loadBalancingWeight" "J" (.long ww) := Fw.other W3 (Or.inl (Ne.symm ne_oe))
  have f14 : Exa Z h3 hs "com/example/spillway/spillway/assignment/HealthStatus" := E_h.wr W3
  have O3 : Old Z n0 h3 := O0.wr W3 g_o
  have N3 := Fr.snoc X3 N1 g_o
  have K3 : Keep h0 h3 [ob] := (Keep.refl h0 [ob]).wr W3 (Or.inl (by simp))
  show Go p e below s _ _ _ (T3.setTop (mkF m 18 #[.val (.ref ob), .val (.ref oe), .val (.int 1), .val (.long (((1 : Int32).toInt64) * ww)), .second] []))
  refine Go.st (fun _ k' => XS.aloadN X3.here hx rfl (hb hby d10_18) rfl rfl k') ?_
  refine Go.st (fun _ k' => XS.dup X3.here hx rfl (hb hby d10_19) rfl rfl k') ?_
  show Go p e below s _ _ _ (T3.setTop (mkF m 20 #[.val (.ref ob), .val (.ref oe), .val (.int 1), .val (.long (((1 : Int32).toInt64) * ww)), .second] [(.ref ob), (.ref ob)]))
  obtain ⟨T15, X15, e15, st15⟩ := getF X3 hx hZ hown (host := "") (Or.inl (wdx hw 75 rfl)) Via.refl e3 f8 (g := (mkF m 20 #[.val (.ref ob), .val (.ref oe), .val (.int 1), .val (.long (((1 : Int32).toInt64) * ww)), .second] [(.ref ob), (.ref ob)])) rfl rfl (hb hby d10_20)
  refine Go.st st15 ?_
  show Go p e below s _ _ _ (T15.setTop (mkF m 23 #[.val (.ref ob), .val (.ref oe), .val (.int 1), .val (.long (((1 : Int32).toInt64) * ww)), .second] [(.long ya), (.ref ob)]))
  refine Go.st (fun _ k' => XS.lloadN X15.here hx rfl (hb hby d10_23) rfl k') ?_
  refine Go.st (fun _ k' => XS.ladd X15.here hx rfl (hb hby d10_24) rfl k') ?_
  show Go p e below s _ _ _ (T15.setTop (mkF m 25 #[.val (.ref ob), .val (.ref oe), .val (.int 1), .val (.long (((1 : Int32).toInt64) * ww)), .second] [(.long (ya + (((1 : Int32).toInt64) * ww))), (.ref ob)]))
  obtain ⟨T16, h16, X16, e16, W16, st16⟩ := putF X15 hx hZ hown (host := "") (Or.inl (wdx hw 75 rfl)) Via.refl e15 f8 f4 (Or.inl (wdx hw 76 rfl)) (wdx hw 53 rfl) (ty := .long) (by decide) rfl rfl (g := (mkF m 25 #[.val (.ref ob), .val (.ref oe), .val (.int 1), .val (.long (((1 : Int32).toInt64) * ww)), .second] [(.long (ya + (((1 : Int32).toInt64) * ww))), (.ref ob)])) rfl rfl (hb hby d10_25)
  refine Go.st st16 ?_
  have f17 : Exa Z h16 ob "com/example/spillway/spillway/assignment/HealthTally" := f4.wr W16
  have f18 : Fld Z h16 ob "com/example/spillway/spillway/assignment/HealthTally" "hosts" "I" (.int (xa + (1 : Int32))) := f5.other W16 (Or.inr (slot_ne (Or.inl (wdx hw 74 rfl)) (Or.inl (wdx hw 76 rfl)) (by decide) (t := .int) (t' := .long) (by decide) (by decide)))
  have f19 : Fld Z h16 ob "com/example/spillway/spillway/assignment/HealthTally" "healthy" "I" (.int xb) := f6.other W16 (Or.inr (slot_ne (Or.inl (wdx hw 90 rfl)) (Or.inl (wdx hw 76 rfl)) (by decide) (t := .int) (t' := .long) (by decide) (by decide)))
  have f20 : Fld Z h16 ob "com/example/spillway/spillway/assignment/HealthTally" "degraded" "I" (.int xc) := f7.other W16 (Or.inr (slot_ne (Or.inl (wdx hw 109 rfl)) (Or.inl (wdx hw 76 rfl)) (by decide) (t := .int) (t' := .long) (by decide) (by decide)))
  have f21 : Fld Z h16 ob "com/example/spillway/spillway/assignment/HealthTally" "hostWeight" "J" (.long (ya + (((1 : Int32).toInt64) * ww))) := f8.same W16
  have f22 : Fld Z h16 ob "com/example/spillway/spillway/assignment/HealthTally" "healthyWeight" "J" (.long yb) := f9.other W16 (Or.inr (slot_ne (Or.inl (wdx hw 92 rfl)) (Or.inl (wdx hw 76 rfl)) (by decide) (t := .long) (t' := .long) (by decide) (by decide)))
  have f23 : Fld Z h16 ob "com/example/spillway/spillway/assignment/HealthTally" "degradedWeight" "J" (.long yc) := f10.other W16 (Or.inr (slot_ne (Or.inl (wdx hw 126 rfl)) (Or.inl (wdx hw 76 rfl)) (by decide) (t := .long) (t' := .long) (by decide) (by decide)))
  have f24 : Exa Z h16 oe "com/example/spillway/spillway/assignment/Endpoint" := f11.wr W16
  have f25 : Fld Z h16 oe "com/example/spillway/spillway/assignment/Endpoint" "health" "Lcom/example/spillway/spillway/assignment/HealthStatus;" (.ref hs) := f12.other W16 (Or.inl (Ne.symm ne_oe))
  have f26 : Fld Z h16 oe "com/example/spillway/spillway/assignment/Endpoint" "loadBalancingWeight" "J" (.long ww) := f13.other W16 (Or.inl (Ne.symm ne_oe))
  have f27 : Exa Z h16 hs "com/example/spillway/spillway/assignment/HealthStatus" := f14.wr W16
  have O16 : Old Z n0 h16 := O3.wr W16 g_o
  have N16 := Fr.snoc X16 N3 g_o
  have K16 : Keep h0 h16 [ob] := K3.wr W16 (Or.inl (by simp))
  show Go p e below s _ _ _ (T16.setTop (mkF m 28 #[.val (.ref ob), .val (.ref oe), .val (.int 1), .val (.long (((1 : Int32).toInt64) * ww)), .second] []))
  refine Go.st (fun _ k' => XS.aloadN X16.here hx rfl (hb hby d10_28) rfl rfl k') ?_
  show Go p e below s _ _ _ (T16.setTop (mkF m 29 #[.val (.ref ob), .val (.ref oe), .val (.int 1), .val (.long (((1 : Int32).toInt64) * ww)), .second] [(.ref oe)]))
  obtain ⟨cq28, kq28, q28a, q28b, q28c⟩ := isOf hZ e16 f24
  obtain ⟨_, _, ⟨T28, L28, k28, n28⟩, -, X28, ⟨Lc28, hQ28, l28, y28, z28⟩, st28⟩ := X16.virtualBack hx (y := mn8) (z := mn8) hown (mvT hZ (wdx hw 77 rfl)) (mvT hZ (wdx hw 78 rfl)) (notFace_of_selects (args := #[]) (mvT hZ (wdx hw 80 rfl))) (mvT hZ (wdx hw 80 rfl)) (mvT hZ (wdx hw 79 rfl)) (by decide) (backOf (W := 0) (rm12 l Z a0 hw [] oe hs h16 n0 O16 f25) hZ (wdx hw 81 rfl) (wdx hw 12 rfl) (by decide) (by decide)) q28a q28c (g := (mkF m 29 #[.val (.ref ob), .val (.ref oe), .val (.int 1), .val (.long (((1 : Int32).toInt64) * ww)), .second] [(.ref oe)])) rfl (by rw [hml]; rfl) (Steps.refl _) (argsL := []) (rest := []) (lenOf pd___Lcom_example_spillway_spillway_assignment_HealthStatus_ rfl) rfl (by show 2 * 0 + _ ≤ _; exact Nat.le_of_eq rfl) (hb hby d10_29) (fun _ _ => ⟨rfl, e16, (by exact lee rfl), (by exact lee rfl)⟩)
  dsimp only [Pt.U, Pt.locs, Pt.cells, Pt.slots] at X28 l28 y28 z28 st28 hQ28
  subst l28 y28 z28
  obtain ⟨rfl, Nq28, eq28⟩ := hQ28
  have N28 := Fr.app N16 Nq28
  refine Go.tr st28 ?_
  show Go p e below s _ _ _ (T28.setTop (mkF m 32 #[.val (.ref ob), .val (.ref oe), .val (.int 1), .val (.long (((1 : Int32).toInt64) * ww)), .second] [(.ref hs)]))
  obtain ⟨cq29, kq29, q29a, q29b, q29c⟩ := isOf hZ eq28 f27
  obtain ⟨_, _, ⟨T29, L29, k29, n29⟩, -, X29, ⟨Lc29, hQ29, l29, y29, z29⟩, st29⟩ := X28.virtualBack hx (y := mn12) (z := mn12) hown (mvT hZ (wdx hw 82 rfl)) (mvT hZ (wdx hw 83 rfl)) (notFace_of_selects (args := #[]) (mvT hZ (wdx hw 85 rfl))) (mvT hZ (wdx hw 85 rfl)) (mvT hZ (wdx hw 84 rfl)) (by decide) (backOf (W := 0) (rm13 l Z a0 hw [] hs a_UNKNOWN a_HEALTHY h16 n0 O16 S_UNKNOWN S_HEALTHY) hZ (wdx hw 86 rfl) (wdx hw 17 rfl) (by decide) (by decide)) q29a q29c (g := (mkF m 32 #[.val (.ref ob), .val (.ref oe), .val (.int 1), .val (.long (((1 : Int32).toInt64) * ww)), .second] [(.ref hs)])) rfl (by rw [hml]; rfl) (Steps.refl _) (argsL := []) (rest := []) (lenOf pd___Z rfl) rfl (by show 2 * 0 + _ ≤ _; exact Nat.le_of_eq rfl) (hb hby d10_32) (fun _ _ => ⟨rfl, eq28, (by exact lee rfl), (by exact lee rfl)⟩)
  dsimp only [Pt.U, Pt.locs, Pt.cells, Pt.slots] at X29 l29 y29 z29 st29 hQ29
  subst l29 y29 z29
  obtain ⟨rfl, Nq29, eq29⟩ := hQ29
  have N29 := Fr.app N28 Nq29
  refine Go.tr st29 ?_
  show Go p e below s _ _ _ (T29.setTop (mkF m 35 #[.val (.ref ob), .val (.ref oe), .val (.int 1), .val (.long (((1 : Int32).toInt64) * ww)), .second] [(.int (if hs = a_HEALTHY then (1 : Int32) else if hs = a_UNKNOWN then 1 else 0))]))
  refine Go.st (fun _ k' => XS.ifYes X29.here hx rfl (pc0 := 35) (pc' := 61) rfl (hb hby d10_35) rfl (XT.i0_eq_t q_h) (by decide) (by decide) k') ?_
  show Go p e below s _ _ _ (T29.setTop (mkF m 61 #[.val (.ref ob), .val (.ref oe), .val (.int 1), .val (.long (((1 : Int32).toInt64) * ww)), .second] []))
  refine Go.st (fun _ k' => XS.aloadN X29.here hx rfl (hb hby d10_61) rfl rfl k') ?_
  show Go p e below s _ _ _ (T29.setTop (mkF m 62 #[.val (.ref ob), .val (.ref oe), .val (.int 1), .val (.long (((1 : Int32).toInt64) * ww)), .second] [(.ref oe)]))
  obtain ⟨cq30, kq30, q30a, q30b, q30c⟩ := isOf hZ eq29 f24
  obtain ⟨_, _, ⟨T30, L30, k30, n30⟩, -, X30, ⟨Lc30, hQ30, l30, y30, z30⟩, st30⟩ := X29.virtualBack hx (y := mn8) (z := mn8) hown (mvT hZ (wdx hw 77 rfl)) (mvT hZ (wdx hw 78 rfl)) (notFace_of_selects (args := #[]) (mvT hZ (wdx hw 80 rfl))) (mvT hZ (wdx hw 80 rfl)) (mvT hZ (wdx hw 79 rfl)) (by decide) (backOf (W := 0) (rm12 l Z a0 hw [] oe hs h16 n0 O16 f25) hZ (wdx hw 81 rfl) (wdx hw 12 rfl) (by decide) (by decide)) q30a q30c (g := (mkF m 62 #[.val (.ref ob), .val (.ref oe), .val (.int 1), .val (.long (((1 : Int32).toInt64) * ww)), .second] [(.ref oe)])) rfl (by rw [hml]; rfl) (Steps.refl _) (argsL := []) (rest := []) (lenOf pd___Lcom_example_spillway_spillway_assignment_HealthStatus_ rfl) rfl (by show 2 * 0 + _ ≤ _; exact Nat.le_of_eq rfl) (hb hby d10_62) (fun _ _ => ⟨rfl, eq29, (by exact lee rfl), (by exact lee rfl)⟩)
  dsimp only [Pt.U, Pt.locs, Pt.cells, Pt.slots] at X30 l30 y30 z30 st30 hQ30
  subst l30 y30 z30
  obtain ⟨rfl, Nq30, eq30⟩ := hQ30
  have N30 := Fr.app N29 Nq30
  refine Go.tr st30 ?_
  show Go p e below s _ _ _ (T30.setTop (mkF m 65 #[.val (.ref ob), .val (.ref oe), .val (.int 1), .val (.long (((1 : Int32).toInt64) * ww)), .second] [(.ref hs)]))
  obtain ⟨cq31, kq31, q31a, q31b, q31c⟩ := isOf hZ eq30 f27
  obtain ⟨_, _, ⟨T31, L31, k31, n31⟩, -, X31, ⟨Lc31, hQ31, l31, y31, z31⟩, st31⟩ := X30.virtualBack hx (y := mn14) (z := mn14) hown (mvT hZ (wdx hw 131 rfl)) (mvT hZ (wdx hw 132 rfl)) (notFace_of_selects (args := #[]) (mvT hZ (wdx hw 134 rfl))) (mvT hZ (wdx hw 134 rfl)) (mvT hZ (wdx hw 133 rfl)) (by decide) (backOf (W := 0) (rm20 l Z a0 hw [] hs a_DEGRADED h16 n0 O16 S_DEGRADED) hZ (wdx hw 135 rfl) (wdx hw 17 rfl) (by decide) (by decide)) q31a q31c (g := (mkF m 65 #[.val (.ref ob), .val (.ref oe), .val (.int 1), .val (.long (((1 : Int32).toInt64) * ww)), .second] [(.ref hs)])) rfl (by rw [hml]; rfl) (Steps.refl _) (argsL := []) (rest := []) (lenOf pd___Z rfl) rfl (by show 2 * 0 + _ ≤ _; exact Nat.le_of_eq rfl) (hb hby d10_65) (fun _ _ => ⟨rfl, eq30, (by exact lee rfl), (by exact lee rfl)⟩)
  dsimp only [Pt.U, Pt.locs, Pt.cells, Pt.slots] at X31 l31 y31 z31 st31 hQ31
  subst l31 y31 z31
  obtain ⟨rfl, Nq31, eq31⟩ := hQ31
  have N31 := Fr.app N30 Nq31
  refine Go.tr st31 ?_
  show Go p e below s _ _ _ (T31.setTop (mkF m 68 #[.val (.ref ob), .val (.ref oe), .val (.int 1), .val (.long (((1 : Int32).toInt64) * ww)), .second] [(.int (if hs = a_DEGRADED then (1 : Int32) else 0))]))
  refine Go.st (fun _ k' => XS.ifYes X31.here hx rfl (pc0 := 68) (pc' := 91) rfl (hb hby d10_68) rfl (XT.i0_eq_t q_d) (by decide) (by decide) k') ?_
  show Go p e below s _ _ _ (T31.setTop (mkF m 91 #[.val (.ref ob), .val (.ref oe), .val (.int 1), .val (.long (((1 : Int32).toInt64) * ww)), .second] []))
  refine Go.retV X31 hx hlk Bd.returns (hb hby d10_91) (by decide) (by decide) eq31 ?_
  exact ⟨rfl, N31, K16, f18, f19, f20, f21, f22, f23⟩
theorem ef_rm9_o (m : MethodId) (ob : Addr) (oe : Addr) : entryFrame m #[(.ref ob), (.ref oe)] 2 = mkF m 0 #[.val (.ref ob), .val (.ref oe)] [] := by first | (simp [entryFrame, mkF, argsToLocals, Value.category]; done) | rfl
def Q9_o (Z : State) (ob : Addr) (oe : Addr) (xa : Int32) (xb : Int32) (xc : Int32) (ya : Int64) (yb : Int64) (yc : Int64) (hs : Addr) (ww : Int64) (a_UNKNOWN : Addr) (a_HEALTHY : Addr) (a_DEGRADED : Addr) (h0 : Heap) (n0 : Nat) (v : Option Value) (h : Heap) (L : List Loc) : Prop := v = none ∧ Fr n0 L ∧ Keep h0 h [ob] ∧ Fld Z h ob "com/example/spillway/spillway/assignment/HealthTally" "hosts" "I" (.int (xa + (1 : Int32))) ∧ Fld Z h ob "com/example/spillway/spillway/assignment/HealthTally" "healthy" "I" (.int xb) ∧ Fld Z h ob "com/example/spillway/spillway/assignment/HealthTally" "degraded" "I" (.int xc) ∧ Fld Z h ob "com/example/spillway/spillway/assignment/HealthTally" "hostWeight" "J" (.long (ya + (((1 : Int32).toInt64) * ww))) ∧ Fld Z h ob "com/example/spillway/spillway/assignment/HealthTally" "healthyWeight" "J" (.long yb) ∧ Fld Z h ob "com/example/spillway/spillway/assignment/HealthTally" "degradedWeight" "J" (.long yc)
set_option maxRecDepth 65536 in
set_option maxHeartbeats 40000000 in
theorem rm9_o (l : Launch) (Z : State) (a0 : Array Value) (hw : ∀ d ∈ tables_1, d.before a0 Z = true) (ws : List Jvm.Cond) (ob : Addr) (oe : Addr) (xa : Int32) (xb : Int32) (xc : Int32) (ya : Int64) (yb : Int64) (yc : Int64) (hs : Addr) (ww : Int64) (a_UNKNOWN : Addr) (a_HEALTHY : Addr) (a_DEGRADED : Addr) (h0 : Heap) (n0 : Nat) (O0 : Old Z n0 h0) (E_o : Exa Z h0 ob "com/example/spillway/spillway/assignment/HealthTally") (Fxa : Fld Z h0 ob "com/example/spillway/spillway/assignment/HealthTally" "hosts" "I" (.int xa)) (Fxb : Fld Z h0 ob "com/example/spillway/spillway/assignment/HealthTally" "healthy" "I" (.int xb)) (Fxc : Fld Z h0 ob "com/example/spillway/spillway/assignment/HealthTally" "degraded" "I" (.int xc)) (Fya : Fld Z h0 ob "com/example/spillway/spillway/assignment/HealthTally" "hostWeight" "J" (.long ya)) (Fyb : Fld Z h0 ob "com/example/spillway/spillway/assignment/HealthTally" "healthyWeight" "J" (.long yb)) (Fyc : Fld Z h0 ob "com/example/spillway/spillway/assignment/HealthTally" "degradedWeight" "J" (.long yc)) (E_p : Exa Z h0 oe "com/example/spillway/spillway/assignment/Endpoint") (Fh : Fld Z h0 oe "com/example/spillway/spillway/assignment/Endpoint" "health" "Lcom/example/spillway/spillway/assignment/HealthStatus;" (.ref hs)) (Fw : Fld Z h0 oe "com/example/spillway/spillway/assignment/Endpoint" "loadBalancingWeight" "J" (.long ww)) (E_h : Exa Z h0 hs "com/example/spillway/spillway/assignment/HealthStatus") (S_UNKNOWN : Sta Z Z.heap "com/example/spillway/spillway/assignment/HealthStatus" "UNKNOWN" "Lcom/example/spillway/spillway/assignment/HealthStatus;" (.ref a_UNKNOWN)) (S_HEALTHY : Sta Z Z.heap "com/example/spillway/spillway/assignment/HealthStatus" "HEALTHY" "Lcom/example/spillway/spillway/assignment/HealthStatus;" (.ref a_HEALTHY)) (S_DEGRADED : Sta Z Z.heap "com/example/spillway/spillway/assignment/HealthStatus" "DEGRADED" "Lcom/example/spillway/spillway/assignment/HealthStatus;" (.ref a_DEGRADED)) (g_o : n0 ≤ ob) (ne_oe : ob ≠ oe) (q_h : (if hs = a_HEALTHY then (1 : Int32) else if hs = a_UNKNOWN then 1 else 0) = (0 : Int32)) (q_d : (if hs = a_DEGRADED then (1 : Int32) else 0) = (0 : Int32)) :
    MetFree l mn0 (head1 (Jvm.Cond.code mn0 prog_13_method_3_code 2 none :: ws) ({ frames := 2, cells := 0, slots := 0, locals := 30 } : Room)) (fun ay U => ay = #[(.ref ob), (.ref oe)] ∧ Z.Warmed39 U.vm ∧ U.heap = h0) (fun _ _ _ _ _ => True) (fun _ U o U' => ∃ v L, o = .returned v ∧ Q9_o Z ob oe xa xb xc ya yb yc hs ww a_UNKNOWN a_HEALTHY a_DEGRADED h0 n0 v U'.heap L ∧ FrameEnd U o U' L ({ frames := 2, cells := 0, slots := 0, locals := 30 } : Room).cells ({ frames := 2, cells := 0, slots := 0, locals := 30 } : Room).slots) := by
  refine MetFree.of_bodySF (plainFor_of_name pn_com_example_spillway_spillway_assignment_HealthTally) hisR ?_
  intro p e s m args below meth c s₁ Bd hml0 hP hK
  obtain ⟨rfl, hZ, hh⟩ := hP
  have hx := Bd.exec
  have hby := Bd.bytes
  have hlk : meth.locks = false := BodyLoose.notSynchronized Bd
  have hml : c.maxLocals = 2 := hml0
  have hown : s.vm.findClass "com/example/spillway/spillway/assignment/HealthTally" = some m.cls := findClass_of_methodNamed Bd.named
  have hnm := (name_of_methodNamed Bd.named Bd.method).1
  have X0 : Stand p l e ({ frames := 2, cells := 0, slots := 0, locals := 30 } : Room) s m #[(.ref ob), (.ref oe)] below meth c s₁ [] 0 0 := Stand.of_body Bd
  have e0 : s₁.heap = h0 := by rw [← hh, Bd.state]; rfl
  have N0 := Fr.nil n0
  suffices hgo : Go p e below s 0 0 (Q9_o Z ob oe xa xb xc ya yb yc hs ww a_UNKNOWN a_HEALTHY a_DEGRADED h0 n0) (s₁.setTop (mkF m 0 #[.val (.ref ob), .val (.ref oe)] [])) by
    obtain ⟨t, o, h1, h2⟩ := hgo; exact ⟨t, o, castTop (ef_rm9_o m ob oe) h1, h2⟩
  show Go p e below s _ _ _ (s₁.setTop (mkF m 0 #[.val (.ref ob), .val (.ref oe)] []))
  refine Go.st (fun _ k' => XS.aloadN X0.here hx rfl (hb hby d9_0) rfl rfl k') ?_
  refine Go.st (fun _ k' => XS.aloadN X0.here hx rfl (hb hby d9_1) rfl rfl k') ?_
  refine Go.st (fun _ k' => XS.iconst X0.here hx rfl (hb hby d9_2) k') ?_
  show Go p e below s _ _ _ (s₁.setTop (mkF m 3 #[.val (.ref ob), .val (.ref oe)] [(.int 1), (.ref oe), (.ref ob)]))
  obtain ⟨cq1, q1, q1'⟩ := E_o.cell
  obtain ⟨_, _, ⟨T1, L1, k1, n1⟩, -, X1, ⟨Lc1, hQ1, l1, y1, z1⟩, st1⟩ := X0.privateBack hx (y := mn10) hown (mvT hZ (wdx hw 64 rfl)) (mvT hZ (wdx hw 65 rfl)) (Jvm.Kit.selects_private (by decide) (mvT hZ (wdx hw 53 rfl)) (mvP hZ (wdx hw 66 rfl)) (mvT hZ (wdx hw 65 rfl))) (Cond.privateMethod_at (mvP hZ (wdx hw 66 rfl) (args := #[]))) (mvT hZ (wdx hw 67 rfl)) (by decide) (backOf (W := 0) (rm10_o l Z a0 hw [] ob oe xa xb xc ya yb yc hs ww a_UNKNOWN a_HEALTHY a_DEGRADED h0 n0 O0 E_o Fxa Fxb Fxc Fya Fyb Fyc E_p Fh Fw E_h S_UNKNOWN S_HEALTHY S_DEGRADED g_o ne_oe q_h q_d) hZ (wdx hw 67 rfl) (wdx hw 54 rfl) (by decide) (by decide)) (g := (mkF m 3 #[.val (.ref ob), .val (.ref oe)] [(.int 1), (.ref oe), (.ref ob)])) rfl (by rw [hml]; rfl) (Steps.refl _) (a := ob) (by rw [e0]; exact q1) q1' (argsL := [(.ref oe), (.int 1)]) (rest := []) (lenOf pd__Lcom_example_spillway_spillway_assignment_Endpoint_I_V rfl) rfl (by show 2 * 0 + _ ≤ _; exact Nat.le_of_eq rfl) (hb hby d9_3) (fun _ _ => ⟨rfl, e0, (by exact lee rfl), (by exact lee rfl)⟩)
  dsimp only [Pt.U, Pt.locs, Pt.cells, Pt.slots] at X1 l1 y1 z1 st1 hQ1
  subst l1 y1 z1
  obtain ⟨rfl, Nq1, Kq1, f2, f3, f4, f5, f6, f7⟩ := hQ1
  have N1 := Fr.app N0 Nq1
  refine Go.tr st1 ?_
  have f8 : Exa Z T1.heap ob "com/example/spillway/spillway/assignment/HealthTally" := E_o.keep Kq1
  have f9 : Exa Z T1.heap oe "com/example/spillway/spillway/assignment/Endpoint" := E_p.keep Kq1
  have f10 : Fld Z T1.heap oe "com/example/spillway/spillway/assignment/Endpoint" "health" "Lcom/example/spillway/spillway/assignment/HealthStatus;" (.ref hs) := Fh.keep Kq1 (ninS (Ne.symm ne_oe) nin0)
  have f11 : Fld Z T1.heap oe "com/example/spillway/spillway/assignment/Endpoint" "loadBalancingWeight" "J" (.long ww) := Fw.keep Kq1 (ninS (Ne.symm ne_oe) nin0)
  have f12 : Exa Z T1.heap hs "com/example/spillway/spillway/assignment/HealthStatus" := E_h.keep Kq1
  have O1 : Old Z n0 T1.heap := O0.keep Kq1 (allS g_o all0)
  have K1 : Keep h0 T1.heap [ob] := (Keep.refl h0 [ob]).trans Kq1 (allS (Or.inl (by simp)) all0)
  show Go p e below s _ _ _ (T1.setTop (mkF m 6 #[.val (.ref ob), .val (.ref oe)] []))
  refine Go.retV X1 hx hlk Bd.returns (hb hby d9_6) (by decide) (by decide) rfl ?_
  exact ⟨rfl, N1, K1, f2, f3, f4, f5, f6, f7⟩
theorem pd__J_J : parseMethodDescriptor "(J)J" = some ⟨[.long], some .long⟩ := by decide +kernel
theorem pd__I_Lcom_example_spillway_spillway_assignment_HealthStatus_ : parseMethodDescriptor "(I)Lcom/example/spillway/spillway/assignment/HealthStatus;" = some ⟨[.int], some (.object "com/example/spillway/spillway/assignment/HealthStatus")⟩ := by decide +kernel
theorem pd__Lcom_example_spillway_spillway_assignment_EndpointAddress_Lcom_example_spillway_spillway_assignment_HealthStatus_J_V : parseMethodDescriptor "(Lcom/example/spillway/spillway/assignment/EndpointAddress;Lcom/example/spillway/spillway/assignment/HealthStatus;J)V" = some ⟨[(.object "com/example/spillway/spillway/assignment/EndpointAddress"), (.object "com/example/spillway/spillway/assignment/HealthStatus"), .long], none⟩ := by decide +kernel
theorem pd___V : parseMethodDescriptor "()V" = some ⟨[], none⟩ := by decide +kernel
theorem pd__Lcom_example_spillway_spillway_assignment_Endpoint__V : parseMethodDescriptor "(Lcom/example/spillway/spillway/assignment/Endpoint;)V" = some ⟨[(.object "com/example/spillway/spillway/assignment/Endpoint")], none⟩ := by decide +kernel
theorem pd___I : parseMethodDescriptor "()I" = some ⟨[], some .int⟩ := by decide +kernel
theorem ef_rm0 (m : MethodId) (sa : Int32) (va : Int64) (sb : Int32) (vb : Int64) : entryFrame m #[(.int sa), (.long va), (.int sb), (.long vb)] maxLocals = mkF m 0 #[.val (.int sa), .val (.long va), .second, .val (.int sb), .val (.long vb), .second, .unset, .unset, .unset, .unset, .unset, .unset, .unset, .unset, .unset, .unset, .unset, .unset, .unset, .unset, .unset, .unset, .unset, .unset, .unset] [] := by first | (simp [entryFrame, mkF, argsToLocals, Value.category, maxLocals]; done) | rfl
def Q0 (Z : State) (sa : Int32) (va : Int64) (sb : Int32) (vb : Int64) (a_UNKNOWN : Addr) (a_HEALTHY : Addr) (a_UNHEALTHY : Addr) (a_DRAINING : Addr) (a_TIMEOUT : Addr) (a_DEGRADED : Addr) (h0 : Heap) (n0 : Nat) (v : Option Value) (h : Heap) (L : List Loc) : Prop := v = some (.int 1) ∧ Fr n0 L ∧ True
set_option maxRecDepth 65536 in
set_option maxHeartbeats 40000000 in
theorem rm0 (l : Launch) (Z : State) (a0 : Array Value) (hw : ∀ d ∈ tables_1, d.before a0 Z = true) (ws : List Jvm.Cond) (sa : Int32) (va : Int64) (sb : Int32) (vb : Int64) (a_UNKNOWN : Addr) (a_HEALTHY : Addr) (a_UNHEALTHY : Addr) (a_DRAINING : Addr) (a_TIMEOUT : Addr) (a_DEGRADED : Addr) (h0 : Heap) (n0 : Nat) (O0 : Old Z n0 h0) (S_UNKNOWN : Sta Z Z.heap "com/example/spillway/spillway/assignment/HealthStatus" "UNKNOWN" "Lcom/example/spillway/spillway/assignment/HealthStatus;" (.ref a_UNKNOWN)) (S_HEALTHY : Sta Z Z.heap "com/example/spillway/spillway/assignment/HealthStatus" "HEALTHY" "Lcom/example/spillway/spillway/assignment/HealthStatus;" (.ref a_HEALTHY)) (S_UNHEALTHY : Sta Z Z.heap "com/example/spillway/spillway/assignment/HealthStatus" "UNHEALTHY" "Lcom/example/spillway/spillway/assignment/HealthStatus;" (.ref a_UNHEALTHY)) (S_DRAINING : Sta Z Z.heap "com/example/spillway/spillway/assignment/HealthStatus" "DRAINING" "Lcom/example/spillway/spillway/assignment/HealthStatus;" (.ref a_DRAINING)) (S_TIMEOUT : Sta Z Z.heap "com/example/spillway/spillway/assignment/HealthStatus" "TIMEOUT" "Lcom/example/spillway/spillway/assignment/HealthStatus;" (.ref a_TIMEOUT)) (S_DEGRADED : Sta Z Z.heap "com/example/spillway/spillway/assignment/HealthStatus" "DEGRADED" "Lcom/example/spillway/spillway/assignment/HealthStatus;" (.ref a_DEGRADED)) (E_UNKNOWN : Exa Z Z.heap a_UNKNOWN "com/example/spillway/spillway/assignment/HealthStatus") (E_HEALTHY : Exa Z Z.heap a_HEALTHY "com/example/spillway/spillway/assignment/HealthStatus") (E_UNHEALTHY : Exa Z Z.heap a_UNHEALTHY "com/example/spillway/spillway/assignment/HealthStatus") (E_DRAINING : Exa Z Z.heap a_DRAINING "com/example/spillway/spillway/assignment/HealthStatus") (E_TIMEOUT : Exa Z Z.heap a_TIMEOUT "com/example/spillway/spillway/assignment/HealthStatus") (E_DEGRADED : Exa Z Z.heap a_DEGRADED "com/example/spillway/spillway/assignment/HealthStatus") (n_UNKNOWN_HEALTHY : a_UNKNOWN ≠ a_HEALTHY) (n_UNKNOWN_DEGRADED : a_UNKNOWN ≠ a_DEGRADED) (n_HEALTHY_UNKNOWN : a_HEALTHY ≠ a_UNKNOWN) (n_HEALTHY_DEGRADED : a_HEALTHY ≠ a_DEGRADED) (n_UNHEALTHY_HEALTHY : a_UNHEALTHY ≠ a_HEALTHY) (n_UNHEALTHY_UNKNOWN : a_UNHEALTHY ≠ a_UNKNOWN) (n_UNHEALTHY_DEGRADED : a_UNHEALTHY ≠ a_DEGRADED) (n_DRAINING_HEALTHY : a_DRAINING ≠ a_HEALTHY) (n_DRAINING_UNKNOWN : a_DRAINING ≠ a_UNKNOWN) (n_DRAINING_DEGRADED : a_DRAINING ≠ a_DEGRADED) (n_TIMEOUT_HEALTHY : a_TIMEOUT ≠ a_HEALTHY) (n_TIMEOUT_UNKNOWN : a_TIMEOUT ≠ a_UNKNOWN) (n_TIMEOUT_DEGRADED : a_TIMEOUT ≠ a_DEGRADED) (n_DEGRADED_HEALTHY : a_DEGRADED ≠ a_HEALTHY) (n_DEGRADED_UNKNOWN : a_DEGRADED ≠ a_UNKNOWN) :
    MetFree l x (head1 (Jvm.Cond.code x code maxLocals ret :: ws) room_1) (fun ay U => ay = #[(.int sa), (.long va), (.int sb), (.long vb)] ∧ Z.Warmed39 U.vm ∧ U.heap = h0 ∧ CHv Z EL U.vm h0 ∧ ∀ y ∈ ([] : List Addr), Safe Z EL U.vm h0 y) (fun _ _ _ _ _ => True) (fun _ U o U' => ∃ v L, o = .returned v ∧ Q0 Z sa va sb vb a_UNKNOWN a_HEALTHY a_UNHEALTHY a_DRAINING a_TIMEOUT a_DEGRADED h0 n0 v U'.heap L ∧ CHr Z EL U.vm U.heap U'.vm U'.heap ∧ ReturnedEndW U o U' L room_1.cells room_1.slots) := by
  refine MetFree.of_bodySF (plainFor_of_name pn_com_example_spillway_spillway_assignment_HealthTallyAddPinLaw) hisR ?_
  intro p e s m args below meth c s₁ Bd hml0 hP hK
  obtain ⟨rfl, hZ, hh, hCH, hSf⟩ := hP
  have hx := Bd.exec
  have hby := Bd.bytes
  have hlk : meth.locks = false := BodyLoose.notSynchronized Bd
  have hml : c.maxLocals = 25 := hml0
  have hown : s.vm.findClass "com/example/spillway/spillway/assignment/HealthTallyAddPinLaw" = some m.cls := findClass_of_methodNamed Bd.named
  have hnm := (name_of_methodNamed Bd.named Bd.method).1
  have X0 : Stand p l e room_1 (s.setVm s.vm) m #[(.int sa), (.long va), (.int sb), (.long vb)] below meth c s₁ [] 0 0 := Stand.of_body Bd
  have e0 : s₁.heap = h0 := by rw [← hh, Bd.state]; rfl
  have N0 := Fr.nil n0
  have hS0 : s.Since s.vm 0 := (State.WarmedH.refl s).since 0
  have hk0 : 0 ≤ h0.size := Nat.zero_le _
  have CH0 : CHr Z EL s.vm s.heap s.vm h0 := by rw [hh]; exact CHr.refl hCH
  have hEL : EW Z a0 EL := own_EW hw
  have hwS := own_wS hw
  suffices hgo : GoW p e below s 16 1152 Z EL (Q0 Z sa va sb vb a_UNKNOWN a_HEALTHY a_UNHEALTHY a_DRAINING a_TIMEOUT a_DEGRADED h0 n0) (s₁.setTop (mkF m 0 #[.val (.int sa), .val (.long va), .second, .val (.int sb), .val (.long vb), .second, .unset, .unset, .unset, .unset, .unset, .unset, .unset, .unset, .unset, .unset, .unset, .unset, .unset, .unset, .unset, .unset, .unset, .unset, .unset] [])) by
    obtain ⟨t, o, h1, h2⟩ := hgo; exact ⟨t, o, castTop (ef_rm0 m sa va sb vb) h1, h2⟩
  show GoW p e below s _ _ _ _ _ (s₁.setTop (mkF m 0 #[.val (.int sa), .val (.long va), .second, .val (.int sb), .val (.long vb), .second, .unset, .unset, .unset, .unset, .unset, .unset, .unset, .unset, .unset, .unset, .unset, .unset, .unset, .unset, .unset, .unset, .unset, .unset, .unset] []))
  refine GoW.st (fun _ k' => XS.iloadN X0.here hx rfl (hb hby at_0) rfl k') ?_
  show GoW p e below s _ _ _ _ _ (s₁.setTop (mkF m 1 #[.val (.int sa), .val (.long va), .second, .val (.int sb), .val (.long vb), .second, .unset, .unset, .unset, .unset, .unset, .unset, .unset, .unset, .unset, .unset, .unset, .unset, .unset, .unset, .unset, .unset, .unset, .unset, .unset] [(.int sa)]))
  refine GoW.st (fun _ k' => X0.ldcI hx hown (mvT hZ (wdx hw 0 rfl)) rfl (hb hby at_1) k') ?_
  show GoW p e below s _ _ _ _ _ (s₁.setTop (mkF m 3 #[.val (.int sa), .val (.long va), .second, .val (.int sb), .val (.long vb), .second, .unset, .unset, .unset, .unset, .unset, .unset, .unset, .unset, .unset, .unset, .unset, .unset, .unset, .unset, .unset, .unset, .unset, .unset, .unset] [(.int 2147483647), (.int sa)]))
  refine GoW.st (fun _ k' => XS.iand X0.here hx rfl (hb hby at_3) rfl k') ?_
  refine GoW.st (fun _ k' => XS.bipush X0.here hx rfl (hb hby at_4) k') ?_
  show GoW p e below s _ _ _ _ _ (s₁.setTop (mkF m 6 #[.val (.int sa), .val (.long va), .second, .val (.int sb), .val (.long vb), .second, .unset, .unset, .unset, .unset, .unset, .unset, .unset, .unset, .unset, .unset, .unset, .unset, .unset, .unset, .unset, .unset, .unset, .unset, .unset] [(.int 6), (.int (sa &&& (2147483647 : Int32)))]))
  refine GoW.st (fun _ k' => iremM X0 hx rfl (hb hby at_6) rfl (by decide) k') ?_
  show GoW p e below s _ _ _ _ _ (s₁.setTop (mkF m 7 #[.val (.int sa), .val (.long va), .second, .val (.int sb), .val (.long vb), .second, .unset, .unset, .unset, .unset, .unset, .unset, .unset, .unset, .unset, .unset, .unset, .unset, .unset, .unset, .unset, .unset, .unset, .unset, .unset] [(.int ((sa &&& (2147483647 : Int32)) % (6 : Int32)))]))
  refine GoW.st (fun _ k' => XS.istore X0.here hx rfl (hb hby at_7) rfl (l' := #[.val (.int sa), .val (.long va), .second, .val (.int sb), .val (.long vb), .second, .val (.int ((sa &&& (2147483647 : Int32)) % (6 : Int32))), .unset, .unset, .unset, .unset, .unset, .unset, .unset, .unset, .unset, .unset, .unset, .unset, .unset, .unset, .unset, .unset, .unset, .unset]) rfl k') ?_
  refine GoW.st (fun _ k' => XS.iloadN X0.here hx rfl (hb hby at_9) rfl k') ?_
  show GoW p e below s _ _ _ _ _ (s₁.setTop (mkF m 10 #[.val (.int sa), .val (.long va), .second, .val (.int sb), .val (.long vb), .second, .val (.int ((sa &&& (2147483647 : Int32)) % (6 : Int32))), .unset, .unset, .unset, .unset, .unset, .unset, .unset, .unset, .unset, .unset, .unset, .unset, .unset, .unset, .unset, .unset, .unset, .unset] [(.int sb)]))
  refine GoW.st (fun _ k' => X0.ldcI hx hown (mvT hZ (wdx hw 0 rfl)) rfl (hb hby at_10) k') ?_
  show GoW p e below s _ _ _ _ _ (s₁.setTop (mkF m 12 #[.val (.int sa), .val (.long va), .second, .val (.int sb), .val (.long vb), .second, .val (.int ((sa &&& (2147483647 : Int32)) % (6 : Int32))), .unset, .unset, .unset, .unset, .unset, .unset, .unset, .unset, .unset, .unset, .unset, .unset, .unset, .unset, .unset, .unset, .unset, .unset] [(.int 2147483647), (.int sb)]))
  refine GoW.st (fun _ k' => XS.iand X0.here hx rfl (hb hby at_12) rfl k') ?_
  refine GoW.st (fun _ k' => XS.bipush X0.here hx rfl (hb hby at_13) k') ?_
  show GoW p e below s _ _ _ _ _ (s₁.setTop (mkF m 15 #[.val (.int sa), .val (.long va), .second, .val (.int sb), .val (.long vb), .second, .val (.int ((sa &&& (2147483647 : Int32)) % (6 : Int32))), .unset, .unset, .unset, .unset, .unset, .unset, .unset, .unset, .unset, .unset, .unset, .unset, .unset, .unset, .unset, .unset, .unset, .unset] [(.int 6), (.int (sb &&& (2147483647 : Int32)))]))
  refine GoW.st (fun _ k' => iremM X0 hx rfl (hb hby at_15) rfl (by decide) k') ?_
  show GoW p e below s _ _ _ _ _ (s₁.setTop (mkF m 16 #[.val (.int sa), .val (.long va), .second, .val (.int sb), .val (.long vb), .second, .val (.int ((sa &&& (2147483647 : Int32)) % (6 : Int32))), .unset, .unset, .unset, .unset, .unset, .unset, .unset, .unset, .unset, .unset, .unset, .unset, .unset, .unset, .unset, .unset, .unset, .unset] [(.int ((sb &&& (2147483647 : Int32)) % (6 : Int32)))]))
  refine GoW.st (fun _ k' => XS.istore X0.here hx rfl (hb hby at_16) rfl (l' := #[.val (.int sa), .val (.long va), .second, .val (.int sb), .val (.long vb), .second, .val (.int ((sa &&& (2147483647 : Int32)) % (6 : Int32))), .val (.int ((sb &&& (2147483647 : Int32)) % (6 : Int32))), .unset, .unset, .unset, .unset, .unset, .unset, .unset, .unset, .unset, .unset, .unset, .unset, .unset, .unset, .unset, .unset, .unset]) rfl k') ?_
  show GoW p e below s _ _ _ _ _ (s₁.setTop (mkF m 18 #[.val (.int sa), .val (.long va), .second, .val (.int sb), .val (.long vb), .second, .val (.int ((sa &&& (2147483647 : Int32)) % (6 : Int32))), .val (.int ((sb &&& (2147483647 : Int32)) % (6 : Int32))), .unset, .unset, .unset, .unset, .unset, .unset, .unset, .unset, .unset, .unset, .unset, .unset, .unset, .unset, .unset, .unset, .unset] []))
  obtain ⟨ia, hd_ia⟩ : ∃ z, z = ((sa &&& (2147483647 : Int32)) % (6 : Int32)) := ⟨_, rfl⟩
  rw [← hd_ia]
  have bia := own_c6 sa
  rw [← hd_ia] at bia
  obtain ⟨ib, hd_ib⟩ : ∃ z, z = ((sb &&& (2147483647 : Int32)) % (6 : Int32)) := ⟨_, rfl⟩
  rw [← hd_ib]
  have bib := own_c6 sb
  rw [← hd_ib] at bib
  show GoW p e below s _ _ _ _ _ (s₁.setTop (mkF m 18 #[.val (.int sa), .val (.long va), .second, .val (.int sb), .val (.long vb), .second, .val (.int ia), .val (.int ib), .unset, .unset, .unset, .unset, .unset, .unset, .unset, .unset, .unset, .unset, .unset, .unset, .unset, .unset, .unset, .unset, .unset] []))
  refine GoW.st (fun _ k' => XS.lloadN X0.here hx rfl (hb hby at_18) rfl k') ?_
  show GoW p e below s _ _ _ _ _ (s₁.setTop (mkF m 19 #[.val (.int sa), .val (.long va), .second, .val (.int sb), .val (.long vb), .second, .val (.int ia), .val (.int ib), .unset, .unset, .unset, .unset, .unset, .unset, .unset, .unset, .unset, .unset, .unset, .unset, .unset, .unset, .unset, .unset, .unset] [(.long va)]))
  obtain ⟨_, _, ⟨T1, L1, k1, n1⟩, -, X1, ⟨Lc1, hQ1, l1, y1, z1⟩, st1⟩ := Jvm.LawKit.callS X0 hx (y := mn15) hown (mvT hZ (wdx hw 1 rfl)) (mvT hZ (wdx hw 2 rfl)) (mvT hZ (wdx hw 3 rfl)) (mvT hZ (wdx hw 4 rfl)) (by decide) (backOf (W := 0) (rm1 l Z a0 hw [] va h0 n0 O0 ) hZ (wdx hw 4 rfl) (wdx hw 3 rfl) (by decide) (by decide)) (g := (mkF m 19 #[.val (.int sa), .val (.long va), .second, .val (.int sb), .val (.long vb), .second, .val (.int ia), .val (.int ib), .unset, .unset, .unset, .unset, .unset, .unset, .unset, .unset, .unset, .unset, .unset, .unset, .unset, .unset, .unset, .unset, .unset] [(.long va)])) rfl (by rw [hml]; rfl) (argsL := [(.long va)]) (rest := []) (lenOf pd__J_J rfl) rfl (by show 2 * 0 + _ ≤ _; exact Nat.le_of_eq rfl) (hb hby at_19) (fun _ _ => ⟨rfl, e0, (by exact lee rfl), (by exact lee rfl)⟩)
  dsimp only [Pt.U, Pt.locs, Pt.cells, Pt.slots] at X1 l1 y1 z1 st1 hQ1
  subst l1 y1 z1
  obtain ⟨rfl, Nq1, eq1⟩ := hQ1
  have N1 := Fr.app N0 Nq1
  refine GoW.st st1 ?_
  show GoW p e below s _ _ _ _ _ (T1.setTop (mkF m 22 #[.val (.int sa), .val (.long va), .second, .val (.int sb), .val (.long vb), .second, .val (.int ia), .val (.int ib), .unset, .unset, .unset, .unset, .unset, .unset, .unset, .unset, .unset, .unset, .unset, .unset, .unset, .unset, .unset, .unset, .unset] [(.long (fmaxJ 1 (va &&& (4294967295 : Int64))))]))
  refine GoW.st (fun _ k' => XS.lstore X1.here hx rfl (hb hby at_22) rfl (l' := #[.val (.int sa), .val (.long va), .second, .val (.int sb), .val (.long vb), .second, .val (.int ia), .val (.int ib), .val (.long (fmaxJ 1 (va &&& (4294967295 : Int64)))), .second, .unset, .unset, .unset, .unset, .unset, .unset, .unset, .unset, .unset, .unset, .unset, .unset, .unset, .unset, .unset]) rfl k') ?_
  show GoW p e below s _ _ _ _ _ (T1.setTop (mkF m 24 #[.val (.int sa), .val (.long va), .second, .val (.int sb), .val (.long vb), .second, .val (.int ia), .val (.int ib), .val (.long (fmaxJ 1 (va &&& (4294967295 : Int64)))), .second, .unset, .unset, .unset, .unset, .unset, .unset, .unset, .unset, .unset, .unset, .unset, .unset, .unset, .unset, .unset] []))
  obtain ⟨wa, hd_wa⟩ : ∃ z, z = (fmaxJ 1 (va &&& (4294967295 : Int64))) := ⟨_, rfl⟩
  rw [← hd_wa]
  have qwa := own_wa va
  rw [← hd_wa] at qwa
  have rwa := own_wb va
  rw [← hd_wa] at rwa
  show GoW p e below s _ _ _ _ _ (T1.setTop (mkF m 24 #[.val (.int sa), .val (.long va), .second, .val (.int sb), .val (.long vb), .second, .val (.int ia), .val (.int ib), .val (.long wa), .second, .unset, .unset, .unset, .unset, .unset, .unset, .unset, .unset, .unset, .unset, .unset, .unset, .unset, .unset, .unset] []))
  refine GoW.st (fun _ k' => XS.lload X1.here hx rfl (hb hby at_24) rfl k') ?_
  show GoW p e below s _ _ _ _ _ (T1.setTop (mkF m 26 #[.val (.int sa), .val (.long va), .second, .val (.int sb), .val (.long vb), .second, .val (.int ia), .val (.int ib), .val (.long wa), .second, .unset, .unset, .unset, .unset, .unset, .unset, .unset, .unset, .unset, .unset, .unset, .unset, .unset, .unset, .unset] [(.long vb)]))
  obtain ⟨_, _, ⟨T2, L2, k2, n2⟩, -, X2, ⟨Lc2, hQ2, l2, y2, z2⟩, st2⟩ := Jvm.LawKit.callS X1 hx (y := mn15) hown (mvT hZ (wdx hw 1 rfl)) (mvT hZ (wdx hw 2 rfl)) (mvT hZ (wdx hw 3 rfl)) (mvT hZ (wdx hw 4 rfl)) (by decide) (backOf (W := 0) (rm1 l Z a0 hw [] vb h0 n0 O0 ) hZ (wdx hw 4 rfl) (wdx hw 3 rfl) (by decide) (by decide)) (g := (mkF m 26 #[.val (.int sa), .val (.long va), .second, .val (.int sb), .val (.long vb), .second, .val (.int ia), .val (.int ib), .val (.long wa), .second, .unset, .unset, .unset, .unset, .unset, .unset, .unset, .unset, .unset, .unset, .unset, .unset, .unset, .unset, .unset] [(.long vb)])) rfl (by rw [hml]; rfl) (argsL := [(.long vb)]) (rest := []) (lenOf pd__J_J rfl) rfl (by show 2 * 0 + _ ≤ _; exact Nat.le_of_eq rfl) (hb hby at_26) (fun _ _ => ⟨rfl, eq1, (by exact lee rfl), (by exact lee rfl)⟩)
  dsimp only [Pt.U, Pt.locs, Pt.cells, Pt.slots] at X2 l2 y2 z2 st2 hQ2
  subst l2 y2 z2
  obtain ⟨rfl, Nq2, eq2⟩ := hQ2
  have N2 := Fr.app N1 Nq2
  refine GoW.st st2 ?_
  show GoW p e below s _ _ _ _ _ (T2.setTop (mkF m 29 #[.val (.int sa), .val (.long va), .second, .val (.int sb), .val (.long vb), .second, .val (.int ia), .val (.int ib), .val (.long wa), .second, .unset, .unset, .unset, .unset, .unset, .unset, .unset, .unset, .unset, .unset, .unset, .unset, .unset, .unset, .unset] [(.long (fmaxJ 1 (vb &&& (4294967295 : Int64))))]))
  refine GoW.st (fun _ k' => XS.lstore X2.here hx rfl (hb hby at_29) rfl (l' := #[.val (.int sa), .val (.long va), .second, .val (.int sb), .val (.long vb), .second, .val (.int ia), .val (.int ib), .val (.long wa), .second, .val (.long (fmaxJ 1 (vb &&& (4294967295 : Int64)))), .second, .unset, .unset, .unset, .unset, .unset, .unset, .unset, .unset, .unset, .unset, .unset, .unset, .unset]) rfl k') ?_
  show GoW p e below s _ _ _ _ _ (T2.setTop (mkF m 31 #[.val (.int sa), .val (.long va), .second, .val (.int sb), .val (.long vb), .second, .val (.int ia), .val (.int ib), .val (.long wa), .second, .val (.long (fmaxJ 1 (vb &&& (4294967295 : Int64)))), .second, .unset, .unset, .unset, .unset, .unset, .unset, .unset, .unset, .unset, .unset, .unset, .unset, .unset] []))
  obtain ⟨wb, hd_wb⟩ : ∃ z, z = (fmaxJ 1 (vb &&& (4294967295 : Int64))) := ⟨_, rfl⟩
  rw [← hd_wb]
  have qwb := own_wa vb
  rw [← hd_wb] at qwb
  have rwb := own_wb vb
  rw [← hd_wb] at rwb
  show GoW p e below s _ _ _ _ _ (T2.setTop (mkF m 31 #[.val (.int sa), .val (.long va), .second, .val (.int sb), .val (.long vb), .second, .val (.int ia), .val (.int ib), .val (.long wa), .second, .val (.long wb), .second, .unset, .unset, .unset, .unset, .unset, .unset, .unset, .unset, .unset, .unset, .unset, .unset, .unset] []))
  obtain ⟨T3, h3, X3, e3, E3, A3, D3, -, st3⟩ := newO X2 hx hZ hown (wdx hw 10 rfl) (wdx hw 11 rfl) (wdx hw 12 rfl) eq2 (g := (mkF m 31 #[.val (.int sa), .val (.long va), .second, .val (.int sb), .val (.long vb), .second, .val (.int ia), .val (.int ib), .val (.long wa), .second, .val (.long wb), .second, .unset, .unset, .unset, .unset, .unset, .unset, .unset, .unset, .unset, .unset, .unset, .unset, .unset] [])) rfl (hb hby at_31) (by decide) (by decide)
  obtain ⟨b3, g3⟩ : ∃ z, z = h0.size := ⟨_, rfl⟩
  rw [← g3] at A3 D3 st3
  refine GoW.st st3 ?_
  have g_b3 : n0 ≤ b3 := Nat.le_trans (own_le O0) (Nat.le_of_eq g3.symm)
  have sf_b3 : Safe Z EL s.vm h0 b3 := Safe.new (Nat.le_of_eq g3.symm)
  have f4 : Safe Z EL s.vm h3 b3 := Safe.ext E3 CH0.1 sf_b3
  have CH3 : CHr Z EL s.vm s.heap s.vm h3 := CH0.trans (CHr.ext E3 CH0.1)
  have hk3 : 0 ≤ Array.size h3 := Nat.le_trans hk0 E3.1
  have O3 : Old Z n0 h3 := O0.ext E3
  have f5 : Fld Z h3 b3 "com/example/spillway/spillway/assignment/Endpoint" "address" "Lcom/example/spillway/spillway/assignment/EndpointAddress;" .null := D3 (Or.inr (wdx hw 31 rfl)) (ty := (.object "com/example/spillway/spillway/assignment/EndpointAddress")) (by decide)
  have f6 : Fld Z h3 b3 "com/example/spillway/spillway/assignment/Endpoint" "health" "Lcom/example/spillway/spillway/assignment/HealthStatus;" .null := D3 (Or.inr (wdx hw 47 rfl)) (ty := (.object "com/example/spillway/spillway/assignment/HealthStatus")) (by decide)
  have f7 : Fld Z h3 b3 "com/example/spillway/spillway/assignment/Endpoint" "loadBalancingWeight" "J" (.long 0) := D3 (Or.inr (wdx hw 49 rfl)) (ty := .long) (by decide)
  show GoW p e below s _ _ _ _ _ (T3.setTop (mkF m 34 #[.val (.int sa), .val (.long va), .second, .val (.int sb), .val (.long vb), .second, .val (.int ia), .val (.int ib), .val (.long wa), .second, .val (.long wb), .second, .unset, .unset, .unset, .unset, .unset, .unset, .unset, .unset, .unset, .unset, .unset, .unset, .unset] [(.ref b3)]))
  refine GoW.st (fun _ k' => XS.dup X3.here hx rfl (hb hby at_34) rfl rfl k') ?_
  refine GoW.st (fun _ k' => XS.aconstNull X3.here hx rfl (hb hby at_35) k') ?_
  refine GoW.st (fun _ k' => XS.iload X3.here hx rfl (hb hby at_36) rfl k') ?_
  show GoW p e below s _ _ _ _ _ (T3.setTop (mkF m 38 #[.val (.int sa), .val (.long va), .second, .val (.int sb), .val (.long vb), .second, .val (.int ia), .val (.int ib), .val (.long wa), .second, .val (.long wb), .second, .unset, .unset, .unset, .unset, .unset, .unset, .unset, .unset, .unset, .unset, .unset, .unset, .unset] [(.int ia), .null, (.ref b3), (.ref b3)]))
  obtain ⟨_, _, ⟨T8, L8, k8, n8⟩, -, X8, ⟨Lc8, hQ8, l8, y8, z8⟩, st8⟩ := Jvm.LawKit.callS X3 hx (y := mn13) hown (mvT hZ (wdx hw 13 rfl)) (mvT hZ (wdx hw 14 rfl)) (mvT hZ (wdx hw 3 rfl)) (mvT hZ (wdx hw 15 rfl)) (by decide) (backOf (W := 3) (rm3 l Z a0 hw [] ia a_UNKNOWN a_HEALTHY a_UNHEALTHY a_DRAINING a_TIMEOUT a_DEGRADED h3 n0 O3 S_UNKNOWN S_HEALTHY S_UNHEALTHY S_DRAINING S_TIMEOUT S_DEGRADED) hZ (wdx hw 15 rfl) (wdx hw 3 rfl) (by decide) (by decide)) (g := (mkF m 38 #[.val (.int sa), .val (.long va), .second, .val (.int sb), .val (.long vb), .second, .val (.int ia), .val (.int ib), .val (.long wa), .second, .val (.long wb), .second, .unset, .unset, .unset, .unset, .unset, .unset, .unset, .unset, .unset, .unset, .unset, .unset, .unset] [(.int ia), .null, (.ref b3), (.ref b3)])) rfl (by rw [hml]; rfl) (argsL := [(.int ia)]) (rest := [.null, (.ref b3), (.ref b3)]) (lenOf pd__I_Lcom_example_spillway_spillway_assignment_HealthStatus_ rfl) rfl (by show 2 * 0 + _ ≤ _; exact Nat.le_of_eq rfl) (hb hby at_38) (fun _ _ => ⟨rfl, e3, (by exact lee rfl), (by exact lee rfl)⟩)
  dsimp only [Pt.U, Pt.locs, Pt.cells, Pt.slots] at X8 l8 y8 z8 st8 hQ8
  subst l8 y8 z8
  obtain ⟨rfl, Nq8, eq8⟩ := hQ8
  have N8 := Fr.app N2 Nq8
  refine GoW.st st8 ?_
  show GoW p e below s _ _ _ _ _ (T8.setTop (mkF m 41 #[.val (.int sa), .val (.long va), .second, .val (.int sb), .val (.long vb), .second, .val (.int ia), .val (.int ib), .val (.long wa), .second, .val (.long wb), .second, .unset, .unset, .unset, .unset, .unset, .unset, .unset, .unset, .unset, .unset, .unset, .unset, .unset] [(.ref (fpick ia a_UNKNOWN a_HEALTHY a_UNHEALTHY a_DRAINING a_TIMEOUT a_DEGRADED)), .null, (.ref b3), (.ref b3)]))
  obtain ⟨hsa, hd_hsa⟩ : ∃ z, z = (fpick ia a_UNKNOWN a_HEALTHY a_UNHEALTHY a_DRAINING a_TIMEOUT a_DEGRADED) := ⟨_, rfl⟩
  rw [← hd_hsa]
  have E_hsa := (own_Ep ia a_UNKNOWN a_HEALTHY a_UNHEALTHY a_DRAINING a_TIMEOUT a_DEGRADED E_UNKNOWN E_HEALTHY E_UNHEALTHY E_DRAINING E_TIMEOUT E_DEGRADED).ext O3.2
  rw [← hd_hsa] at E_hsa
  have kd_hsa := own_kind ia bia a_UNKNOWN a_HEALTHY a_UNHEALTHY a_DRAINING a_TIMEOUT a_DEGRADED n_UNKNOWN_HEALTHY n_UNKNOWN_DEGRADED n_HEALTHY_UNKNOWN n_HEALTHY_DEGRADED n_UNHEALTHY_HEALTHY n_UNHEALTHY_UNKNOWN n_UNHEALTHY_DEGRADED n_DRAINING_HEALTHY n_DRAINING_UNKNOWN n_DRAINING_DEGRADED n_TIMEOUT_HEALTHY n_TIMEOUT_UNKNOWN n_TIMEOUT_DEGRADED n_DEGRADED_HEALTHY n_DEGRADED_UNKNOWN
  rw [← hd_hsa] at kd_hsa
  rcases kd_hsa with ⟨khsa_0, khsa_1, khsa_2⟩ | ⟨khsa_0, khsa_1, khsa_2, khsa_3⟩ | ⟨khsa_0, khsa_1, khsa_2, khsa_3⟩
  · show GoW p e below s _ _ _ _ _ (T8.setTop (mkF m 41 #[.val (.int sa), .val (.long va), .second, .val (.int sb), .val (.long vb), .second, .val (.int ia), .val (.int ib), .val (.long wa), .second, .val (.long wb), .second, .unset, .unset, .unset, .unset, .unset, .unset, .unset, .unset, .unset, .unset, .unset, .unset, .unset] [(.ref hsa), .null, (.ref b3), (.ref b3)]))
    refine GoW.st (fun _ k' => XS.lload X8.here hx rfl (hb hby at_41) rfl k') ?_
    show GoW p e below s _ _ _ _ _ (T8.setTop (mkF m 43 #[.val (.int sa), .val (.long va), .second, .val (.int sb), .val (.long vb), .second, .val (.int ia), .val (.int ib), .val (.long wa), .second, .val (.long wb), .second, .unset, .unset, .unset, .unset, .unset, .unset, .unset, .unset, .unset, .unset, .unset, .unset, .unset] [(.long wa), (.ref hsa), .null, (.ref b3), (.ref b3)]))
    obtain ⟨_, _, ⟨T9, L9, k9, n9⟩, -, Xr9, hSr9, hgr9, ⟨Lc9, hQ9, l9, y9, z9, C9⟩, st9⟩ := X8.specialBackS hx (y := mn7) rfl hown (mvT hZ (wdx hw 19 rfl)) (mvT hZ (wdx hw 20 rfl)) (mvT hZ (wdx hw 21 rfl)) (by decide) (own_back (W := 1) (rm4 l Z a0 hw [] b3 hsa wa h3 n0 O3 A3 f5 f6 f7 E_hsa g_b3 qwa rwa) hZ (wdx hw 21 rfl) (wdx hw 12 rfl) (by decide) (by decide) hEL CH3.1 (allS ⟨A3.lt, f4⟩ all0)) (g := (mkF m 43 #[.val (.int sa), .val (.long va), .second, .val (.int sb), .val (.long vb), .second, .val (.int ia), .val (.int ib), .val (.long wa), .second, .val (.long wb), .second, .unset, .unset, .unset, .unset, .unset, .unset, .unset, .unset, .unset, .unset, .unset, .unset, .unset] [(.long wa), (.ref hsa), .null, (.ref b3), (.ref b3)])) rfl (by rw [hml]; rfl) (Steps.refl _) (a := b3) (argsL := [.null, (.ref hsa), (.long wa)]) (rest := [(.ref b3)]) (lenOf pd__Lcom_example_spillway_spillway_assignment_EndpointAddress_Lcom_example_spillway_spillway_assignment_HealthStatus_J_V rfl) rfl (by show 2 * 0 + _ ≤ _; exact Nat.le_of_eq rfl) (hb hby at_43) (fun _ _ => ⟨rfl, eq8, (by exact lee rfl), (by exact lee rfl)⟩)
    dsimp only [Pt.U, Pt.locs, Pt.cells, Pt.slots] at Xr9 hSr9 hgr9 l9 y9 z9 C9 st9 hQ9
    subst l9 y9 z9
    obtain ⟨X9, hS9, hZ9, hown9⟩ := rebS hS0 (by rw [eq8]; exact hk3) Xr9 hSr9 hgr9 hZ hown
    obtain ⟨rfl, Nq9, Kq9, f10, f11⟩ := hQ9
    have N9 := Fr.app N8 Nq9
    refine GoW.tr st9 ?_
    have f12 : Safe Z EL T9.vm T9.heap b3 := C9.safe A3.lt f4
    have f13 : Exa Z T9.heap b3 "com/example/spillway/spillway/assignment/Endpoint" := A3.keep Kq9
    have f14 : Exa Z T9.heap hsa "com/example/spillway/spillway/assignment/HealthStatus" := E_hsa.keep Kq9
    have CH9 : CHr Z EL s.vm s.heap T9.vm T9.heap := CH3.trans C9
    have O9 : Old Z n0 T9.heap := O3.keep Kq9 (allS g_b3 all0)
    show GoW p e below s _ _ _ _ _ (T9.setTop (mkF m 46 #[.val (.int sa), .val (.long va), .second, .val (.int sb), .val (.long vb), .second, .val (.int ia), .val (.int ib), .val (.long wa), .second, .val (.long wb), .second, .unset, .unset, .unset, .unset, .unset, .unset, .unset, .unset, .unset, .unset, .unset, .unset, .unset] [(.ref b3)]))
    refine GoW.st (fun _ k' => XS.astore X9.here hx rfl (hb hby at_46) rfl rfl (l' := #[.val (.int sa), .val (.long va), .second, .val (.int sb), .val (.long vb), .second, .val (.int ia), .val (.int ib), .val (.long wa), .second, .val (.long wb), .second, .val (.ref b3), .unset, .unset, .unset, .unset, .unset, .unset, .unset, .unset, .unset, .unset, .unset, .unset]) rfl k') ?_
    show GoW p e below s _ _ _ _ _ (T9.setTop (mkF m 48 #[.val (.int sa), .val (.long va), .second, .val (.int sb), .val (.long vb), .second, .val (.int ia), .val (.int ib), .val (.long wa), .second, .val (.long wb), .second, .val (.ref b3), .unset, .unset, .unset, .unset, .unset, .unset, .unset, .unset, .unset, .unset, .unset, .unset] []))
    obtain ⟨T15, h15, X15, e15, E15, A15, D15, -, st15⟩ := newO X9 hx hZ9 hown9 (wdx hw 10 rfl) (wdx hw 11 rfl) (wdx hw 12 rfl) rfl (g := (mkF m 48 #[.val (.int sa), .val (.long va), .second, .val (.int sb), .val (.long vb), .second, .val (.int ia), .val (.int ib), .val (.long wa), .second, .val (.long wb), .second, .val (.ref b3), .unset, .unset, .unset, .unset, .unset, .unset, .unset, .unset, .unset, .unset, .unset, .unset] [])) rfl (hb hby at_48) (by decide) (by decide)
    obtain ⟨b15, g15⟩ : ∃ z, z = T9.heap.size := ⟨_, rfl⟩
    rw [← g15] at A15 D15 st15
    refine GoW.st st15 ?_
    have g_b15 : n0 ≤ b15 := Nat.le_trans (own_le O9) (Nat.le_of_eq g15.symm)
    have sf_b15 : Safe Z EL T9.vm T9.heap b15 := Safe.new (Nat.le_of_eq g15.symm)
    have ne16 : b3 ≠ b15 := Nat.ne_of_lt (Nat.lt_of_lt_of_le f13.lt (Nat.le_of_eq g15.symm))
    have ne17 : hsa ≠ b15 := Nat.ne_of_lt (Nat.lt_of_lt_of_le f14.lt (Nat.le_of_eq g15.symm))
    have f18 : Safe Z EL T9.vm h15 b3 := Safe.ext E15 CH9.1 f12
    have f19 : Exa Z h15 b3 "com/example/spillway/spillway/assignment/Endpoint" := f13.ext E15
    have f20 : Exa Z h15 hsa "com/example/spillway/spillway/assignment/HealthStatus" := f14.ext E15
    have f21 : Fld Z h15 b3 "com/example/spillway/spillway/assignment/Endpoint" "health" "Lcom/example/spillway/spillway/assignment/HealthStatus;" (.ref hsa) := f10.ext E15
    have f22 : Fld Z h15 b3 "com/example/spillway/spillway/assignment/Endpoint" "loadBalancingWeight" "J" (.long wa) := f11.ext E15
    have f23 : Safe Z EL T9.vm h15 b15 := Safe.ext E15 CH9.1 sf_b15
    have CH15 : CHr Z EL s.vm s.heap T9.vm h15 := CH9.trans (CHr.ext E15 CH9.1)
    have hk15 : Array.size T9.heap ≤ Array.size h15 := Nat.le_trans (Nat.le_refl _) E15.1
    have O15 : Old Z n0 h15 := O9.ext E15
    have f24 : Fld Z h15 b15 "com/example/spillway/spillway/assignment/Endpoint" "address" "Lcom/example/spillway/spillway/assignment/EndpointAddress;" .null := D15 (Or.inr (wdx hw 31 rfl)) (ty := (.object "com/example/spillway/spillway/assignment/EndpointAddress")) (by decide)
    have f25 : Fld Z h15 b15 "com/example/spillway/spillway/assignment/Endpoint" "health" "Lcom/example/spillway/spillway/assignment/HealthStatus;" .null := D15 (Or.inr (wdx hw 47 rfl)) (ty := (.object "com/example/spillway/spillway/assignment/HealthStatus")) (by decide)
    have f26 : Fld Z h15 b15 "com/example/spillway/spillway/assignment/Endpoint" "loadBalancingWeight" "J" (.long 0) := D15 (Or.inr (wdx hw 49 rfl)) (ty := .long) (by decide)
    show GoW p e below s _ _ _ _ _ (T15.setTop (mkF m 51 #[.val (.int sa), .val (.long va), .second, .val (.int sb), .val (.long vb), .second, .val (.int ia), .val (.int ib), .val (.long wa), .second, .val (.long wb), .second, .val (.ref b3), .unset, .unset, .unset, .unset, .unset, .unset, .unset, .unset, .unset, .unset, .unset, .unset] [(.ref b15)]))
    refine GoW.st (fun _ k' => XS.dup X15.here hx rfl (hb hby at_51) rfl rfl k') ?_
    refine GoW.st (fun _ k' => XS.aconstNull X15.here hx rfl (hb hby at_52) k') ?_
    refine GoW.st (fun _ k' => XS.iload X15.here hx rfl (hb hby at_53) rfl k') ?_
    show GoW p e below s _ _ _ _ _ (T15.setTop (mkF m 55 #[.val (.int sa), .val (.long va), .second, .val (.int sb), .val (.long vb), .second, .val (.int ia), .val (.int ib), .val (.long wa), .second, .val (.long wb), .second, .val (.ref b3), .unset, .unset, .unset, .unset, .unset, .unset, .unset, .unset, .unset, .unset, .unset, .unset] [(.int ib), .null, (.ref b15), (.ref b15)]))
    obtain ⟨_, _, ⟨T27, L27, k27, n27⟩, -, X27, ⟨Lc27, hQ27, l27, y27, z27⟩, st27⟩ := Jvm.LawKit.callS X15 hx (y := mn13) hown9 (mvT hZ9 (wdx hw 13 rfl)) (mvT hZ9 (wdx hw 14 rfl)) (mvT hZ9 (wdx hw 3 rfl)) (mvT hZ9 (wdx hw 15 rfl)) (by decide) (backOf (W := 3) (rm3 l Z a0 hw [] ib a_UNKNOWN a_HEALTHY a_UNHEALTHY a_DRAINING a_TIMEOUT a_DEGRADED h15 n0 O15 S_UNKNOWN S_HEALTHY S_UNHEALTHY S_DRAINING S_TIMEOUT S_DEGRADED) hZ9 (wdx hw 15 rfl) (wdx hw 3 rfl) (by decide) (by decide)) (g := (mkF m 55 #[.val (.int sa), .val (.long va), .second, .val (.int sb), .val (.long vb), .second, .val (.int ia), .val (.int ib), .val (.long wa), .second, .val (.long wb), .second, .val (.ref b3), .unset, .unset, .unset, .unset, .unset, .unset, .unset, .unset, .unset, .unset, .unset, .unset] [(.int ib), .null, (.ref b15), (.ref b15)])) rfl (by rw [hml]; rfl) (argsL := [(.int ib)]) (rest := [.null, (.ref b15), (.ref b15)]) (lenOf pd__I_Lcom_example_spillway_spillway_assignment_HealthStatus_ rfl) rfl (by show 2 * 0 + _ ≤ _; exact Nat.le_of_eq rfl) (hb hby at_55) (fun _ _ => ⟨rfl, e15, (by exact lee rfl), (by exact lee rfl)⟩)
    dsimp only [Pt.U, Pt.locs, Pt.cells, Pt.slots] at X27 l27 y27 z27 st27 hQ27
    subst l27 y27 z27
    obtain ⟨rfl, Nq27, eq27⟩ := hQ27
    have N27 := Fr.app N9 Nq27
    refine GoW.st st27 ?_
    show GoW p e below s _ _ _ _ _ (T27.setTop (mkF m 58 #[.val (.int sa), .val (.long va), .second, .val (.int sb), .val (.long vb), .second, .val (.int ia), .val (.int ib), .val (.long wa), .second, .val (.long wb), .second, .val (.ref b3), .unset, .unset, .unset, .unset, .unset, .unset, .unset, .unset, .unset, .unset, .unset, .unset] [(.ref (fpick ib a_UNKNOWN a_HEALTHY a_UNHEALTHY a_DRAINING a_TIMEOUT a_DEGRADED)), .null, (.ref b15), (.ref b15)]))
    obtain ⟨hsb, hd_hsb⟩ : ∃ z, z = (fpick ib a_UNKNOWN a_HEALTHY a_UNHEALTHY a_DRAINING a_TIMEOUT a_DEGRADED) := ⟨_, rfl⟩
    rw [← hd_hsb]
    have E_hsb := (own_Ep ib a_UNKNOWN a_HEALTHY a_UNHEALTHY a_DRAINING a_TIMEOUT a_DEGRADED E_UNKNOWN E_HEALTHY E_UNHEALTHY E_DRAINING E_TIMEOUT E_DEGRADED).ext O15.2
    rw [← hd_hsb] at E_hsb
    have kd_hsb := own_kind ib bib a_UNKNOWN a_HEALTHY a_UNHEALTHY a_DRAINING a_TIMEOUT a_DEGRADED n_UNKNOWN_HEALTHY n_UNKNOWN_DEGRADED n_HEALTHY_UNKNOWN n_HEALTHY_DEGRADED n_UNHEALTHY_HEALTHY n_UNHEALTHY_UNKNOWN n_UNHEALTHY_DEGRADED n_DRAINING_HEALTHY n_DRAINING_UNKNOWN n_DRAINING_DEGRADED n_TIMEOUT_HEALTHY n_TIMEOUT_UNKNOWN n_TIMEOUT_DEGRADED n_DEGRADED_HEALTHY n_DEGRADED_UNKNOWN
    rw [← hd_hsb] at kd_hsb
    rcases kd_hsb with ⟨khsb_0, khsb_1, khsb_2⟩ | ⟨khsb_0, khsb_1, khsb_2, khsb_3⟩ | ⟨khsb_0, khsb_1, khsb_2, khsb_3⟩
    · show GoW p e below s _ _ _ _ _ (T27.setTop (mkF m 58 #[.val (.int sa), .val (.long va), .second, .val (.int sb), .val (.long vb), .second, .val (.int ia), .val (.int ib), .val (.long wa), .second, .val (.long wb), .second, .val (.ref b3), .unset, .unset, .unset, .unset, .unset, .unset, .unset, .unset, .unset, .unset, .unset, .unset] [(.ref hsb), .null, (.ref b15), (.ref b15)]))
      refine GoW.st (fun _ k' => XS.lload X27.here hx rfl (hb hby at_58) rfl k') ?_
      show GoW p e below s _ _ _ _ _ (T27.setTop (mkF m 60 #[.val (.int sa), .val (.long va), .second, .val (.int sb), .val (.long vb), .second, .val (.int ia), .val (.int ib), .val (.long wa), .second, .val (.long wb), .second, .val (.ref b3), .unset, .unset, .unset, .unset, .unset, .unset, .unset, .unset, .unset, .unset, .unset, .unset] [(.long wb), (.ref hsb), .null, (.ref b15), (.ref b15)]))
      obtain ⟨_, _, ⟨T28, L28, k28, n28⟩, -, Xr28, hSr28, hgr28, ⟨Lc28, hQ28, l28, y28, z28, C28⟩, st28⟩ := X27.specialBackS hx (y := mn7) rfl hown9 (mvT hZ9 (wdx hw 19 rfl)) (mvT hZ9 (wdx hw 20 rfl)) (mvT hZ9 (wdx hw 21 rfl)) (by decide) (own_back (W := 1) (rm4 l Z a0 hw [] b15 hsb wb h15 n0 O15 A15 f24 f25 f26 E_hsb g_b15 qwb rwb) hZ9 (wdx hw 21 rfl) (wdx hw 12 rfl) (by decide) (by decide) hEL CH15.1 (allS ⟨A15.lt, f23⟩ all0)) (g := (mkF m 60 #[.val (.int sa), .val (.long va), .second, .val (.int sb), .val (.long vb), .second, .val (.int ia), .val (.int ib), .val (.long wa), .second, .val (.long wb), .second, .val (.ref b3), .unset, .unset, .unset, .unset, .unset, .unset, .unset, .unset, .unset, .unset, .unset, .unset] [(.long wb), (.ref hsb), .null, (.ref b15), (.ref b15)])) rfl (by rw [hml]; rfl) (Steps.refl _) (a := b15) (argsL := [.null, (.ref hsb), (.long wb)]) (rest := [(.ref b15)]) (lenOf pd__Lcom_example_spillway_spillway_assignment_EndpointAddress_Lcom_example_spillway_spillway_assignment_HealthStatus_J_V rfl) rfl (by show 2 * 0 + _ ≤ _; exact Nat.le_of_eq rfl) (hb hby at_60) (fun _ _ => ⟨rfl, eq27, (by exact lee rfl), (by exact lee rfl)⟩)
      dsimp only [Pt.U, Pt.locs, Pt.cells, Pt.slots] at Xr28 hSr28 hgr28 l28 y28 z28 C28 st28 hQ28
      subst l28 y28 z28
      obtain ⟨X28, hS28, hZ28, hown28⟩ := rebS hS9 (by rw [eq27]; exact hk15) Xr28 hSr28 hgr28 hZ9 hown9
      obtain ⟨rfl, Nq28, Kq28, f29, f30⟩ := hQ28
      have N28 := Fr.app N27 Nq28
      refine GoW.tr st28 ?_
      have f31 : Safe Z EL T28.vm T28.heap b3 := C28.safe f19.lt f18
      have f32 : Exa Z T28.heap b3 "com/example/spillway/spillway/assignment/Endpoint" := f19.keep Kq28
      have f33 : Exa Z T28.heap hsa "com/example/spillway/spillway/assignment/HealthStatus" := f20.keep Kq28
      have f34 : Fld Z T28.heap b3 "com/example/spillway/spillway/assignment/Endpoint" "health" "Lcom/example/spillway/spillway/assignment/HealthStatus;" (.ref hsa) := f21.keep Kq28 (ninS ne16 nin0)
      have f35 : Fld Z T28.heap b3 "com/example/spillway/spillway/assignment/Endpoint" "loadBalancingWeight" "J" (.long wa) := f22.keep Kq28 (ninS ne16 nin0)
      have f36 : Safe Z EL T28.vm T28.heap b15 := C28.safe A15.lt f23
      have f37 : Exa Z T28.heap b15 "com/example/spillway/spillway/assignment/Endpoint" := A15.keep Kq28
      have f38 : Exa Z T28.heap hsb "com/example/spillway/spillway/assignment/HealthStatus" := E_hsb.keep Kq28
      have CH28 : CHr Z EL s.vm s.heap T28.vm T28.heap := CH15.trans C28
      have O28 : Old Z n0 T28.heap := O15.keep Kq28 (allS g_b15 all0)
      show GoW p e below s _ _ _ _ _ (T28.setTop (mkF m 63 #[.val (.int sa), .val (.long va), .second, .val (.int sb), .val (.long vb), .second, .val (.int ia), .val (.int ib), .val (.long wa), .second, .val (.long wb), .second, .val (.ref b3), .unset, .unset, .unset, .unset, .unset, .unset, .unset, .unset, .unset, .unset, .unset, .unset] [(.ref b15)]))
      refine GoW.st (fun _ k' => XS.astore X28.here hx rfl (hb hby at_63) rfl rfl (l' := #[.val (.int sa), .val (.long va), .second, .val (.int sb), .val (.long vb), .second, .val (.int ia), .val (.int ib), .val (.long wa), .second, .val (.long wb), .second, .val (.ref b3), .val (.ref b15), .unset, .unset, .unset, .unset, .unset, .unset, .unset, .unset, .unset, .unset, .unset]) rfl k') ?_
      show GoW p e below s _ _ _ _ _ (T28.setTop (mkF m 65 #[.val (.int sa), .val (.long va), .second, .val (.int sb), .val (.long vb), .second, .val (.int ia), .val (.int ib), .val (.long wa), .second, .val (.long wb), .second, .val (.ref b3), .val (.ref b15), .unset, .unset, .unset, .unset, .unset, .unset, .unset, .unset, .unset, .unset, .unset] []))
      obtain ⟨T39, h39, X39, e39, E39, A39, D39, -, st39⟩ := newO X28 hx hZ28 hown28 (wdx hw 52 rfl) (wdx hw 53 rfl) (wdx hw 54 rfl) rfl (g := (mkF m 65 #[.val (.int sa), .val (.long va), .second, .val (.int sb), .val (.long vb), .second, .val (.int ia), .val (.int ib), .val (.long wa), .second, .val (.long wb), .second, .val (.ref b3), .val (.ref b15), .unset, .unset, .unset, .unset, .unset, .unset, .unset, .unset, .unset, .unset, .unset] [])) rfl (hb hby at_65) (by decide) (by decide)
      obtain ⟨b39, g39⟩ : ∃ z, z = T28.heap.size := ⟨_, rfl⟩
      rw [← g39] at A39 D39 st39
      refine GoW.st st39 ?_
      have g_b39 : n0 ≤ b39 := Nat.le_trans (own_le O28) (Nat.le_of_eq g39.symm)
      have sf_b39 : Safe Z EL T28.vm T28.heap b39 := Safe.new (Nat.le_of_eq g39.symm)
      have ne40 : b3 ≠ b39 := Nat.ne_of_lt (Nat.lt_of_lt_of_le f32.lt (Nat.le_of_eq g39.symm))
      have ne41 : hsa ≠ b39 := Nat.ne_of_lt (Nat.lt_of_lt_of_le f33.lt (Nat.le_of_eq g39.symm))
      have ne42 : b15 ≠ b39 := Nat.ne_of_lt (Nat.lt_of_lt_of_le f37.lt (Nat.le_of_eq g39.symm))
      have ne43 : hsb ≠ b39 := Nat.ne_of_lt (Nat.lt_of_lt_of_le f38.lt (Nat.le_of_eq g39.symm))
      have f44 : Safe Z EL T28.vm h39 b3 := Safe.ext E39 CH28.1 f31
      have f45 : Exa Z h39 b3 "com/example/spillway/spillway/assignment/Endpoint" := f32.ext E39
      have f46 : Exa Z h39 hsa "com/example/spillway/spillway/assignment/HealthStatus" := f33.ext E39
      have f47 : Fld Z h39 b3 "com/example/spillway/spillway/assignment/Endpoint" "health" "Lcom/example/spillway/spillway/assignment/HealthStatus;" (.ref hsa) := f34.ext E39
      have f48 : Fld Z h39 b3 "com/example/spillway/spillway/assignment/Endpoint" "loadBalancingWeight" "J" (.long wa) := f35.ext E39
      have f49 : Safe Z EL T28.vm h39 b15 := Safe.ext E39 CH28.1 f36
      have f50 : Exa Z h39 b15 "com/example/spillway/spillway/assignment/Endpoint" := f37.ext E39
      have f51 : Exa Z h39 hsb "com/example/spillway/spillway/assignment/HealthStatus" := f38.ext E39
      have f52 : Fld Z h39 b15 "com/example/spillway/spillway/assignment/Endpoint" "health" "Lcom/example/spillway/spillway/assignment/HealthStatus;" (.ref hsb) := f29.ext E39
      have f53 : Fld Z h39 b15 "com/example/spillway/spillway/assignment/Endpoint" "loadBalancingWeight" "J" (.long wb) := f30.ext E39
      have f54 : Safe Z EL T28.vm h39 b39 := Safe.ext E39 CH28.1 sf_b39
      have CH39 : CHr Z EL s.vm s.heap T28.vm h39 := CH28.trans (CHr.ext E39 CH28.1)
      have hk39 : Array.size T28.heap ≤ Array.size h39 := Nat.le_trans (Nat.le_refl _) E39.1
      have O39 : Old Z n0 h39 := O28.ext E39
      have f55 : Fld Z h39 b39 "com/example/spillway/spillway/assignment/HealthTally" "hosts" "I" (.int 0) := D39 (Or.inl (wdx hw 74 rfl)) (ty := .int) (by decide)
      have f56 : Fld Z h39 b39 "com/example/spillway/spillway/assignment/HealthTally" "hostWeight" "J" (.long 0) := D39 (Or.inl (wdx hw 76 rfl)) (ty := .long) (by decide)
      have f57 : Fld Z h39 b39 "com/example/spillway/spillway/assignment/HealthTally" "healthy" "I" (.int 0) := D39 (Or.inl (wdx hw 90 rfl)) (ty := .int) (by decide)
      have f58 : Fld Z h39 b39 "com/example/spillway/spillway/assignment/HealthTally" "healthyWeight" "J" (.long 0) := D39 (Or.inl (wdx hw 92 rfl)) (ty := .long) (by decide)
      have f59 : Fld Z h39 b39 "com/example/spillway/spillway/assignment/HealthTally" "degraded" "I" (.int 0) := D39 (Or.inl (wdx hw 109 rfl)) (ty := .int) (by decide)
      have f60 : Fld Z h39 b39 "com/example/spillway/spillway/assignment/HealthTally" "degradedWeight" "J" (.long 0) := D39 (Or.inl (wdx hw 126 rfl)) (ty := .long) (by decide)
      show GoW p e below s _ _ _ _ _ (T39.setTop (mkF m 68 #[.val (.int sa), .val (.long va), .second, .val (.int sb), .val (.long vb), .second, .val (.int ia), .val (.int ib), .val (.long wa), .second, .val (.long wb), .second, .val (.ref b3), .val (.ref b15), .unset, .unset, .unset, .unset, .unset, .unset, .unset, .unset, .unset, .unset, .unset] [(.ref b39)]))
      refine GoW.st (fun _ k' => XS.dup X39.here hx rfl (hb hby at_68) rfl rfl k') ?_
      show GoW p e below s _ _ _ _ _ (T39.setTop (mkF m 69 #[.val (.int sa), .val (.long va), .second, .val (.int sb), .val (.long vb), .second, .val (.int ia), .val (.int ib), .val (.long wa), .second, .val (.long wb), .second, .val (.ref b3), .val (.ref b15), .unset, .unset, .unset, .unset, .unset, .unset, .unset, .unset, .unset, .unset, .unset] [(.ref b39), (.ref b39)]))
      obtain ⟨_, _, ⟨T61, L61, k61, n61⟩, -, X61, ⟨Lc61, hQ61, l61, y61, z61⟩, st61⟩ := X39.specialBack hx (y := mn9) rfl hown28 (mvT hZ28 (wdx hw 55 rfl)) (mvT hZ28 (wdx hw 56 rfl)) (mvT hZ28 (wdx hw 57 rfl)) (by decide) (backOf (W := 1) (rm8 l Z a0 hw [] b39 h39 n0 O39 ) hZ28 (wdx hw 57 rfl) (wdx hw 54 rfl) (by decide) (by decide)) (g := (mkF m 69 #[.val (.int sa), .val (.long va), .second, .val (.int sb), .val (.long vb), .second, .val (.int ia), .val (.int ib), .val (.long wa), .second, .val (.long wb), .second, .val (.ref b3), .val (.ref b15), .unset, .unset, .unset, .unset, .unset, .unset, .unset, .unset, .unset, .unset, .unset] [(.ref b39), (.ref b39)])) rfl (by rw [hml]; rfl) (Steps.refl _) (a := b39) (argsL := []) (rest := [(.ref b39)]) (lenOf pd___V rfl) rfl (by show 2 * 0 + _ ≤ _; exact Nat.le_of_eq rfl) (hb hby at_69) (fun _ _ => ⟨rfl, e39, (by exact lee rfl), (by exact lee rfl)⟩)
      dsimp only [Pt.U, Pt.locs, Pt.cells, Pt.slots] at X61 l61 y61 z61 st61 hQ61
      subst l61 y61 z61
      obtain ⟨rfl, Nq61, eq61⟩ := hQ61
      have N61 := Fr.app N28 Nq61
      refine GoW.tr st61 ?_
      show GoW p e below s _ _ _ _ _ (T61.setTop (mkF m 72 #[.val (.int sa), .val (.long va), .second, .val (.int sb), .val (.long vb), .second, .val (.int ia), .val (.int ib), .val (.long wa), .second, .val (.long wb), .second, .val (.ref b3), .val (.ref b15), .unset, .unset, .unset, .unset, .unset, .unset, .unset, .unset, .unset, .unset, .unset] [(.ref b39)]))
      refine GoW.st (fun _ k' => XS.astore X61.here hx rfl (hb hby at_72) rfl rfl (l' := #[.val (.int sa), .val (.long va), .second, .val (.int sb), .val (.long vb), .second, .val (.int ia), .val (.int ib), .val (.long wa), .second, .val (.long wb), .second, .val (.ref b3), .val (.ref b15), .val (.ref b39), .unset, .unset, .unset, .unset, .unset, .unset, .unset, .unset, .unset, .unset]) rfl k') ?_
      refine GoW.st (fun _ k' => XS.aload X61.here hx rfl (hb hby at_74) rfl rfl k') ?_
      refine GoW.st (fun _ k' => XS.aload X61.here hx rfl (hb hby at_76) rfl rfl k') ?_
      show GoW p e below s _ _ _ _ _ (T61.setTop (mkF m 78 #[.val (.int sa), .val (.long va), .second, .val (.int sb), .val (.long vb), .second, .val (.int ia), .val (.int ib), .val (.long wa), .second, .val (.long wb), .second, .val (.ref b3), .val (.ref b15), .val (.ref b39), .unset, .unset, .unset, .unset, .unset, .unset, .unset, .unset, .unset, .unset] [(.ref b3), (.ref b39)]))
      obtain ⟨cq62, kq62, q62a, q62b, q62c⟩ := isOf hZ28 eq61 A39
      obtain ⟨_, _, ⟨T62, L62, k62, n62⟩, -, X62, ⟨Lc62, hQ62, l62, y62, z62⟩, st62⟩ := X61.virtualBack hx (y := mn0) (z := mn0) hown28 (mvT hZ28 (wdx hw 59 rfl)) (mvT hZ28 (wdx hw 60 rfl)) (notFace_of_selects (args := #[]) (mvT hZ28 (wdx hw 62 rfl))) (mvT hZ28 (wdx hw 62 rfl)) (mvT hZ28 (wdx hw 61 rfl)) (by decide) (backOf (W := 0) (rm9_h l Z a0 hw [] b39 b3 (0 : Int32) (0 : Int32) (0 : Int32) (0 : Int64) (0 : Int64) (0 : Int64) hsa wa a_UNKNOWN a_HEALTHY a_DEGRADED h39 n0 O39 A39 f55 f57 f59 f56 f58 f60 f45 f47 f48 f46 S_UNKNOWN S_HEALTHY S_DEGRADED g_b39 (Ne.symm ne40) khsa_2) hZ28 (wdx hw 63 rfl) (wdx hw 54 rfl) (by decide) (by decide)) q62a q62c (g := (mkF m 78 #[.val (.int sa), .val (.long va), .second, .val (.int sb), .val (.long vb), .second, .val (.int ia), .val (.int ib), .val (.long wa), .second, .val (.long wb), .second, .val (.ref b3), .val (.ref b15), .val (.ref b39), .unset, .unset, .unset, .unset, .unset, .unset, .unset, .unset, .unset, .unset] [(.ref b3), (.ref b39)])) rfl (by rw [hml]; rfl) (Steps.refl _) (argsL := [(.ref b3)]) (rest := []) (lenOf pd__Lcom_example_spillway_spillway_assignment_Endpoint__V rfl) rfl (by show 2 * 0 + _ ≤ _; exact Nat.le_of_eq rfl) (hb hby at_78) (fun _ _ => ⟨rfl, eq61, (by exact lee rfl), (by exact lee rfl)⟩)
      dsimp only [Pt.U, Pt.locs, Pt.cells, Pt.slots] at X62 l62 y62 z62 st62 hQ62
      subst l62 y62 z62
      obtain ⟨rfl, Nq62, Kq62, f63, f64, f65, f66, f67, f68⟩ := hQ62
      have N62 := Fr.app N61 Nq62
      refine GoW.tr st62 ?_
      have f69 : Safe Z EL T28.vm T62.heap b3 := Safe.keep Kq62 (allS f54 all0) CH39.1 f44
      have f70 : Exa Z T62.heap b3 "com/example/spillway/spillway/assignment/Endpoint" := f45.keep Kq62
      have f71 : Exa Z T62.heap hsa "com/example/spillway/spillway/assignment/HealthStatus" := f46.keep Kq62
      have f72 : Fld Z T62.heap b3 "com/example/spillway/spillway/assignment/Endpoint" "health" "Lcom/example/spillway/spillway/assignment/HealthStatus;" (.ref hsa) := f47.keep Kq62 (ninS ne40 nin0)
      have f73 : Fld Z T62.heap b3 "com/example/spillway/spillway/assignment/Endpoint" "loadBalancingWeight" "J" (.long wa) := f48.keep Kq62 (ninS ne40 nin0)
      have f74 : Safe Z EL T28.vm T62.heap b15 := Safe.keep Kq62 (allS f54 all0) CH39.1 f49
      have f75 : Exa Z T62.heap b15 "com/example/spillway/spillway/assignment/Endpoint" := f50.keep Kq62
      have f76 : Exa Z T62.heap hsb "com/example/spillway/spillway/assignment/HealthStatus" := f51.keep Kq62
      have f77 : Fld Z T62.heap b15 "com/example/spillway/spillway/assignment/Endpoint" "health" "Lcom/example/spillway/spillway/assignment/HealthStatus;" (.ref hsb) := f52.keep Kq62 (ninS ne42 nin0)
      have f78 : Fld Z T62.heap b15 "com/example/spillway/spillway/assignment/Endpoint" "loadBalancingWeight" "J" (.long wb) := f53.keep Kq62 (ninS ne42 nin0)
      have f79 : Safe Z EL T28.vm T62.heap b39 := Safe.keep Kq62 (allS f54 all0) CH39.1 f54
      have f80 : Exa Z T62.heap b39 "com/example/spillway/spillway/assignment/HealthTally" := A39.keep Kq62
      have CH62 : CHr Z EL s.vm s.heap T28.vm T62.heap := CH39.trans (CHr.keep Kq62 (allS f54 all0) CH39.1)
      have hk62 : Array.size T28.heap ≤ Array.size T62.heap := Nat.le_trans hk39 Kq62.1
      have O62 : Old Z n0 T62.heap := O39.keep Kq62 (allS g_b39 all0)
      show GoW p e below s _ _ _ _ _ (T62.setTop (mkF m 81 #[.val (.int sa), .val (.long va), .second, .val (.int sb), .val (.long vb), .second, .val (.int ia), .val (.int ib), .val (.long wa), .second, .val (.long wb), .second, .val (.ref b3), .val (.ref b15), .val (.ref b39), .unset, .unset, .unset, .unset, .unset, .unset, .unset, .unset, .unset, .unset] []))
      refine GoW.st (fun _ k' => XS.aload X62.here hx rfl (hb hby at_81) rfl rfl k') ?_
      refine GoW.st (fun _ k' => XS.aload X62.here hx rfl (hb hby at_83) rfl rfl k') ?_
      show GoW p e below s _ _ _ _ _ (T62.setTop (mkF m 85 #[.val (.int sa), .val (.long va), .second, .val (.int sb), .val (.long vb), .second, .val (.int ia), .val (.int ib), .val (.long wa), .second, .val (.long wb), .second, .val (.ref b3), .val (.ref b15), .val (.ref b39), .unset, .unset, .unset, .unset, .unset, .unset, .unset, .unset, .unset, .unset] [(.ref b15), (.ref b39)]))
      obtain ⟨cq81, kq81, q81a, q81b, q81c⟩ := isOf hZ28 rfl f80
      obtain ⟨_, _, ⟨T81, L81, k81, n81⟩, -, X81, ⟨Lc81, hQ81, l81, y81, z81⟩, st81⟩ := X62.virtualBack hx (y := mn0) (z := mn0) hown28 (mvT hZ28 (wdx hw 59 rfl)) (mvT hZ28 (wdx hw 60 rfl)) (notFace_of_selects (args := #[]) (mvT hZ28 (wdx hw 62 rfl))) (mvT hZ28 (wdx hw 62 rfl)) (mvT hZ28 (wdx hw 61 rfl)) (by decide) (backOf (W := 0) (rm9_h l Z a0 hw [] b39 b15 ((0 : Int32) + (1 : Int32)) ((0 : Int32) + (1 : Int32)) (0 : Int32) ((0 : Int64) + (((1 : Int32).toInt64) * wa)) ((0 : Int64) + (((1 : Int32).toInt64) * wa)) (0 : Int64) hsb wb a_UNKNOWN a_HEALTHY a_DEGRADED T62.heap n0 O62 f80 f63 f64 f65 f66 f67 f68 f75 f77 f78 f76 S_UNKNOWN S_HEALTHY S_DEGRADED g_b39 (Ne.symm ne42) khsb_2) hZ28 (wdx hw 63 rfl) (wdx hw 54 rfl) (by decide) (by decide)) q81a q81c (g := (mkF m 85 #[.val (.int sa), .val (.long va), .second, .val (.int sb), .val (.long vb), .second, .val (.int ia), .val (.int ib), .val (.long wa), .second, .val (.long wb), .second, .val (.ref b3), .val (.ref b15), .val (.ref b39), .unset, .unset, .unset, .unset, .unset, .unset, .unset, .unset, .unset, .unset] [(.ref b15), (.ref b39)])) rfl (by rw [hml]; rfl) (Steps.refl _) (argsL := [(.ref b15)]) (rest := []) (lenOf pd__Lcom_example_spillway_spillway_assignment_Endpoint__V rfl) rfl (by show 2 * 0 + _ ≤ _; exact Nat.le_of_eq rfl) (hb hby at_85) (fun _ _ => ⟨rfl, rfl, (by exact lee rfl), (by exact lee rfl)⟩)
      dsimp only [Pt.U, Pt.locs, Pt.cells, Pt.slots] at X81 l81 y81 z81 st81 hQ81
      subst l81 y81 z81
      obtain ⟨rfl, Nq81, Kq81, f82, f83, f84, f85, f86, f87⟩ := hQ81
      have N81 := Fr.app N62 Nq81
      refine GoW.tr st81 ?_
      have f88 : Safe Z EL T28.vm T81.heap b3 := Safe.keep Kq81 (allS f79 all0) CH62.1 f69
      have f89 : Exa Z T81.heap b3 "com/example/spillway/spillway/assignment/Endpoint" := f70.keep Kq81
      have f90 : Exa Z T81.heap hsa "com/example/spillway/spillway/assignment/HealthStatus" := f71.keep Kq81
      have f91 : Fld Z T81.heap b3 "com/example/spillway/spillway/assignment/Endpoint" "health" "Lcom/example/spillway/spillway/assignment/HealthStatus;" (.ref hsa) := f72.keep Kq81 (ninS ne40 nin0)
      have f92 : Fld Z T81.heap b3 "com/example/spillway/spillway/assignment/Endpoint" "loadBalancingWeight" "J" (.long wa) := f73.keep Kq81 (ninS ne40 nin0)
      have f93 : Safe Z EL T28.vm T81.heap b15 := Safe.keep Kq81 (allS f79 all0) CH62.1 f74
      have f94 : Exa Z T81.heap b15 "com/example/spillway/spillway/assignment/Endpoint" := f75.keep Kq81
      have f95 : Exa Z T81.heap hsb "com/example/spillway/spillway/assignment/HealthStatus" := f76.keep Kq81
      have f96 : Fld Z T81.heap b15 "com/example/spillway/spillway/assignment/Endpoint" "health" "Lcom/example/spillway/spillway/assignment/HealthStatus;" (.ref hsb) := f77.keep Kq81 (ninS ne42 nin0)
      have f97 : Fld Z T81.heap b15 "com/example/spillway/spillway/assignment/Endpoint" "loadBalancingWeight" "J" (.long wb) := f78.keep Kq81 (ninS ne42 nin0)
      have f98 : Safe Z EL T28.vm T81.heap b39 := Safe.keep Kq81 (allS f79 all0) CH62.1 f79
      have f99 : Exa Z T81.heap b39 "com/example/spillway/spillway/assignment/HealthTally" := f80.keep Kq81
      have CH81 : CHr Z EL s.vm s.heap T28.vm T81.heap := CH62.trans (CHr.keep Kq81 (allS f79 all0) CH62.1)
      have hk81 : Array.size T28.heap ≤ Array.size T81.heap := Nat.le_trans hk62 Kq81.1
      have O81 : Old Z n0 T81.heap := O62.keep Kq81 (allS g_b39 all0)
      show GoW p e below s _ _ _ _ _ (T81.setTop (mkF m 88 #[.val (.int sa), .val (.long va), .second, .val (.int sb), .val (.long vb), .second, .val (.int ia), .val (.int ib), .val (.long wa), .second, .val (.long wb), .second, .val (.ref b3), .val (.ref b15), .val (.ref b39), .unset, .unset, .unset, .unset, .unset, .unset, .unset, .unset, .unset, .unset] []))
      refine GoW.st (fun _ k' => XS.iload X81.here hx rfl (hb hby at_88) rfl k') ?_
      refine GoW.st (fun _ k' => XS.iconst X81.here hx rfl (hb hby at_90) k') ?_
      show GoW p e below s _ _ _ _ _ (T81.setTop (mkF m 91 #[.val (.int sa), .val (.long va), .second, .val (.int sb), .val (.long vb), .second, .val (.int ia), .val (.int ib), .val (.long wa), .second, .val (.long wb), .second, .val (.ref b3), .val (.ref b15), .val (.ref b39), .unset, .unset, .unset, .unset, .unset, .unset, .unset, .unset, .unset, .unset] [(.int 1), (.int ia)]))
      refine GoW.st (fun _ k' => XS.icmpNo X81.here hx rfl (hb hby at_91) rfl (XT.ii_gt_f khsa_0) k') ?_
      show GoW p e below s _ _ _ _ _ (T81.setTop (mkF m 94 #[.val (.int sa), .val (.long va), .second, .val (.int sb), .val (.long vb), .second, .val (.int ia), .val (.int ib), .val (.long wa), .second, .val (.long wb), .second, .val (.ref b3), .val (.ref b15), .val (.ref b39), .unset, .unset, .unset, .unset, .unset, .unset, .unset, .unset, .unset, .unset] []))
      refine GoW.st (fun _ k' => XS.iconst X81.here hx rfl (hb hby at_94) k') ?_
      show GoW p e below s _ _ _ _ _ (T81.setTop (mkF m 95 #[.val (.int sa), .val (.long va), .second, .val (.int sb), .val (.long vb), .second, .val (.int ia), .val (.int ib), .val (.long wa), .second, .val (.long wb), .second, .val (.ref b3), .val (.ref b15), .val (.ref b39), .unset, .unset, .unset, .unset, .unset, .unset, .unset, .unset, .unset, .unset] [(.int 1)]))
      refine GoW.st (fun _ k' => XS.goto X81.here hx rfl (pc0 := 95) (pc' := 99) rfl (hb hby at_95) (by decide) (by decide) k') ?_
      show GoW p e below s _ _ _ _ _ (T81.setTop (mkF m 99 #[.val (.int sa), .val (.long va), .second, .val (.int sb), .val (.long vb), .second, .val (.int ia), .val (.int ib), .val (.long wa), .second, .val (.long wb), .second, .val (.ref b3), .val (.ref b15), .val (.ref b39), .unset, .unset, .unset, .unset, .unset, .unset, .unset, .unset, .unset, .unset] [(.int 1)]))
      refine GoW.st (fun _ k' => XS.istore X81.here hx rfl (hb hby at_99) rfl (l' := #[.val (.int sa), .val (.long va), .second, .val (.int sb), .val (.long vb), .second, .val (.int ia), .val (.int ib), .val (.long wa), .second, .val (.long wb), .second, .val (.ref b3), .val (.ref b15), .val (.ref b39), .val (.int 1), .unset, .unset, .unset, .unset, .unset, .unset, .unset, .unset, .unset]) rfl k') ?_
      refine GoW.st (fun _ k' => XS.iload X81.here hx rfl (hb hby at_101) rfl k') ?_
      refine GoW.st (fun _ k' => XS.iconst X81.here hx rfl (hb hby at_103) k') ?_
      show GoW p e below s _ _ _ _ _ (T81.setTop (mkF m 104 #[.val (.int sa), .val (.long va), .second, .val (.int sb), .val (.long vb), .second, .val (.int ia), .val (.int ib), .val (.long wa), .second, .val (.long wb), .second, .val (.ref b3), .val (.ref b15), .val (.ref b39), .val (.int 1), .unset, .unset, .unset, .unset, .unset, .unset, .unset, .unset, .unset] [(.int 1), (.int ib)]))
      refine GoW.st (fun _ k' => XS.icmpNo X81.here hx rfl (hb hby at_104) rfl (XT.ii_gt_f khsb_0) k') ?_
      show GoW p e below s _ _ _ _ _ (T81.setTop (mkF m 107 #[.val (.int sa), .val (.long va), .second, .val (.int sb), .val (.long vb), .second, .val (.int ia), .val (.int ib), .val (.long wa), .second, .val (.long wb), .second, .val (.ref b3), .val (.ref b15), .val (.ref b39), .val (.int 1), .unset, .unset, .unset, .unset, .unset, .unset, .unset, .unset, .unset] []))
      refine GoW.st (fun _ k' => XS.iconst X81.here hx rfl (hb hby at_107) k') ?_
      show GoW p e below s _ _ _ _ _ (T81.setTop (mkF m 108 #[.val (.int sa), .val (.long va), .second, .val (.int sb), .val (.long vb), .second, .val (.int ia), .val (.int ib), .val (.long wa), .second, .val (.long wb), .second, .val (.ref b3), .val (.ref b15), .val (.ref b39), .val (.int 1), .unset, .unset, .unset, .unset, .unset, .unset, .unset, .unset, .unset] [(.int 1)]))
      refine GoW.st (fun _ k' => XS.goto X81.here hx rfl (pc0 := 108) (pc' := 112) rfl (hb hby at_108) (by decide) (by decide) k') ?_
      show GoW p e below s _ _ _ _ _ (T81.setTop (mkF m 112 #[.val (.int sa), .val (.long va), .second, .val (.int sb), .val (.long vb), .second, .val (.int ia), .val (.int ib), .val (.long wa), .second, .val (.long wb), .second, .val (.ref b3), .val (.ref b15), .val (.ref b39), .val (.int 1), .unset, .unset, .unset, .unset, .unset, .unset, .unset, .unset, .unset] [(.int 1)]))
      refine GoW.st (fun _ k' => XS.istore X81.here hx rfl (hb hby at_112) rfl (l' := #[.val (.int sa), .val (.long va), .second, .val (.int sb), .val (.long vb), .second, .val (.int ia), .val (.int ib), .val (.long wa), .second, .val (.long wb), .second, .val (.ref b3), .val (.ref b15), .val (.ref b39), .val (.int 1), .val (.int 1), .unset, .unset, .unset, .unset, .unset, .unset, .unset, .unset]) rfl k') ?_
      refine GoW.st (fun _ k' => XS.iload X81.here hx rfl (hb hby at_114) rfl k') ?_
      refine GoW.st (fun _ k' => XS.iconst X81.here hx rfl (hb hby at_116) k') ?_
      show GoW p e below s _ _ _ _ _ (T81.setTop (mkF m 117 #[.val (.int sa), .val (.long va), .second, .val (.int sb), .val (.long vb), .second, .val (.int ia), .val (.int ib), .val (.long wa), .second, .val (.long wb), .second, .val (.ref b3), .val (.ref b15), .val (.ref b39), .val (.int 1), .val (.int 1), .unset, .unset, .unset, .unset, .unset, .unset, .unset, .unset] [(.int 5), (.int ia)]))
      refine GoW.st (fun _ k' => XS.icmpYes X81.here hx rfl (pc0 := 117) (pc' := 124) rfl (hb hby at_117) rfl (XT.ii_ne_t khsa_1) (by decide) (by decide) k') ?_
      show GoW p e below s _ _ _ _ _ (T81.setTop (mkF m 124 #[.val (.int sa), .val (.long va), .second, .val (.int sb), .val (.long vb), .second, .val (.int ia), .val (.int ib), .val (.long wa), .second, .val (.long wb), .second, .val (.ref b3), .val (.ref b15), .val (.ref b39), .val (.int 1), .val (.int 1), .unset, .unset, .unset, .unset, .unset, .unset, .unset, .unset] []))
      refine GoW.st (fun _ k' => XS.iconst X81.here hx rfl (hb hby at_124) k') ?_
      refine GoW.st (fun _ k' => XS.istore X81.here hx rfl (hb hby at_125) rfl (l' := #[.val (.int sa), .val (.long va), .second, .val (.int sb), .val (.long vb), .second, .val (.int ia), .val (.int ib), .val (.long wa), .second, .val (.long wb), .second, .val (.ref b3), .val (.ref b15), .val (.ref b39), .val (.int 1), .val (.int 1), .val (.int 0), .unset, .unset, .unset, .unset, .unset, .unset, .unset]) rfl k') ?_
      refine GoW.st (fun _ k' => XS.iload X81.here hx rfl (hb hby at_127) rfl k') ?_
      refine GoW.st (fun _ k' => XS.iconst X81.here hx rfl (hb hby at_129) k') ?_
      show GoW p e below s _ _ _ _ _ (T81.setTop (mkF m 130 #[.val (.int sa), .val (.long va), .second, .val (.int sb), .val (.long vb), .second, .val (.int ia), .val (.int ib), .val (.long wa), .second, .val (.long wb), .second, .val (.ref b3), .val (.ref b15), .val (.ref b39), .val (.int 1), .val (.int 1), .val (.int 0), .unset, .unset, .unset, .unset, .unset, .unset, .unset] [(.int 5), (.int ib)]))
      refine GoW.st (fun _ k' => XS.icmpYes X81.here hx rfl (pc0 := 130) (pc' := 137) rfl (hb hby at_130) rfl (XT.ii_ne_t khsb_1) (by decide) (by decide) k') ?_
      show GoW p e below s _ _ _ _ _ (T81.setTop (mkF m 137 #[.val (.int sa), .val (.long va), .second, .val (.int sb), .val (.long vb), .second, .val (.int ia), .val (.int ib), .val (.long wa), .second, .val (.long wb), .second, .val (.ref b3), .val (.ref b15), .val (.ref b39), .val (.int 1), .val (.int 1), .val (.int 0), .unset, .unset, .unset, .unset, .unset, .unset, .unset] []))
      refine GoW.st (fun _ k' => XS.iconst X81.here hx rfl (hb hby at_137) k') ?_
      refine GoW.st (fun _ k' => XS.istore X81.here hx rfl (hb hby at_138) rfl (l' := #[.val (.int sa), .val (.long va), .second, .val (.int sb), .val (.long vb), .second, .val (.int ia), .val (.int ib), .val (.long wa), .second, .val (.long wb), .second, .val (.ref b3), .val (.ref b15), .val (.ref b39), .val (.int 1), .val (.int 1), .val (.int 0), .val (.int 0), .unset, .unset, .unset, .unset, .unset, .unset]) rfl k') ?_
      refine GoW.st (fun _ k' => XS.iload X81.here hx rfl (hb hby at_140) rfl k') ?_
      show GoW p e below s _ _ _ _ _ (T81.setTop (mkF m 142 #[.val (.int sa), .val (.long va), .second, .val (.int sb), .val (.long vb), .second, .val (.int ia), .val (.int ib), .val (.long wa), .second, .val (.long wb), .second, .val (.ref b3), .val (.ref b15), .val (.ref b39), .val (.int 1), .val (.int 1), .val (.int 0), .val (.int 0), .unset, .unset, .unset, .unset, .unset, .unset] [(.int 1)]))
      refine GoW.st (fun _ k' => XS.ifNo X81.here hx rfl (hb hby at_142) rfl (XT.i0_eq_f (by decide)) k') ?_
      show GoW p e below s _ _ _ _ _ (T81.setTop (mkF m 145 #[.val (.int sa), .val (.long va), .second, .val (.int sb), .val (.long vb), .second, .val (.int ia), .val (.int ib), .val (.long wa), .second, .val (.long wb), .second, .val (.ref b3), .val (.ref b15), .val (.ref b39), .val (.int 1), .val (.int 1), .val (.int 0), .val (.int 0), .unset, .unset, .unset, .unset, .unset, .unset] []))
      refine GoW.st (fun _ k' => XS.iconst X81.here hx rfl (hb hby at_145) k') ?_
      show GoW p e below s _ _ _ _ _ (T81.setTop (mkF m 146 #[.val (.int sa), .val (.long va), .second, .val (.int sb), .val (.long vb), .second, .val (.int ia), .val (.int ib), .val (.long wa), .second, .val (.long wb), .second, .val (.ref b3), .val (.ref b15), .val (.ref b39), .val (.int 1), .val (.int 1), .val (.int 0), .val (.int 0), .unset, .unset, .unset, .unset, .unset, .unset] [(.int 1)]))
      refine GoW.st (fun _ k' => XS.goto X81.here hx rfl (pc0 := 146) (pc' := 150) rfl (hb hby at_146) (by decide) (by decide) k') ?_
      show GoW p e below s _ _ _ _ _ (T81.setTop (mkF m 150 #[.val (.int sa), .val (.long va), .second, .val (.int sb), .val (.long vb), .second, .val (.int ia), .val (.int ib), .val (.long wa), .second, .val (.long wb), .second, .val (.ref b3), .val (.ref b15), .val (.ref b39), .val (.int 1), .val (.int 1), .val (.int 0), .val (.int 0), .unset, .unset, .unset, .unset, .unset, .unset] [(.int 1)]))
      refine GoW.st (fun _ k' => XS.iload X81.here hx rfl (hb hby at_150) rfl k') ?_
      show GoW p e below s _ _ _ _ _ (T81.setTop (mkF m 152 #[.val (.int sa), .val (.long va), .second, .val (.int sb), .val (.long vb), .second, .val (.int ia), .val (.int ib), .val (.long wa), .second, .val (.long wb), .second, .val (.ref b3), .val (.ref b15), .val (.ref b39), .val (.int 1), .val (.int 1), .val (.int 0), .val (.int 0), .unset, .unset, .unset, .unset, .unset, .unset] [(.int 1), (.int 1)]))
      refine GoW.st (fun _ k' => XS.ifNo X81.here hx rfl (hb hby at_152) rfl (XT.i0_eq_f (by decide)) k') ?_
      show GoW p e below s _ _ _ _ _ (T81.setTop (mkF m 155 #[.val (.int sa), .val (.long va), .second, .val (.int sb), .val (.long vb), .second, .val (.int ia), .val (.int ib), .val (.long wa), .second, .val (.long wb), .second, .val (.ref b3), .val (.ref b15), .val (.ref b39), .val (.int 1), .val (.int 1), .val (.int 0), .val (.int 0), .unset, .unset, .unset, .unset, .unset, .unset] [(.int 1)]))
      refine GoW.st (fun _ k' => XS.iconst X81.here hx rfl (hb hby at_155) k') ?_
      show GoW p e below s _ _ _ _ _ (T81.setTop (mkF m 156 #[.val (.int sa), .val (.long va), .second, .val (.int sb), .val (.long vb), .second, .val (.int ia), .val (.int ib), .val (.long wa), .second, .val (.long wb), .second, .val (.ref b3), .val (.ref b15), .val (.ref b39), .val (.int 1), .val (.int 1), .val (.int 0), .val (.int 0), .unset, .unset, .unset, .unset, .unset, .unset] [(.int 1), (.int 1)]))
      refine GoW.st (fun _ k' => XS.goto X81.here hx rfl (pc0 := 156) (pc' := 160) rfl (hb hby at_156) (by decide) (by decide) k') ?_
      show GoW p e below s _ _ _ _ _ (T81.setTop (mkF m 160 #[.val (.int sa), .val (.long va), .second, .val (.int sb), .val (.long vb), .second, .val (.int ia), .val (.int ib), .val (.long wa), .second, .val (.long wb), .second, .val (.ref b3), .val (.ref b15), .val (.ref b39), .val (.int 1), .val (.int 1), .val (.int 0), .val (.int 0), .unset, .unset, .unset, .unset, .unset, .unset] [(.int 1), (.int 1)]))
      refine GoW.st (fun _ k' => XS.iadd X81.here hx rfl (hb hby at_160) rfl k') ?_
      refine GoW.st (fun _ k' => XS.istore X81.here hx rfl (hb hby at_161) rfl (l' := #[.val (.int sa), .val (.long va), .second, .val (.int sb), .val (.long vb), .second, .val (.int ia), .val (.int ib), .val (.long wa), .second, .val (.long wb), .second, .val (.ref b3), .val (.ref b15), .val (.ref b39), .val (.int 1), .val (.int 1), .val (.int 0), .val (.int 0), .val (.int 2), .unset, .unset, .unset, .unset, .unset]) rfl k') ?_
      refine GoW.st (fun _ k' => XS.iload X81.here hx rfl (hb hby at_163) rfl k') ?_
      show GoW p e below s _ _ _ _ _ (T81.setTop (mkF m 165 #[.val (.int sa), .val (.long va), .second, .val (.int sb), .val (.long vb), .second, .val (.int ia), .val (.int ib), .val (.long wa), .second, .val (.long wb), .second, .val (.ref b3), .val (.ref b15), .val (.ref b39), .val (.int 1), .val (.int 1), .val (.int 0), .val (.int 0), .val (.int 2), .unset, .unset, .unset, .unset, .unset] [(.int 0)]))
      refine GoW.st (fun _ k' => XS.ifYes X81.here hx rfl (pc0 := 165) (pc' := 172) rfl (hb hby at_165) rfl (XT.i0_eq_t (by decide)) (by decide) (by decide) k') ?_
      show GoW p e below s _ _ _ _ _ (T81.setTop (mkF m 172 #[.val (.int sa), .val (.long va), .second, .val (.int sb), .val (.long vb), .second, .val (.int ia), .val (.int ib), .val (.long wa), .second, .val (.long wb), .second, .val (.ref b3), .val (.ref b15), .val (.ref b39), .val (.int 1), .val (.int 1), .val (.int 0), .val (.int 0), .val (.int 2), .unset, .unset, .unset, .unset, .unset] []))
      refine GoW.st (fun _ k' => XS.iconst X81.here hx rfl (hb hby at_172) k') ?_
      refine GoW.st (fun _ k' => XS.iload X81.here hx rfl (hb hby at_173) rfl k') ?_
      show GoW p e below s _ _ _ _ _ (T81.setTop (mkF m 175 #[.val (.int sa), .val (.long va), .second, .val (.int sb), .val (.long vb), .second, .val (.int ia), .val (.int ib), .val (.long wa), .second, .val (.long wb), .second, .val (.ref b3), .val (.ref b15), .val (.ref b39), .val (.int 1), .val (.int 1), .val (.int 0), .val (.int 0), .val (.int 2), .unset, .unset, .unset, .unset, .unset] [(.int 0), (.int 0)]))
      refine GoW.st (fun _ k' => XS.ifYes X81.here hx rfl (pc0 := 175) (pc' := 182) rfl (hb hby at_175) rfl (XT.i0_eq_t (by decide)) (by decide) (by decide) k') ?_
      show GoW p e below s _ _ _ _ _ (T81.setTop (mkF m 182 #[.val (.int sa), .val (.long va), .second, .val (.int sb), .val (.long vb), .second, .val (.int ia), .val (.int ib), .val (.long wa), .second, .val (.long wb), .second, .val (.ref b3), .val (.ref b15), .val (.ref b39), .val (.int 1), .val (.int 1), .val (.int 0), .val (.int 0), .val (.int 2), .unset, .unset, .unset, .unset, .unset] [(.int 0)]))
      refine GoW.st (fun _ k' => XS.iconst X81.here hx rfl (hb hby at_182) k') ?_
      refine GoW.st (fun _ k' => XS.iadd X81.here hx rfl (hb hby at_183) rfl k') ?_
      refine GoW.st (fun _ k' => XS.istore X81.here hx rfl (hb hby at_184) rfl (l' := #[.val (.int sa), .val (.long va), .second, .val (.int sb), .val (.long vb), .second, .val (.int ia), .val (.int ib), .val (.long wa), .second, .val (.long wb), .second, .val (.ref b3), .val (.ref b15), .val (.ref b39), .val (.int 1), .val (.int 1), .val (.int 0), .val (.int 0), .val (.int 2), .val (.int 0), .unset, .unset, .unset, .unset]) rfl k') ?_
      refine GoW.st (fun _ k' => XS.iload X81.here hx rfl (hb hby at_186) rfl k') ?_
      show GoW p e below s _ _ _ _ _ (T81.setTop (mkF m 188 #[.val (.int sa), .val (.long va), .second, .val (.int sb), .val (.long vb), .second, .val (.int ia), .val (.int ib), .val (.long wa), .second, .val (.long wb), .second, .val (.ref b3), .val (.ref b15), .val (.ref b39), .val (.int 1), .val (.int 1), .val (.int 0), .val (.int 0), .val (.int 2), .val (.int 0), .unset, .unset, .unset, .unset] [(.int 1)]))
      refine GoW.st (fun _ k' => XS.ifNo X81.here hx rfl (hb hby at_188) rfl (XT.i0_eq_f (by decide)) k') ?_
      show GoW p e below s _ _ _ _ _ (T81.setTop (mkF m 191 #[.val (.int sa), .val (.long va), .second, .val (.int sb), .val (.long vb), .second, .val (.int ia), .val (.int ib), .val (.long wa), .second, .val (.long wb), .second, .val (.ref b3), .val (.ref b15), .val (.ref b39), .val (.int 1), .val (.int 1), .val (.int 0), .val (.int 0), .val (.int 2), .val (.int 0), .unset, .unset, .unset, .unset] []))
      refine GoW.st (fun _ k' => XS.lload X81.here hx rfl (hb hby at_191) rfl k') ?_
      show GoW p e below s _ _ _ _ _ (T81.setTop (mkF m 193 #[.val (.int sa), .val (.long va), .second, .val (.int sb), .val (.long vb), .second, .val (.int ia), .val (.int ib), .val (.long wa), .second, .val (.long wb), .second, .val (.ref b3), .val (.ref b15), .val (.ref b39), .val (.int 1), .val (.int 1), .val (.int 0), .val (.int 0), .val (.int 2), .val (.int 0), .unset, .unset, .unset, .unset] [(.long wa)]))
      refine GoW.st (fun _ k' => XS.goto X81.here hx rfl (pc0 := 193) (pc' := 197) rfl (hb hby at_193) (by decide) (by decide) k') ?_
      show GoW p e below s _ _ _ _ _ (T81.setTop (mkF m 197 #[.val (.int sa), .val (.long va), .second, .val (.int sb), .val (.long vb), .second, .val (.int ia), .val (.int ib), .val (.long wa), .second, .val (.long wb), .second, .val (.ref b3), .val (.ref b15), .val (.ref b39), .val (.int 1), .val (.int 1), .val (.int 0), .val (.int 0), .val (.int 2), .val (.int 0), .unset, .unset, .unset, .unset] [(.long wa)]))
      refine GoW.st (fun _ k' => XS.iload X81.here hx rfl (hb hby at_197) rfl k') ?_
      show GoW p e below s _ _ _ _ _ (T81.setTop (mkF m 199 #[.val (.int sa), .val (.long va), .second, .val (.int sb), .val (.long vb), .second, .val (.int ia), .val (.int ib), .val (.long wa), .second, .val (.long wb), .second, .val (.ref b3), .val (.ref b15), .val (.ref b39), .val (.int 1), .val (.int 1), .val (.int 0), .val (.int 0), .val (.int 2), .val (.int 0), .unset, .unset, .unset, .unset] [(.int 1), (.long wa)]))
      refine GoW.st (fun _ k' => XS.ifNo X81.here hx rfl (hb hby at_199) rfl (XT.i0_eq_f (by decide)) k') ?_
      show GoW p e below s _ _ _ _ _ (T81.setTop (mkF m 202 #[.val (.int sa), .val (.long va), .second, .val (.int sb), .val (.long vb), .second, .val (.int ia), .val (.int ib), .val (.long wa), .second, .val (.long wb), .second, .val (.ref b3), .val (.ref b15), .val (.ref b39), .val (.int 1), .val (.int 1), .val (.int 0), .val (.int 0), .val (.int 2), .val (.int 0), .unset, .unset, .unset, .unset] [(.long wa)]))
      refine GoW.st (fun _ k' => XS.lload X81.here hx rfl (hb hby at_202) rfl k') ?_
      show GoW p e below s _ _ _ _ _ (T81.setTop (mkF m 204 #[.val (.int sa), .val (.long va), .second, .val (.int sb), .val (.long vb), .second, .val (.int ia), .val (.int ib), .val (.long wa), .second, .val (.long wb), .second, .val (.ref b3), .val (.ref b15), .val (.ref b39), .val (.int 1), .val (.int 1), .val (.int 0), .val (.int 0), .val (.int 2), .val (.int 0), .unset, .unset, .unset, .unset] [(.long wb), (.long wa)]))
      refine GoW.st (fun _ k' => XS.goto X81.here hx rfl (pc0 := 204) (pc' := 208) rfl (hb hby at_204) (by decide) (by decide) k') ?_
      show GoW p e below s _ _ _ _ _ (T81.setTop (mkF m 208 #[.val (.int sa), .val (.long va), .second, .val (.int sb), .val (.long vb), .second, .val (.int ia), .val (.int ib), .val (.long wa), .second, .val (.long wb), .second, .val (.ref b3), .val (.ref b15), .val (.ref b39), .val (.int 1), .val (.int 1), .val (.int 0), .val (.int 0), .val (.int 2), .val (.int 0), .unset, .unset, .unset, .unset] [(.long wb), (.long wa)]))
      refine GoW.st (fun _ k' => XS.ladd X81.here hx rfl (hb hby at_208) rfl k') ?_
      refine GoW.st (fun _ k' => XS.lstore X81.here hx rfl (hb hby at_209) rfl (l' := #[.val (.int sa), .val (.long va), .second, .val (.int sb), .val (.long vb), .second, .val (.int ia), .val (.int ib), .val (.long wa), .second, .val (.long wb), .second, .val (.ref b3), .val (.ref b15), .val (.ref b39), .val (.int 1), .val (.int 1), .val (.int 0), .val (.int 0), .val (.int 2), .val (.int 0), .val (.long (wa + wb)), .second, .unset, .unset]) rfl k') ?_
      refine GoW.st (fun _ k' => XS.iload X81.here hx rfl (hb hby at_211) rfl k') ?_
      show GoW p e below s _ _ _ _ _ (T81.setTop (mkF m 213 #[.val (.int sa), .val (.long va), .second, .val (.int sb), .val (.long vb), .second, .val (.int ia), .val (.int ib), .val (.long wa), .second, .val (.long wb), .second, .val (.ref b3), .val (.ref b15), .val (.ref b39), .val (.int 1), .val (.int 1), .val (.int 0), .val (.int 0), .val (.int 2), .val (.int 0), .val (.long (wa + wb)), .second, .unset, .unset] [(.int 0)]))
      refine GoW.st (fun _ k' => XS.ifYes X81.here hx rfl (pc0 := 213) (pc' := 221) rfl (hb hby at_213) rfl (XT.i0_eq_t (by decide)) (by decide) (by decide) k') ?_
      show GoW p e below s _ _ _ _ _ (T81.setTop (mkF m 221 #[.val (.int sa), .val (.long va), .second, .val (.int sb), .val (.long vb), .second, .val (.int ia), .val (.int ib), .val (.long wa), .second, .val (.long wb), .second, .val (.ref b3), .val (.ref b15), .val (.ref b39), .val (.int 1), .val (.int 1), .val (.int 0), .val (.int 0), .val (.int 2), .val (.int 0), .val (.long (wa + wb)), .second, .unset, .unset] []))
      refine GoW.st (fun _ k' => XS.lconst X81.here hx rfl (hb hby at_221) k') ?_
      refine GoW.st (fun _ k' => XS.iload X81.here hx rfl (hb hby at_222) rfl k') ?_
      show GoW p e below s _ _ _ _ _ (T81.setTop (mkF m 224 #[.val (.int sa), .val (.long va), .second, .val (.int sb), .val (.long vb), .second, .val (.int ia), .val (.int ib), .val (.long wa), .second, .val (.long wb), .second, .val (.ref b3), .val (.ref b15), .val (.ref b39), .val (.int 1), .val (.int 1), .val (.int 0), .val (.int 0), .val (.int 2), .val (.int 0), .val (.long (wa + wb)), .second, .unset, .unset] [(.int 0), (.long 0)]))
      refine GoW.st (fun _ k' => XS.ifYes X81.here hx rfl (pc0 := 224) (pc' := 232) rfl (hb hby at_224) rfl (XT.i0_eq_t (by decide)) (by decide) (by decide) k') ?_
      show GoW p e below s _ _ _ _ _ (T81.setTop (mkF m 232 #[.val (.int sa), .val (.long va), .second, .val (.int sb), .val (.long vb), .second, .val (.int ia), .val (.int ib), .val (.long wa), .second, .val (.long wb), .second, .val (.ref b3), .val (.ref b15), .val (.ref b39), .val (.int 1), .val (.int 1), .val (.int 0), .val (.int 0), .val (.int 2), .val (.int 0), .val (.long (wa + wb)), .second, .unset, .unset] [(.long 0)]))
      refine GoW.st (fun _ k' => XS.lconst X81.here hx rfl (hb hby at_232) k') ?_
      refine GoW.st (fun _ k' => XS.ladd X81.here hx rfl (hb hby at_233) rfl k') ?_
      refine GoW.st (fun _ k' => XS.lstore X81.here hx rfl (hb hby at_234) rfl (l' := #[.val (.int sa), .val (.long va), .second, .val (.int sb), .val (.long vb), .second, .val (.int ia), .val (.int ib), .val (.long wa), .second, .val (.long wb), .second, .val (.ref b3), .val (.ref b15), .val (.ref b39), .val (.int 1), .val (.int 1), .val (.int 0), .val (.int 0), .val (.int 2), .val (.int 0), .val (.long (wa + wb)), .second, .val (.long ((0 : Int64) + (0 : Int64))), .second]) rfl k') ?_
      refine GoW.st (fun _ k' => XS.aload X81.here hx rfl (hb hby at_236) rfl rfl k') ?_
      show GoW p e below s _ _ _ _ _ (T81.setTop (mkF m 238 #[.val (.int sa), .val (.long va), .second, .val (.int sb), .val (.long vb), .second, .val (.int ia), .val (.int ib), .val (.long wa), .second, .val (.long wb), .second, .val (.ref b3), .val (.ref b15), .val (.ref b39), .val (.int 1), .val (.int 1), .val (.int 0), .val (.int 0), .val (.int 2), .val (.int 0), .val (.long (wa + wb)), .second, .val (.long ((0 : Int64) + (0 : Int64))), .second] [(.ref b39)]))
      obtain ⟨cq100, kq100, q100a, q100b, q100c⟩ := isOf hZ28 rfl f99
      obtain ⟨_, _, ⟨T100, L100, k100, n100⟩, -, X100, ⟨Lc100, hQ100, l100, y100, z100⟩, st100⟩ := X81.virtualBack hx (y := mn1) (z := mn1) hown28 (mvT hZ28 (wdx hw 93 rfl)) (mvT hZ28 (wdx hw 94 rfl)) (notFace_of_selects (args := #[]) (mvT hZ28 (wdx hw 96 rfl))) (mvT hZ28 (wdx hw 96 rfl)) (mvT hZ28 (wdx hw 95 rfl)) (by decide) (backOf (W := 0) (rm14 l Z a0 hw [] b39 (((0 : Int32) + (1 : Int32)) + (1 : Int32)) T81.heap n0 O81 f82) hZ28 (wdx hw 97 rfl) (wdx hw 54 rfl) (by decide) (by decide)) q100a q100c (g := (mkF m 238 #[.val (.int sa), .val (.long va), .second, .val (.int sb), .val (.long vb), .second, .val (.int ia), .val (.int ib), .val (.long wa), .second, .val (.long wb), .second, .val (.ref b3), .val (.ref b15), .val (.ref b39), .val (.int 1), .val (.int 1), .val (.int 0), .val (.int 0), .val (.int 2), .val (.int 0), .val (.long (wa + wb)), .second, .val (.long ((0 : Int64) + (0 : Int64))), .second] [(.ref b39)])) rfl (by rw [hml]; rfl) (Steps.refl _) (argsL := []) (rest := []) (lenOf pd___I rfl) rfl (by show 2 * 0 + _ ≤ _; exact Nat.le_of_eq rfl) (hb hby at_238) (fun _ _ => ⟨rfl, rfl, (by exact lee rfl), (by exact lee rfl)⟩)
      dsimp only [Pt.U, Pt.locs, Pt.cells, Pt.slots] at X100 l100 y100 z100 st100 hQ100
      subst l100 y100 z100
      obtain ⟨rfl, Nq100, eq100⟩ := hQ100
      have N100 := Fr.app N81 Nq100
      refine GoW.tr st100 ?_
      show GoW p e below s _ _ _ _ _ (T100.setTop (mkF m 241 #[.val (.int sa), .val (.long va), .second, .val (.int sb), .val (.long vb), .second, .val (.int ia), .val (.int ib), .val (.long wa), .second, .val (.long wb), .second, .val (.ref b3), .val (.ref b15), .val (.ref b39), .val (.int 1), .val (.int 1), .val (.int 0), .val (.int 0), .val (.int 2), .val (.int 0), .val (.long (wa + wb)), .second, .val (.long ((0 : Int64) + (0 : Int64))), .second] [(.int (((0 : Int32) + (1 : Int32)) + (1 : Int32)))]))
      refine GoW.st (fun _ k' => XS.iconst X100.here hx rfl (hb hby at_241) k') ?_
      show GoW p e below s _ _ _ _ _ (T100.setTop (mkF m 242 #[.val (.int sa), .val (.long va), .second, .val (.int sb), .val (.long vb), .second, .val (.int ia), .val (.int ib), .val (.long wa), .second, .val (.long wb), .second, .val (.ref b3), .val (.ref b15), .val (.ref b39), .val (.int 1), .val (.int 1), .val (.int 0), .val (.int 0), .val (.int 2), .val (.int 0), .val (.long (wa + wb)), .second, .val (.long ((0 : Int64) + (0 : Int64))), .second] [(.int 2), (.int (((0 : Int32) + (1 : Int32)) + (1 : Int32)))]))
      refine GoW.st (fun _ k' => XS.icmpNo X100.here hx rfl (hb hby at_242) rfl (XT.ii_ne_f (by simp [own_one])) k') ?_
      show GoW p e below s _ _ _ _ _ (T100.setTop (mkF m 245 #[.val (.int sa), .val (.long va), .second, .val (.int sb), .val (.long vb), .second, .val (.int ia), .val (.int ib), .val (.long wa), .second, .val (.long wb), .second, .val (.ref b3), .val (.ref b15), .val (.ref b39), .val (.int 1), .val (.int 1), .val (.int 0), .val (.int 0), .val (.int 2), .val (.int 0), .val (.long (wa + wb)), .second, .val (.long ((0 : Int64) + (0 : Int64))), .second] []))
      refine GoW.st (fun _ k' => XS.aload X100.here hx rfl (hb hby at_245) rfl rfl k') ?_
      show GoW p e below s _ _ _ _ _ (T100.setTop (mkF m 247 #[.val (.int sa), .val (.long va), .second, .val (.int sb), .val (.long vb), .second, .val (.int ia), .val (.int ib), .val (.long wa), .second, .val (.long wb), .second, .val (.ref b3), .val (.ref b15), .val (.ref b39), .val (.int 1), .val (.int 1), .val (.int 0), .val (.int 0), .val (.int 2), .val (.int 0), .val (.long (wa + wb)), .second, .val (.long ((0 : Int64) + (0 : Int64))), .second] [(.ref b39)]))
      obtain ⟨cq101, kq101, q101a, q101b, q101c⟩ := isOf hZ28 eq100 f99
      obtain ⟨_, _, ⟨T101, L101, k101, n101⟩, -, X101, ⟨Lc101, hQ101, l101, y101, z101⟩, st101⟩ := X100.virtualBack hx (y := mn2) (z := mn2) hown28 (mvT hZ28 (wdx hw 98 rfl)) (mvT hZ28 (wdx hw 99 rfl)) (notFace_of_selects (args := #[]) (mvT hZ28 (wdx hw 101 rfl))) (mvT hZ28 (wdx hw 101 rfl)) (mvT hZ28 (wdx hw 100 rfl)) (by decide) (backOf (W := 0) (rm15 l Z a0 hw [] b39 (((0 : Int32) + (1 : Int32)) + (1 : Int32)) T81.heap n0 O81 f83) hZ28 (wdx hw 102 rfl) (wdx hw 54 rfl) (by decide) (by decide)) q101a q101c (g := (mkF m 247 #[.val (.int sa), .val (.long va), .second, .val (.int sb), .val (.long vb), .second, .val (.int ia), .val (.int ib), .val (.long wa), .second, .val (.long wb), .second, .val (.ref b3), .val (.ref b15), .val (.ref b39), .val (.int 1), .val (.int 1), .val (.int 0), .val (.int 0), .val (.int 2), .val (.int 0), .val (.long (wa + wb)), .second, .val (.long ((0 : Int64) + (0 : Int64))), .second] [(.ref b39)])) rfl (by rw [hml]; rfl) (Steps.refl _) (argsL := []) (rest := []) (lenOf pd___I rfl) rfl (by show 2 * 0 + _ ≤ _; exact Nat.le_of_eq rfl) (hb hby at_247) (fun _ _ => ⟨rfl, eq100, (by exact lee rfl), (by exact lee rfl)⟩)
      dsimp only [Pt.U, Pt.locs, Pt.cells, Pt.slots] at X101 l101 y101 z101 st101 hQ101
      subst l101 y101 z101
      obtain ⟨rfl, Nq101, eq101⟩ := hQ101
      have N101 := Fr.app N100 Nq101
      refine GoW.tr st101 ?_
      show GoW p e below s _ _ _ _ _ (T101.setTop (mkF m 250 #[.val (.int sa), .val (.long va), .second, .val (.int sb), .val (.long vb), .second, .val (.int ia), .val (.int ib), .val (.long wa), .second, .val (.long wb), .second, .val (.ref b3), .val (.ref b15), .val (.ref b39), .val (.int 1), .val (.int 1), .val (.int 0), .val (.int 0), .val (.int 2), .val (.int 0), .val (.long (wa + wb)), .second, .val (.long ((0 : Int64) + (0 : Int64))), .second] [(.int (((0 : Int32) + (1 : Int32)) + (1 : Int32)))]))
      refine GoW.st (fun _ k' => XS.iload X101.here hx rfl (hb hby at_250) rfl k') ?_
      show GoW p e below s _ _ _ _ _ (T101.setTop (mkF m 252 #[.val (.int sa), .val (.long va), .second, .val (.int sb), .val (.long vb), .second, .val (.int ia), .val (.int ib), .val (.long wa), .second, .val (.long wb), .second, .val (.ref b3), .val (.ref b15), .val (.ref b39), .val (.int 1), .val (.int 1), .val (.int 0), .val (.int 0), .val (.int 2), .val (.int 0), .val (.long (wa + wb)), .second, .val (.long ((0 : Int64) + (0 : Int64))), .second] [(.int 2), (.int (((0 : Int32) + (1 : Int32)) + (1 : Int32)))]))
      refine GoW.st (fun _ k' => XS.icmpNo X101.here hx rfl (hb hby at_252) rfl (XT.ii_ne_f (by simp [own_one])) k') ?_
      show GoW p e below s _ _ _ _ _ (T101.setTop (mkF m 255 #[.val (.int sa), .val (.long va), .second, .val (.int sb), .val (.long vb), .second, .val (.int ia), .val (.int ib), .val (.long wa), .second, .val (.long wb), .second, .val (.ref b3), .val (.ref b15), .val (.ref b39), .val (.int 1), .val (.int 1), .val (.int 0), .val (.int 0), .val (.int 2), .val (.int 0), .val (.long (wa + wb)), .second, .val (.long ((0 : Int64) + (0 : Int64))), .second] []))
      refine GoW.st (fun _ k' => XS.aload X101.here hx rfl (hb hby at_255) rfl rfl k') ?_
      show GoW p e below s _ _ _ _ _ (T101.setTop (mkF m 257 #[.val (.int sa), .val (.long va), .second, .val (.int sb), .val (.long vb), .second, .val (.int ia), .val (.int ib), .val (.long wa), .second, .val (.long wb), .second, .val (.ref b3), .val (.ref b15), .val (.ref b39), .val (.int 1), .val (.int 1), .val (.int 0), .val (.int 0), .val (.int 2), .val (.int 0), .val (.long (wa + wb)), .second, .val (.long ((0 : Int64) + (0 : Int64))), .second] [(.ref b39)]))
      obtain ⟨cq102, kq102, q102a, q102b, q102c⟩ := isOf hZ28 eq101 f99
      obtain ⟨_, _, ⟨T102, L102, k102, n102⟩, -, X102, ⟨Lc102, hQ102, l102, y102, z102⟩, st102⟩ := X101.virtualBack hx (y := mn3) (z := mn3) hown28 (mvT hZ28 (wdx hw 103 rfl)) (mvT hZ28 (wdx hw 104 rfl)) (notFace_of_selects (args := #[]) (mvT hZ28 (wdx hw 106 rfl))) (mvT hZ28 (wdx hw 106 rfl)) (mvT hZ28 (wdx hw 105 rfl)) (by decide) (backOf (W := 0) (rm16 l Z a0 hw [] b39 (0 : Int32) T81.heap n0 O81 f84) hZ28 (wdx hw 107 rfl) (wdx hw 54 rfl) (by decide) (by decide)) q102a q102c (g := (mkF m 257 #[.val (.int sa), .val (.long va), .second, .val (.int sb), .val (.long vb), .second, .val (.int ia), .val (.int ib), .val (.long wa), .second, .val (.long wb), .second, .val (.ref b3), .val (.ref b15), .val (.ref b39), .val (.int 1), .val (.int 1), .val (.int 0), .val (.int 0), .val (.int 2), .val (.int 0), .val (.long (wa + wb)), .second, .val (.long ((0 : Int64) + (0 : Int64))), .second] [(.ref b39)])) rfl (by rw [hml]; rfl) (Steps.refl _) (argsL := []) (rest := []) (lenOf pd___I rfl) rfl (by show 2 * 0 + _ ≤ _; exact Nat.le_of_eq rfl) (hb hby at_257) (fun _ _ => ⟨rfl, eq101, (by exact lee rfl), (by exact lee rfl)⟩)
      dsimp only [Pt.U, Pt.locs, Pt.cells, Pt.slots] at X102 l102 y102 z102 st102 hQ102
      subst l102 y102 z102
      obtain ⟨rfl, Nq102, eq102⟩ := hQ102
      have N102 := Fr.app N101 Nq102
      refine GoW.tr st102 ?_
      show GoW p e below s _ _ _ _ _ (T102.setTop (mkF m 260 #[.val (.int sa), .val (.long va), .second, .val (.int sb), .val (.long vb), .second, .val (.int ia), .val (.int ib), .val (.long wa), .second, .val (.long wb), .second, .val (.ref b3), .val (.ref b15), .val (.ref b39), .val (.int 1), .val (.int 1), .val (.int 0), .val (.int 0), .val (.int 2), .val (.int 0), .val (.long (wa + wb)), .second, .val (.long ((0 : Int64) + (0 : Int64))), .second] [(.int 0)]))
      refine GoW.st (fun _ k' => XS.iload X102.here hx rfl (hb hby at_260) rfl k') ?_
      show GoW p e below s _ _ _ _ _ (T102.setTop (mkF m 262 #[.val (.int sa), .val (.long va), .second, .val (.int sb), .val (.long vb), .second, .val (.int ia), .val (.int ib), .val (.long wa), .second, .val (.long wb), .second, .val (.ref b3), .val (.ref b15), .val (.ref b39), .val (.int 1), .val (.int 1), .val (.int 0), .val (.int 0), .val (.int 2), .val (.int 0), .val (.long (wa + wb)), .second, .val (.long ((0 : Int64) + (0 : Int64))), .second] [(.int 0), (.int 0)]))
      refine GoW.st (fun _ k' => XS.icmpNo X102.here hx rfl (hb hby at_262) rfl (XT.ii_ne_f (by simp [own_one])) k') ?_
      show GoW p e below s _ _ _ _ _ (T102.setTop (mkF m 265 #[.val (.int sa), .val (.long va), .second, .val (.int sb), .val (.long vb), .second, .val (.int ia), .val (.int ib), .val (.long wa), .second, .val (.long wb), .second, .val (.ref b3), .val (.ref b15), .val (.ref b39), .val (.int 1), .val (.int 1), .val (.int 0), .val (.int 0), .val (.int 2), .val (.int 0), .val (.long (wa + wb)), .second, .val (.long ((0 : Int64) + (0 : Int64))), .second] []))
      refine GoW.st (fun _ k' => XS.aload X102.here hx rfl (hb hby at_265) rfl rfl k') ?_
      show GoW p e below s _ _ _ _ _ (T102.setTop (mkF m 267 #[.val (.int sa), .val (.long va), .second, .val (.int sb), .val (.long vb), .second, .val (.int ia), .val (.int ib), .val (.long wa), .second, .val (.long wb), .second, .val (.ref b3), .val (.ref b15), .val (.ref b39), .val (.int 1), .val (.int 1), .val (.int 0), .val (.int 0), .val (.int 2), .val (.int 0), .val (.long (wa + wb)), .second, .val (.long ((0 : Int64) + (0 : Int64))), .second] [(.ref b39)]))
      obtain ⟨cq103, kq103, q103a, q103b, q103c⟩ := isOf hZ28 eq102 f99
      obtain ⟨_, _, ⟨T103, L103, k103, n103⟩, -, X103, ⟨Lc103, hQ103, l103, y103, z103⟩, st103⟩ := X102.virtualBack hx (y := mn4) (z := mn4) hown28 (mvT hZ28 (wdx hw 110 rfl)) (mvT hZ28 (wdx hw 111 rfl)) (notFace_of_selects (args := #[]) (mvT hZ28 (wdx hw 113 rfl))) (mvT hZ28 (wdx hw 113 rfl)) (mvT hZ28 (wdx hw 112 rfl)) (by decide) (backOf (W := 0) (rm17 l Z a0 hw [] b39 (((0 : Int64) + (((1 : Int32).toInt64) * wa)) + (((1 : Int32).toInt64) * wb)) T81.heap n0 O81 f85) hZ28 (wdx hw 114 rfl) (wdx hw 54 rfl) (by decide) (by decide)) q103a q103c (g := (mkF m 267 #[.val (.int sa), .val (.long va), .second, .val (.int sb), .val (.long vb), .second, .val (.int ia), .val (.int ib), .val (.long wa), .second, .val (.long wb), .second, .val (.ref b3), .val (.ref b15), .val (.ref b39), .val (.int 1), .val (.int 1), .val (.int 0), .val (.int 0), .val (.int 2), .val (.int 0), .val (.long (wa + wb)), .second, .val (.long ((0 : Int64) + (0 : Int64))), .second] [(.ref b39)])) rfl (by rw [hml]; rfl) (Steps.refl _) (argsL := []) (rest := []) (lenOf pd___J rfl) rfl (by show 2 * 0 + _ ≤ _; exact Nat.le_of_eq rfl) (hb hby at_267) (fun _ _ => ⟨rfl, eq102, (by exact lee rfl), (by exact lee rfl)⟩)
      dsimp only [Pt.U, Pt.locs, Pt.cells, Pt.slots] at X103 l103 y103 z103 st103 hQ103
      subst l103 y103 z103
      obtain ⟨rfl, Nq103, eq103⟩ := hQ103
      have N103 := Fr.app N102 Nq103
      refine GoW.tr st103 ?_
      show GoW p e below s _ _ _ _ _ (T103.setTop (mkF m 270 #[.val (.int sa), .val (.long va), .second, .val (.int sb), .val (.long vb), .second, .val (.int ia), .val (.int ib), .val (.long wa), .second, .val (.long wb), .second, .val (.ref b3), .val (.ref b15), .val (.ref b39), .val (.int 1), .val (.int 1), .val (.int 0), .val (.int 0), .val (.int 2), .val (.int 0), .val (.long (wa + wb)), .second, .val (.long ((0 : Int64) + (0 : Int64))), .second] [(.long (((0 : Int64) + (((1 : Int32).toInt64) * wa)) + (((1 : Int32).toInt64) * wb)))]))
      refine GoW.st (fun _ k' => XS.lload X103.here hx rfl (hb hby at_270) rfl k') ?_
      refine GoW.st (fun _ k' => XS.lload X103.here hx rfl (hb hby at_272) rfl k') ?_
      refine GoW.st (fun _ k' => XS.ladd X103.here hx rfl (hb hby at_274) rfl k') ?_
      show GoW p e below s _ _ _ _ _ (T103.setTop (mkF m 275 #[.val (.int sa), .val (.long va), .second, .val (.int sb), .val (.long vb), .second, .val (.int ia), .val (.int ib), .val (.long wa), .second, .val (.long wb), .second, .val (.ref b3), .val (.ref b15), .val (.ref b39), .val (.int 1), .val (.int 1), .val (.int 0), .val (.int 0), .val (.int 2), .val (.int 0), .val (.long (wa + wb)), .second, .val (.long ((0 : Int64) + (0 : Int64))), .second] [(.long (wa + wb)), (.long (((0 : Int64) + (((1 : Int32).toInt64) * wa)) + (((1 : Int32).toInt64) * wb)))]))
      refine GoW.st (fun _ k' => XT.lcmp X103.here hx rfl (hb hby at_275) rfl k') ?_
      show GoW p e below s _ _ _ _ _ (T103.setTop (mkF m 276 #[.val (.int sa), .val (.long va), .second, .val (.int sb), .val (.long vb), .second, .val (.int ia), .val (.int ib), .val (.long wa), .second, .val (.long wb), .second, .val (.ref b3), .val (.ref b15), .val (.ref b39), .val (.int 1), .val (.int 1), .val (.int 0), .val (.int 0), .val (.int 2), .val (.int 0), .val (.long (wa + wb)), .second, .val (.long ((0 : Int64) + (0 : Int64))), .second] [(.int (XT.cmpL (((0 : Int64) + (((1 : Int32).toInt64) * wa)) + (((1 : Int32).toInt64) * wb)) (wa + wb)))]))
      refine GoW.st (fun _ k' => XS.ifNo X103.here hx rfl (hb hby at_276) rfl (XT.ll_ne_f (by simp [own_one])) k') ?_
      show GoW p e below s _ _ _ _ _ (T103.setTop (mkF m 279 #[.val (.int sa), .val (.long va), .second, .val (.int sb), .val (.long vb), .second, .val (.int ia), .val (.int ib), .val (.long wa), .second, .val (.long wb), .second, .val (.ref b3), .val (.ref b15), .val (.ref b39), .val (.int 1), .val (.int 1), .val (.int 0), .val (.int 0), .val (.int 2), .val (.int 0), .val (.long (wa + wb)), .second, .val (.long ((0 : Int64) + (0 : Int64))), .second] []))
      refine GoW.st (fun _ k' => XS.aload X103.here hx rfl (hb hby at_279) rfl rfl k') ?_
      show GoW p e below s _ _ _ _ _ (T103.setTop (mkF m 281 #[.val (.int sa), .val (.long va), .second, .val (.int sb), .val (.long vb), .second, .val (.int ia), .val (.int ib), .val (.long wa), .second, .val (.long wb), .second, .val (.ref b3), .val (.ref b15), .val (.ref b39), .val (.int 1), .val (.int 1), .val (.int 0), .val (.int 0), .val (.int 2), .val (.int 0), .val (.long (wa + wb)), .second, .val (.long ((0 : Int64) + (0 : Int64))), .second] [(.ref b39)]))
      obtain ⟨cq104, kq104, q104a, q104b, q104c⟩ := isOf hZ28 eq103 f99
      obtain ⟨_, _, ⟨T104, L104, k104, n104⟩, -, X104, ⟨Lc104, hQ104, l104, y104, z104⟩, st104⟩ := X103.virtualBack hx (y := mn5) (z := mn5) hown28 (mvT hZ28 (wdx hw 115 rfl)) (mvT hZ28 (wdx hw 116 rfl)) (notFace_of_selects (args := #[]) (mvT hZ28 (wdx hw 118 rfl))) (mvT hZ28 (wdx hw 118 rfl)) (mvT hZ28 (wdx hw 117 rfl)) (by decide) (backOf (W := 0) (rm18 l Z a0 hw [] b39 (((0 : Int64) + (((1 : Int32).toInt64) * wa)) + (((1 : Int32).toInt64) * wb)) T81.heap n0 O81 f86) hZ28 (wdx hw 119 rfl) (wdx hw 54 rfl) (by decide) (by decide)) q104a q104c (g := (mkF m 281 #[.val (.int sa), .val (.long va), .second, .val (.int sb), .val (.long vb), .second, .val (.int ia), .val (.int ib), .val (.long wa), .second, .val (.long wb), .second, .val (.ref b3), .val (.ref b15), .val (.ref b39), .val (.int 1), .val (.int 1), .val (.int 0), .val (.int 0), .val (.int 2), .val (.int 0), .val (.long (wa + wb)), .second, .val (.long ((0 : Int64) + (0 : Int64))), .second] [(.ref b39)])) rfl (by rw [hml]; rfl) (Steps.refl _) (argsL := []) (rest := []) (lenOf pd___J rfl) rfl (by show 2 * 0 + _ ≤ _; exact Nat.le_of_eq rfl) (hb hby at_281) (fun _ _ => ⟨rfl, eq103, (by exact lee rfl), (by exact lee rfl)⟩)
      dsimp only [Pt.U, Pt.locs, Pt.cells, Pt.slots] at X104 l104 y104 z104 st104 hQ104
      subst l104 y104 z104
      obtain ⟨rfl, Nq104, eq104⟩ := hQ104
      have N104 := Fr.app N103 Nq104
      refine GoW.tr st104 ?_
      show GoW p e below s _ _ _ _ _ (T104.setTop (mkF m 284 #[.val (.int sa), .val (.long va), .second, .val (.int sb), .val (.long vb), .second, .val (.int ia), .val (.int ib), .val (.long wa), .second, .val (.long wb), .second, .val (.ref b3), .val (.ref b15), .val (.ref b39), .val (.int 1), .val (.int 1), .val (.int 0), .val (.int 0), .val (.int 2), .val (.int 0), .val (.long (wa + wb)), .second, .val (.long ((0 : Int64) + (0 : Int64))), .second] [(.long (((0 : Int64) + (((1 : Int32).toInt64) * wa)) + (((1 : Int32).toInt64) * wb)))]))
      refine GoW.st (fun _ k' => XS.lload X104.here hx rfl (hb hby at_284) rfl k') ?_
      show GoW p e below s _ _ _ _ _ (T104.setTop (mkF m 286 #[.val (.int sa), .val (.long va), .second, .val (.int sb), .val (.long vb), .second, .val (.int ia), .val (.int ib), .val (.long wa), .second, .val (.long wb), .second, .val (.ref b3), .val (.ref b15), .val (.ref b39), .val (.int 1), .val (.int 1), .val (.int 0), .val (.int 0), .val (.int 2), .val (.int 0), .val (.long (wa + wb)), .second, .val (.long ((0 : Int64) + (0 : Int64))), .second] [(.long (wa + wb)), (.long (((0 : Int64) + (((1 : Int32).toInt64) * wa)) + (((1 : Int32).toInt64) * wb)))]))
      refine GoW.st (fun _ k' => XT.lcmp X104.here hx rfl (hb hby at_286) rfl k') ?_
      show GoW p e below s _ _ _ _ _ (T104.setTop (mkF m 287 #[.val (.int sa), .val (.long va), .second, .val (.int sb), .val (.long vb), .second, .val (.int ia), .val (.int ib), .val (.long wa), .second, .val (.long wb), .second, .val (.ref b3), .val (.ref b15), .val (.ref b39), .val (.int 1), .val (.int 1), .val (.int 0), .val (.int 0), .val (.int 2), .val (.int 0), .val (.long (wa + wb)), .second, .val (.long ((0 : Int64) + (0 : Int64))), .second] [(.int (XT.cmpL (((0 : Int64) + (((1 : Int32).toInt64) * wa)) + (((1 : Int32).toInt64) * wb)) (wa + wb)))]))
      refine GoW.st (fun _ k' => XS.ifNo X104.here hx rfl (hb hby at_287) rfl (XT.ll_ne_f (by simp [own_one])) k') ?_
      show GoW p e below s _ _ _ _ _ (T104.setTop (mkF m 290 #[.val (.int sa), .val (.long va), .second, .val (.int sb), .val (.long vb), .second, .val (.int ia), .val (.int ib), .val (.long wa), .second, .val (.long wb), .second, .val (.ref b3), .val (.ref b15), .val (.ref b39), .val (.int 1), .val (.int 1), .val (.int 0), .val (.int 0), .val (.int 2), .val (.int 0), .val (.long (wa + wb)), .second, .val (.long ((0 : Int64) + (0 : Int64))), .second] []))
      refine GoW.st (fun _ k' => XS.aload X104.here hx rfl (hb hby at_290) rfl rfl k') ?_
      show GoW p e below s _ _ _ _ _ (T104.setTop (mkF m 292 #[.val (.int sa), .val (.long va), .second, .val (.int sb), .val (.long vb), .second, .val (.int ia), .val (.int ib), .val (.long wa), .second, .val (.long wb), .second, .val (.ref b3), .val (.ref b15), .val (.ref b39), .val (.int 1), .val (.int 1), .val (.int 0), .val (.int 0), .val (.int 2), .val (.int 0), .val (.long (wa + wb)), .second, .val (.long ((0 : Int64) + (0 : Int64))), .second] [(.ref b39)]))
      obtain ⟨cq105, kq105, q105a, q105b, q105c⟩ := isOf hZ28 eq104 f99
      obtain ⟨_, _, ⟨T105, L105, k105, n105⟩, -, X105, ⟨Lc105, hQ105, l105, y105, z105⟩, st105⟩ := X104.virtualBack hx (y := mn6) (z := mn6) hown28 (mvT hZ28 (wdx hw 120 rfl)) (mvT hZ28 (wdx hw 121 rfl)) (notFace_of_selects (args := #[]) (mvT hZ28 (wdx hw 123 rfl))) (mvT hZ28 (wdx hw 123 rfl)) (mvT hZ28 (wdx hw 122 rfl)) (by decide) (backOf (W := 0) (rm19 l Z a0 hw [] b39 (0 : Int64) T81.heap n0 O81 f87) hZ28 (wdx hw 124 rfl) (wdx hw 54 rfl) (by decide) (by decide)) q105a q105c (g := (mkF m 292 #[.val (.int sa), .val (.long va), .second, .val (.int sb), .val (.long vb), .second, .val (.int ia), .val (.int ib), .val (.long wa), .second, .val (.long wb), .second, .val (.ref b3), .val (.ref b15), .val (.ref b39), .val (.int 1), .val (.int 1), .val (.int 0), .val (.int 0), .val (.int 2), .val (.int 0), .val (.long (wa + wb)), .second, .val (.long ((0 : Int64) + (0 : Int64))), .second] [(.ref b39)])) rfl (by rw [hml]; rfl) (Steps.refl _) (argsL := []) (rest := []) (lenOf pd___J rfl) rfl (by show 2 * 0 + _ ≤ _; exact Nat.le_of_eq rfl) (hb hby at_292) (fun _ _ => ⟨rfl, eq104, (by exact lee rfl), (by exact lee rfl)⟩)
      dsimp only [Pt.U, Pt.locs, Pt.cells, Pt.slots] at X105 l105 y105 z105 st105 hQ105
      subst l105 y105 z105
      obtain ⟨rfl, Nq105, eq105⟩ := hQ105
      have N105 := Fr.app N104 Nq105
      refine GoW.tr st105 ?_
      show GoW p e below s _ _ _ _ _ (T105.setTop (mkF m 295 #[.val (.int sa), .val (.long va), .second, .val (.int sb), .val (.long vb), .second, .val (.int ia), .val (.int ib), .val (.long wa), .second, .val (.long wb), .second, .val (.ref b3), .val (.ref b15), .val (.ref b39), .val (.int 1), .val (.int 1), .val (.int 0), .val (.int 0), .val (.int 2), .val (.int 0), .val (.long (wa + wb)), .second, .val (.long ((0 : Int64) + (0 : Int64))), .second] [(.long 0)]))
      refine GoW.st (fun _ k' => XS.lload X105.here hx rfl (hb hby at_295) rfl k') ?_
      show GoW p e below s _ _ _ _ _ (T105.setTop (mkF m 297 #[.val (.int sa), .val (.long va), .second, .val (.int sb), .val (.long vb), .second, .val (.int ia), .val (.int ib), .val (.long wa), .second, .val (.long wb), .second, .val (.ref b3), .val (.ref b15), .val (.ref b39), .val (.int 1), .val (.int 1), .val (.int 0), .val (.int 0), .val (.int 2), .val (.int 0), .val (.long (wa + wb)), .second, .val (.long ((0 : Int64) + (0 : Int64))), .second] [(.long ((0 : Int64) + (0 : Int64))), (.long 0)]))
      refine GoW.st (fun _ k' => XT.lcmp X105.here hx rfl (hb hby at_297) rfl k') ?_
      show GoW p e below s _ _ _ _ _ (T105.setTop (mkF m 298 #[.val (.int sa), .val (.long va), .second, .val (.int sb), .val (.long vb), .second, .val (.int ia), .val (.int ib), .val (.long wa), .second, .val (.long wb), .second, .val (.ref b3), .val (.ref b15), .val (.ref b39), .val (.int 1), .val (.int 1), .val (.int 0), .val (.int 0), .val (.int 2), .val (.int 0), .val (.long (wa + wb)), .second, .val (.long ((0 : Int64) + (0 : Int64))), .second] [(.int (XT.cmpL (0 : Int64) ((0 : Int64) + (0 : Int64))))]))
      refine GoW.st (fun _ k' => XS.ifNo X105.here hx rfl (hb hby at_298) rfl (XT.ll_ne_f (by simp [own_one])) k') ?_
      show GoW p e below s _ _ _ _ _ (T105.setTop (mkF m 301 #[.val (.int sa), .val (.long va), .second, .val (.int sb), .val (.long vb), .second, .val (.int ia), .val (.int ib), .val (.long wa), .second, .val (.long wb), .second, .val (.ref b3), .val (.ref b15), .val (.ref b39), .val (.int 1), .val (.int 1), .val (.int 0), .val (.int 0), .val (.int 2), .val (.int 0), .val (.long (wa + wb)), .second, .val (.long ((0 : Int64) + (0 : Int64))), .second] []))
      refine GoW.st (fun _ k' => XS.iconst X105.here hx rfl (hb hby at_301) k') ?_
      show GoW p e below s _ _ _ _ _ (T105.setTop (mkF m 302 #[.val (.int sa), .val (.long va), .second, .val (.int sb), .val (.long vb), .second, .val (.int ia), .val (.int ib), .val (.long wa), .second, .val (.long wb), .second, .val (.ref b3), .val (.ref b15), .val (.ref b39), .val (.int 1), .val (.int 1), .val (.int 0), .val (.int 0), .val (.int 2), .val (.int 0), .val (.long (wa + wb)), .second, .val (.long ((0 : Int64) + (0 : Int64))), .second] [(.int 1)]))
      refine GoW.st (fun _ k' => XS.goto X105.here hx rfl (pc0 := 302) (pc' := 306) rfl (hb hby at_302) (by decide) (by decide) k') ?_
      show GoW p e below s _ _ _ _ _ (T105.setTop (mkF m 306 #[.val (.int sa), .val (.long va), .second, .val (.int sb), .val (.long vb), .second, .val (.int ia), .val (.int ib), .val (.long wa), .second, .val (.long wb), .second, .val (.ref b3), .val (.ref b15), .val (.ref b39), .val (.int 1), .val (.int 1), .val (.int 0), .val (.int 0), .val (.int 2), .val (.int 0), .val (.long (wa + wb)), .second, .val (.long ((0 : Int64) + (0 : Int64))), .second] [(.int 1)]))
      refine GoW.retB X105 hx hlk hS28 (by rw [eq105]; exact hk81) hZ28 hEL CH81 (t := .boolean) Bd.returns (by simp) (hb hby at_306) (by decide) (by decide) eq105 ?_
      exact ⟨rfl, N105, trivial⟩
    · show GoW p e below s _ _ _ _ _ (T27.setTop (mkF m 58 #[.val (.int sa), .val (.long va), .second, .val (.int sb), .val (.long vb), .second, .val (.int ia), .val (.int ib), .val (.long wa), .second, .val (.long wb), .second, .val (.ref b3), .unset, .unset, .unset, .unset, .unset, .unset, .unset, .unset, .unset, .unset, .unset, .unset] [(.ref hsb), .null, (.ref b15), (.ref b15)]))
      refine GoW.st (fun _ k' => XS.lload X27.here hx rfl (hb hby at_58) rfl k') ?_
      show GoW p e below s _ _ _ _ _ (T27.setTop (mkF m 60 #[.val (.int sa), .val (.long va), .second, .val (.int sb), .val (.long vb), .second, .val (.int ia), .val (.int ib), .val (.long wa), .second, .val (.long wb), .second, .val (.ref b3), .unset, .unset, .unset, .unset, .unset, .unset, .unset, .unset, .unset, .unset, .unset, .unset] [(.long wb), (.ref hsb), .null, (.ref b15), (.ref b15)]))
      obtain ⟨_, _, ⟨T106, L106, k106, n106⟩, -, Xr106, hSr106, hgr106, ⟨Lc106, hQ106, l106, y106, z106, C106⟩, st106⟩ := X27.specialBackS hx (y := mn7) rfl hown9 (mvT hZ9 (wdx hw 19 rfl)) (mvT hZ9 (wdx hw 20 rfl)) (mvT hZ9 (wdx hw 21 rfl)) (by decide) (own_back (W := 1) (rm4 l Z a0 hw [] b15 hsb wb h15 n0 O15 A15 f24 f25 f26 E_hsb g_b15 qwb rwb) hZ9 (wdx hw 21 rfl) (wdx hw 12 rfl) (by decide) (by decide) hEL CH15.1 (allS ⟨A15.lt, f23⟩ all0)) (g := (mkF m 60 #[.val (.int sa), .val (.long va), .second, .val (.int sb), .val (.long vb), .second, .val (.int ia), .val (.int ib), .val (.long wa), .second, .val (.long wb), .second, .val (.ref b3), .unset, .unset, .unset, .unset, .unset, .unset, .unset, .unset, .unset, .unset, .unset, .unset] [(.long wb), (.ref hsb), .null, (.ref b15), (.ref b15)])) rfl (by rw [hml]; rfl) (Steps.refl _) (a := b15) (argsL := [.null, (.ref hsb), (.long wb)]) (rest := [(.ref b15)]) (lenOf pd__Lcom_example_spillway_spillway_assignment_EndpointAddress_Lcom_example_spillway_spillway_assignment_HealthStatus_J_V rfl) rfl (by show 2 * 0 + _ ≤ _; exact Nat.le_of_eq rfl) (hb hby at_60) (fun _ _ => ⟨rfl, eq27, (by exact lee rfl), (by exact lee rfl)⟩)
      dsimp only [Pt.U, Pt.locs, Pt.cells, Pt.slots] at Xr106 hSr106 hgr106 l106 y106 z106 C106 st106 hQ106
      subst l106 y106 z106
      obtain ⟨X106, hS106, hZ106, hown106⟩ := rebS hS9 (by rw [eq27]; exact hk15) Xr106 hSr106 hgr106 hZ9 hown9
      obtain ⟨rfl, Nq106, Kq106, f107, f108⟩ := hQ106
      have N106 := Fr.app N27 Nq106
      refine GoW.tr st106 ?_
      have f109 : Safe Z EL T106.vm T106.heap b3 := C106.safe f19.lt f18
      have f110 : Exa Z T106.heap b3 "com/example/spillway/spillway/assignment/Endpoint" := f19.keep Kq106
      have f111 : Exa Z T106.heap hsa "com/example/spillway/spillway/assignment/HealthStatus" := f20.keep Kq106
      have f112 : Fld Z T106.heap b3 "com/example/spillway/spillway/assignment/Endpoint" "health" "Lcom/example/spillway/spillway/assignment/HealthStatus;" (.ref hsa) := f21.keep Kq106 (ninS ne16 nin0)
      have f113 : Fld Z T106.heap b3 "com/example/spillway/spillway/assignment/Endpoint" "loadBalancingWeight" "J" (.long wa) := f22.keep Kq106 (ninS ne16 nin0)
      have f114 : Safe Z EL T106.vm T106.heap b15 := C106.safe A15.lt f23
      have f115 : Exa Z T106.heap b15 "com/example/spillway/spillway/assignment/Endpoint" := A15.keep Kq106
      have f116 : Exa Z T106.heap hsb "com/example/spillway/spillway/assignment/HealthStatus" := E_hsb.keep Kq106
      have CH106 : CHr Z EL s.vm s.heap T106.vm T106.heap := CH15.trans C106
      have O106 : Old Z n0 T106.heap := O15.keep Kq106 (allS g_b15 all0)
      show GoW p e below s _ _ _ _ _ (T106.setTop (mkF m 63 #[.val (.int sa), .val (.long va), .second, .val (.int sb), .val (.long vb), .second, .val (.int ia), .val (.int ib), .val (.long wa), .second, .val (.long wb), .second, .val (.ref b3), .unset, .unset, .unset, .unset, .unset, .unset, .unset, .unset, .unset, .unset, .unset, .unset] [(.ref b15)]))
      refine GoW.st (fun _ k' => XS.astore X106.here hx rfl (hb hby at_63) rfl rfl (l' := #[.val (.int sa), .val (.long va), .second, .val (.int sb), .val (.long vb), .second, .val (.int ia), .val (.int ib), .val (.long wa), .second, .val (.long wb), .second, .val (.ref b3), .val (.ref b15), .unset, .unset, .unset, .unset, .unset, .unset, .unset, .unset, .unset, .unset, .unset]) rfl k') ?_
      show GoW p e below s _ _ _ _ _ (T106.setTop (mkF m 65 #[.val (.int sa), .val (.long va), .second, .val (.int sb), .val (.long vb), .second, .val (.int ia), .val (.int ib), .val (.long wa), .second, .val (.long wb), .second, .val (.ref b3), .val (.ref b15), .unset, .unset, .unset, .unset, .unset, .unset, .unset, .unset, .unset, .unset, .unset] []))
      obtain ⟨T117, h117, X117, e117, E117, A117, D117, -, st117⟩ := newO X106 hx hZ106 hown106 (wdx hw 52 rfl) (wdx hw 53 rfl) (wdx hw 54 rfl) rfl (g := (mkF m 65 #[.val (.int sa), .val (.long va), .second, .val (.int sb), .val (.long vb), .second, .val (.int ia), .val (.int ib), .val (.long wa), .second, .val (.long wb), .second, .val (.ref b3), .val (.ref b15), .unset, .unset, .unset, .unset, .unset, .unset, .unset, .unset, .unset, .unset, .unset] [])) rfl (hb hby at_65) (by decide) (by decide)
      obtain ⟨b117, g117⟩ : ∃ z, z = T106.heap.size := ⟨_, rfl⟩
      rw [← g117] at A117 D117 st117
      refine GoW.st st117 ?_
      have g_b117 : n0 ≤ b117 := Nat.le_trans (own_le O106) (Nat.le_of_eq g117.symm)
      have sf_b117 : Safe Z EL T106.vm T106.heap b117 := Safe.new (Nat.le_of_eq g117.symm)
      have ne118 : b3 ≠ b117 := Nat.ne_of_lt (Nat.lt_of_lt_of_le f110.lt (Nat.le_of_eq g117.symm))
      have ne119 : hsa ≠ b117 := Nat.ne_of_lt (Nat.lt_of_lt_of_le f111.lt (Nat.le_of_eq g117.symm))
      have ne120 : b15 ≠ b117 := Nat.ne_of_lt (Nat.lt_of_lt_of_le f115.lt (Nat.le_of_eq g117.symm))
      have ne121 : hsb ≠ b117 := Nat.ne_of_lt (Nat.lt_of_lt_of_le f116.lt (Nat.le_of_eq g117.symm))
      have f122 : Safe Z EL T106.vm h117 b3 := Safe.ext E117 CH106.1 f109
      have f123 : Exa Z h117 b3 "com/example/spillway/spillway/assignment/Endpoint" := f110.ext E117
      have f124 : Exa Z h117 hsa "com/example/spillway/spillway/assignment/HealthStatus" := f111.ext E117
      have f125 : Fld Z h117 b3 "com/example/spillway/spillway/assignment/Endpoint" "health" "Lcom/example/spillway/spillway/assignment/HealthStatus;" (.ref hsa) := f112.ext E117
      have f126 : Fld Z h117 b3 "com/example/spillway/spillway/assignment/Endpoint" "loadBalancingWeight" "J" (.long wa) := f113.ext E117
      have f127 : Safe Z EL T106.vm h117 b15 := Safe.ext E117 CH106.1 f114
      have f128 : Exa Z h117 b15 "com/example/spillway/spillway/assignment/Endpoint" := f115.ext E117
      have f129 : Exa Z h117 hsb "com/example/spillway/spillway/assignment/HealthStatus" := f116.ext E117
      have f130 : Fld Z h117 b15 "com/example/spillway/spillway/assignment/Endpoint" "health" "Lcom/example/spillway/spillway/assignment/HealthStatus;" (.ref hsb) := f107.ext E117
      have f131 : Fld Z h117 b15 "com/example/spillway/spillway/assignment/Endpoint" "loadBalancingWeight" "J" (.long wb) := f108.ext E117
      have f132 : Safe Z EL T106.vm h117 b117 := Safe.ext E117 CH106.1 sf_b117
      have CH117 : CHr Z EL s.vm s.heap T106.vm h117 := CH106.trans (CHr.ext E117 CH106.1)
      have hk117 : Array.size T106.heap ≤ Array.size h117 := Nat.le_trans (Nat.le_refl _) E117.1
      have O117 : Old Z n0 h117 := O106.ext E117
      have f133 : Fld Z h117 b117 "com/example/spillway/spillway/assignment/HealthTally" "hosts" "I" (.int 0) := D117 (Or.inl (wdx hw 74 rfl)) (ty := .int) (by decide)
      have f134 : Fld Z h117 b117 "com/example/spillway/spillway/assignment/HealthTally" "hostWeight" "J" (.long 0) := D117 (Or.inl (wdx hw 76 rfl)) (ty := .long) (by decide)
      have f135 : Fld Z h117 b117 "com/example/spillway/spillway/assignment/HealthTally" "healthy" "I" (.int 0) := D117 (Or.inl (wdx hw 90 rfl)) (ty := .int) (by decide)
      have f136 : Fld Z h117 b117 "com/example/spillway/spillway/assignment/HealthTally" "healthyWeight" "J" (.long 0) := D117 (Or.inl (wdx hw 92 rfl)) (ty := .long) (by decide)
      have f137 : Fld Z h117 b117 "com/example/spillway/spillway/assignment/HealthTally" "degraded" "I" (.int 0) := D117 (Or.inl (wdx hw 109 rfl)) (ty := .int) (by decide)
      have f138 : Fld Z h117 b117 "com/example/spillway/spillway/assignment/HealthTally" "degradedWeight" "J" (.long 0) := D117 (Or.inl (wdx hw 126 rfl)) (ty := .long) (by decide)
      show GoW p e below s _ _ _ _ _ (T117.setTop (mkF m 68 #[.val (.int sa), .val (.long va), .second, .val (.int sb), .val (.long vb), .second, .val (.int ia), .val (.int ib), .val (.long wa), .second, .val (.long wb), .second, .val (.ref b3), .val (.ref b15), .unset, .unset, .unset, .unset, .unset, .unset, .unset, .unset, .unset, .unset, .unset] [(.ref b117)]))
      refine GoW.st (fun _ k' => XS.dup X117.here hx rfl (hb hby at_68) rfl rfl k') ?_
      show GoW p e below s _ _ _ _ _ (T117.setTop (mkF m 69 #[.val (.int sa), .val (.long va), .second, .val (.int sb), .val (.long vb), .second, .val (.int ia), .val (.int ib), .val (.long wa), .second, .val (.long wb), .second, .val (.ref b3), .val (.ref b15), .unset, .unset, .unset, .unset, .unset, .unset, .unset, .unset, .unset, .unset, .unset] [(.ref b117), (.ref b117)]))
      obtain ⟨_, _, ⟨T139, L139, k139, n139⟩, -, X139, ⟨Lc139, hQ139, l139, y139, z139⟩, st139⟩ := X117.specialBack hx (y := mn9) rfl hown106 (mvT hZ106 (wdx hw 55 rfl)) (mvT hZ106 (wdx hw 56 rfl)) (mvT hZ106 (wdx hw 57 rfl)) (by decide) (backOf (W := 1) (rm8 l Z a0 hw [] b117 h117 n0 O117 ) hZ106 (wdx hw 57 rfl) (wdx hw 54 rfl) (by decide) (by decide)) (g := (mkF m 69 #[.val (.int sa), .val (.long va), .second, .val (.int sb), .val (.long vb), .second, .val (.int ia), .val (.int ib), .val (.long wa), .second, .val (.long wb), .second, .val (.ref b3), .val (.ref b15), .unset, .unset, .unset, .unset, .unset, .unset, .unset, .unset, .unset, .unset, .unset] [(.ref b117), (.ref b117)])) rfl (by rw [hml]; rfl) (Steps.refl _) (a := b117) (argsL := []) (rest := [(.ref b117)]) (lenOf pd___V rfl) rfl (by show 2 * 0 + _ ≤ _; exact Nat.le_of_eq rfl) (hb hby at_69) (fun _ _ => ⟨rfl, e117, (by exact lee rfl), (by exact lee rfl)⟩)
      dsimp only [Pt.U, Pt.locs, Pt.cells, Pt.slots] at X139 l139 y139 z139 st139 hQ139
      subst l139 y139 z139
      obtain ⟨rfl, Nq139, eq139⟩ := hQ139
      have N139 := Fr.app N106 Nq139
      refine GoW.tr st139 ?_
      show GoW p e below s _ _ _ _ _ (T139.setTop (mkF m 72 #[.val (.int sa), .val (.long va), .second, .val (.int sb), .val (.long vb), .second, .val (.int ia), .val (.int ib), .val (.long wa), .second, .val (.long wb), .second, .val (.ref b3), .val (.ref b15), .unset, .unset, .unset, .unset, .unset, .unset, .unset, .unset, .unset, .unset, .unset] [(.ref b117)]))
      refine GoW.st (fun _ k' => XS.astore X139.here hx rfl (hb hby at_72) rfl rfl (l' := #[.val (.int sa), .val (.long va), .second, .val (.int sb), .val (.long vb), .second, .val (.int ia), .val (.int ib), .val (.long wa), .second, .val (.long wb), .second, .val (.ref b3), .val (.ref b15), .val (.ref b117), .unset, .unset, .unset, .unset, .unset, .unset, .unset, .unset, .unset, .unset]) rfl k') ?_
      refine GoW.st (fun _ k' => XS.aload X139.here hx rfl (hb hby at_74) rfl rfl k') ?_
      refine GoW.st (fun _ k' => XS.aload X139.here hx rfl (hb hby at_76) rfl rfl k') ?_
      show GoW p e below s _ _ _ _ _ (T139.setTop (mkF m 78 #[.val (.int sa), .val (.long va), .second, .val (.int sb), .val (.long vb), .second, .val (.int ia), .val (.int ib), .val (.long wa), .second, .val (.long wb), .second, .val (.ref b3), .val (.ref b15), .val (.ref b117), .unset, .unset, .unset, .unset, .unset, .unset, .unset, .unset, .unset, .unset] [(.ref b3), (.ref b117)]))
      obtain ⟨cq140, kq140, q140a, q140b, q140c⟩ := isOf hZ106 eq139 A117
      obtain ⟨_, _, ⟨T140, L140, k140, n140⟩, -, X140, ⟨Lc140, hQ140, l140, y140, z140⟩, st140⟩ := X139.virtualBack hx (y := mn0) (z := mn0) hown106 (mvT hZ106 (wdx hw 59 rfl)) (mvT hZ106 (wdx hw 60 rfl)) (notFace_of_selects (args := #[]) (mvT hZ106 (wdx hw 62 rfl))) (mvT hZ106 (wdx hw 62 rfl)) (mvT hZ106 (wdx hw 61 rfl)) (by decide) (backOf (W := 0) (rm9_h l Z a0 hw [] b117 b3 (0 : Int32) (0 : Int32) (0 : Int32) (0 : Int64) (0 : Int64) (0 : Int64) hsa wa a_UNKNOWN a_HEALTHY a_DEGRADED h117 n0 O117 A117 f133 f135 f137 f134 f136 f138 f123 f125 f126 f124 S_UNKNOWN S_HEALTHY S_DEGRADED g_b117 (Ne.symm ne118) khsa_2) hZ106 (wdx hw 63 rfl) (wdx hw 54 rfl) (by decide) (by decide)) q140a q140c (g := (mkF m 78 #[.val (.int sa), .val (.long va), .second, .val (.int sb), .val (.long vb), .second, .val (.int ia), .val (.int ib), .val (.long wa), .second, .val (.long wb), .second, .val (.ref b3), .val (.ref b15), .val (.ref b117), .unset, .unset, .unset, .unset, .unset, .unset, .unset, .unset, .unset, .unset] [(.ref b3), (.ref b117)])) rfl (by rw [hml]; rfl) (Steps.refl _) (argsL := [(.ref b3)]) (rest := []) (lenOf pd__Lcom_example_spillway_spillway_assignment_Endpoint__V rfl) rfl (by show 2 * 0 + _ ≤ _; exact Nat.le_of_eq rfl) (hb hby at_78) (fun _ _ => ⟨rfl, eq139, (by exact lee rfl), (by exact lee rfl)⟩)
      dsimp only [Pt.U, Pt.locs, Pt.cells, Pt.slots] at X140 l140 y140 z140 st140 hQ140
      subst l140 y140 z140
      obtain ⟨rfl, Nq140, Kq140, f141, f142, f143, f144, f145, f146⟩ := hQ140
      have N140 := Fr.app N139 Nq140
      refine GoW.tr st140 ?_
      have f147 : Safe Z EL T106.vm T140.heap b3 := Safe.keep Kq140 (allS f132 all0) CH117.1 f122
      have f148 : Exa Z T140.heap b3 "com/example/spillway/spillway/assignment/Endpoint" := f123.keep Kq140
      have f149 : Exa Z T140.heap hsa "com/example/spillway/spillway/assignment/HealthStatus" := f124.keep Kq140
      have f150 : Fld Z T140.heap b3 "com/example/spillway/spillway/assignment/Endpoint" "health" "Lcom/example/spillway/spillway/assignment/HealthStatus;" (.ref hsa) := f125.keep Kq140 (ninS ne118 nin0)
      have f151 : Fld Z T140.heap b3 "com/example/spillway/spillway/assignment/Endpoint" "loadBalancingWeight" "J" (.long wa) := f126.keep Kq140 (ninS ne118 nin0)
      have f152 : Safe Z EL T106.vm T140.heap b15 := Safe.keep Kq140 (allS f132 all0) CH117.1 f127
      have f153 : Exa Z T140.heap b15 "com/example/spillway/spillway/assignment/Endpoint" := f128.keep Kq140
      have f154 : Exa Z T140.heap hsb "com/example/spillway/spillway/assignment/HealthStatus" := f129.keep Kq140
      have f155 : Fld Z T140.heap b15 "com/example/spillway/spillway/assignment/Endpoint" "health" "Lcom/example/spillway/spillway/assignment/HealthStatus;" (.ref hsb) := f130.keep Kq140 (ninS ne120 nin0)
      have f156 : Fld Z T140.heap b15 "com/example/spillway/spillway/assignment/Endpoint" "loadBalancingWeight" "J" (.long wb) := f131.keep Kq140 (ninS ne120 nin0)
      have f157 : Safe Z EL T106.vm T140.heap b117 := Safe.keep Kq140 (allS f132 all0) CH117.1 f132
      have f158 : Exa Z T140.heap b117 "com/example/spillway/spillway/assignment/HealthTally" := A117.keep Kq140
      have CH140 : CHr Z EL s.vm s.heap T106.vm T140.heap := CH117.trans (CHr.keep Kq140 (allS f132 all0) CH117.1)
      have hk140 : Array.size T106.heap ≤ Array.size T140.heap := Nat.le_trans hk117 Kq140.1
      have O140 : Old Z n0 T140.heap := O117.keep Kq140 (allS g_b117 all0)
      show GoW p e below s _ _ _ _ _ (T140.setTop (mkF m 81 #[.val (.int sa), .val (.long va), .second, .val (.int sb), .val (.long vb), .second, .val (.int ia), .val (.int ib), .val (.long wa), .second, .val (.long wb), .second, .val (.ref b3), .val (.ref b15), .val (.ref b117), .unset, .unset, .unset, .unset, .unset, .unset, .unset, .unset, .unset, .unset] []))
      refine GoW.st (fun _ k' => XS.aload X140.here hx rfl (hb hby at_81) rfl rfl k') ?_
      refine GoW.st (fun _ k' => XS.aload X140.here hx rfl (hb hby at_83) rfl rfl k') ?_
      show GoW p e below s _ _ _ _ _ (T140.setTop (mkF m 85 #[.val (.int sa), .val (.long va), .second, .val (.int sb), .val (.long vb), .second, .val (.int ia), .val (.int ib), .val (.long wa), .second, .val (.long wb), .second, .val (.ref b3), .val (.ref b15), .val (.ref b117), .unset, .unset, .unset, .unset, .unset, .unset, .unset, .unset, .unset, .unset] [(.ref b15), (.ref b117)]))
      obtain ⟨cq159, kq159, q159a, q159b, q159c⟩ := isOf hZ106 rfl f158
      obtain ⟨_, _, ⟨T159, L159, k159, n159⟩, -, X159, ⟨Lc159, hQ159, l159, y159, z159⟩, st159⟩ := X140.virtualBack hx (y := mn0) (z := mn0) hown106 (mvT hZ106 (wdx hw 59 rfl)) (mvT hZ106 (wdx hw 60 rfl)) (notFace_of_selects (args := #[]) (mvT hZ106 (wdx hw 62 rfl))) (mvT hZ106 (wdx hw 62 rfl)) (mvT hZ106 (wdx hw 61 rfl)) (by decide) (backOf (W := 0) (rm9_d l Z a0 hw [] b117 b15 ((0 : Int32) + (1 : Int32)) ((0 : Int32) + (1 : Int32)) (0 : Int32) ((0 : Int64) + (((1 : Int32).toInt64) * wa)) ((0 : Int64) + (((1 : Int32).toInt64) * wa)) (0 : Int64) hsb wb a_UNKNOWN a_HEALTHY a_DEGRADED T140.heap n0 O140 f158 f141 f142 f143 f144 f145 f146 f153 f155 f156 f154 S_UNKNOWN S_HEALTHY S_DEGRADED g_b117 (Ne.symm ne120) khsb_2 khsb_3) hZ106 (wdx hw 63 rfl) (wdx hw 54 rfl) (by decide) (by decide)) q159a q159c (g := (mkF m 85 #[.val (.int sa), .val (.long va), .second, .val (.int sb), .val (.long vb), .second, .val (.int ia), .val (.int ib), .val (.long wa), .second, .val (.long wb), .second, .val (.ref b3), .val (.ref b15), .val (.ref b117), .unset, .unset, .unset, .unset, .unset, .unset, .unset, .unset, .unset, .unset] [(.ref b15), (.ref b117)])) rfl (by rw [hml]; rfl) (Steps.refl _) (argsL := [(.ref b15)]) (rest := []) (lenOf pd__Lcom_example_spillway_spillway_assignment_Endpoint__V rfl) rfl (by show 2 * 0 + _ ≤ _; exact Nat.le_of_eq rfl) (hb hby at_85) (fun _ _ => ⟨rfl, rfl, (by exact lee rfl), (by exact lee rfl)⟩)
      dsimp only [Pt.U, Pt.locs, Pt.cells, Pt.slots] at X159 l159 y159 z159 st159 hQ159
      subst l159 y159 z159
      obtain ⟨rfl, Nq159, Kq159, f160, f161, f162, f163, f164, f165⟩ := hQ159
      have N159 := Fr.app N140 Nq159
      refine GoW.tr st159 ?_
      have f166 : Safe Z EL T106.vm T159.heap b3 := Safe.keep Kq159 (allS f157 all0) CH140.1 f147
      have f167 : Exa Z T159.heap b3 "com/example/spillway/spillway/assignment/Endpoint" := f148.keep Kq159
      have f168 : Exa Z T159.heap hsa "com/example/spillway/spillway/assignment/HealthStatus" := f149.keep Kq159
      have f169 : Fld Z T159.heap b3 "com/example/spillway/spillway/assignment/Endpoint" "health" "Lcom/example/spillway/spillway/assignment/HealthStatus;" (.ref hsa) := f150.keep Kq159 (ninS ne118 nin0)
      have f170 : Fld Z T159.heap b3 "com/example/spillway/spillway/assignment/Endpoint" "loadBalancingWeight" "J" (.long wa) := f151.keep Kq159 (ninS ne118 nin0)
      have f171 : Safe Z EL T106.vm T159.heap b15 := Safe.keep Kq159 (allS f157 all0) CH140.1 f152
      have f172 : Exa Z T159.heap b15 "com/example/spillway/spillway/assignment/Endpoint" := f153.keep Kq159
      have f173 : Exa Z T159.heap hsb "com/example/spillway/spillway/assignment/HealthStatus" := f154.keep Kq159
      have f174 : Fld Z T159.heap b15 "com/example/spillway/spillway/assignment/Endpoint" "health" "Lcom/example/spillway/spillway/assignment/HealthStatus;" (.ref hsb) := f155.keep Kq159 (ninS ne120 nin0)
      have f175 : Fld Z T159.heap b15 "com/example/spillway/spillway/assignment/Endpoint" "loadBalancingWeight" "J" (.long wb) := f156.keep Kq159 (ninS ne120 nin0)
      have f176 : Safe Z EL T106.vm T159.heap b117 := Safe.keep Kq159 (allS f157 all0) CH140.1 f157
      have f177 : Exa Z T159.heap b117 "com/example/spillway/spillway/assignment/HealthTally" := f158.keep Kq159
      have CH159 : CHr Z EL s.vm s.heap T106.vm T159.heap := CH140.trans (CHr.keep Kq159 (allS f157 all0) CH140.1)
      have hk159 : Array.size T106.heap ≤ Array.size T159.heap := Nat.le_trans hk140 Kq159.1
      have O159 : Old Z n0 T159.heap := O140.keep Kq159 (allS g_b117 all0)
      show GoW p e below s _ _ _ _ _ (T159.setTop (mkF m 88 #[.val (.int sa), .val (.long va), .second, .val (.int sb), .val (.long vb), .second, .val (.int ia), .val (.int ib), .val (.long wa), .second, .val (.long wb), .second, .val (.ref b3), .val (.ref b15), .val (.ref b117), .unset, .unset, .unset, .unset, .unset, .unset, .unset, .unset, .unset, .unset] []))
      refine GoW.st (fun _ k' => XS.iload X159.here hx rfl (hb hby at_88) rfl k') ?_
      refine GoW.st (fun _ k' => XS.iconst X159.here hx rfl (hb hby at_90) k') ?_
      show GoW p e below s _ _ _ _ _ (T159.setTop (mkF m 91 #[.val (.int sa), .val (.long va), .second, .val (.int sb), .val (.long vb), .second, .val (.int ia), .val (.int ib), .val (.long wa), .second, .val (.long wb), .second, .val (.ref b3), .val (.ref b15), .val (.ref b117), .unset, .unset, .unset, .unset, .unset, .unset, .unset, .unset, .unset, .unset] [(.int 1), (.int ia)]))
      refine GoW.st (fun _ k' => XS.icmpNo X159.here hx rfl (hb hby at_91) rfl (XT.ii_gt_f khsa_0) k') ?_
      show GoW p e below s _ _ _ _ _ (T159.setTop (mkF m 94 #[.val (.int sa), .val (.long va), .second, .val (.int sb), .val (.long vb), .second, .val (.int ia), .val (.int ib), .val (.long wa), .second, .val (.long wb), .second, .val (.ref b3), .val (.ref b15), .val (.ref b117), .unset, .unset, .unset, .unset, .unset, .unset, .unset, .unset, .unset, .unset] []))
      refine GoW.st (fun _ k' => XS.iconst X159.here hx rfl (hb hby at_94) k') ?_
      show GoW p e below s _ _ _ _ _ (T159.setTop (mkF m 95 #[.val (.int sa), .val (.long va), .second, .val (.int sb), .val (.long vb), .second, .val (.int ia), .val (.int ib), .val (.long wa), .second, .val (.long wb), .second, .val (.ref b3), .val (.ref b15), .val (.ref b117), .unset, .unset, .unset, .unset, .unset, .unset, .unset, .unset, .unset, .unset] [(.int 1)]))
      refine GoW.st (fun _ k' => XS.goto X159.here hx rfl (pc0 := 95) (pc' := 99) rfl (hb hby at_95) (by decide) (by decide) k') ?_
      show GoW p e below s _ _ _ _ _ (T159.setTop (mkF m 99 #[.val (.int sa), .val (.long va), .second, .val (.int sb), .val (.long vb), .second, .val (.int ia), .val (.int ib), .val (.long wa), .second, .val (.long wb), .second, .val (.ref b3), .val (.ref b15), .val (.ref b117), .unset, .unset, .unset, .unset, .unset, .unset, .unset, .unset, .unset, .unset] [(.int 1)]))
      refine GoW.st (fun _ k' => XS.istore X159.here hx rfl (hb hby at_99) rfl (l' := #[.val (.int sa), .val (.long va), .second, .val (.int sb), .val (.long vb), .second, .val (.int ia), .val (.int ib), .val (.long wa), .second, .val (.long wb), .second, .val (.ref b3), .val (.ref b15), .val (.ref b117), .val (.int 1), .unset, .unset, .unset, .unset, .unset, .unset, .unset, .unset, .unset]) rfl k') ?_
      refine GoW.st (fun _ k' => XS.iload X159.here hx rfl (hb hby at_101) rfl k') ?_
      refine GoW.st (fun _ k' => XS.iconst X159.here hx rfl (hb hby at_103) k') ?_
      show GoW p e below s _ _ _ _ _ (T159.setTop (mkF m 104 #[.val (.int sa), .val (.long va), .second, .val (.int sb), .val (.long vb), .second, .val (.int ia), .val (.int ib), .val (.long wa), .second, .val (.long wb), .second, .val (.ref b3), .val (.ref b15), .val (.ref b117), .val (.int 1), .unset, .unset, .unset, .unset, .unset, .unset, .unset, .unset, .unset] [(.int 1), (.int ib)]))
      refine GoW.st (fun _ k' => XS.icmpYes X159.here hx rfl (pc0 := 104) (pc' := 111) rfl (hb hby at_104) rfl (XT.ii_gt_t khsb_0) (by decide) (by decide) k') ?_
      show GoW p e below s _ _ _ _ _ (T159.setTop (mkF m 111 #[.val (.int sa), .val (.long va), .second, .val (.int sb), .val (.long vb), .second, .val (.int ia), .val (.int ib), .val (.long wa), .second, .val (.long wb), .second, .val (.ref b3), .val (.ref b15), .val (.ref b117), .val (.int 1), .unset, .unset, .unset, .unset, .unset, .unset, .unset, .unset, .unset] []))
      refine GoW.st (fun _ k' => XS.iconst X159.here hx rfl (hb hby at_111) k') ?_
      refine GoW.st (fun _ k' => XS.istore X159.here hx rfl (hb hby at_112) rfl (l' := #[.val (.int sa), .val (.long va), .second, .val (.int sb), .val (.long vb), .second, .val (.int ia), .val (.int ib), .val (.long wa), .second, .val (.long wb), .second, .val (.ref b3), .val (.ref b15), .val (.ref b117), .val (.int 1), .val (.int 0), .unset, .unset, .unset, .unset, .unset, .unset, .unset, .unset]) rfl k') ?_
      refine GoW.st (fun _ k' => XS.iload X159.here hx rfl (hb hby at_114) rfl k') ?_
      refine GoW.st (fun _ k' => XS.iconst X159.here hx rfl (hb hby at_116) k') ?_
      show GoW p e below s _ _ _ _ _ (T159.setTop (mkF m 117 #[.val (.int sa), .val (.long va), .second, .val (.int sb), .val (.long vb), .second, .val (.int ia), .val (.int ib), .val (.long wa), .second, .val (.long wb), .second, .val (.ref b3), .val (.ref b15), .val (.ref b117), .val (.int 1), .val (.int 0), .unset, .unset, .unset, .unset, .unset, .unset, .unset, .unset] [(.int 5), (.int ia)]))
      refine GoW.st (fun _ k' => XS.icmpYes X159.here hx rfl (pc0 := 117) (pc' := 124) rfl (hb hby at_117) rfl (XT.ii_ne_t khsa_1) (by decide) (by decide) k') ?_
      show GoW p e below s _ _ _ _ _ (T159.setTop (mkF m 124 #[.val (.int sa), .val (.long va), .second, .val (.int sb), .val (.long vb), .second, .val (.int ia), .val (.int ib), .val (.long wa), .second, .val (.long wb), .second, .val (.ref b3), .val (.ref b15), .val (.ref b117), .val (.int 1), .val (.int 0), .unset, .unset, .unset, .unset, .unset, .unset, .unset, .unset] []))
      refine GoW.st (fun _ k' => XS.iconst X159.here hx rfl (hb hby at_124) k') ?_
      refine GoW.st (fun _ k' => XS.istore X159.here hx rfl (hb hby at_125) rfl (l' := #[.val (.int sa), .val (.long va), .second, .val (.int sb), .val (.long vb), .second, .val (.int ia), .val (.int ib), .val (.long wa), .second, .val (.long wb), .second, .val (.ref b3), .val (.ref b15), .val (.ref b117), .val (.int 1), .val (.int 0), .val (.int 0), .unset, .unset, .unset, .unset, .unset, .unset, .unset]) rfl k') ?_
      refine GoW.st (fun _ k' => XS.iload X159.here hx rfl (hb hby at_127) rfl k') ?_
      refine GoW.st (fun _ k' => XS.iconst X159.here hx rfl (hb hby at_129) k') ?_
      show GoW p e below s _ _ _ _ _ (T159.setTop (mkF m 130 #[.val (.int sa), .val (.long va), .second, .val (.int sb), .val (.long vb), .second, .val (.int ia), .val (.int ib), .val (.long wa), .second, .val (.long wb), .second, .val (.ref b3), .val (.ref b15), .val (.ref b117), .val (.int 1), .val (.int 0), .val (.int 0), .unset, .unset, .unset, .unset, .unset, .unset, .unset] [(.int 5), (.int ib)]))
      refine GoW.st (fun _ k' => XS.icmpNo X159.here hx rfl (hb hby at_130) rfl (XT.ii_ne_f khsb_1) k') ?_
      show GoW p e below s _ _ _ _ _ (T159.setTop (mkF m 133 #[.val (.int sa), .val (.long va), .second, .val (.int sb), .val (.long vb), .second, .val (.int ia), .val (.int ib), .val (.long wa), .second, .val (.long wb), .second, .val (.ref b3), .val (.ref b15), .val (.ref b117), .val (.int 1), .val (.int 0), .val (.int 0), .unset, .unset, .unset, .unset, .unset, .unset, .unset] []))
      refine GoW.st (fun _ k' => XS.iconst X159.here hx rfl (hb hby at_133) k') ?_
      show GoW p e below s _ _ _ _ _ (T159.setTop (mkF m 134 #[.val (.int sa), .val (.long va), .second, .val (.int sb), .val (.long vb), .second, .val (.int ia), .val (.int ib), .val (.long wa), .second, .val (.long wb), .second, .val (.ref b3), .val (.ref b15), .val (.ref b117), .val (.int 1), .val (.int 0), .val (.int 0), .unset, .unset, .unset, .unset, .unset, .unset, .unset] [(.int 1)]))
      refine GoW.st (fun _ k' => XS.goto X159.here hx rfl (pc0 := 134) (pc' := 138) rfl (hb hby at_134) (by decide) (by decide) k') ?_
      show GoW p e below s _ _ _ _ _ (T159.setTop (mkF m 138 #[.val (.int sa), .val (.long va), .second, .val (.int sb), .val (.long vb), .second, .val (.int ia), .val (.int ib), .val (.long wa), .second, .val (.long wb), .second, .val (.ref b3), .val (.ref b15), .val (.ref b117), .val (.int 1), .val (.int 0), .val (.int 0), .unset, .unset, .unset, .unset, .unset, .unset, .unset] [(.int 1)]))
      refine GoW.st (fun _ k' => XS.istore X159.here hx rfl (hb hby at_138) rfl (l' := #[.val (.int sa), .val (.long va), .second, .val (.int sb), .val (.long vb), .second, .val (.int ia), .val (.int ib), .val (.long wa), .second, .val (.long wb), .second, .val (.ref b3), .val (.ref b15), .val (.ref b117), .val (.int 1), .val (.int 0), .val (.int 0), .val (.int 1), .unset, .unset, .unset, .unset, .unset, .unset]) rfl k') ?_
      refine GoW.st (fun _ k' => XS.iload X159.here hx rfl (hb hby at_140) rfl k') ?_
      show GoW p e below s _ _ _ _ _ (T159.setTop (mkF m 142 #[.val (.int sa), .val (.long va), .second, .val (.int sb), .val (.long vb), .second, .val (.int ia), .val (.int ib), .val (.long wa), .second, .val (.long wb), .second, .val (.ref b3), .val (.ref b15), .val (.ref b117), .val (.int 1), .val (.int 0), .val (.int 0), .val (.int 1), .unset, .unset, .unset, .unset, .unset, .unset] [(.int 1)]))
      refine GoW.st (fun _ k' => XS.ifNo X159.here hx rfl (hb hby at_142) rfl (XT.i0_eq_f (by decide)) k') ?_
      show GoW p e below s _ _ _ _ _ (T159.setTop (mkF m 145 #[.val (.int sa), .val (.long va), .second, .val (.int sb), .val (.long vb), .second, .val (.int ia), .val (.int ib), .val (.long wa), .second, .val (.long wb), .second, .val (.ref b3), .val (.ref b15), .val (.ref b117), .val (.int 1), .val (.int 0), .val (.int 0), .val (.int 1), .unset, .unset, .unset, .unset, .unset, .unset] []))
      refine GoW.st (fun _ k' => XS.iconst X159.here hx rfl (hb hby at_145) k') ?_
      show GoW p e below s _ _ _ _ _ (T159.setTop (mkF m 146 #[.val (.int sa), .val (.long va), .second, .val (.int sb), .val (.long vb), .second, .val (.int ia), .val (.int ib), .val (.long wa), .second, .val (.long wb), .second, .val (.ref b3), .val (.ref b15), .val (.ref b117), .val (.int 1), .val (.int 0), .val (.int 0), .val (.int 1), .unset, .unset, .unset, .unset, .unset, .unset] [(.int 1)]))
      refine GoW.st (fun _ k' => XS.goto X159.here hx rfl (pc0 := 146) (pc' := 150) rfl (hb hby at_146) (by decide) (by decide) k') ?_
      show GoW p e below s _ _ _ _ _ (T159.setTop (mkF m 150 #[.val (.int sa), .val (.long va), .second, .val (.int sb), .val (.long vb), .second, .val (.int ia), .val (.int ib), .val (.long wa), .second, .val (.long wb), .second, .val (.ref b3), .val (.ref b15), .val (.ref b117), .val (.int 1), .val (.int 0), .val (.int 0), .val (.int 1), .unset, .unset, .unset, .unset, .unset, .unset] [(.int 1)]))
      refine GoW.st (fun _ k' => XS.iload X159.here hx rfl (hb hby at_150) rfl k') ?_
      show GoW p e below s _ _ _ _ _ (T159.setTop (mkF m 152 #[.val (.int sa), .val (.long va), .second, .val (.int sb), .val (.long vb), .second, .val (.int ia), .val (.int ib), .val (.long wa), .second, .val (.long wb), .second, .val (.ref b3), .val (.ref b15), .val (.ref b117), .val (.int 1), .val (.int 0), .val (.int 0), .val (.int 1), .unset, .unset, .unset, .unset, .unset, .unset] [(.int 0), (.int 1)]))
      refine GoW.st (fun _ k' => XS.ifYes X159.here hx rfl (pc0 := 152) (pc' := 159) rfl (hb hby at_152) rfl (XT.i0_eq_t (by decide)) (by decide) (by decide) k') ?_
      show GoW p e below s _ _ _ _ _ (T159.setTop (mkF m 159 #[.val (.int sa), .val (.long va), .second, .val (.int sb), .val (.long vb), .second, .val (.int ia), .val (.int ib), .val (.long wa), .second, .val (.long wb), .second, .val (.ref b3), .val (.ref b15), .val (.ref b117), .val (.int 1), .val (.int 0), .val (.int 0), .val (.int 1), .unset, .unset, .unset, .unset, .unset, .unset] [(.int 1)]))
      refine GoW.st (fun _ k' => XS.iconst X159.here hx rfl (hb hby at_159) k') ?_
      refine GoW.st (fun _ k' => XS.iadd X159.here hx rfl (hb hby at_160) rfl k') ?_
      refine GoW.st (fun _ k' => XS.istore X159.here hx rfl (hb hby at_161) rfl (l' := #[.val (.int sa), .val (.long va), .second, .val (.int sb), .val (.long vb), .second, .val (.int ia), .val (.int ib), .val (.long wa), .second, .val (.long wb), .second, .val (.ref b3), .val (.ref b15), .val (.ref b117), .val (.int 1), .val (.int 0), .val (.int 0), .val (.int 1), .val (.int 1), .unset, .unset, .unset, .unset, .unset]) rfl k') ?_
      refine GoW.st (fun _ k' => XS.iload X159.here hx rfl (hb hby at_163) rfl k') ?_
      show GoW p e below s _ _ _ _ _ (T159.setTop (mkF m 165 #[.val (.int sa), .val (.long va), .second, .val (.int sb), .val (.long vb), .second, .val (.int ia), .val (.int ib), .val (.long wa), .second, .val (.long wb), .second, .val (.ref b3), .val (.ref b15), .val (.ref b117), .val (.int 1), .val (.int 0), .val (.int 0), .val (.int 1), .val (.int 1), .unset, .unset, .unset, .unset, .unset] [(.int 0)]))
      refine GoW.st (fun _ k' => XS.ifYes X159.here hx rfl (pc0 := 165) (pc' := 172) rfl (hb hby at_165) rfl (XT.i0_eq_t (by decide)) (by decide) (by decide) k') ?_
      show GoW p e below s _ _ _ _ _ (T159.setTop (mkF m 172 #[.val (.int sa), .val (.long va), .second, .val (.int sb), .val (.long vb), .second, .val (.int ia), .val (.int ib), .val (.long wa), .second, .val (.long wb), .second, .val (.ref b3), .val (.ref b15), .val (.ref b117), .val (.int 1), .val (.int 0), .val (.int 0), .val (.int 1), .val (.int 1), .unset, .unset, .unset, .unset, .unset] []))
      refine GoW.st (fun _ k' => XS.iconst X159.here hx rfl (hb hby at_172) k') ?_
      refine GoW.st (fun _ k' => XS.iload X159.here hx rfl (hb hby at_173) rfl k') ?_
      show GoW p e below s _ _ _ _ _ (T159.setTop (mkF m 175 #[.val (.int sa), .val (.long va), .second, .val (.int sb), .val (.long vb), .second, .val (.int ia), .val (.int ib), .val (.long wa), .second, .val (.long wb), .second, .val (.ref b3), .val (.ref b15), .val (.ref b117), .val (.int 1), .val (.int 0), .val (.int 0), .val (.int 1), .val (.int 1), .unset, .unset, .unset, .unset, .unset] [(.int 1), (.int 0)]))
      refine GoW.st (fun _ k' => XS.ifNo X159.here hx rfl (hb hby at_175) rfl (XT.i0_eq_f (by decide)) k') ?_
      show GoW p e below s _ _ _ _ _ (T159.setTop (mkF m 178 #[.val (.int sa), .val (.long va), .second, .val (.int sb), .val (.long vb), .second, .val (.int ia), .val (.int ib), .val (.long wa), .second, .val (.long wb), .second, .val (.ref b3), .val (.ref b15), .val (.ref b117), .val (.int 1), .val (.int 0), .val (.int 0), .val (.int 1), .val (.int 1), .unset, .unset, .unset, .unset, .unset] [(.int 0)]))
      refine GoW.st (fun _ k' => XS.iconst X159.here hx rfl (hb hby at_178) k') ?_
      show GoW p e below s _ _ _ _ _ (T159.setTop (mkF m 179 #[.val (.int sa), .val (.long va), .second, .val (.int sb), .val (.long vb), .second, .val (.int ia), .val (.int ib), .val (.long wa), .second, .val (.long wb), .second, .val (.ref b3), .val (.ref b15), .val (.ref b117), .val (.int 1), .val (.int 0), .val (.int 0), .val (.int 1), .val (.int 1), .unset, .unset, .unset, .unset, .unset] [(.int 1), (.int 0)]))
      refine GoW.st (fun _ k' => XS.goto X159.here hx rfl (pc0 := 179) (pc' := 183) rfl (hb hby at_179) (by decide) (by decide) k') ?_
      show GoW p e below s _ _ _ _ _ (T159.setTop (mkF m 183 #[.val (.int sa), .val (.long va), .second, .val (.int sb), .val (.long vb), .second, .val (.int ia), .val (.int ib), .val (.long wa), .second, .val (.long wb), .second, .val (.ref b3), .val (.ref b15), .val (.ref b117), .val (.int 1), .val (.int 0), .val (.int 0), .val (.int 1), .val (.int 1), .unset, .unset, .unset, .unset, .unset] [(.int 1), (.int 0)]))
      refine GoW.st (fun _ k' => XS.iadd X159.here hx rfl (hb hby at_183) rfl k') ?_
      refine GoW.st (fun _ k' => XS.istore X159.here hx rfl (hb hby at_184) rfl (l' := #[.val (.int sa), .val (.long va), .second, .val (.int sb), .val (.long vb), .second, .val (.int ia), .val (.int ib), .val (.long wa), .second, .val (.long wb), .second, .val (.ref b3), .val (.ref b15), .val (.ref b117), .val (.int 1), .val (.int 0), .val (.int 0), .val (.int 1), .val (.int 1), .val (.int 1), .unset, .unset, .unset, .unset]) rfl k') ?_
      refine GoW.st (fun _ k' => XS.iload X159.here hx rfl (hb hby at_186) rfl k') ?_
      show GoW p e below s _ _ _ _ _ (T159.setTop (mkF m 188 #[.val (.int sa), .val (.long va), .second, .val (.int sb), .val (.long vb), .second, .val (.int ia), .val (.int ib), .val (.long wa), .second, .val (.long wb), .second, .val (.ref b3), .val (.ref b15), .val (.ref b117), .val (.int 1), .val (.int 0), .val (.int 0), .val (.int 1), .val (.int 1), .val (.int 1), .unset, .unset, .unset, .unset] [(.int 1)]))
      refine GoW.st (fun _ k' => XS.ifNo X159.here hx rfl (hb hby at_188) rfl (XT.i0_eq_f (by decide)) k') ?_
      show GoW p e below s _ _ _ _ _ (T159.setTop (mkF m 191 #[.val (.int sa), .val (.long va), .second, .val (.int sb), .val (.long vb), .second, .val (.int ia), .val (.int ib), .val (.long wa), .second, .val (.long wb), .second, .val (.ref b3), .val (.ref b15), .val (.ref b117), .val (.int 1), .val (.int 0), .val (.int 0), .val (.int 1), .val (.int 1), .val (.int 1), .unset, .unset, .unset, .unset] []))
      refine GoW.st (fun _ k' => XS.lload X159.here hx rfl (hb hby at_191) rfl k') ?_
      show GoW p e below s _ _ _ _ _ (T159.setTop (mkF m 193 #[.val (.int sa), .val (.long va), .second, .val (.int sb), .val (.long vb), .second, .val (.int ia), .val (.int ib), .val (.long wa), .second, .val (.long wb), .second, .val (.ref b3), .val (.ref b15), .val (.ref b117), .val (.int 1), .val (.int 0), .val (.int 0), .val (.int 1), .val (.int 1), .val (.int 1), .unset, .unset, .unset, .unset] [(.long wa)]))
      refine GoW.st (fun _ k' => XS.goto X159.here hx rfl (pc0 := 193) (pc' := 197) rfl (hb hby at_193) (by decide) (by decide) k') ?_
      show GoW p e below s _ _ _ _ _ (T159.setTop (mkF m 197 #[.val (.int sa), .val (.long va), .second, .val (.int sb), .val (.long vb), .second, .val (.int ia), .val (.int ib), .val (.long wa), .second, .val (.long wb), .second, .val (.ref b3), .val (.ref b15), .val (.ref b117), .val (.int 1), .val (.int 0), .val (.int 0), .val (.int 1), .val (.int 1), .val (.int 1), .unset, .unset, .unset, .unset] [(.long wa)]))
      refine GoW.st (fun _ k' => XS.iload X159.here hx rfl (hb hby at_197) rfl k') ?_
      show GoW p e below s _ _ _ _ _ (T159.setTop (mkF m 199 #[.val (.int sa), .val (.long va), .second, .val (.int sb), .val (.long vb), .second, .val (.int ia), .val (.int ib), .val (.long wa), .second, .val (.long wb), .second, .val (.ref b3), .val (.ref b15), .val (.ref b117), .val (.int 1), .val (.int 0), .val (.int 0), .val (.int 1), .val (.int 1), .val (.int 1), .unset, .unset, .unset, .unset] [(.int 0), (.long wa)]))
      refine GoW.st (fun _ k' => XS.ifYes X159.here hx rfl (pc0 := 199) (pc' := 207) rfl (hb hby at_199) rfl (XT.i0_eq_t (by decide)) (by decide) (by decide) k') ?_
      show GoW p e below s _ _ _ _ _ (T159.setTop (mkF m 207 #[.val (.int sa), .val (.long va), .second, .val (.int sb), .val (.long vb), .second, .val (.int ia), .val (.int ib), .val (.long wa), .second, .val (.long wb), .second, .val (.ref b3), .val (.ref b15), .val (.ref b117), .val (.int 1), .val (.int 0), .val (.int 0), .val (.int 1), .val (.int 1), .val (.int 1), .unset, .unset, .unset, .unset] [(.long wa)]))
      refine GoW.st (fun _ k' => XS.lconst X159.here hx rfl (hb hby at_207) k') ?_
      refine GoW.st (fun _ k' => XS.ladd X159.here hx rfl (hb hby at_208) rfl k') ?_
      refine GoW.st (fun _ k' => XS.lstore X159.here hx rfl (hb hby at_209) rfl (l' := #[.val (.int sa), .val (.long va), .second, .val (.int sb), .val (.long vb), .second, .val (.int ia), .val (.int ib), .val (.long wa), .second, .val (.long wb), .second, .val (.ref b3), .val (.ref b15), .val (.ref b117), .val (.int 1), .val (.int 0), .val (.int 0), .val (.int 1), .val (.int 1), .val (.int 1), .val (.long (wa + (0 : Int64))), .second, .unset, .unset]) rfl k') ?_
      refine GoW.st (fun _ k' => XS.iload X159.here hx rfl (hb hby at_211) rfl k') ?_
      show GoW p e below s _ _ _ _ _ (T159.setTop (mkF m 213 #[.val (.int sa), .val (.long va), .second, .val (.int sb), .val (.long vb), .second, .val (.int ia), .val (.int ib), .val (.long wa), .second, .val (.long wb), .second, .val (.ref b3), .val (.ref b15), .val (.ref b117), .val (.int 1), .val (.int 0), .val (.int 0), .val (.int 1), .val (.int 1), .val (.int 1), .val (.long (wa + (0 : Int64))), .second, .unset, .unset] [(.int 0)]))
      refine GoW.st (fun _ k' => XS.ifYes X159.here hx rfl (pc0 := 213) (pc' := 221) rfl (hb hby at_213) rfl (XT.i0_eq_t (by decide)) (by decide) (by decide) k') ?_
      show GoW p e below s _ _ _ _ _ (T159.setTop (mkF m 221 #[.val (.int sa), .val (.long va), .second, .val (.int sb), .val (.long vb), .second, .val (.int ia), .val (.int ib), .val (.long wa), .second, .val (.long wb), .second, .val (.ref b3), .val (.ref b15), .val (.ref b117), .val (.int 1), .val (.int 0), .val (.int 0), .val (.int 1), .val (.int 1), .val (.int 1), .val (.long (wa + (0 : Int64))), .second, .unset, .unset] []))
      refine GoW.st (fun _ k' => XS.lconst X159.here hx rfl (hb hby at_221) k') ?_
      refine GoW.st (fun _ k' => XS.iload X159.here hx rfl (hb hby at_222) rfl k') ?_
      show GoW p e below s _ _ _ _ _ (T159.setTop (mkF m 224 #[.val (.int sa), .val (.long va), .second, .val (.int sb), .val (.long vb), .second, .val (.int ia), .val (.int ib), .val (.long wa), .second, .val (.long wb), .second, .val (.ref b3), .val (.ref b15), .val (.ref b117), .val (.int 1), .val (.int 0), .val (.int 0), .val (.int 1), .val (.int 1), .val (.int 1), .val (.long (wa + (0 : Int64))), .second, .unset, .unset] [(.int 1), (.long 0)]))
      refine GoW.st (fun _ k' => XS.ifNo X159.here hx rfl (hb hby at_224) rfl (XT.i0_eq_f (by decide)) k') ?_
      show GoW p e below s _ _ _ _ _ (T159.setTop (mkF m 227 #[.val (.int sa), .val (.long va), .second, .val (.int sb), .val (.long vb), .second, .val (.int ia), .val (.int ib), .val (.long wa), .second, .val (.long wb), .second, .val (.ref b3), .val (.ref b15), .val (.ref b117), .val (.int 1), .val (.int 0), .val (.int 0), .val (.int 1), .val (.int 1), .val (.int 1), .val (.long (wa + (0 : Int64))), .second, .unset, .unset] [(.long 0)]))
      refine GoW.st (fun _ k' => XS.lload X159.here hx rfl (hb hby at_227) rfl k') ?_
      show GoW p e below s _ _ _ _ _ (T159.setTop (mkF m 229 #[.val (.int sa), .val (.long va), .second, .val (.int sb), .val (.long vb), .second, .val (.int ia), .val (.int ib), .val (.long wa), .second, .val (.long wb), .second, .val (.ref b3), .val (.ref b15), .val (.ref b117), .val (.int 1), .val (.int 0), .val (.int 0), .val (.int 1), .val (.int 1), .val (.int 1), .val (.long (wa + (0 : Int64))), .second, .unset, .unset] [(.long wb), (.long 0)]))
      refine GoW.st (fun _ k' => XS.goto X159.here hx rfl (pc0 := 229) (pc' := 233) rfl (hb hby at_229) (by decide) (by decide) k') ?_
      show GoW p e below s _ _ _ _ _ (T159.setTop (mkF m 233 #[.val (.int sa), .val (.long va), .second, .val (.int sb), .val (.long vb), .second, .val (.int ia), .val (.int ib), .val (.long wa), .second, .val (.long wb), .second, .val (.ref b3), .val (.ref b15), .val (.ref b117), .val (.int 1), .val (.int 0), .val (.int 0), .val (.int 1), .val (.int 1), .val (.int 1), .val (.long (wa + (0 : Int64))), .second, .unset, .unset] [(.long wb), (.long 0)]))
      refine GoW.st (fun _ k' => XS.ladd X159.here hx rfl (hb hby at_233) rfl k') ?_
      refine GoW.st (fun _ k' => XS.lstore X159.here hx rfl (hb hby at_234) rfl (l' := #[.val (.int sa), .val (.long va), .second, .val (.int sb), .val (.long vb), .second, .val (.int ia), .val (.int ib), .val (.long wa), .second, .val (.long wb), .second, .val (.ref b3), .val (.ref b15), .val (.ref b117), .val (.int 1), .val (.int 0), .val (.int 0), .val (.int 1), .val (.int 1), .val (.int 1), .val (.long (wa + (0 : Int64))), .second, .val (.long ((0 : Int64) + wb)), .second]) rfl k') ?_
      refine GoW.st (fun _ k' => XS.aload X159.here hx rfl (hb hby at_236) rfl rfl k') ?_
      show GoW p e below s _ _ _ _ _ (T159.setTop (mkF m 238 #[.val (.int sa), .val (.long va), .second, .val (.int sb), .val (.long vb), .second, .val (.int ia), .val (.int ib), .val (.long wa), .second, .val (.long wb), .second, .val (.ref b3), .val (.ref b15), .val (.ref b117), .val (.int 1), .val (.int 0), .val (.int 0), .val (.int 1), .val (.int 1), .val (.int 1), .val (.long (wa + (0 : Int64))), .second, .val (.long ((0 : Int64) + wb)), .second] [(.ref b117)]))
      obtain ⟨cq178, kq178, q178a, q178b, q178c⟩ := isOf hZ106 rfl f177
      obtain ⟨_, _, ⟨T178, L178, k178, n178⟩, -, X178, ⟨Lc178, hQ178, l178, y178, z178⟩, st178⟩ := X159.virtualBack hx (y := mn1) (z := mn1) hown106 (mvT hZ106 (wdx hw 93 rfl)) (mvT hZ106 (wdx hw 94 rfl)) (notFace_of_selects (args := #[]) (mvT hZ106 (wdx hw 96 rfl))) (mvT hZ106 (wdx hw 96 rfl)) (mvT hZ106 (wdx hw 95 rfl)) (by decide) (backOf (W := 0) (rm14 l Z a0 hw [] b117 (((0 : Int32) + (1 : Int32)) + (1 : Int32)) T159.heap n0 O159 f160) hZ106 (wdx hw 97 rfl) (wdx hw 54 rfl) (by decide) (by decide)) q178a q178c (g := (mkF m 238 #[.val (.int sa), .val (.long va), .second, .val (.int sb), .val (.long vb), .second, .val (.int ia), .val (.int ib), .val (.long wa), .second, .val (.long wb), .second, .val (.ref b3), .val (.ref b15), .val (.ref b117), .val (.int 1), .val (.int 0), .val (.int 0), .val (.int 1), .val (.int 1), .val (.int 1), .val (.long (wa + (0 : Int64))), .second, .val (.long ((0 : Int64) + wb)), .second] [(.ref b117)])) rfl (by rw [hml]; rfl) (Steps.refl _) (argsL := []) (rest := []) (lenOf pd___I rfl) rfl (by show 2 * 0 + _ ≤ _; exact Nat.le_of_eq rfl) (hb hby at_238) (fun _ _ => ⟨rfl, rfl, (by exact lee rfl), (by exact lee rfl)⟩)
      dsimp only [Pt.U, Pt.locs, Pt.cells, Pt.slots] at X178 l178 y178 z178 st178 hQ178
      subst l178 y178 z178
      obtain ⟨rfl, Nq178, eq178⟩ := hQ178
      have N178 := Fr.app N159 Nq178
      refine GoW.tr st178 ?_
      show GoW p e below s _ _ _ _ _ (T178.setTop (mkF m 241 #[.val (.int sa), .val (.long va), .second, .val (.int sb), .val (.long vb), .second, .val (.int ia), .val (.int ib), .val (.long wa), .second, .val (.long wb), .second, .val (.ref b3), .val (.ref b15), .val (.ref b117), .val (.int 1), .val (.int 0), .val (.int 0), .val (.int 1), .val (.int 1), .val (.int 1), .val (.long (wa + (0 : Int64))), .second, .val (.long ((0 : Int64) + wb)), .second] [(.int (((0 : Int32) + (1 : Int32)) + (1 : Int32)))]))
      refine GoW.st (fun _ k' => XS.iconst X178.here hx rfl (hb hby at_241) k') ?_
      show GoW p e below s _ _ _ _ _ (T178.setTop (mkF m 242 #[.val (.int sa), .val (.long va), .second, .val (.int sb), .val (.long vb), .second, .val (.int ia), .val (.int ib), .val (.long wa), .second, .val (.long wb), .second, .val (.ref b3), .val (.ref b15), .val (.ref b117), .val (.int 1), .val (.int 0), .val (.int 0), .val (.int 1), .val (.int 1), .val (.int 1), .val (.long (wa + (0 : Int64))), .second, .val (.long ((0 : Int64) + wb)), .second] [(.int 2), (.int (((0 : Int32) + (1 : Int32)) + (1 : Int32)))]))
      refine GoW.st (fun _ k' => XS.icmpNo X178.here hx rfl (hb hby at_242) rfl (XT.ii_ne_f (by simp [own_one])) k') ?_
      show GoW p e below s _ _ _ _ _ (T178.setTop (mkF m 245 #[.val (.int sa), .val (.long va), .second, .val (.int sb), .val (.long vb), .second, .val (.int ia), .val (.int ib), .val (.long wa), .second, .val (.long wb), .second, .val (.ref b3), .val (.ref b15), .val (.ref b117), .val (.int 1), .val (.int 0), .val (.int 0), .val (.int 1), .val (.int 1), .val (.int 1), .val (.long (wa + (0 : Int64))), .second, .val (.long ((0 : Int64) + wb)), .second] []))
      refine GoW.st (fun _ k' => XS.aload X178.here hx rfl (hb hby at_245) rfl rfl k') ?_
      show GoW p e below s _ _ _ _ _ (T178.setTop (mkF m 247 #[.val (.int sa), .val (.long va), .second, .val (.int sb), .val (.long vb), .second, .val (.int ia), .val (.int ib), .val (.long wa), .second, .val (.long wb), .second, .val (.ref b3), .val (.ref b15), .val (.ref b117), .val (.int 1), .val (.int 0), .val (.int 0), .val (.int 1), .val (.int 1), .val (.int 1), .val (.long (wa + (0 : Int64))), .second, .val (.long ((0 : Int64) + wb)), .second] [(.ref b117)]))
      obtain ⟨cq179, kq179, q179a, q179b, q179c⟩ := isOf hZ106 eq178 f177
      obtain ⟨_, _, ⟨T179, L179, k179, n179⟩, -, X179, ⟨Lc179, hQ179, l179, y179, z179⟩, st179⟩ := X178.virtualBack hx (y := mn2) (z := mn2) hown106 (mvT hZ106 (wdx hw 98 rfl)) (mvT hZ106 (wdx hw 99 rfl)) (notFace_of_selects (args := #[]) (mvT hZ106 (wdx hw 101 rfl))) (mvT hZ106 (wdx hw 101 rfl)) (mvT hZ106 (wdx hw 100 rfl)) (by decide) (backOf (W := 0) (rm15 l Z a0 hw [] b117 ((0 : Int32) + (1 : Int32)) T159.heap n0 O159 f161) hZ106 (wdx hw 102 rfl) (wdx hw 54 rfl) (by decide) (by decide)) q179a q179c (g := (mkF m 247 #[.val (.int sa), .val (.long va), .second, .val (.int sb), .val (.long vb), .second, .val (.int ia), .val (.int ib), .val (.long wa), .second, .val (.long wb), .second, .val (.ref b3), .val (.ref b15), .val (.ref b117), .val (.int 1), .val (.int 0), .val (.int 0), .val (.int 1), .val (.int 1), .val (.int 1), .val (.long (wa + (0 : Int64))), .second, .val (.long ((0 : Int64) + wb)), .second] [(.ref b117)])) rfl (by rw [hml]; rfl) (Steps.refl _) (argsL := []) (rest := []) (lenOf pd___I rfl) rfl (by show 2 * 0 + _ ≤ _; exact Nat.le_of_eq rfl) (hb hby at_247) (fun _ _ => ⟨rfl, eq178, (by exact lee rfl), (by exact lee rfl)⟩)
      dsimp only [Pt.U, Pt.locs, Pt.cells, Pt.slots] at X179 l179 y179 z179 st179 hQ179
      subst l179 y179 z179
      obtain ⟨rfl, Nq179, eq179⟩ := hQ179
      have N179 := Fr.app N178 Nq179
      refine GoW.tr st179 ?_
      show GoW p e below s _ _ _ _ _ (T179.setTop (mkF m 250 #[.val (.int sa), .val (.long va), .second, .val (.int sb), .val (.long vb), .second, .val (.int ia), .val (.int ib), .val (.long wa), .second, .val (.long wb), .second, .val (.ref b3), .val (.ref b15), .val (.ref b117), .val (.int 1), .val (.int 0), .val (.int 0), .val (.int 1), .val (.int 1), .val (.int 1), .val (.long (wa + (0 : Int64))), .second, .val (.long ((0 : Int64) + wb)), .second] [(.int ((0 : Int32) + (1 : Int32)))]))
      refine GoW.st (fun _ k' => XS.iload X179.here hx rfl (hb hby at_250) rfl k') ?_
      show GoW p e below s _ _ _ _ _ (T179.setTop (mkF m 252 #[.val (.int sa), .val (.long va), .second, .val (.int sb), .val (.long vb), .second, .val (.int ia), .val (.int ib), .val (.long wa), .second, .val (.long wb), .second, .val (.ref b3), .val (.ref b15), .val (.ref b117), .val (.int 1), .val (.int 0), .val (.int 0), .val (.int 1), .val (.int 1), .val (.int 1), .val (.long (wa + (0 : Int64))), .second, .val (.long ((0 : Int64) + wb)), .second] [(.int 1), (.int ((0 : Int32) + (1 : Int32)))]))
      refine GoW.st (fun _ k' => XS.icmpNo X179.here hx rfl (hb hby at_252) rfl (XT.ii_ne_f (by simp [own_one])) k') ?_
      show GoW p e below s _ _ _ _ _ (T179.setTop (mkF m 255 #[.val (.int sa), .val (.long va), .second, .val (.int sb), .val (.long vb), .second, .val (.int ia), .val (.int ib), .val (.long wa), .second, .val (.long wb), .second, .val (.ref b3), .val (.ref b15), .val (.ref b117), .val (.int 1), .val (.int 0), .val (.int 0), .val (.int 1), .val (.int 1), .val (.int 1), .val (.long (wa + (0 : Int64))), .second, .val (.long ((0 : Int64) + wb)), .second] []))
      refine GoW.st (fun _ k' => XS.aload X179.here hx rfl (hb hby at_255) rfl rfl k') ?_
      show GoW p e below s _ _ _ _ _ (T179.setTop (mkF m 257 #[.val (.int sa), .val (.long va), .second, .val (.int sb), .val (.long vb), .second, .val (.int ia), .val (.int ib), .val (.long wa), .second, .val (.long wb), .second, .val (.ref b3), .val (.ref b15), .val (.ref b117), .val (.int 1), .val (.int 0), .val (.int 0), .val (.int 1), .val (.int 1), .val (.int 1), .val (.long (wa + (0 : Int64))), .second, .val (.long ((0 : Int64) + wb)), .second] [(.ref b117)]))
      obtain ⟨cq180, kq180, q180a, q180b, q180c⟩ := isOf hZ106 eq179 f177
      obtain ⟨_, _, ⟨T180, L180, k180, n180⟩, -, X180, ⟨Lc180, hQ180, l180, y180, z180⟩, st180⟩ := X179.virtualBack hx (y := mn3) (z := mn3) hown106 (mvT hZ106 (wdx hw 103 rfl)) (mvT hZ106 (wdx hw 104 rfl)) (notFace_of_selects (args := #[]) (mvT hZ106 (wdx hw 106 rfl))) (mvT hZ106 (wdx hw 106 rfl)) (mvT hZ106 (wdx hw 105 rfl)) (by decide) (backOf (W := 0) (rm16 l Z a0 hw [] b117 ((0 : Int32) + (1 : Int32)) T159.heap n0 O159 f162) hZ106 (wdx hw 107 rfl) (wdx hw 54 rfl) (by decide) (by decide)) q180a q180c (g := (mkF m 257 #[.val (.int sa), .val (.long va), .second, .val (.int sb), .val (.long vb), .second, .val (.int ia), .val (.int ib), .val (.long wa), .second, .val (.long wb), .second, .val (.ref b3), .val (.ref b15), .val (.ref b117), .val (.int 1), .val (.int 0), .val (.int 0), .val (.int 1), .val (.int 1), .val (.int 1), .val (.long (wa + (0 : Int64))), .second, .val (.long ((0 : Int64) + wb)), .second] [(.ref b117)])) rfl (by rw [hml]; rfl) (Steps.refl _) (argsL := []) (rest := []) (lenOf pd___I rfl) rfl (by show 2 * 0 + _ ≤ _; exact Nat.le_of_eq rfl) (hb hby at_257) (fun _ _ => ⟨rfl, eq179, (by exact lee rfl), (by exact lee rfl)⟩)
      dsimp only [Pt.U, Pt.locs, Pt.cells, Pt.slots] at X180 l180 y180 z180 st180 hQ180
      subst l180 y180 z180
      obtain ⟨rfl, Nq180, eq180⟩ := hQ180
      have N180 := Fr.app N179 Nq180
      refine GoW.tr st180 ?_
      show GoW p e below s _ _ _ _ _ (T180.setTop (mkF m 260 #[.val (.int sa), .val (.long va), .second, .val (.int sb), .val (.long vb), .second, .val (.int ia), .val (.int ib), .val (.long wa), .second, .val (.long wb), .second, .val (.ref b3), .val (.ref b15), .val (.ref b117), .val (.int 1), .val (.int 0), .val (.int 0), .val (.int 1), .val (.int 1), .val (.int 1), .val (.long (wa + (0 : Int64))), .second, .val (.long ((0 : Int64) + wb)), .second] [(.int ((0 : Int32) + (1 : Int32)))]))
      refine GoW.st (fun _ k' => XS.iload X180.here hx rfl (hb hby at_260) rfl k') ?_
      show GoW p e below s _ _ _ _ _ (T180.setTop (mkF m 262 #[.val (.int sa), .val (.long va), .second, .val (.int sb), .val (.long vb), .second, .val (.int ia), .val (.int ib), .val (.long wa), .second, .val (.long wb), .second, .val (.ref b3), .val (.ref b15), .val (.ref b117), .val (.int 1), .val (.int 0), .val (.int 0), .val (.int 1), .val (.int 1), .val (.int 1), .val (.long (wa + (0 : Int64))), .second, .val (.long ((0 : Int64) + wb)), .second] [(.int 1), (.int ((0 : Int32) + (1 : Int32)))]))
      refine GoW.st (fun _ k' => XS.icmpNo X180.here hx rfl (hb hby at_262) rfl (XT.ii_ne_f (by simp [own_one])) k') ?_
      show GoW p e below s _ _ _ _ _ (T180.setTop (mkF m 265 #[.val (.int sa), .val (.long va), .second, .val (.int sb), .val (.long vb), .second, .val (.int ia), .val (.int ib), .val (.long wa), .second, .val (.long wb), .second, .val (.ref b3), .val (.ref b15), .val (.ref b117), .val (.int 1), .val (.int 0), .val (.int 0), .val (.int 1), .val (.int 1), .val (.int 1), .val (.long (wa + (0 : Int64))), .second, .val (.long ((0 : Int64) + wb)), .second] []))
      refine GoW.st (fun _ k' => XS.aload X180.here hx rfl (hb hby at_265) rfl rfl k') ?_
      show GoW p e below s _ _ _ _ _ (T180.setTop (mkF m 267 #[.val (.int sa), .val (.long va), .second, .val (.int sb), .val (.long vb), .second, .val (.int ia), .val (.int ib), .val (.long wa), .second, .val (.long wb), .second, .val (.ref b3), .val (.ref b15), .val (.ref b117), .val (.int 1), .val (.int 0), .val (.int 0), .val (.int 1), .val (.int 1), .val (.int 1), .val (.long (wa + (0 : Int64))), .second, .val (.long ((0 : Int64) + wb)), .second] [(.ref b117)]))
      obtain ⟨cq181, kq181, q181a, q181b, q181c⟩ := isOf hZ106 eq180 f177
      obtain ⟨_, _, ⟨T181, L181, k181, n181⟩, -, X181, ⟨Lc181, hQ181, l181, y181, z181⟩, st181⟩ := X180.virtualBack hx (y := mn4) (z := mn4) hown106 (mvT hZ106 (wdx hw 110 rfl)) (mvT hZ106 (wdx hw 111 rfl)) (notFace_of_selects (args := #[]) (mvT hZ106 (wdx hw 113 rfl))) (mvT hZ106 (wdx hw 113 rfl)) (mvT hZ106 (wdx hw 112 rfl)) (by decide) (backOf (W := 0) (rm17 l Z a0 hw [] b117 (((0 : Int64) + (((1 : Int32).toInt64) * wa)) + (((1 : Int32).toInt64) * wb)) T159.heap n0 O159 f163) hZ106 (wdx hw 114 rfl) (wdx hw 54 rfl) (by decide) (by decide)) q181a q181c (g := (mkF m 267 #[.val (.int sa), .val (.long va), .second, .val (.int sb), .val (.long vb), .second, .val (.int ia), .val (.int ib), .val (.long wa), .second, .val (.long wb), .second, .val (.ref b3), .val (.ref b15), .val (.ref b117), .val (.int 1), .val (.int 0), .val (.int 0), .val (.int 1), .val (.int 1), .val (.int 1), .val (.long (wa + (0 : Int64))), .second, .val (.long ((0 : Int64) + wb)), .second] [(.ref b117)])) rfl (by rw [hml]; rfl) (Steps.refl _) (argsL := []) (rest := []) (lenOf pd___J rfl) rfl (by show 2 * 0 + _ ≤ _; exact Nat.le_of_eq rfl) (hb hby at_267) (fun _ _ => ⟨rfl, eq180, (by exact lee rfl), (by exact lee rfl)⟩)
      dsimp only [Pt.U, Pt.locs, Pt.cells, Pt.slots] at X181 l181 y181 z181 st181 hQ181
      subst l181 y181 z181
      obtain ⟨rfl, Nq181, eq181⟩ := hQ181
      have N181 := Fr.app N180 Nq181
      refine GoW.tr st181 ?_
      show GoW p e below s _ _ _ _ _ (T181.setTop (mkF m 270 #[.val (.int sa), .val (.long va), .second, .val (.int sb), .val (.long vb), .second, .val (.int ia), .val (.int ib), .val (.long wa), .second, .val (.long wb), .second, .val (.ref b3), .val (.ref b15), .val (.ref b117), .val (.int 1), .val (.int 0), .val (.int 0), .val (.int 1), .val (.int 1), .val (.int 1), .val (.long (wa + (0 : Int64))), .second, .val (.long ((0 : Int64) + wb)), .second] [(.long (((0 : Int64) + (((1 : Int32).toInt64) * wa)) + (((1 : Int32).toInt64) * wb)))]))
      refine GoW.st (fun _ k' => XS.lload X181.here hx rfl (hb hby at_270) rfl k') ?_
      refine GoW.st (fun _ k' => XS.lload X181.here hx rfl (hb hby at_272) rfl k') ?_
      refine GoW.st (fun _ k' => XS.ladd X181.here hx rfl (hb hby at_274) rfl k') ?_
      show GoW p e below s _ _ _ _ _ (T181.setTop (mkF m 275 #[.val (.int sa), .val (.long va), .second, .val (.int sb), .val (.long vb), .second, .val (.int ia), .val (.int ib), .val (.long wa), .second, .val (.long wb), .second, .val (.ref b3), .val (.ref b15), .val (.ref b117), .val (.int 1), .val (.int 0), .val (.int 0), .val (.int 1), .val (.int 1), .val (.int 1), .val (.long (wa + (0 : Int64))), .second, .val (.long ((0 : Int64) + wb)), .second] [(.long (wa + wb)), (.long (((0 : Int64) + (((1 : Int32).toInt64) * wa)) + (((1 : Int32).toInt64) * wb)))]))
      refine GoW.st (fun _ k' => XT.lcmp X181.here hx rfl (hb hby at_275) rfl k') ?_
      show GoW p e below s _ _ _ _ _ (T181.setTop (mkF m 276 #[.val (.int sa), .val (.long va), .second, .val (.int sb), .val (.long vb), .second, .val (.int ia), .val (.int ib), .val (.long wa), .second, .val (.long wb), .second, .val (.ref b3), .val (.ref b15), .val (.ref b117), .val (.int 1), .val (.int 0), .val (.int 0), .val (.int 1), .val (.int 1), .val (.int 1), .val (.long (wa + (0 : Int64))), .second, .val (.long ((0 : Int64) + wb)), .second] [(.int (XT.cmpL (((0 : Int64) + (((1 : Int32).toInt64) * wa)) + (((1 : Int32).toInt64) * wb)) (wa + wb)))]))
      refine GoW.st (fun _ k' => XS.ifNo X181.here hx rfl (hb hby at_276) rfl (XT.ll_ne_f (by simp [own_one])) k') ?_
      show GoW p e below s _ _ _ _ _ (T181.setTop (mkF m 279 #[.val (.int sa), .val (.long va), .second, .val (.int sb), .val (.long vb), .second, .val (.int ia), .val (.int ib), .val (.long wa), .second, .val (.long wb), .second, .val (.ref b3), .val (.ref b15), .val (.ref b117), .val (.int 1), .val (.int 0), .val (.int 0), .val (.int 1), .val (.int 1), .val (.int 1), .val (.long (wa + (0 : Int64))), .second, .val (.long ((0 : Int64) + wb)), .second] []))
      refine GoW.st (fun _ k' => XS.aload X181.here hx rfl (hb hby at_279) rfl rfl k') ?_
      show GoW p e below s _ _ _ _ _ (T181.setTop (mkF m 281 #[.val (.int sa), .val (.long va), .second, .val (.int sb), .val (.long vb), .second, .val (.int ia), .val (.int ib), .val (.long wa), .second, .val (.long wb), .second, .val (.ref b3), .val (.ref b15), .val (.ref b117), .val (.int 1), .val (.int 0), .val (.int 0), .val (.int 1), .val (.int 1), .val (.int 1), .val (.long (wa + (0 : Int64))), .second, .val (.long ((0 : Int64) + wb)), .second] [(.ref b117)]))
      obtain ⟨cq182, kq182, q182a, q182b, q182c⟩ := isOf hZ106 eq181 f177
      obtain ⟨_, _, ⟨T182, L182, k182, n182⟩, -, X182, ⟨Lc182, hQ182, l182, y182, z182⟩, st182⟩ := X181.virtualBack hx (y := mn5) (z := mn5) hown106 (mvT hZ106 (wdx hw 115 rfl)) (mvT hZ106 (wdx hw 116 rfl)) (notFace_of_selects (args := #[]) (mvT hZ106 (wdx hw 118 rfl))) (mvT hZ106 (wdx hw 118 rfl)) (mvT hZ106 (wdx hw 117 rfl)) (by decide) (backOf (W := 0) (rm18 l Z a0 hw [] b117 ((0 : Int64) + (((1 : Int32).toInt64) * wa)) T159.heap n0 O159 f164) hZ106 (wdx hw 119 rfl) (wdx hw 54 rfl) (by decide) (by decide)) q182a q182c (g := (mkF m 281 #[.val (.int sa), .val (.long va), .second, .val (.int sb), .val (.long vb), .second, .val (.int ia), .val (.int ib), .val (.long wa), .second, .val (.long wb), .second, .val (.ref b3), .val (.ref b15), .val (.ref b117), .val (.int 1), .val (.int 0), .val (.int 0), .val (.int 1), .val (.int 1), .val (.int 1), .val (.long (wa + (0 : Int64))), .second, .val (.long ((0 : Int64) + wb)), .second] [(.ref b117)])) rfl (by rw [hml]; rfl) (Steps.refl _) (argsL := []) (rest := []) (lenOf pd___J rfl) rfl (by show 2 * 0 + _ ≤ _; exact Nat.le_of_eq rfl) (hb hby at_281) (fun _ _ => ⟨rfl, eq181, (by exact lee rfl), (by exact lee rfl)⟩)
      dsimp only [Pt.U, Pt.locs, Pt.cells, Pt.slots] at X182 l182 y182 z182 st182 hQ182
      subst l182 y182 z182
      obtain ⟨rfl, Nq182, eq182⟩ := hQ182
      have N182 := Fr.app N181 Nq182
      refine GoW.tr st182 ?_
      show GoW p e below s _ _ _ _ _ (T182.setTop (mkF m 284 #[.val (.int sa), .val (.long va), .second, .val (.int sb), .val (.long vb), .second, .val (.int ia), .val (.int ib), .val (.long wa), .second, .val (.long wb), .second, .val (.ref b3), .val (.ref b15), .val (.ref b117), .val (.int 1), .val (.int 0), .val (.int 0), .val (.int 1), .val (.int 1), .val (.int 1), .val (.long (wa + (0 : Int64))), .second, .val (.long ((0 : Int64) + wb)), .second] [(.long ((0 : Int64) + (((1 : Int32).toInt64) * wa)))]))
      refine GoW.st (fun _ k' => XS.lload X182.here hx rfl (hb hby at_284) rfl k') ?_
      show GoW p e below s _ _ _ _ _ (T182.setTop (mkF m 286 #[.val (.int sa), .val (.long va), .second, .val (.int sb), .val (.long vb), .second, .val (.int ia), .val (.int ib), .val (.long wa), .second, .val (.long wb), .second, .val (.ref b3), .val (.ref b15), .val (.ref b117), .val (.int 1), .val (.int 0), .val (.int 0), .val (.int 1), .val (.int 1), .val (.int 1), .val (.long (wa + (0 : Int64))), .second, .val (.long ((0 : Int64) + wb)), .second] [(.long (wa + (0 : Int64))), (.long ((0 : Int64) + (((1 : Int32).toInt64) * wa)))]))
      refine GoW.st (fun _ k' => XT.lcmp X182.here hx rfl (hb hby at_286) rfl k') ?_
      show GoW p e below s _ _ _ _ _ (T182.setTop (mkF m 287 #[.val (.int sa), .val (.long va), .second, .val (.int sb), .val (.long vb), .second, .val (.int ia), .val (.int ib), .val (.long wa), .second, .val (.long wb), .second, .val (.ref b3), .val (.ref b15), .val (.ref b117), .val (.int 1), .val (.int 0), .val (.int 0), .val (.int 1), .val (.int 1), .val (.int 1), .val (.long (wa + (0 : Int64))), .second, .val (.long ((0 : Int64) + wb)), .second] [(.int (XT.cmpL ((0 : Int64) + (((1 : Int32).toInt64) * wa)) (wa + (0 : Int64))))]))
      refine GoW.st (fun _ k' => XS.ifNo X182.here hx rfl (hb hby at_287) rfl (XT.ll_ne_f (by simp [own_one])) k') ?_
      show GoW p e below s _ _ _ _ _ (T182.setTop (mkF m 290 #[.val (.int sa), .val (.long va), .second, .val (.int sb), .val (.long vb), .second, .val (.int ia), .val (.int ib), .val (.long wa), .second, .val (.long wb), .second, .val (.ref b3), .val (.ref b15), .val (.ref b117), .val (.int 1), .val (.int 0), .val (.int 0), .val (.int 1), .val (.int 1), .val (.int 1), .val (.long (wa + (0 : Int64))), .second, .val (.long ((0 : Int64) + wb)), .second] []))
      refine GoW.st (fun _ k' => XS.aload X182.here hx rfl (hb hby at_290) rfl rfl k') ?_
      show GoW p e below s _ _ _ _ _ (T182.setTop (mkF m 292 #[.val (.int sa), .val (.long va), .second, .val (.int sb), .val (.long vb), .second, .val (.int ia), .val (.int ib), .val (.long wa), .second, .val (.long wb), .second, .val (.ref b3), .val (.ref b15), .val (.ref b117), .val (.int 1), .val (.int 0), .val (.int 0), .val (.int 1), .val (.int 1), .val (.int 1), .val (.long (wa + (0 : Int64))), .second, .val (.long ((0 : Int64) + wb)), .second] [(.ref b117)]))
      obtain ⟨cq183, kq183, q183a, q183b, q183c⟩ := isOf hZ106 eq182 f177
      obtain ⟨_, _, ⟨T183, L183, k183, n183⟩, -, X183, ⟨Lc183, hQ183, l183, y183, z183⟩, st183⟩ := X182.virtualBack hx (y := mn6) (z := mn6) hown106 (mvT hZ106 (wdx hw 120 rfl)) (mvT hZ106 (wdx hw 121 rfl)) (notFace_of_selects (args := #[]) (mvT hZ106 (wdx hw 123 rfl))) (mvT hZ106 (wdx hw 123 rfl)) (mvT hZ106 (wdx hw 122 rfl)) (by decide) (backOf (W := 0) (rm19 l Z a0 hw [] b117 ((0 : Int64) + (((1 : Int32).toInt64) * wb)) T159.heap n0 O159 f165) hZ106 (wdx hw 124 rfl) (wdx hw 54 rfl) (by decide) (by decide)) q183a q183c (g := (mkF m 292 #[.val (.int sa), .val (.long va), .second, .val (.int sb), .val (.long vb), .second, .val (.int ia), .val (.int ib), .val (.long wa), .second, .val (.long wb), .second, .val (.ref b3), .val (.ref b15), .val (.ref b117), .val (.int 1), .val (.int 0), .val (.int 0), .val (.int 1), .val (.int 1), .val (.int 1), .val (.long (wa + (0 : Int64))), .second, .val (.long ((0 : Int64) + wb)), .second] [(.ref b117)])) rfl (by rw [hml]; rfl) (Steps.refl _) (argsL := []) (rest := []) (lenOf pd___J rfl) rfl (by show 2 * 0 + _ ≤ _; exact Nat.le_of_eq rfl) (hb hby at_292) (fun _ _ => ⟨rfl, eq182, (by exact lee rfl), (by exact lee rfl)⟩)
      dsimp only [Pt.U, Pt.locs, Pt.cells, Pt.slots] at X183 l183 y183 z183 st183 hQ183
      subst l183 y183 z183
      obtain ⟨rfl, Nq183, eq183⟩ := hQ183
      have N183 := Fr.app N182 Nq183
      refine GoW.tr st183 ?_
      show GoW p e below s _ _ _ _ _ (T183.setTop (mkF m 295 #[.val (.int sa), .val (.long va), .second, .val (.int sb), .val (.long vb), .second, .val (.int ia), .val (.int ib), .val (.long wa), .second, .val (.long wb), .second, .val (.ref b3), .val (.ref b15), .val (.ref b117), .val (.int 1), .val (.int 0), .val (.int 0), .val (.int 1), .val (.int 1), .val (.int 1), .val (.long (wa + (0 : Int64))), .second, .val (.long ((0 : Int64) + wb)), .second] [(.long ((0 : Int64) + (((1 : Int32).toInt64) * wb)))]))
      refine GoW.st (fun _ k' => XS.lload X183.here hx rfl (hb hby at_295) rfl k') ?_
      show GoW p e below s _ _ _ _ _ (T183.setTop (mkF m 297 #[.val (.int sa), .val (.long va), .second, .val (.int sb), .val (.long vb), .second, .val (.int ia), .val (.int ib), .val (.long wa), .second, .val (.long wb), .second, .val (.ref b3), .val (.ref b15), .val (.ref b117), .val (.int 1), .val (.int 0), .val (.int 0), .val (.int 1), .val (.int 1), .val (.int 1), .val (.long (wa + (0 : Int64))), .second, .val (.long ((0 : Int64) + wb)), .second] [(.long ((0 : Int64) + wb)), (.long ((0 : Int64) + (((1 : Int32).toInt64) * wb)))]))
      refine GoW.st (fun _ k' => XT.lcmp X183.here hx rfl (hb hby at_297) rfl k') ?_
      show GoW p e below s _ _ _ _ _ (T183.setTop (mkF m 298 #[.val (.int sa), .val (.long va), .second, .val (.int sb), .val (.long vb), .second, .val (.int ia), .val (.int ib), .val (.long wa), .second, .val (.long wb), .second, .val (.ref b3), .val (.ref b15), .val (.ref b117), .val (.int 1), .val (.int 0), .val (.int 0), .val (.int 1), .val (.int 1), .val (.int 1), .val (.long (wa + (0 : Int64))), .second, .val (.long ((0 : Int64) + wb)), .second] [(.int (XT.cmpL ((0 : Int64) + (((1 : Int32).toInt64) * wb)) ((0 : Int64) + wb)))]))
      refine GoW.st (fun _ k' => XS.ifNo X183.here hx rfl (hb hby at_298) rfl (XT.ll_ne_f (by simp [own_one])) k') ?_
      show GoW p e below s _ _ _ _ _ (T183.setTop (mkF m 301 #[.val (.int sa), .val (.long va), .second, .val (.int sb), .val (.long vb), .second, .val (.int ia), .val (.int ib), .val (.long wa), .second, .val (.long wb), .second, .val (.ref b3), .val (.ref b15), .val (.ref b117), .val (.int 1), .val (.int 0), .val (.int 0), .val (.int 1), .val (.int 1), .val (.int 1), .val (.long (wa + (0 : Int64))), .second, .val (.long ((0 : Int64) + wb)), .second] []))
      refine GoW.st (fun _ k' => XS.iconst X183.here hx rfl (hb hby at_301) k') ?_
      show GoW p e below s _ _ _ _ _ (T183.setTop (mkF m 302 #[.val (.int sa), .val (.long va), .second, .val (.int sb), .val (.long vb), .second, .val (.int ia), .val (.int ib), .val (.long wa), .second, .val (.long wb), .second, .val (.ref b3), .val (.ref b15), .val (.ref b117), .val (.int 1), .val (.int 0), .val (.int 0), .val (.int 1), .val (.int 1), .val (.int 1), .val (.long (wa + (0 : Int64))), .second, .val (.long ((0 : Int64) + wb)), .second] [(.int 1)]))
      refine GoW.st (fun _ k' => XS.goto X183.here hx rfl (pc0 := 302) (pc' := 306) rfl (hb hby at_302) (by decide) (by decide) k') ?_
      show GoW p e below s _ _ _ _ _ (T183.setTop (mkF m 306 #[.val (.int sa), .val (.long va), .second, .val (.int sb), .val (.long vb), .second, .val (.int ia), .val (.int ib), .val (.long wa), .second, .val (.long wb), .second, .val (.ref b3), .val (.ref b15), .val (.ref b117), .val (.int 1), .val (.int 0), .val (.int 0), .val (.int 1), .val (.int 1), .val (.int 1), .val (.long (wa + (0 : Int64))), .second, .val (.long ((0 : Int64) + wb)), .second] [(.int 1)]))
      refine GoW.retB X183 hx hlk hS106 (by rw [eq183]; exact hk159) hZ106 hEL CH159 (t := .boolean) Bd.returns (by simp) (hb hby at_306) (by decide) (by decide) eq183 ?_
      exact ⟨rfl, N183, trivial⟩
    · show GoW p e below s _ _ _ _ _ (T27.setTop (mkF m 58 #[.val (.int sa), .val (.long va), .second, .val (.int sb), .val (.long vb), .second, .val (.int ia), .val (.int ib), .val (.long wa), .second, .val (.long wb), .second, .val (.ref b3), .unset, .unset, .unset, .unset, .unset, .unset, .unset, .unset, .unset, .unset, .unset, .unset] [(.ref hsb), .null, (.ref b15), (.ref b15)]))
      refine GoW.st (fun _ k' => XS.lload X27.here hx rfl (hb hby at_58) rfl k') ?_
      show GoW p e below s _ _ _ _ _ (T27.setTop (mkF m 60 #[.val (.int sa), .val (.long va), .second, .val (.int sb), .val (.long vb), .second, .val (.int ia), .val (.int ib), .val (.long wa), .second, .val (.long wb), .second, .val (.ref b3), .unset, .unset, .unset, .unset, .unset, .unset, .unset, .unset, .unset, .unset, .unset, .unset] [(.long wb), (.ref hsb), .null, (.ref b15), (.ref b15)]))
      obtain ⟨_, _, ⟨T184, L184, k184, n184⟩, -, Xr184, hSr184, hgr184, ⟨Lc184, hQ184, l184, y184, z184, C184⟩, st184⟩ := X27.specialBackS hx (y := mn7) rfl hown9 (mvT hZ9 (wdx hw 19 rfl)) (mvT hZ9 (wdx hw 20 rfl)) (mvT hZ9 (wdx hw 21 rfl)) (by decide) (own_back (W := 1) (rm4 l Z a0 hw [] b15 hsb wb h15 n0 O15 A15 f24 f25 f26 E_hsb g_b15 qwb rwb) hZ9 (wdx hw 21 rfl) (wdx hw 12 rfl) (by decide) (by decide) hEL CH15.1 (allS ⟨A15.lt, f23⟩ all0)) (g := (mkF m 60 #[.val (.int sa), .val (.long va), .second, .val (.int sb), .val (.long vb), .second, .val (.int ia), .val (.int ib), .val (.long wa), .second, .val (.long wb), .second, .val (.ref b3), .unset, .unset, .unset, .unset, .unset, .unset, .unset, .unset, .unset, .unset, .unset, .unset] [(.long wb), (.ref hsb), .null, (.ref b15), (.ref b15)])) rfl (by rw [hml]; rfl) (Steps.refl _) (a := b15) (argsL := [.null, (.ref hsb), (.long wb)]) (rest := [(.ref b15)]) (lenOf pd__Lcom_example_spillway_spillway_assignment_EndpointAddress_Lcom_example_spillway_spillway_assignment_HealthStatus_J_V rfl) rfl (by show 2 * 0 + _ ≤ _; exact Nat.le_of_eq rfl) (hb hby at_60) (fun _ _ => ⟨rfl, eq27, (by exact lee rfl), (by exact lee rfl)⟩)
      dsimp only [Pt.U, Pt.locs, Pt.cells, Pt.slots] at Xr184 hSr184 hgr184 l184 y184 z184 C184 st184 hQ184
      subst l184 y184 z184
      obtain ⟨X184, hS184, hZ184, hown184⟩ := rebS hS9 (by rw [eq27]; exact hk15) Xr184 hSr184 hgr184 hZ9 hown9
      obtain ⟨rfl, Nq184, Kq184, f185, f186⟩ := hQ184
      have N184 := Fr.app N27 Nq184
      refine GoW.tr st184 ?_
      have f187 : Safe Z EL T184.vm T184.heap b3 := C184.safe f19.lt f18
      have f188 : Exa Z T184.heap b3 "com/example/spillway/spillway/assignment/Endpoint" := f19.keep Kq184
      have f189 : Exa Z T184.heap hsa "com/example/spillway/spillway/assignment/HealthStatus" := f20.keep Kq184
      have f190 : Fld Z T184.heap b3 "com/example/spillway/spillway/assignment/Endpoint" "health" "Lcom/example/spillway/spillway/assignment/HealthStatus;" (.ref hsa) := f21.keep Kq184 (ninS ne16 nin0)
      have f191 : Fld Z T184.heap b3 "com/example/spillway/spillway/assignment/Endpoint" "loadBalancingWeight" "J" (.long wa) := f22.keep Kq184 (ninS ne16 nin0)
      have f192 : Safe Z EL T184.vm T184.heap b15 := C184.safe A15.lt f23
      have f193 : Exa Z T184.heap b15 "com/example/spillway/spillway/assignment/Endpoint" := A15.keep Kq184
      have f194 : Exa Z T184.heap hsb "com/example/spillway/spillway/assignment/HealthStatus" := E_hsb.keep Kq184
      have CH184 : CHr Z EL s.vm s.heap T184.vm T184.heap := CH15.trans C184
      have O184 : Old Z n0 T184.heap := O15.keep Kq184 (allS g_b15 all0)
      show GoW p e below s _ _ _ _ _ (T184.setTop (mkF m 63 #[.val (.int sa), .val (.long va), .second, .val (.int sb), .val (.long vb), .second, .val (.int ia), .val (.int ib), .val (.long wa), .second, .val (.long wb), .second, .val (.ref b3), .unset, .unset, .unset, .unset, .unset, .unset, .unset, .unset, .unset, .unset, .unset, .unset] [(.ref b15)]))
      refine GoW.st (fun _ k' => XS.astore X184.here hx rfl (hb hby at_63) rfl rfl (l' := #[.val (.int sa), .val (.long va), .second, .val (.int sb), .val (.long vb), .second, .val (.int ia), .val (.int ib), .val (.long wa), .second, .val (.long wb), .second, .val (.ref b3), .val (.ref b15), .unset, .unset, .unset, .unset, .unset, .unset, .unset, .unset, .unset, .unset, .unset]) rfl k') ?_
      show GoW p e below s _ _ _ _ _ (T184.setTop (mkF m 65 #[.val (.int sa), .val (.long va), .second, .val (.int sb), .val (.long vb), .second, .val (.int ia), .val (.int ib), .val (.long wa), .second, .val (.long wb), .second, .val (.ref b3), .val (.ref b15), .unset, .unset, .unset, .unset, .unset, .unset, .unset, .unset, .unset, .unset, .unset] []))
      obtain ⟨T195, h195, X195, e195, E195, A195, D195, -, st195⟩ := newO X184 hx hZ184 hown184 (wdx hw 52 rfl) (wdx hw 53 rfl) (wdx hw 54 rfl) rfl (g := (mkF m 65 #[.val (.int sa), .val (.long va), .second, .val (.int sb), .val (.long vb), .second, .val (.int ia), .val (.int ib), .val (.long wa), .second, .val (.long wb), .second, .val (.ref b3), .val (.ref b15), .unset, .unset, .unset, .unset, .unset, .unset, .unset, .unset, .unset, .unset, .unset] [])) rfl (hb hby at_65) (by decide) (by decide)
      obtain ⟨b195, g195⟩ : ∃ z, z = T184.heap.size := ⟨_, rfl⟩
      rw [← g195] at A195 D195 st195
      refine GoW.st st195 ?_
      have g_b195 : n0 ≤ b195 := Nat.le_trans (own_le O184) (Nat.le_of_eq g195.symm)
      have sf_b195 : Safe Z EL T184.vm T184.heap b195 := Safe.new (Nat.le_of_eq g195.symm)
      have ne196 : b3 ≠ b195 := Nat.ne_of_lt (Nat.lt_of_lt_of_le f188.lt (Nat.le_of_eq g195.symm))
      have ne197 : hsa ≠ b195 := Nat.ne_of_lt (Nat.lt_of_lt_of_le f189.lt (Nat.le_of_eq g195.symm))
      have ne198 : b15 ≠ b195 := Nat.ne_of_lt (Nat.lt_of_lt_of_le f193.lt (Nat.le_of_eq g195.symm))
      have ne199 : hsb ≠ b195 := Nat.ne_of_lt (Nat.lt_of_lt_of_le f194.lt (Nat.le_of_eq g195.symm))
      have f200 : Safe Z EL T184.vm h195 b3 := Safe.ext E195 CH184.1 f187
      have f201 : Exa Z h195 b3 "com/example/spillway/spillway/assignment/Endpoint" := f188.ext E195
      have f202 : Exa Z h195 hsa "com/example/spillway/spillway/assignment/HealthStatus" := f189.ext E195
      have f203 : Fld Z h195 b3 "com/example/spillway/spillway/assignment/Endpoint" "health" "Lcom/example/spillway/spillway/assignment/HealthStatus;" (.ref hsa) := f190.ext E195
      have f204 : Fld Z h195 b3 "com/example/spillway/spillway/assignment/Endpoint" "loadBalancingWeight" "J" (.long wa) := f191.ext E195
      have f205 : Safe Z EL T184.vm h195 b15 := Safe.ext E195 CH184.1 f192
      have f206 : Exa Z h195 b15 "com/example/spillway/spillway/assignment/Endpoint" := f193.ext E195
      have f207 : Exa Z h195 hsb "com/example/spillway/spillway/assignment/HealthStatus" := f194.ext E195
      have f208 : Fld Z h195 b15 "com/example/spillway/spillway/assignment/Endpoint" "health" "Lcom/example/spillway/spillway/assignment/HealthStatus;" (.ref hsb) := f185.ext E195
      have f209 : Fld Z h195 b15 "com/example/spillway/spillway/assignment/Endpoint" "loadBalancingWeight" "J" (.long wb) := f186.ext E195
      have f210 : Safe Z EL T184.vm h195 b195 := Safe.ext E195 CH184.1 sf_b195
      have CH195 : CHr Z EL s.vm s.heap T184.vm h195 := CH184.trans (CHr.ext E195 CH184.1)
      have hk195 : Array.size T184.heap ≤ Array.size h195 := Nat.le_trans (Nat.le_refl _) E195.1
      have O195 : Old Z n0 h195 := O184.ext E195
      have f211 : Fld Z h195 b195 "com/example/spillway/spillway/assignment/HealthTally" "hosts" "I" (.int 0) := D195 (Or.inl (wdx hw 74 rfl)) (ty := .int) (by decide)
      have f212 : Fld Z h195 b195 "com/example/spillway/spillway/assignment/HealthTally" "hostWeight" "J" (.long 0) := D195 (Or.inl (wdx hw 76 rfl)) (ty := .long) (by decide)
      have f213 : Fld Z h195 b195 "com/example/spillway/spillway/assignment/HealthTally" "healthy" "I" (.int 0) := D195 (Or.inl (wdx hw 90 rfl)) (ty := .int) (by decide)
      have f214 : Fld Z h195 b195 "com/example/spillway/spillway/assignment/HealthTally" "healthyWeight" "J" (.long 0) := D195 (Or.inl (wdx hw 92 rfl)) (ty := .long) (by decide)
      have f215 : Fld Z h195 b195 "com/example/spillway/spillway/assignment/HealthTally" "degraded" "I" (.int 0) := D195 (Or.inl (wdx hw 109 rfl)) (ty := .int) (by decide)
      have f216 : Fld Z h195 b195 "com/example/spillway/spillway/assignment/HealthTally" "degradedWeight" "J" (.long 0) := D195 (Or.inl (wdx hw 126 rfl)) (ty := .long) (by decide)
      show GoW p e below s _ _ _ _ _ (T195.setTop (mkF m 68 #[.val (.int sa), .val (.long va), .second, .val (.int sb), .val (.long vb), .second, .val (.int ia), .val (.int ib), .val (.long wa), .second, .val (.long wb), .second, .val (.ref b3), .val (.ref b15), .unset, .unset, .unset, .unset, .unset, .unset, .unset, .unset, .unset, .unset, .unset] [(.ref b195)]))
      refine GoW.st (fun _ k' => XS.dup X195.here hx rfl (hb hby at_68) rfl rfl k') ?_
      show GoW p e below s _ _ _ _ _ (T195.setTop (mkF m 69 #[.val (.int sa), .val (.long va), .second, .val (.int sb), .val (.long vb), .second, .val (.int ia), .val (.int ib), .val (.long wa), .second, .val (.long wb), .second, .val (.ref b3), .val (.ref b15), .unset, .unset, .unset, .unset, .unset, .unset, .unset, .unset, .unset, .unset, .unset] [(.ref b195), (.ref b195)]))
      obtain ⟨_, _, ⟨T217, L217, k217, n217⟩, -, X217, ⟨Lc217, hQ217, l217, y217, z217⟩, st217⟩ := X195.specialBack hx (y := mn9) rfl hown184 (mvT hZ184 (wdx hw 55 rfl)) (mvT hZ184 (wdx hw 56 rfl)) (mvT hZ184 (wdx hw 57 rfl)) (by decide) (backOf (W := 1) (rm8 l Z a0 hw [] b195 h195 n0 O195 ) hZ184 (wdx hw 57 rfl) (wdx hw 54 rfl) (by decide) (by decide)) (g := (mkF m 69 #[.val (.int sa), .val (.long va), .second, .val (.int sb), .val (.long vb), .second, .val (.int ia), .val (.int ib), .val (.long wa), .second, .val (.long wb), .second, .val (.ref b3), .val (.ref b15), .unset, .unset, .unset, .unset, .unset, .unset, .unset, .unset, .unset, .unset, .unset] [(.ref b195), (.ref b195)])) rfl (by rw [hml]; rfl) (Steps.refl _) (a := b195) (argsL := []) (rest := [(.ref b195)]) (lenOf pd___V rfl) rfl (by show 2 * 0 + _ ≤ _; exact Nat.le_of_eq rfl) (hb hby at_69) (fun _ _ => ⟨rfl, e195, (by exact lee rfl), (by exact lee rfl)⟩)
      dsimp only [Pt.U, Pt.locs, Pt.cells, Pt.slots] at X217 l217 y217 z217 st217 hQ217
      subst l217 y217 z217
      obtain ⟨rfl, Nq217, eq217⟩ := hQ217
      have N217 := Fr.app N184 Nq217
      refine GoW.tr st217 ?_
      show GoW p e below s _ _ _ _ _ (T217.setTop (mkF m 72 #[.val (.int sa), .val (.long va), .second, .val (.int sb), .val (.long vb), .second, .val (.int ia), .val (.int ib), .val (.long wa), .second, .val (.long wb), .second, .val (.ref b3), .val (.ref b15), .unset, .unset, .unset, .unset, .unset, .unset, .unset, .unset, .unset, .unset, .unset] [(.ref b195)]))
      refine GoW.st (fun _ k' => XS.astore X217.here hx rfl (hb hby at_72) rfl rfl (l' := #[.val (.int sa), .val (.long va), .second, .val (.int sb), .val (.long vb), .second, .val (.int ia), .val (.int ib), .val (.long wa), .second, .val (.long wb), .second, .val (.ref b3), .val (.ref b15), .val (.ref b195), .unset, .unset, .unset, .unset, .unset, .unset, .unset, .unset, .unset, .unset]) rfl k') ?_
      refine GoW.st (fun _ k' => XS.aload X217.here hx rfl (hb hby at_74) rfl rfl k') ?_
      refine GoW.st (fun _ k' => XS.aload X217.here hx rfl (hb hby at_76) rfl rfl k') ?_
      show GoW p e below s _ _ _ _ _ (T217.setTop (mkF m 78 #[.val (.int sa), .val (.long va), .second, .val (.int sb), .val (.long vb), .second, .val (.int ia), .val (.int ib), .val (.long wa), .second, .val (.long wb), .second, .val (.ref b3), .val (.ref b15), .val (.ref b195), .unset, .unset, .unset, .unset, .unset, .unset, .unset, .unset, .unset, .unset] [(.ref b3), (.ref b195)]))
      obtain ⟨cq218, kq218, q218a, q218b, q218c⟩ := isOf hZ184 eq217 A195
      obtain ⟨_, _, ⟨T218, L218, k218, n218⟩, -, X218, ⟨Lc218, hQ218, l218, y218, z218⟩, st218⟩ := X217.virtualBack hx (y := mn0) (z := mn0) hown184 (mvT hZ184 (wdx hw 59 rfl)) (mvT hZ184 (wdx hw 60 rfl)) (notFace_of_selects (args := #[]) (mvT hZ184 (wdx hw 62 rfl))) (mvT hZ184 (wdx hw 62 rfl)) (mvT hZ184 (wdx hw 61 rfl)) (by decide) (backOf (W := 0) (rm9_h l Z a0 hw [] b195 b3 (0 : Int32) (0 : Int32) (0 : Int32) (0 : Int64) (0 : Int64) (0 : Int64) hsa wa a_UNKNOWN a_HEALTHY a_DEGRADED h195 n0 O195 A195 f211 f213 f215 f212 f214 f216 f201 f203 f204 f202 S_UNKNOWN S_HEALTHY S_DEGRADED g_b195 (Ne.symm ne196) khsa_2) hZ184 (wdx hw 63 rfl) (wdx hw 54 rfl) (by decide) (by decide)) q218a q218c (g := (mkF m 78 #[.val (.int sa), .val (.long va), .second, .val (.int sb), .val (.long vb), .second, .val (.int ia), .val (.int ib), .val (.long wa), .second, .val (.long wb), .second, .val (.ref b3), .val (.ref b15), .val (.ref b195), .unset, .unset, .unset, .unset, .unset, .unset, .unset, .unset, .unset, .unset] [(.ref b3), (.ref b195)])) rfl (by rw [hml]; rfl) (Steps.refl _) (argsL := [(.ref b3)]) (rest := []) (lenOf pd__Lcom_example_spillway_spillway_assignment_Endpoint__V rfl) rfl (by show 2 * 0 + _ ≤ _; exact Nat.le_of_eq rfl) (hb hby at_78) (fun _ _ => ⟨rfl, eq217, (by exact lee rfl), (by exact lee rfl)⟩)
      dsimp only [Pt.U, Pt.locs, Pt.cells, Pt.slots] at X218 l218 y218 z218 st218 hQ218
      subst l218 y218 z218
      obtain ⟨rfl, Nq218, Kq218, f219, f220, f221, f222, f223, f224⟩ := hQ218
      have N218 := Fr.app N217 Nq218
      refine GoW.tr st218 ?_
      have f225 : Safe Z EL T184.vm T218.heap b3 := Safe.keep Kq218 (allS f210 all0) CH195.1 f200
      have f226 : Exa Z T218.heap b3 "com/example/spillway/spillway/assignment/Endpoint" := f201.keep Kq218
      have f227 : Exa Z T218.heap hsa "com/example/spillway/spillway/assignment/HealthStatus" := f202.keep Kq218
      have f228 : Fld Z T218.heap b3 "com/example/spillway/spillway/assignment/Endpoint" "health" "Lcom/example/spillway/spillway/assignment/HealthStatus;" (.ref hsa) := f203.keep Kq218 (ninS ne196 nin0)
      have f229 : Fld Z T218.heap b3 "com/example/spillway/spillway/assignment/Endpoint" "loadBalancingWeight" "J" (.long wa) := f204.keep Kq218 (ninS ne196 nin0)
      have f230 : Safe Z EL T184.vm T218.heap b15 := Safe.keep Kq218 (allS f210 all0) CH195.1 f205
      have f231 : Exa Z T218.heap b15 "com/example/spillway/spillway/assignment/Endpoint" := f206.keep Kq218
      have f232 : Exa Z T218.heap hsb "com/example/spillway/spillway/assignment/HealthStatus" := f207.keep Kq218
      have f233 : Fld Z T218.heap b15 "com/example/spillway/spillway/assignment/Endpoint" "health" "Lcom/example/spillway/spillway/assignment/HealthStatus;" (.ref hsb) := f208.keep Kq218 (ninS ne198 nin0)
      have f234 : Fld Z T218.heap b15 "com/example/spillway/spillway/assignment/Endpoint" "loadBalancingWeight" "J" (.long wb) := f209.keep Kq218 (ninS ne198 nin0)
      have f235 : Safe Z EL T184.vm T218.heap b195 := Safe.keep Kq218 (allS f210 all0) CH195.1 f210
      have f236 : Exa Z T218.heap b195 "com/example/spillway/spillway/assignment/HealthTally" := A195.keep Kq218
      have CH218 : CHr Z EL s.vm s.heap T184.vm T218.heap := CH195.trans (CHr.keep Kq218 (allS f210 all0) CH195.1)
      have hk218 : Array.size T184.heap ≤ Array.size T218.heap := Nat.le_trans hk195 Kq218.1
      have O218 : Old Z n0 T218.heap := O195.keep Kq218 (allS g_b195 all0)
      show GoW p e below s _ _ _ _ _ (T218.setTop (mkF m 81 #[.val (.int sa), .val (.long va), .second, .val (.int sb), .val (.long vb), .second, .val (.int ia), .val (.int ib), .val (.long wa), .second, .val (.long wb), .second, .val (.ref b3), .val (.ref b15), .val (.ref b195), .unset, .unset, .unset, .unset, .unset, .unset, .unset, .unset, .unset, .unset] []))
      refine GoW.st (fun _ k' => XS.aload X218.here hx rfl (hb hby at_81) rfl rfl k') ?_
      refine GoW.st (fun _ k' => XS.aload X218.here hx rfl (hb hby at_83) rfl rfl k') ?_
      show GoW p e below s _ _ _ _ _ (T218.setTop (mkF m 85 #[.val (.int sa), .val (.long va), .second, .val (.int sb), .val (.long vb), .second, .val (.int ia), .val (.int ib), .val (.long wa), .second, .val (.long wb), .second, .val (.ref b3), .val (.ref b15), .val (.ref b195), .unset, .unset, .unset, .unset, .unset, .unset, .unset, .unset, .unset, .unset] [(.ref b15), (.ref b195)]))
      obtain ⟨cq237, kq237, q237a, q237b, q237c⟩ := isOf hZ184 rfl f236
      obtain ⟨_, _, ⟨T237, L237, k237, n237⟩, -, X237, ⟨Lc237, hQ237, l237, y237, z237⟩, st237⟩ := X218.virtualBack hx (y := mn0) (z := mn0) hown184 (mvT hZ184 (wdx hw 59 rfl)) (mvT hZ184 (wdx hw 60 rfl)) (notFace_of_selects (args := #[]) (mvT hZ184 (wdx hw 62 rfl))) (mvT hZ184 (wdx hw 62 rfl)) (mvT hZ184 (wdx hw 61 rfl)) (by decide) (backOf (W := 0) (rm9_o l Z a0 hw [] b195 b15 ((0 : Int32) + (1 : Int32)) ((0 : Int32) + (1 : Int32)) (0 : Int32) ((0 : Int64) + (((1 : Int32).toInt64) * wa)) ((0 : Int64) + (((1 : Int32).toInt64) * wa)) (0 : Int64) hsb wb a_UNKNOWN a_HEALTHY a_DEGRADED T218.heap n0 O218 f236 f219 f220 f221 f222 f223 f224 f231 f233 f234 f232 S_UNKNOWN S_HEALTHY S_DEGRADED g_b195 (Ne.symm ne198) khsb_2 khsb_3) hZ184 (wdx hw 63 rfl) (wdx hw 54 rfl) (by decide) (by decide)) q237a q237c (g := (mkF m 85 #[.val (.int sa), .val (.long va), .second, .val (.int sb), .val (.long vb), .second, .val (.int ia), .val (.int ib), .val (.long wa), .second, .val (.long wb), .second, .val (.ref b3), .val (.ref b15), .val (.ref b195), .unset, .unset, .unset, .unset, .unset, .unset, .unset, .unset, .unset, .unset] [(.ref b15), (.ref b195)])) rfl (by rw [hml]; rfl) (Steps.refl _) (argsL := [(.ref b15)]) (rest := []) (lenOf pd__Lcom_example_spillway_spillway_assignment_Endpoint__V rfl) rfl (by show 2 * 0 + _ ≤ _; exact Nat.le_of_eq rfl) (hb hby at_85) (fun _ _ => ⟨rfl, rfl, (by exact lee rfl), (by exact lee rfl)⟩)
      dsimp only [Pt.U, Pt.locs, Pt.cells, Pt.slots] at X237 l237 y237 z237 st237 hQ237
      subst l237 y237 z237
      obtain ⟨rfl, Nq237, Kq237, f238, f239, f240, f241, f242, f243⟩ := hQ237
      have N237 := Fr.app N218 Nq237
      refine GoW.tr st237 ?_
      have f244 : Safe Z EL T184.vm T237.heap b3 := Safe.keep Kq237 (allS f235 all0) CH218.1 f225
      have f245 : Exa Z T237.heap b3 "com/example/spillway/spillway/assignment/Endpoint" := f226.keep Kq237
      have f246 : Exa Z T237.heap hsa "com/example/spillway/spillway/assignment/HealthStatus" := f227.keep Kq237
      have f247 : Fld Z T237.heap b3 "com/example/spillway/spillway/assignment/Endpoint" "health" "Lcom/example/spillway/spillway/assignment/HealthStatus;" (.ref hsa) := f228.keep Kq237 (ninS ne196 nin0)
      have f248 : Fld Z T237.heap b3 "com/example/spillway/spillway/assignment/Endpoint" "loadBalancingWeight" "J" (.long wa) := f229.keep Kq237 (ninS ne196 nin0)
      have f249 : Safe Z EL T184.vm T237.heap b15 := Safe.keep Kq237 (allS f235 all0) CH218.1 f230
      have f250 : Exa Z T237.heap b15 "com/example/spillway/spillway/assignment/Endpoint" := f231.keep Kq237
      have f251 : Exa Z T237.heap hsb "com/example/spillway/spillway/assignment/HealthStatus" := f232.keep Kq237
      have f252 : Fld Z T237.heap b15 "com/example/spillway/spillway/assignment/Endpoint" "health" "Lcom/example/spillway/spillway/assignment/HealthStatus;" (.ref hsb) := f233.keep Kq237 (ninS ne198 nin0)
      have f253 : Fld Z T237.heap b15 "com/example/spillway/spillway/assignment/Endpoint" "loadBalancingWeight" "J" (.long wb) := f234.keep Kq237 (ninS ne198 nin0)
      have f254 : Safe Z EL T184.vm T237.heap b195 := Safe.keep Kq237 (allS f235 all0) CH218.1 f235
      have f255 : Exa Z T237.heap b195 "com/example/spillway/spillway/assignment/HealthTally" := f236.keep Kq237
      have CH237 : CHr Z EL s.vm s.heap T184.vm T237.heap := CH218.trans (CHr.keep Kq237 (allS f235 all0) CH218.1)
      have hk237 : Array.size T184.heap ≤ Array.size T237.heap := Nat.le_trans hk218 Kq237.1
      have O237 : Old Z n0 T237.heap := O218.keep Kq237 (allS g_b195 all0)
      show GoW p e below s _ _ _ _ _ (T237.setTop (mkF m 88 #[.val (.int sa), .val (.long va), .second, .val (.int sb), .val (.long vb), .second, .val (.int ia), .val (.int ib), .val (.long wa), .second, .val (.long wb), .second, .val (.ref b3), .val (.ref b15), .val (.ref b195), .unset, .unset, .unset, .unset, .unset, .unset, .unset, .unset, .unset, .unset] []))
      refine GoW.st (fun _ k' => XS.iload X237.here hx rfl (hb hby at_88) rfl k') ?_
      refine GoW.st (fun _ k' => XS.iconst X237.here hx rfl (hb hby at_90) k') ?_
      show GoW p e below s _ _ _ _ _ (T237.setTop (mkF m 91 #[.val (.int sa), .val (.long va), .second, .val (.int sb), .val (.long vb), .second, .val (.int ia), .val (.int ib), .val (.long wa), .second, .val (.long wb), .second, .val (.ref b3), .val (.ref b15), .val (.ref b195), .unset, .unset, .unset, .unset, .unset, .unset, .unset, .unset, .unset, .unset] [(.int 1), (.int ia)]))
      refine GoW.st (fun _ k' => XS.icmpNo X237.here hx rfl (hb hby at_91) rfl (XT.ii_gt_f khsa_0) k') ?_
      show GoW p e below s _ _ _ _ _ (T237.setTop (mkF m 94 #[.val (.int sa), .val (.long va), .second, .val (.int sb), .val (.long vb), .second, .val (.int ia), .val (.int ib), .val (.long wa), .second, .val (.long wb), .second, .val (.ref b3), .val (.ref b15), .val (.ref b195), .unset, .unset, .unset, .unset, .unset, .unset, .unset, .unset, .unset, .unset] []))
      refine GoW.st (fun _ k' => XS.iconst X237.here hx rfl (hb hby at_94) k') ?_
      show GoW p e below s _ _ _ _ _ (T237.setTop (mkF m 95 #[.val (.int sa), .val (.long va), .second, .val (.int sb), .val (.long vb), .second, .val (.int ia), .val (.int ib), .val (.long wa), .second, .val (.long wb), .second, .val (.ref b3), .val (.ref b15), .val (.ref b195), .unset, .unset, .unset, .unset, .unset, .unset, .unset, .unset, .unset, .unset] [(.int 1)]))
      refine GoW.st (fun _ k' => XS.goto X237.here hx rfl (pc0 := 95) (pc' := 99) rfl (hb hby at_95) (by decide) (by decide) k') ?_
      show GoW p e below s _ _ _ _ _ (T237.setTop (mkF m 99 #[.val (.int sa), .val (.long va), .second, .val (.int sb), .val (.long vb), .second, .val (.int ia), .val (.int ib), .val (.long wa), .second, .val (.long wb), .second, .val (.ref b3), .val (.ref b15), .val (.ref b195), .unset, .unset, .unset, .unset, .unset, .unset, .unset, .unset, .unset, .unset] [(.int 1)]))
      refine GoW.st (fun _ k' => XS.istore X237.here hx rfl (hb hby at_99) rfl (l' := #[.val (.int sa), .val (.long va), .second, .val (.int sb), .val (.long vb), .second, .val (.int ia), .val (.int ib), .val (.long wa), .second, .val (.long wb), .second, .val (.ref b3), .val (.ref b15), .val (.ref b195), .val (.int 1), .unset, .unset, .unset, .unset, .unset, .unset, .unset, .unset, .unset]) rfl k') ?_
      refine GoW.st (fun _ k' => XS.iload X237.here hx rfl (hb hby at_101) rfl k') ?_
      refine GoW.st (fun _ k' => XS.iconst X237.here hx rfl (hb hby at_103) k') ?_
      show GoW p e below s _ _ _ _ _ (T237.setTop (mkF m 104 #[.val (.int sa), .val (.long va), .second, .val (.int sb), .val (.long vb), .second, .val (.int ia), .val (.int ib), .val (.long wa), .second, .val (.long wb), .second, .val (.ref b3), .val (.ref b15), .val (.ref b195), .val (.int 1), .unset, .unset, .unset, .unset, .unset, .unset, .unset, .unset, .unset] [(.int 1), (.int ib)]))
      refine GoW.st (fun _ k' => XS.icmpYes X237.here hx rfl (pc0 := 104) (pc' := 111) rfl (hb hby at_104) rfl (XT.ii_gt_t khsb_0) (by decide) (by decide) k') ?_
      show GoW p e below s _ _ _ _ _ (T237.setTop (mkF m 111 #[.val (.int sa), .val (.long va), .second, .val (.int sb), .val (.long vb), .second, .val (.int ia), .val (.int ib), .val (.long wa), .second, .val (.long wb), .second, .val (.ref b3), .val (.ref b15), .val (.ref b195), .val (.int 1), .unset, .unset, .unset, .unset, .unset, .unset, .unset, .unset, .unset] []))
      refine GoW.st (fun _ k' => XS.iconst X237.here hx rfl (hb hby at_111) k') ?_
      refine GoW.st (fun _ k' => XS.istore X237.here hx rfl (hb hby at_112) rfl (l' := #[.val (.int sa), .val (.long va), .second, .val (.int sb), .val (.long vb), .second, .val (.int ia), .val (.int ib), .val (.long wa), .second, .val (.long wb), .second, .val (.ref b3), .val (.ref b15), .val (.ref b195), .val (.int 1), .val (.int 0), .unset, .unset, .unset, .unset, .unset, .unset, .unset, .unset]) rfl k') ?_
      refine GoW.st (fun _ k' => XS.iload X237.here hx rfl (hb hby at_114) rfl k') ?_
      refine GoW.st (fun _ k' => XS.iconst X237.here hx rfl (hb hby at_116) k') ?_
      show GoW p e below s _ _ _ _ _ (T237.setTop (mkF m 117 #[.val (.int sa), .val (.long va), .second, .val (.int sb), .val (.long vb), .second, .val (.int ia), .val (.int ib), .val (.long wa), .second, .val (.long wb), .second, .val (.ref b3), .val (.ref b15), .val (.ref b195), .val (.int 1), .val (.int 0), .unset, .unset, .unset, .unset, .unset, .unset, .unset, .unset] [(.int 5), (.int ia)]))
      refine GoW.st (fun _ k' => XS.icmpYes X237.here hx rfl (pc0 := 117) (pc' := 124) rfl (hb hby at_117) rfl (XT.ii_ne_t khsa_1) (by decide) (by decide) k') ?_
      show GoW p e below s _ _ _ _ _ (T237.setTop (mkF m 124 #[.val (.int sa), .val (.long va), .second, .val (.int sb), .val (.long vb), .second, .val (.int ia), .val (.int ib), .val (.long wa), .second, .val (.long wb), .second, .val (.ref b3), .val (.ref b15), .val (.ref b195), .val (.int 1), .val (.int 0), .unset, .unset, .unset, .unset, .unset, .unset, .unset, .unset] []))
      refine GoW.st (fun _ k' => XS.iconst X237.here hx rfl (hb hby at_124) k') ?_
      refine GoW.st (fun _ k' => XS.istore X237.here hx rfl (hb hby at_125) rfl (l' := #[.val (.int sa), .val (.long va), .second, .val (.int sb), .val (.long vb), .second, .val (.int ia), .val (.int ib), .val (.long wa), .second, .val (.long wb), .second, .val (.ref b3), .val (.ref b15), .val (.ref b195), .val (.int 1), .val (.int 0), .val (.int 0), .unset, .unset, .unset, .unset, .unset, .unset, .unset]) rfl k') ?_
      refine GoW.st (fun _ k' => XS.iload X237.here hx rfl (hb hby at_127) rfl k') ?_
      refine GoW.st (fun _ k' => XS.iconst X237.here hx rfl (hb hby at_129) k') ?_
      show GoW p e below s _ _ _ _ _ (T237.setTop (mkF m 130 #[.val (.int sa), .val (.long va), .second, .val (.int sb), .val (.long vb), .second, .val (.int ia), .val (.int ib), .val (.long wa), .second, .val (.long wb), .second, .val (.ref b3), .val (.ref b15), .val (.ref b195), .val (.int 1), .val (.int 0), .val (.int 0), .unset, .unset, .unset, .unset, .unset, .unset, .unset] [(.int 5), (.int ib)]))
      refine GoW.st (fun _ k' => XS.icmpYes X237.here hx rfl (pc0 := 130) (pc' := 137) rfl (hb hby at_130) rfl (XT.ii_ne_t khsb_1) (by decide) (by decide) k') ?_
      show GoW p e below s _ _ _ _ _ (T237.setTop (mkF m 137 #[.val (.int sa), .val (.long va), .second, .val (.int sb), .val (.long vb), .second, .val (.int ia), .val (.int ib), .val (.long wa), .second, .val (.long wb), .second, .val (.ref b3), .val (.ref b15), .val (.ref b195), .val (.int 1), .val (.int 0), .val (.int 0), .unset, .unset, .unset, .unset, .unset, .unset, .unset] []))
      refine GoW.st (fun _ k' => XS.iconst X237.here hx rfl (hb hby at_137) k') ?_
      refine GoW.st (fun _ k' => XS.istore X237.here hx rfl (hb hby at_138) rfl (l' := #[.val (.int sa), .val (.long va), .second, .val (.int sb), .val (.long vb), .second, .val (.int ia), .val (.int ib), .val (.long wa), .second, .val (.long wb), .second, .val (.ref b3), .val (.ref b15), .val (.ref b195), .val (.int 1), .val (.int 0), .val (.int 0), .val (.int 0), .unset, .unset, .unset, .unset, .unset, .unset]) rfl k') ?_
      refine GoW.st (fun _ k' => XS.iload X237.here hx rfl (hb hby at_140) rfl k') ?_
      show GoW p e below s _ _ _ _ _ (T237.setTop (mkF m 142 #[.val (.int sa), .val (.long va), .second, .val (.int sb), .val (.long vb), .second, .val (.int ia), .val (.int ib), .val (.long wa), .second, .val (.long wb), .second, .val (.ref b3), .val (.ref b15), .val (.ref b195), .val (.int 1), .val (.int 0), .val (.int 0), .val (.int 0), .unset, .unset, .unset, .unset, .unset, .unset] [(.int 1)]))
      refine GoW.st (fun _ k' => XS.ifNo X237.here hx rfl (hb hby at_142) rfl (XT.i0_eq_f (by decide)) k') ?_
      show GoW p e below s _ _ _ _ _ (T237.setTop (mkF m 145 #[.val (.int sa), .val (.long va), .second, .val (.int sb), .val (.long vb), .second, .val (.int ia), .val (.int ib), .val (.long wa), .second, .val (.long wb), .second, .val (.ref b3), .val (.ref b15), .val (.ref b195), .val (.int 1), .val (.int 0), .val (.int 0), .val (.int 0), .unset, .unset, .unset, .unset, .unset, .unset] []))
      refine GoW.st (fun _ k' => XS.iconst X237.here hx rfl (hb hby at_145) k') ?_
      show GoW p e below s _ _ _ _ _ (T237.setTop (mkF m 146 #[.val (.int sa), .val (.long va), .second, .val (.int sb), .val (.long vb), .second, .val (.int ia), .val (.int ib), .val (.long wa), .second, .val (.long wb), .second, .val (.ref b3), .val (.ref b15), .val (.ref b195), .val (.int 1), .val (.int 0), .val (.int 0), .val (.int 0), .unset, .unset, .unset, .unset, .unset, .unset] [(.int 1)]))
      refine GoW.st (fun _ k' => XS.goto X237.here hx rfl (pc0 := 146) (pc' := 150) rfl (hb hby at_146) (by decide) (by decide) k') ?_
      show GoW p e below s _ _ _ _ _ (T237.setTop (mkF m 150 #[.val (.int sa), .val (.long va), .second, .val (.int sb), .val (.long vb), .second, .val (.int ia), .val (.int ib), .val (.long wa), .second, .val (.long wb), .second, .val (.ref b3), .val (.ref b15), .val (.ref b195), .val (.int 1), .val (.int 0), .val (.int 0), .val (.int 0), .unset, .unset, .unset, .unset, .unset, .unset] [(.int 1)]))
      refine GoW.st (fun _ k' => XS.iload X237.here hx rfl (hb hby at_150) rfl k') ?_
      show GoW p e below s _ _ _ _ _ (T237.setTop (mkF m 152 #[.val (.int sa), .val (.long va), .second, .val (.int sb), .val (.long vb), .second, .val (.int ia), .val (.int ib), .val (.long wa), .second, .val (.long wb), .second, .val (.ref b3), .val (.ref b15), .val (.ref b195), .val (.int 1), .val (.int 0), .val (.int 0), .val (.int 0), .unset, .unset, .unset, .unset, .unset, .unset] [(.int 0), (.int 1)]))
      refine GoW.st (fun _ k' => XS.ifYes X237.here hx rfl (pc0 := 152) (pc' := 159) rfl (hb hby at_152) rfl (XT.i0_eq_t (by decide)) (by decide) (by decide) k') ?_
      show GoW p e below s _ _ _ _ _ (T237.setTop (mkF m 159 #[.val (.int sa), .val (.long va), .second, .val (.int sb), .val (.long vb), .second, .val (.int ia), .val (.int ib), .val (.long wa), .second, .val (.long wb), .second, .val (.ref b3), .val (.ref b15), .val (.ref b195), .val (.int 1), .val (.int 0), .val (.int 0), .val (.int 0), .unset, .unset, .unset, .unset, .unset, .unset] [(.int 1)]))
      refine GoW.st (fun _ k' => XS.iconst X237.here hx rfl (hb hby at_159) k') ?_
      refine GoW.st (fun _ k' => XS.iadd X237.here hx rfl (hb hby at_160) rfl k') ?_
      refine GoW.st (fun _ k' => XS.istore X237.here hx rfl (hb hby at_161) rfl (l' := #[.val (.int sa), .val (.long va), .second, .val (.int sb), .val (.long vb), .second, .val (.int ia), .val (.int ib), .val (.long wa), .second, .val (.long wb), .second, .val (.ref b3), .val (.ref b15), .val (.ref b195), .val (.int 1), .val (.int 0), .val (.int 0), .val (.int 0), .val (.int 1), .unset, .unset, .unset, .unset, .unset]) rfl k') ?_
      refine GoW.st (fun _ k' => XS.iload X237.here hx rfl (hb hby at_163) rfl k') ?_
      show GoW p e below s _ _ _ _ _ (T237.setTop (mkF m 165 #[.val (.int sa), .val (.long va), .second, .val (.int sb), .val (.long vb), .second, .val (.int ia), .val (.int ib), .val (.long wa), .second, .val (.long wb), .second, .val (.ref b3), .val (.ref b15), .val (.ref b195), .val (.int 1), .val (.int 0), .val (.int 0), .val (.int 0), .val (.int 1), .unset, .unset, .unset, .unset, .unset] [(.int 0)]))
      refine GoW.st (fun _ k' => XS.ifYes X237.here hx rfl (pc0 := 165) (pc' := 172) rfl (hb hby at_165) rfl (XT.i0_eq_t (by decide)) (by decide) (by decide) k') ?_
      show GoW p e below s _ _ _ _ _ (T237.setTop (mkF m 172 #[.val (.int sa), .val (.long va), .second, .val (.int sb), .val (.long vb), .second, .val (.int ia), .val (.int ib), .val (.long wa), .second, .val (.long wb), .second, .val (.ref b3), .val (.ref b15), .val (.ref b195), .val (.int 1), .val (.int 0), .val (.int 0), .val (.int 0), .val (.int 1), .unset, .unset, .unset, .unset, .unset] []))
      refine GoW.st (fun _ k' => XS.iconst X237.here hx rfl (hb hby at_172) k') ?_
      refine GoW.st (fun _ k' => XS.iload X237.here hx rfl (hb hby at_173) rfl k') ?_
      show GoW p e below s _ _ _ _ _ (T237.setTop (mkF m 175 #[.val (.int sa), .val (.long va), .second, .val (.int sb), .val (.long vb), .second, .val (.int ia), .val (.int ib), .val (.long wa), .second, .val (.long wb), .second, .val (.ref b3), .val (.ref b15), .val (.ref b195), .val (.int 1), .val (.int 0), .val (.int 0), .val (.int 0), .val (.int 1), .unset, .unset, .unset, .unset, .unset] [(.int 0), (.int 0)]))
      refine GoW.st (fun _ k' => XS.ifYes X237.here hx rfl (pc0 := 175) (pc' := 182) rfl (hb hby at_175) rfl (XT.i0_eq_t (by decide)) (by decide) (by decide) k') ?_
      show GoW p e below s _ _ _ _ _ (T237.setTop (mkF m 182 #[.val (.int sa), .val (.long va), .second, .val (.int sb), .val (.long vb), .second, .val (.int ia), .val (.int ib), .val (.long wa), .second, .val (.long wb), .second, .val (.ref b3), .val (.ref b15), .val (.ref b195), .val (.int 1), .val (.int 0), .val (.int 0), .val (.int 0), .val (.int 1), .unset, .unset, .unset, .unset, .unset] [(.int 0)]))
      refine GoW.st (fun _ k' => XS.iconst X237.here hx rfl (hb hby at_182) k') ?_
      refine GoW.st (fun _ k' => XS.iadd X237.here hx rfl (hb hby at_183) rfl k') ?_
      refine GoW.st (fun _ k' => XS.istore X237.here hx rfl (hb hby at_184) rfl (l' := #[.val (.int sa), .val (.long va), .second, .val (.int sb), .val (.long vb), .second, .val (.int ia), .val (.int ib), .val (.long wa), .second, .val (.long wb), .second, .val (.ref b3), .val (.ref b15), .val (.ref b195), .val (.int 1), .val (.int 0), .val (.int 0), .val (.int 0), .val (.int 1), .val (.int 0), .unset, .unset, .unset, .unset]) rfl k') ?_
      refine GoW.st (fun _ k' => XS.iload X237.here hx rfl (hb hby at_186) rfl k') ?_
      show GoW p e below s _ _ _ _ _ (T237.setTop (mkF m 188 #[.val (.int sa), .val (.long va), .second, .val (.int sb), .val (.long vb), .second, .val (.int ia), .val (.int ib), .val (.long wa), .second, .val (.long wb), .second, .val (.ref b3), .val (.ref b15), .val (.ref b195), .val (.int 1), .val (.int 0), .val (.int 0), .val (.int 0), .val (.int 1), .val (.int 0), .unset, .unset, .unset, .unset] [(.int 1)]))
      refine GoW.st (fun _ k' => XS.ifNo X237.here hx rfl (hb hby at_188) rfl (XT.i0_eq_f (by decide)) k') ?_
      show GoW p e below s _ _ _ _ _ (T237.setTop (mkF m 191 #[.val (.int sa), .val (.long va), .second, .val (.int sb), .val (.long vb), .second, .val (.int ia), .val (.int ib), .val (.long wa), .second, .val (.long wb), .second, .val (.ref b3), .val (.ref b15), .val (.ref b195), .val (.int 1), .val (.int 0), .val (.int 0), .val (.int 0), .val (.int 1), .val (.int 0), .unset, .unset, .unset, .unset] []))
      refine GoW.st (fun _ k' => XS.lload X237.here hx rfl (hb hby at_191) rfl k') ?_
      show GoW p e below s _ _ _ _ _ (T237.setTop (mkF m 193 #[.val (.int sa), .val (.long va), .second, .val (.int sb), .val (.long vb), .second, .val (.int ia), .val (.int ib), .val (.long wa), .second, .val (.long wb), .second, .val (.ref b3), .val (.ref b15), .val (.ref b195), .val (.int 1), .val (.int 0), .val (.int 0), .val (.int 0), .val (.int 1), .val (.int 0), .unset, .unset, .unset, .unset] [(.long wa)]))
      refine GoW.st (fun _ k' => XS.goto X237.here hx rfl (pc0 := 193) (pc' := 197) rfl (hb hby at_193) (by decide) (by decide) k') ?_
      show GoW p e below s _ _ _ _ _ (T237.setTop (mkF m 197 #[.val (.int sa), .val (.long va), .second, .val (.int sb), .val (.long vb), .second, .val (.int ia), .val (.int ib), .val (.long wa), .second, .val (.long wb), .second, .val (.ref b3), .val (.ref b15), .val (.ref b195), .val (.int 1), .val (.int 0), .val (.int 0), .val (.int 0), .val (.int 1), .val (.int 0), .unset, .unset, .unset, .unset] [(.long wa)]))
      refine GoW.st (fun _ k' => XS.iload X237.here hx rfl (hb hby at_197) rfl k') ?_
      show GoW p e below s _ _ _ _ _ (T237.setTop (mkF m 199 #[.val (.int sa), .val (.long va), .second, .val (.int sb), .val (.long vb), .second, .val (.int ia), .val (.int ib), .val (.long wa), .second, .val (.long wb), .second, .val (.ref b3), .val (.ref b15), .val (.ref b195), .val (.int 1), .val (.int 0), .val (.int 0), .val (.int 0), .val (.int 1), .val (.int 0), .unset, .unset, .unset, .unset] [(.int 0), (.long wa)]))
      refine GoW.st (fun _ k' => XS.ifYes X237.here hx rfl (pc0 := 199) (pc' := 207) rfl (hb hby at_199) rfl (XT.i0_eq_t (by decide)) (by decide) (by decide) k') ?_
      show GoW p e below s _ _ _ _ _ (T237.setTop (mkF m 207 #[.val (.int sa), .val (.long va), .second, .val (.int sb), .val (.long vb), .second, .val (.int ia), .val (.int ib), .val (.long wa), .second, .val (.long wb), .second, .val (.ref b3), .val (.ref b15), .val (.ref b195), .val (.int 1), .val (.int 0), .val (.int 0), .val (.int 0), .val (.int 1), .val (.int 0), .unset, .unset, .unset, .unset] [(.long wa)]))
      refine GoW.st (fun _ k' => XS.lconst X237.here hx rfl (hb hby at_207) k') ?_
      refine GoW.st (fun _ k' => XS.ladd X237.here hx rfl (hb hby at_208) rfl k') ?_
      refine GoW.st (fun _ k' => XS.lstore X237.here hx rfl (hb hby at_209) rfl (l' := #[.val (.int sa), .val (.long va), .second, .val (.int sb), .val (.long vb), .second, .val (.int ia), .val (.int ib), .val (.long wa), .second, .val (.long wb), .second, .val (.ref b3), .val (.ref b15), .val (.ref b195), .val (.int 1), .val (.int 0), .val (.int 0), .val (.int 0), .val (.int 1), .val (.int 0), .val (.long (wa + (0 : Int64))), .second, .unset, .unset]) rfl k') ?_
      refine GoW.st (fun _ k' => XS.iload X237.here hx rfl (hb hby at_211) rfl k') ?_
      show GoW p e below s _ _ _ _ _ (T237.setTop (mkF m 213 #[.val (.int sa), .val (.long va), .second, .val (.int sb), .val (.long vb), .second, .val (.int ia), .val (.int ib), .val (.long wa), .second, .val (.long wb), .second, .val (.ref b3), .val (.ref b15), .val (.ref b195), .val (.int 1), .val (.int 0), .val (.int 0), .val (.int 0), .val (.int 1), .val (.int 0), .val (.long (wa + (0 : Int64))), .second, .unset, .unset] [(.int 0)]))
      refine GoW.st (fun _ k' => XS.ifYes X237.here hx rfl (pc0 := 213) (pc' := 221) rfl (hb hby at_213) rfl (XT.i0_eq_t (by decide)) (by decide) (by decide) k') ?_
      show GoW p e below s _ _ _ _ _ (T237.setTop (mkF m 221 #[.val (.int sa), .val (.long va), .second, .val (.int sb), .val (.long vb), .second, .val (.int ia), .val (.int ib), .val (.long wa), .second, .val (.long wb), .second, .val (.ref b3), .val (.ref b15), .val (.ref b195), .val (.int 1), .val (.int 0), .val (.int 0), .val (.int 0), .val (.int 1), .val (.int 0), .val (.long (wa + (0 : Int64))), .second, .unset, .unset] []))
      refine GoW.st (fun _ k' => XS.lconst X237.here hx rfl (hb hby at_221) k') ?_
      refine GoW.st (fun _ k' => XS.iload X237.here hx rfl (hb hby at_222) rfl k') ?_
      show GoW p e below s _ _ _ _ _ (T237.setTop (mkF m 224 #[.val (.int sa), .val (.long va), .second, .val (.int sb), .val (.long vb), .second, .val (.int ia), .val (.int ib), .val (.long wa), .second, .val (.long wb), .second, .val (.ref b3), .val (.ref b15), .val (.ref b195), .val (.int 1), .val (.int 0), .val (.int 0), .val (.int 0), .val (.int 1), .val (.int 0), .val (.long (wa + (0 : Int64))), .second, .unset, .unset] [(.int 0), (.long 0)]))
      refine GoW.st (fun _ k' => XS.ifYes X237.here hx rfl (pc0 := 224) (pc' := 232) rfl (hb hby at_224) rfl (XT.i0_eq_t (by decide)) (by decide) (by decide) k') ?_
      show GoW p e below s _ _ _ _ _ (T237.setTop (mkF m 232 #[.val (.int sa), .val (.long va), .second, .val (.int sb), .val (.long vb), .second, .val (.int ia), .val (.int ib), .val (.long wa), .second, .val (.long wb), .second, .val (.ref b3), .val (.ref b15), .val (.ref b195), .val (.int 1), .val (.int 0), .val (.int 0), .val (.int 0), .val (.int 1), .val (.int 0), .val (.long (wa + (0 : Int64))), .second, .unset, .unset] [(.long 0)]))
      refine GoW.st (fun _ k' => XS.lconst X237.here hx rfl (hb hby at_232) k') ?_
      refine GoW.st (fun _ k' => XS.ladd X237.here hx rfl (hb hby at_233) rfl k') ?_
      refine GoW.st (fun _ k' => XS.lstore X237.here hx rfl (hb hby at_234) rfl (l' := #[.val (.int sa), .val (.long va), .second, .val (.int sb), .val (.long vb), .second, .val (.int ia), .val (.int ib), .val (.long wa), .second, .val (.long wb), .second, .val (.ref b3), .val (.ref b15), .val (.ref b195), .val (.int 1), .val (.int 0), .val (.int 0), .val (.int 0), .val (.int 1), .val (.int 0), .val (.long (wa + (0 : Int64))), .second, .val (.long ((0 : Int64) + (0 : Int64))), .second]) rfl k') ?_
      refine GoW.st (fun _ k' => XS.aload X237.here hx rfl (hb hby at_236) rfl rfl k') ?_
      show GoW p e below s _ _ _ _ _ (T237.setTop (mkF m 238 #[.val (.int sa), .val (.long va), .second, .val (.int sb), .val (.long vb), .second, .val (.int ia), .val (.int ib), .val (.long wa), .second, .val (.long wb), .second, .val (.ref b3), .val (.ref b15), .val (.ref b195), .val (.int 1), .val (.int 0), .val (.int 0), .val (.int 0), .val (.int 1), .val (.int 0), .val (.long (wa + (0 : Int64))), .second, .val (.long ((0 : Int64) + (0 : Int64))), .second] [(.ref b195)]))
      obtain ⟨cq256, kq256, q256a, q256b, q256c⟩ := isOf hZ184 rfl f255
      obtain ⟨_, _, ⟨T256, L256, k256, n256⟩, -, X256, ⟨Lc256, hQ256, l256, y256, z256⟩, st256⟩ := X237.virtualBack hx (y := mn1) (z := mn1) hown184 (mvT hZ184 (wdx hw 93 rfl)) (mvT hZ184 (wdx hw 94 rfl)) (notFace_of_selects (args := #[]) (mvT hZ184 (wdx hw 96 rfl))) (mvT hZ184 (wdx hw 96 rfl)) (mvT hZ184 (wdx hw 95 rfl)) (by decide) (backOf (W := 0) (rm14 l Z a0 hw [] b195 (((0 : Int32) + (1 : Int32)) + (1 : Int32)) T237.heap n0 O237 f238) hZ184 (wdx hw 97 rfl) (wdx hw 54 rfl) (by decide) (by decide)) q256a q256c (g := (mkF m 238 #[.val (.int sa), .val (.long va), .second, .val (.int sb), .val (.long vb), .second, .val (.int ia), .val (.int ib), .val (.long wa), .second, .val (.long wb), .second, .val (.ref b3), .val (.ref b15), .val (.ref b195), .val (.int 1), .val (.int 0), .val (.int 0), .val (.int 0), .val (.int 1), .val (.int 0), .val (.long (wa + (0 : Int64))), .second, .val (.long ((0 : Int64) + (0 : Int64))), .second] [(.ref b195)])) rfl (by rw [hml]; rfl) (Steps.refl _) (argsL := []) (rest := []) (lenOf pd___I rfl) rfl (by show 2 * 0 + _ ≤ _; exact Nat.le_of_eq rfl) (hb hby at_238) (fun _ _ => ⟨rfl, rfl, (by exact lee rfl), (by exact lee rfl)⟩)
      dsimp only [Pt.U, Pt.locs, Pt.cells, Pt.slots] at X256 l256 y256 z256 st256 hQ256
      subst l256 y256 z256
      obtain ⟨rfl, Nq256, eq256⟩ := hQ256
      have N256 := Fr.app N237 Nq256
      refine GoW.tr st256 ?_
      show GoW p e below s _ _ _ _ _ (T256.setTop (mkF m 241 #[.val (.int sa), .val (.long va), .second, .val (.int sb), .val (.long vb), .second, .val (.int ia), .val (.int ib), .val (.long wa), .second, .val (.long wb), .second, .val (.ref b3), .val (.ref b15), .val (.ref b195), .val (.int 1), .val (.int 0), .val (.int 0), .val (.int 0), .val (.int 1), .val (.int 0), .val (.long (wa + (0 : Int64))), .second, .val (.long ((0 : Int64) + (0 : Int64))), .second] [(.int (((0 : Int32) + (1 : Int32)) + (1 : Int32)))]))
      refine GoW.st (fun _ k' => XS.iconst X256.here hx rfl (hb hby at_241) k') ?_
      show GoW p e below s _ _ _ _ _ (T256.setTop (mkF m 242 #[.val (.int sa), .val (.long va), .second, .val (.int sb), .val (.long vb), .second, .val (.int ia), .val (.int ib), .val (.long wa), .second, .val (.long wb), .second, .val (.ref b3), .val (.ref b15), .val (.ref b195), .val (.int 1), .val (.int 0), .val (.int 0), .val (.int 0), .val (.int 1), .val (.int 0), .val (.long (wa + (0 : Int64))), .second, .val (.long ((0 : Int64) + (0 : Int64))), .second] [(.int 2), (.int (((0 : Int32) + (1 : Int32)) + (1 : Int32)))]))
      refine GoW.st (fun _ k' => XS.icmpNo X256.here hx rfl (hb hby at_242) rfl (XT.ii_ne_f (by simp [own_one])) k') ?_
      show GoW p e below s _ _ _ _ _ (T256.setTop (mkF m 245 #[.val (.int sa), .val (.long va), .second, .val (.int sb), .val (.long vb), .second, .val (.int ia), .val (.int ib), .val (.long wa), .second, .val (.long wb), .second, .val (.ref b3), .val (.ref b15), .val (.ref b195), .val (.int 1), .val (.int 0), .val (.int 0), .val (.int 0), .val (.int 1), .val (.int 0), .val (.long (wa + (0 : Int64))), .second, .val (.long ((0 : Int64) + (0 : Int64))), .second] []))
      refine GoW.st (fun _ k' => XS.aload X256.here hx rfl (hb hby at_245) rfl rfl k') ?_
      show GoW p e below s _ _ _ _ _ (T256.setTop (mkF m 247 #[.val (.int sa), .val (.long va), .second, .val (.int sb), .val (.long vb), .second, .val (.int ia), .val (.int ib), .val (.long wa), .second, .val (.long wb), .second, .val (.ref b3), .val (.ref b15), .val (.ref b195), .val (.int 1), .val (.int 0), .val (.int 0), .val (.int 0), .val (.int 1), .val (.int 0), .val (.long (wa + (0 : Int64))), .second, .val (.long ((0 : Int64) + (0 : Int64))), .second] [(.ref b195)]))
      obtain ⟨cq257, kq257, q257a, q257b, q257c⟩ := isOf hZ184 eq256 f255
      obtain ⟨_, _, ⟨T257, L257, k257, n257⟩, -, X257, ⟨Lc257, hQ257, l257, y257, z257⟩, st257⟩ := X256.virtualBack hx (y := mn2) (z := mn2) hown184 (mvT hZ184 (wdx hw 98 rfl)) (mvT hZ184 (wdx hw 99 rfl)) (notFace_of_selects (args := #[]) (mvT hZ184 (wdx hw 101 rfl))) (mvT hZ184 (wdx hw 101 rfl)) (mvT hZ184 (wdx hw 100 rfl)) (by decide) (backOf (W := 0) (rm15 l Z a0 hw [] b195 ((0 : Int32) + (1 : Int32)) T237.heap n0 O237 f239) hZ184 (wdx hw 102 rfl) (wdx hw 54 rfl) (by decide) (by decide)) q257a q257c (g := (mkF m 247 #[.val (.int sa), .val (.long va), .second, .val (.int sb), .val (.long vb), .second, .val (.int ia), .val (.int ib), .val (.long wa), .second, .val (.long wb), .second, .val (.ref b3), .val (.ref b15), .val (.ref b195), .val (.int 1), .val (.int 0), .val (.int 0), .val (.int 0), .val (.int 1), .val (.int 0), .val (.long (wa + (0 : Int64))), .second, .val (.long ((0 : Int64) + (0 : Int64))), .second] [(.ref b195)])) rfl (by rw [hml]; rfl) (Steps.refl _) (argsL := []) (rest := []) (lenOf pd___I rfl) rfl (by show 2 * 0 + _ ≤ _; exact Nat.le_of_eq rfl) (hb hby at_247) (fun _ _ => ⟨rfl, eq256, (by exact lee rfl), (by exact lee rfl)⟩)
      dsimp only [Pt.U, Pt.locs, Pt.cells, Pt.slots] at X257 l257 y257 z257 st257 hQ257
      subst l257 y257 z257
      obtain ⟨rfl, Nq257, eq257⟩ := hQ257
      have N257 := Fr.app N256 Nq257
      refine GoW.tr st257 ?_
      show GoW p e below s _ _ _ _ _ (T257.setTop (mkF m 250 #[.val (.int sa), .val (.long va), .second, .val (.int sb), .val (.long vb), .second, .val (.int ia), .val (.int ib), .val (.long wa), .second, .val (.long wb), .second, .val (.ref b3), .val (.ref b15), .val (.ref b195), .val (.int 1), .val (.int 0), .val (.int 0), .val (.int 0), .val (.int 1), .val (.int 0), .val (.long (wa + (0 : Int64))), .second, .val (.long ((0 : Int64) + (0 : Int64))), .second] [(.int ((0 : Int32) + (1 : Int32)))]))
      refine GoW.st (fun _ k' => XS.iload X257.here hx rfl (hb hby at_250) rfl k') ?_
      show GoW p e below s _ _ _ _ _ (T257.setTop (mkF m 252 #[.val (.int sa), .val (.long va), .second, .val (.int sb), .val (.long vb), .second, .val (.int ia), .val (.int ib), .val (.long wa), .second, .val (.long wb), .second, .val (.ref b3), .val (.ref b15), .val (.ref b195), .val (.int 1), .val (.int 0), .val (.int 0), .val (.int 0), .val (.int 1), .val (.int 0), .val (.long (wa + (0 : Int64))), .second, .val (.long ((0 : Int64) + (0 : Int64))), .second] [(.int 1), (.int ((0 : Int32) + (1 : Int32)))]))
      refine GoW.st (fun _ k' => XS.icmpNo X257.here hx rfl (hb hby at_252) rfl (XT.ii_ne_f (by simp [own_one])) k') ?_
      show GoW p e below s _ _ _ _ _ (T257.setTop (mkF m 255 #[.val (.int sa), .val (.long va), .second, .val (.int sb), .val (.long vb), .second, .val (.int ia), .val (.int ib), .val (.long wa), .second, .val (.long wb), .second, .val (.ref b3), .val (.ref b15), .val (.ref b195), .val (.int 1), .val (.int 0), .val (.int 0), .val (.int 0), .val (.int 1), .val (.int 0), .val (.long (wa + (0 : Int64))), .second, .val (.long ((0 : Int64) + (0 : Int64))), .second] []))
      refine GoW.st (fun _ k' => XS.aload X257.here hx rfl (hb hby at_255) rfl rfl k') ?_
      show GoW p e below s _ _ _ _ _ (T257.setTop (mkF m 257 #[.val (.int sa), .val (.long va), .second, .val (.int sb), .val (.long vb), .second, .val (.int ia), .val (.int ib), .val (.long wa), .second, .val (.long wb), .second, .val (.ref b3), .val (.ref b15), .val (.ref b195), .val (.int 1), .val (.int 0), .val (.int 0), .val (.int 0), .val (.int 1), .val (.int 0), .val (.long (wa + (0 : Int64))), .second, .val (.long ((0 : Int64) + (0 : Int64))), .second] [(.ref b195)]))
      obtain ⟨cq258, kq258, q258a, q258b, q258c⟩ := isOf hZ184 eq257 f255
      obtain ⟨_, _, ⟨T258, L258, k258, n258⟩, -, X258, ⟨Lc258, hQ258, l258, y258, z258⟩, st258⟩ := X257.virtualBack hx (y := mn3) (z := mn3) hown184 (mvT hZ184 (wdx hw 103 rfl)) (mvT hZ184 (wdx hw 104 rfl)) (notFace_of_selects (args := #[]) (mvT hZ184 (wdx hw 106 rfl))) (mvT hZ184 (wdx hw 106 rfl)) (mvT hZ184 (wdx hw 105 rfl)) (by decide) (backOf (W := 0) (rm16 l Z a0 hw [] b195 (0 : Int32) T237.heap n0 O237 f240) hZ184 (wdx hw 107 rfl) (wdx hw 54 rfl) (by decide) (by decide)) q258a q258c (g := (mkF m 257 #[.val (.int sa), .val (.long va), .second, .val (.int sb), .val (.long vb), .second, .val (.int ia), .val (.int ib), .val (.long wa), .second, .val (.long wb), .second, .val (.ref b3), .val (.ref b15), .val (.ref b195), .val (.int 1), .val (.int 0), .val (.int 0), .val (.int 0), .val (.int 1), .val (.int 0), .val (.long (wa + (0 : Int64))), .second, .val (.long ((0 : Int64) + (0 : Int64))), .second] [(.ref b195)])) rfl (by rw [hml]; rfl) (Steps.refl _) (argsL := []) (rest := []) (lenOf pd___I rfl) rfl (by show 2 * 0 + _ ≤ _; exact Nat.le_of_eq rfl) (hb hby at_257) (fun _ _ => ⟨rfl, eq257, (by exact lee rfl), (by exact lee rfl)⟩)
      dsimp only [Pt.U, Pt.locs, Pt.cells, Pt.slots] at X258 l258 y258 z258 st258 hQ258
      subst l258 y258 z258
      obtain ⟨rfl, Nq258, eq258⟩ := hQ258
      have N258 := Fr.app N257 Nq258
      refine GoW.tr st258 ?_
      show GoW p e below s _ _ _ _ _ (T258.setTop (mkF m 260 #[.val (.int sa), .val (.long va), .second, .val (.int sb), .val (.long vb), .second, .val (.int ia), .val (.int ib), .val (.long wa), .second, .val (.long wb), .second, .val (.ref b3), .val (.ref b15), .val (.ref b195), .val (.int 1), .val (.int 0), .val (.int 0), .val (.int 0), .val (.int 1), .val (.int 0), .val (.long (wa + (0 : Int64))), .second, .val (.long ((0 : Int64) + (0 : Int64))), .second] [(.int 0)]))
      refine GoW.st (fun _ k' => XS.iload X258.here hx rfl (hb hby at_260) rfl k') ?_
      show GoW p e below s _ _ _ _ _ (T258.setTop (mkF m 262 #[.val (.int sa), .val (.long va), .second, .val (.int sb), .val (.long vb), .second, .val (.int ia), .val (.int ib), .val (.long wa), .second, .val (.long wb), .second, .val (.ref b3), .val (.ref b15), .val (.ref b195), .val (.int 1), .val (.int 0), .val (.int 0), .val (.int 0), .val (.int 1), .val (.int 0), .val (.long (wa + (0 : Int64))), .second, .val (.long ((0 : Int64) + (0 : Int64))), .second] [(.int 0), (.int 0)]))
      refine GoW.st (fun _ k' => XS.icmpNo X258.here hx rfl (hb hby at_262) rfl (XT.ii_ne_f (by simp [own_one])) k') ?_
      show GoW p e below s _ _ _ _ _ (T258.setTop (mkF m 265 #[.val (.int sa), .val (.long va), .second, .val (.int sb), .val (.long vb), .second, .val (.int ia), .val (.int ib), .val (.long wa), .second, .val (.long wb), .second, .val (.ref b3), .val (.ref b15), .val (.ref b195), .val (.int 1), .val (.int 0), .val (.int 0), .val (.int 0), .val (.int 1), .val (.int 0), .val (.long (wa + (0 : Int64))), .second, .val (.long ((0 : Int64) + (0 : Int64))), .second] []))
      refine GoW.st (fun _ k' => XS.aload X258.here hx rfl (hb hby at_265) rfl rfl k') ?_
      show GoW p e below s _ _ _ _ _ (T258.setTop (mkF m 267 #[.val (.int sa), .val (.long va), .second, .val (.int sb), .val (.long vb), .second, .val (.int ia), .val (.int ib), .val (.long wa), .second, .val (.long wb), .second, .val (.ref b3), .val (.ref b15), .val (.ref b195), .val (.int 1), .val (.int 0), .val (.int 0), .val (.int 0), .val (.int 1), .val (.int 0), .val (.long (wa + (0 : Int64))), .second, .val (.long ((0 : Int64) + (0 : Int64))), .second] [(.ref b195)]))
      obtain ⟨cq259, kq259, q259a, q259b, q259c⟩ := isOf hZ184 eq258 f255
      obtain ⟨_, _, ⟨T259, L259, k259, n259⟩, -, X259, ⟨Lc259, hQ259, l259, y259, z259⟩, st259⟩ := X258.virtualBack hx (y := mn4) (z := mn4) hown184 (mvT hZ184 (wdx hw 110 rfl)) (mvT hZ184 (wdx hw 111 rfl)) (notFace_of_selects (args := #[]) (mvT hZ184 (wdx hw 113 rfl))) (mvT hZ184 (wdx hw 113 rfl)) (mvT hZ184 (wdx hw 112 rfl)) (by decide) (backOf (W := 0) (rm17 l Z a0 hw [] b195 (((0 : Int64) + (((1 : Int32).toInt64) * wa)) + (((1 : Int32).toInt64) * wb)) T237.heap n0 O237 f241) hZ184 (wdx hw 114 rfl) (wdx hw 54 rfl) (by decide) (by decide)) q259a q259c (g := (mkF m 267 #[.val (.int sa), .val (.long va), .second, .val (.int sb), .val (.long vb), .second, .val (.int ia), .val (.int ib), .val (.long wa), .second, .val (.long wb), .second, .val (.ref b3), .val (.ref b15), .val (.ref b195), .val (.int 1), .val (.int 0), .val (.int 0), .val (.int 0), .val (.int 1), .val (.int 0), .val (.long (wa + (0 : Int64))), .second, .val (.long ((0 : Int64) + (0 : Int64))), .second] [(.ref b195)])) rfl (by rw [hml]; rfl) (Steps.refl _) (argsL := []) (rest := []) (lenOf pd___J rfl) rfl (by show 2 * 0 + _ ≤ _; exact Nat.le_of_eq rfl) (hb hby at_267) (fun _ _ => ⟨rfl, eq258, (by exact lee rfl), (by exact lee rfl)⟩)
      dsimp only [Pt.U, Pt.locs, Pt.cells, Pt.slots] at X259 l259 y259 z259 st259 hQ259
      subst l259 y259 z259
      obtain ⟨rfl, Nq259, eq259⟩ := hQ259
      have N259 := Fr.app N258 Nq259
      refine GoW.tr st259 ?_
      show GoW p e below s _ _ _ _ _ (T259.setTop (mkF m 270 #[.val (.int sa), .val (.long va), .second, .val (.int sb), .val (.long vb), .second, .val (.int ia), .val (.int ib), .val (.long wa), .second, .val (.long wb), .second, .val (.ref b3), .val (.ref b15), .val (.ref b195), .val (.int 1), .val (.int 0), .val (.int 0), .val (.int 0), .val (.int 1), .val (.int 0), .val (.long (wa + (0 : Int64))), .second, .val (.long ((0 : Int64) + (0 : Int64))), .second] [(.long (((0 : Int64) + (((1 : Int32).toInt64) * wa)) + (((1 : Int32).toInt64) * wb)))]))
      refine GoW.st (fun _ k' => XS.lload X259.here hx rfl (hb hby at_270) rfl k') ?_
      refine GoW.st (fun _ k' => XS.lload X259.here hx rfl (hb hby at_272) rfl k') ?_
      refine GoW.st (fun _ k' => XS.ladd X259.here hx rfl (hb hby at_274) rfl k') ?_
      show GoW p e below s _ _ _ _ _ (T259.setTop (mkF m 275 #[.val (.int sa), .val (.long va), .second, .val (.int sb), .val (.long vb), .second, .val (.int ia), .val (.int ib), .val (.long wa), .second, .val (.long wb), .second, .val (.ref b3), .val (.ref b15), .val (.ref b195), .val (.int 1), .val (.int 0), .val (.int 0), .val (.int 0), .val (.int 1), .val (.int 0), .val (.long (wa + (0 : Int64))), .second, .val (.long ((0 : Int64) + (0 : Int64))), .second] [(.long (wa + wb)), (.long (((0 : Int64) + (((1 : Int32).toInt64) * wa)) + (((1 : Int32).toInt64) * wb)))]))
      refine GoW.st (fun _ k' => XT.lcmp X259.here hx rfl (hb hby at_275) rfl k') ?_
      show GoW p e below s _ _ _ _ _ (T259.setTop (mkF m 276 #[.val (.int sa), .val (.long va), .second, .val (.int sb), .val (.long vb), .second, .val (.int ia), .val (.int ib), .val (.long wa), .second, .val (.long wb), .second, .val (.ref b3), .val (.ref b15), .val (.ref b195), .val (.int 1), .val (.int 0), .val (.int 0), .val (.int 0), .val (.int 1), .val (.int 0), .val (.long (wa + (0 : Int64))), .second, .val (.long ((0 : Int64) + (0 : Int64))), .second] [(.int (XT.cmpL (((0 : Int64) + (((1 : Int32).toInt64) * wa)) + (((1 : Int32).toInt64) * wb)) (wa + wb)))]))
      refine GoW.st (fun _ k' => XS.ifNo X259.here hx rfl (hb hby at_276) rfl (XT.ll_ne_f (by simp [own_one])) k') ?_
      show GoW p e below s _ _ _ _ _ (T259.setTop (mkF m 279 #[.val (.int sa), .val (.long va), .second, .val (.int sb), .val (.long vb), .second, .val (.int ia), .val (.int ib), .val (.long wa), .second, .val (.long wb), .second, .val (.ref b3), .val (.ref b15), .val (.ref b195), .val (.int 1), .val (.int 0), .val (.int 0), .val (.int 0), .val (.int 1), .val (.int 0), .val (.long (wa + (0 : Int64))), .second, .val (.long ((0 : Int64) + (0 : Int64))), .second] []))
      refine GoW.st (fun _ k' => XS.aload X259.here hx rfl (hb hby at_279) rfl rfl k') ?_
      show GoW p e below s _ _ _ _ _ (T259.setTop (mkF m 281 #[.val (.int sa), .val (.long va), .second, .val (.int sb), .val (.long vb), .second, .val (.int ia), .val (.int ib), .val (.long wa), .second, .val (.long wb), .second, .val (.ref b3), .val (.ref b15), .val (.ref b195), .val (.int 1), .val (.int 0), .val (.int 0), .val (.int 0), .val (.int 1), .val (.int 0), .val (.long (wa + (0 : Int64))), .second, .val (.long ((0 : Int64) + (0 : Int64))), .second] [(.ref b195)]))
      obtain ⟨cq260, kq260, q260a, q260b, q260c⟩ := isOf hZ184 eq259 f255
      obtain ⟨_, _, ⟨T260, L260, k260, n260⟩, -, X260, ⟨Lc260, hQ260, l260, y260, z260⟩, st260⟩ := X259.virtualBack hx (y := mn5) (z := mn5) hown184 (mvT hZ184 (wdx hw 115 rfl)) (mvT hZ184 (wdx hw 116 rfl)) (notFace_of_selects (args := #[]) (mvT hZ184 (wdx hw 118 rfl))) (mvT hZ184 (wdx hw 118 rfl)) (mvT hZ184 (wdx hw 117 rfl)) (by decide) (backOf (W := 0) (rm18 l Z a0 hw [] b195 ((0 : Int64) + (((1 : Int32).toInt64) * wa)) T237.heap n0 O237 f242) hZ184 (wdx hw 119 rfl) (wdx hw 54 rfl) (by decide) (by decide)) q260a q260c (g := (mkF m 281 #[.val (.int sa), .val (.long va), .second, .val (.int sb), .val (.long vb), .second, .val (.int ia), .val (.int ib), .val (.long wa), .second, .val (.long wb), .second, .val (.ref b3), .val (.ref b15), .val (.ref b195), .val (.int 1), .val (.int 0), .val (.int 0), .val (.int 0), .val (.int 1), .val (.int 0), .val (.long (wa + (0 : Int64))), .second, .val (.long ((0 : Int64) + (0 : Int64))), .second] [(.ref b195)])) rfl (by rw [hml]; rfl) (Steps.refl _) (argsL := []) (rest := []) (lenOf pd___J rfl) rfl (by show 2 * 0 + _ ≤ _; exact Nat.le_of_eq rfl) (hb hby at_281) (fun _ _ => ⟨rfl, eq259, (by exact lee rfl), (by exact lee rfl)⟩)
      dsimp only [Pt.U, Pt.locs, Pt.cells, Pt.slots] at X260 l260 y260 z260 st260 hQ260
      subst l260 y260 z260
      obtain ⟨rfl, Nq260, eq260⟩ := hQ260
      have N260 := Fr.app N259 Nq260
      refine GoW.tr st260 ?_
      show GoW p e below s _ _ _ _ _ (T260.setTop (mkF m 284 #[.val (.int sa), .val (.long va), .second, .val (.int sb), .val (.long vb), .second, .val (.int ia), .val (.int ib), .val (.long wa), .second, .val (.long wb), .second, .val (.ref b3), .val (.ref b15), .val (.ref b195), .val (.int 1), .val (.int 0), .val (.int 0), .val (.int 0), .val (.int 1), .val (.int 0), .val (.long (wa + (0 : Int64))), .second, .val (.long ((0 : Int64) + (0 : Int64))), .second] [(.long ((0 : Int64) + (((1 : Int32).toInt64) * wa)))]))
      refine GoW.st (fun _ k' => XS.lload X260.here hx rfl (hb hby at_284) rfl k') ?_
      show GoW p e below s _ _ _ _ _ (T260.setTop (mkF m 286 #[.val (.int sa), .val (.long va), .second, .val (.int sb), .val (.long vb), .second, .val (.int ia), .val (.int ib), .val (.long wa), .second, .val (.long wb), .second, .val (.ref b3), .val (.ref b15), .val (.ref b195), .val (.int 1), .val (.int 0), .val (.int 0), .val (.int 0), .val (.int 1), .val (.int 0), .val (.long (wa + (0 : Int64))), .second, .val (.long ((0 : Int64) + (0 : Int64))), .second] [(.long (wa + (0 : Int64))), (.long ((0 : Int64) + (((1 : Int32).toInt64) * wa)))]))
      refine GoW.st (fun _ k' => XT.lcmp X260.here hx rfl (hb hby at_286) rfl k') ?_
      show GoW p e below s _ _ _ _ _ (T260.setTop (mkF m 287 #[.val (.int sa), .val (.long va), .second, .val (.int sb), .val (.long vb), .second, .val (.int ia), .val (.int ib), .val (.long wa), .second, .val (.long wb), .second, .val (.ref b3), .val (.ref b15), .val (.ref b195), .val (.int 1), .val (.int 0), .val (.int 0), .val (.int 0), .val (.int 1), .val (.int 0), .val (.long (wa + (0 : Int64))), .second, .val (.long ((0 : Int64) + (0 : Int64))), .second] [(.int (XT.cmpL ((0 : Int64) + (((1 : Int32).toInt64) * wa)) (wa + (0 : Int64))))]))
      refine GoW.st (fun _ k' => XS.ifNo X260.here hx rfl (hb hby at_287) rfl (XT.ll_ne_f (by simp [own_one])) k') ?_
      show GoW p e below s _ _ _ _ _ (T260.setTop (mkF m 290 #[.val (.int sa), .val (.long va), .second, .val (.int sb), .val (.long vb), .second, .val (.int ia), .val (.int ib), .val (.long wa), .second, .val (.long wb), .second, .val (.ref b3), .val (.ref b15), .val (.ref b195), .val (.int 1), .val (.int 0), .val (.int 0), .val (.int 0), .val (.int 1), .val (.int 0), .val (.long (wa + (0 : Int64))), .second, .val (.long ((0 : Int64) + (0 : Int64))), .second] []))
      refine GoW.st (fun _ k' => XS.aload X260.here hx rfl (hb hby at_290) rfl rfl k') ?_
      show GoW p e below s _ _ _ _ _ (T260.setTop (mkF m 292 #[.val (.int sa), .val (.long va), .second, .val (.int sb), .val (.long vb), .second, .val (.int ia), .val (.int ib), .val (.long wa), .second, .val (.long wb), .second, .val (.ref b3), .val (.ref b15), .val (.ref b195), .val (.int 1), .val (.int 0), .val (.int 0), .val (.int 0), .val (.int 1), .val (.int 0), .val (.long (wa + (0 : Int64))), .second, .val (.long ((0 : Int64) + (0 : Int64))), .second] [(.ref b195)]))
      obtain ⟨cq261, kq261, q261a, q261b, q261c⟩ := isOf hZ184 eq260 f255
      obtain ⟨_, _, ⟨T261, L261, k261, n261⟩, -, X261, ⟨Lc261, hQ261, l261, y261, z261⟩, st261⟩ := X260.virtualBack hx (y := mn6) (z := mn6) hown184 (mvT hZ184 (wdx hw 120 rfl)) (mvT hZ184 (wdx hw 121 rfl)) (notFace_of_selects (args := #[]) (mvT hZ184 (wdx hw 123 rfl))) (mvT hZ184 (wdx hw 123 rfl)) (mvT hZ184 (wdx hw 122 rfl)) (by decide) (backOf (W := 0) (rm19 l Z a0 hw [] b195 (0 : Int64) T237.heap n0 O237 f243) hZ184 (wdx hw 124 rfl) (wdx hw 54 rfl) (by decide) (by decide)) q261a q261c (g := (mkF m 292 #[.val (.int sa), .val (.long va), .second, .val (.int sb), .val (.long vb), .second, .val (.int ia), .val (.int ib), .val (.long wa), .second, .val (.long wb), .second, .val (.ref b3), .val (.ref b15), .val (.ref b195), .val (.int 1), .val (.int 0), .val (.int 0), .val (.int 0), .val (.int 1), .val (.int 0), .val (.long (wa + (0 : Int64))), .second, .val (.long ((0 : Int64) + (0 : Int64))), .second] [(.ref b195)])) rfl (by rw [hml]; rfl) (Steps.refl _) (argsL := []) (rest := []) (lenOf pd___J rfl) rfl (by show 2 * 0 + _ ≤ _; exact Nat.le_of_eq rfl) (hb hby at_292) (fun _ _ => ⟨rfl, eq260, (by exact lee rfl), (by exact lee rfl)⟩)
      dsimp only [Pt.U, Pt.locs, Pt.cells, Pt.slots] at X261 l261 y261 z261 st261 hQ261
      subst l261 y261 z261
      obtain ⟨rfl, Nq261, eq261⟩ := hQ261
      have N261 := Fr.app N260 Nq261
      refine GoW.tr st261 ?_
      show GoW p e below s _ _ _ _ _ (T261.setTop (mkF m 295 #[.val (.int sa), .val (.long va), .second, .val (.int sb), .val (.long vb), .second, .val (.int ia), .val (.int ib), .val (.long wa), .second, .val (.long wb), .second, .val (.ref b3), .val (.ref b15), .val (.ref b195), .val (.int 1), .val (.int 0), .val (.int 0), .val (.int 0), .val (.int 1), .val (.int 0), .val (.long (wa + (0 : Int64))), .second, .val (.long ((0 : Int64) + (0 : Int64))), .second] [(.long 0)]))
      refine GoW.st (fun _ k' => XS.lload X261.here hx rfl (hb hby at_295) rfl k') ?_
      show GoW p e below s _ _ _ _ _ (T261.setTop (mkF m 297 #[.val (.int sa), .val (.long va), .second, .val (.int sb), .val (.long vb), .second, .val (.int ia), .val (.int ib), .val (.long wa), .second, .val (.long wb), .second, .val (.ref b3), .val (.ref b15), .val (.ref b195), .val (.int 1), .val (.int 0), .val (.int 0), .val (.int 0), .val (.int 1), .val (.int 0), .val (.long (wa + (0 : Int64))), .second, .val (.long ((0 : Int64) + (0 : Int64))), .second] [(.long ((0 : Int64) + (0 : Int64))), (.long 0)]))
      refine GoW.st (fun _ k' => XT.lcmp X261.here hx rfl (hb hby at_297) rfl k') ?_
      show GoW p e below s _ _ _ _ _ (T261.setTop (mkF m 298 #[.val (.int sa), .val (.long va), .second, .val (.int sb), .val (.long vb), .second, .val (.int ia), .val (.int ib), .val (.long wa), .second, .val (.long wb), .second, .val (.ref b3), .val (.ref b15), .val (.ref b195), .val (.int 1), .val (.int 0), .val (.int 0), .val (.int 0), .val (.int 1), .val (.int 0), .val (.long (wa + (0 : Int64))), .second, .val (.long ((0 : Int64) + (0 : Int64))), .second] [(.int (XT.cmpL (0 : Int64) ((0 : Int64) + (0 : Int64))))]))
      refine GoW.st (fun _ k' => XS.ifNo X261.here hx rfl (hb hby at_298) rfl (XT.ll_ne_f (by simp [own_one])) k') ?_
      show GoW p e below s _ _ _ _ _ (T261.setTop (mkF m 301 #[.val (.int sa), .val (.long va), .second, .val (.int sb), .val (.long vb), .second, .val (.int ia), .val (.int ib), .val (.long wa), .second, .val (.long wb), .second, .val (.ref b3), .val (.ref b15), .val (.ref b195), .val (.int 1), .val (.int 0), .val (.int 0), .val (.int 0), .val (.int 1), .val (.int 0), .val (.long (wa + (0 : Int64))), .second, .val (.long ((0 : Int64) + (0 : Int64))), .second] []))
      refine GoW.st (fun _ k' => XS.iconst X261.here hx rfl (hb hby at_301) k') ?_
      show GoW p e below s _ _ _ _ _ (T261.setTop (mkF m 302 #[.val (.int sa), .val (.long va), .second, .val (.int sb), .val (.long vb), .second, .val (.int ia), .val (.int ib), .val (.long wa), .second, .val (.long wb), .second, .val (.ref b3), .val (.ref b15), .val (.ref b195), .val (.int 1), .val (.int 0), .val (.int 0), .val (.int 0), .val (.int 1), .val (.int 0), .val (.long (wa + (0 : Int64))), .second, .val (.long ((0 : Int64) + (0 : Int64))), .second] [(.int 1)]))
      refine GoW.st (fun _ k' => XS.goto X261.here hx rfl (pc0 := 302) (pc' := 306) rfl (hb hby at_302) (by decide) (by decide) k') ?_
      show GoW p e below s _ _ _ _ _ (T261.setTop (mkF m 306 #[.val (.int sa), .val (.long va), .second, .val (.int sb), .val (.long vb), .second, .val (.int ia), .val (.int ib), .val (.long wa), .second, .val (.long wb), .second, .val (.ref b3), .val (.ref b15), .val (.ref b195), .val (.int 1), .val (.int 0), .val (.int 0), .val (.int 0), .val (.int 1), .val (.int 0), .val (.long (wa + (0 : Int64))), .second, .val (.long ((0 : Int64) + (0 : Int64))), .second] [(.int 1)]))
      refine GoW.retB X261 hx hlk hS184 (by rw [eq261]; exact hk237) hZ184 hEL CH237 (t := .boolean) Bd.returns (by simp) (hb hby at_306) (by decide) (by decide) eq261 ?_
      exact ⟨rfl, N261, trivial⟩
  · show GoW p e below s _ _ _ _ _ (T8.setTop (mkF m 41 #[.val (.int sa), .val (.long va), .second, .val (.int sb), .val (.long vb), .second, .val (.int ia), .val (.int ib), .val (.long wa), .second, .val (.long wb), .second, .unset, .unset, .unset, .unset, .unset, .unset, .unset, .unset, .unset, .unset, .unset, .unset, .unset] [(.ref hsa), .null, (.ref b3), (.ref b3)]))
    refine GoW.st (fun _ k' => XS.lload X8.here hx rfl (hb hby at_41) rfl k') ?_
    show GoW p e below s _ _ _ _ _ (T8.setTop (mkF m 43 #[.val (.int sa), .val (.long va), .second, .val (.int sb), .val (.long vb), .second, .val (.int ia), .val (.int ib), .val (.long wa), .second, .val (.long wb), .second, .unset, .unset, .unset, .unset, .unset, .unset, .unset, .unset, .unset, .unset, .unset, .unset, .unset] [(.long wa), (.ref hsa), .null, (.ref b3), (.ref b3)]))
    obtain ⟨_, _, ⟨T262, L262, k262, n262⟩, -, Xr262, hSr262, hgr262, ⟨Lc262, hQ262, l262, y262, z262, C262⟩, st262⟩ := X8.specialBackS hx (y := mn7) rfl hown (mvT hZ (wdx hw 19 rfl)) (mvT hZ (wdx hw 20 rfl)) (mvT hZ (wdx hw 21 rfl)) (by decide) (own_back (W := 1) (rm4 l Z a0 hw [] b3 hsa wa h3 n0 O3 A3 f5 f6 f7 E_hsa g_b3 qwa rwa) hZ (wdx hw 21 rfl) (wdx hw 12 rfl) (by decide) (by decide) hEL CH3.1 (allS ⟨A3.lt, f4⟩ all0)) (g := (mkF m 43 #[.val (.int sa), .val (.long va), .second, .val (.int sb), .val (.long vb), .second, .val (.int ia), .val (.int ib), .val (.long wa), .second, .val (.long wb), .second, .unset, .unset, .unset, .unset, .unset, .unset, .unset, .unset, .unset, .unset, .unset, .unset, .unset] [(.long wa), (.ref hsa), .null, (.ref b3), (.ref b3)])) rfl (by rw [hml]; rfl) (Steps.refl _) (a := b3) (argsL := [.null, (.ref hsa), (.long wa)]) (rest := [(.ref b3)]) (lenOf pd__Lcom_example_spillway_spillway_assignment_EndpointAddress_Lcom_example_spillway_spillway_assignment_HealthStatus_J_V rfl) rfl (by show 2 * 0 + _ ≤ _; exact Nat.le_of_eq rfl) (hb hby at_43) (fun _ _ => ⟨rfl, eq8, (by exact lee rfl), (by exact lee rfl)⟩)
    dsimp only [Pt.U, Pt.locs, Pt.cells, Pt.slots] at Xr262 hSr262 hgr262 l262 y262 z262 C262 st262 hQ262
    subst l262 y262 z262
    obtain ⟨X262, hS262, hZ262, hown262⟩ := rebS hS0 (by rw [eq8]; exact hk3) Xr262 hSr262 hgr262 hZ hown
    obtain ⟨rfl, Nq262, Kq262, f263, f264⟩ := hQ262
    have N262 := Fr.app N8 Nq262
    refine GoW.tr st262 ?_
    have f265 : Safe Z EL T262.vm T262.heap b3 := C262.safe A3.lt f4
    have f266 : Exa Z T262.heap b3 "com/example/spillway/spillway/assignment/Endpoint" := A3.keep Kq262
    have f267 : Exa Z T262.heap hsa "com/example/spillway/spillway/assignment/HealthStatus" := E_hsa.keep Kq262
    have CH262 : CHr Z EL s.vm s.heap T262.vm T262.heap := CH3.trans C262
    have O262 : Old Z n0 T262.heap := O3.keep Kq262 (allS g_b3 all0)
    show GoW p e below s _ _ _ _ _ (T262.setTop (mkF m 46 #[.val (.int sa), .val (.long va), .second, .val (.int sb), .val (.long vb), .second, .val (.int ia), .val (.int ib), .val (.long wa), .second, .val (.long wb), .second, .unset, .unset, .unset, .unset, .unset, .unset, .unset, .unset, .unset, .unset, .unset, .unset, .unset] [(.ref b3)]))
    refine GoW.st (fun _ k' => XS.astore X262.here hx rfl (hb hby at_46) rfl rfl (l' := #[.val (.int sa), .val (.long va), .second, .val (.int sb), .val (.long vb), .second, .val (.int ia), .val (.int ib), .val (.long wa), .second, .val (.long wb), .second, .val (.ref b3), .unset, .unset, .unset, .unset, .unset, .unset, .unset, .unset, .unset, .unset, .unset, .unset]) rfl k') ?_
    show GoW p e below s _ _ _ _ _ (T262.setTop (mkF m 48 #[.val (.int sa), .val (.long va), .second, .val (.int sb), .val (.long vb), .second, .val (.int ia), .val (.int ib), .val (.long wa), .second, .val (.long wb), .second, .val (.ref b3), .unset, .unset, .unset, .unset, .unset, .unset, .unset, .unset, .unset, .unset, .unset, .unset] []))
    obtain ⟨T268, h268, X268, e268, E268, A268, D268, -, st268⟩ := newO X262 hx hZ262 hown262 (wdx hw 10 rfl) (wdx hw 11 rfl) (wdx hw 12 rfl) rfl (g := (mkF m 48 #[.val (.int sa), .val (.long va), .second, .val (.int sb), .val (.long vb), .second, .val (.int ia), .val (.int ib), .val (.long wa), .second, .val (.long wb), .second, .val (.ref b3), .unset, .unset, .unset, .unset, .unset, .unset, .unset, .unset, .unset, .unset, .unset, .unset] [])) rfl (hb hby at_48) (by decide) (by decide)
    obtain ⟨b268, g268⟩ : ∃ z, z = T262.heap.size := ⟨_, rfl⟩
    rw [← g268] at A268 D268 st268
    refine GoW.st st268 ?_
    have g_b268 : n0 ≤ b268 := Nat.le_trans (own_le O262) (Nat.le_of_eq g268.symm)
    have sf_b268 : Safe Z EL T262.vm T262.heap b268 := Safe.new (Nat.le_of_eq g268.symm)
    have ne269 : b3 ≠ b268 := Nat.ne_of_lt (Nat.lt_of_lt_of_le f266.lt (Nat.le_of_eq g268.symm))
    have ne270 : hsa ≠ b268 := Nat.ne_of_lt (Nat.lt_of_lt_of_le f267.lt (Nat.le_of_eq g268.symm))
    have f271 : Safe Z EL T262.vm h268 b3 := Safe.ext E268 CH262.1 f265
    have f272 : Exa Z h268 b3 "com/example/spillway/spillway/assignment/Endpoint" := f266.ext E268
    have f273 : Exa Z h268 hsa "com/example/spillway/spillway/assignment/HealthStatus" := f267.ext E268
    have f274 : Fld Z h268 b3 "com/example/spillway/spillway/assignment/Endpoint" "health" "Lcom/example/spillway/spillway/assignment/HealthStatus;" (.ref hsa) := f263.ext E268
    have f275 : Fld Z h268 b3 "com/example/spillway/spillway/assignment/Endpoint" "loadBalancingWeight" "J" (.long wa) := f264.ext E268
    have f276 : Safe Z EL T262.vm h268 b268 := Safe.ext E268 CH262.1 sf_b268
    have CH268 : CHr Z EL s.vm s.heap T262.vm h268 := CH262.trans (CHr.ext E268 CH262.1)
    have hk268 : Array.size T262.heap ≤ Array.size h268 := Nat.le_trans (Nat.le_refl _) E268.1
    have O268 : Old Z n0 h268 := O262.ext E268
    have f277 : Fld Z h268 b268 "com/example/spillway/spillway/assignment/Endpoint" "address" "Lcom/example/spillway/spillway/assignment/EndpointAddress;" .null := D268 (Or.inr (wdx hw 31 rfl)) (ty := (.object "com/example/spillway/spillway/assignment/EndpointAddress")) (by decide)
    have f278 : Fld Z h268 b268 "com/example/spillway/spillway/assignment/Endpoint" "health" "Lcom/example/spillway/spillway/assignment/HealthStatus;" .null := D268 (Or.inr (wdx hw 47 rfl)) (ty := (.object "com/example/spillway/spillway/assignment/HealthStatus")) (by decide)
    have f279 : Fld Z h268 b268 "com/example/spillway/spillway/assignment/Endpoint" "loadBalancingWeight" "J" (.long 0) := D268 (Or.inr (wdx hw 49 rfl)) (ty := .long) (by decide)
    show GoW p e below s _ _ _ _ _ (T268.setTop (mkF m 51 #[.val (.int sa), .val (.long va), .second, .val (.int sb), .val (.long vb), .second, .val (.int ia), .val (.int ib), .val (.long wa), .second, .val (.long wb), .second, .val (.ref b3), .unset, .unset, .unset, .unset, .unset, .unset, .unset, .unset, .unset, .unset, .unset, .unset] [(.ref b268)]))
    refine GoW.st (fun _ k' => XS.dup X268.here hx rfl (hb hby at_51) rfl rfl k') ?_
    refine GoW.st (fun _ k' => XS.aconstNull X268.here hx rfl (hb hby at_52) k') ?_
    refine GoW.st (fun _ k' => XS.iload X268.here hx rfl (hb hby at_53) rfl k') ?_
    show GoW p e below s _ _ _ _ _ (T268.setTop (mkF m 55 #[.val (.int sa), .val (.long va), .second, .val (.int sb), .val (.long vb), .second, .val (.int ia), .val (.int ib), .val (.long wa), .second, .val (.long wb), .second, .val (.ref b3), .unset, .unset, .unset, .unset, .unset, .unset, .unset, .unset, .unset, .unset, .unset, .unset] [(.int ib), .null, (.ref b268), (.ref b268)]))
    obtain ⟨_, _, ⟨T280, L280, k280, n280⟩, -, X280, ⟨Lc280, hQ280, l280, y280, z280⟩, st280⟩ := Jvm.LawKit.callS X268 hx (y := mn13) hown262 (mvT hZ262 (wdx hw 13 rfl)) (mvT hZ262 (wdx hw 14 rfl)) (mvT hZ262 (wdx hw 3 rfl)) (mvT hZ262 (wdx hw 15 rfl)) (by decide) (backOf (W := 3) (rm3 l Z a0 hw [] ib a_UNKNOWN a_HEALTHY a_UNHEALTHY a_DRAINING a_TIMEOUT a_DEGRADED h268 n0 O268 S_UNKNOWN S_HEALTHY S_UNHEALTHY S_DRAINING S_TIMEOUT S_DEGRADED) hZ262 (wdx hw 15 rfl) (wdx hw 3 rfl) (by decide) (by decide)) (g := (mkF m 55 #[.val (.int sa), .val (.long va), .second, .val (.int sb), .val (.long vb), .second, .val (.int ia), .val (.int ib), .val (.long wa), .second, .val (.long wb), .second, .val (.ref b3), .unset, .unset, .unset, .unset, .unset, .unset, .unset, .unset, .unset, .unset, .unset, .unset] [(.int ib), .null, (.ref b268), (.ref b268)])) rfl (by rw [hml]; rfl) (argsL := [(.int ib)]) (rest := [.null, (.ref b268), (.ref b268)]) (lenOf pd__I_Lcom_example_spillway_spillway_assignment_HealthStatus_ rfl) rfl (by show 2 * 0 + _ ≤ _; exact Nat.le_of_eq rfl) (hb hby at_55) (fun _ _ => ⟨rfl, e268, (by exact lee rfl), (by exact lee rfl)⟩)
    dsimp only [Pt.U, Pt.locs, Pt.cells, Pt.slots] at X280 l280 y280 z280 st280 hQ280
    subst l280 y280 z280
    obtain ⟨rfl, Nq280, eq280⟩ := hQ280
    have N280 := Fr.app N262 Nq280
    refine GoW.st st280 ?_
    show GoW p e below s _ _ _ _ _ (T280.setTop (mkF m 58 #[.val (.int sa), .val (.long va), .second, .val (.int sb), .val (.long vb), .second, .val (.int ia), .val (.int ib), .val (.long wa), .second, .val (.long wb), .second, .val (.ref b3), .unset, .unset, .unset, .unset, .unset, .unset, .unset, .unset, .unset, .unset, .unset, .unset] [(.ref (fpick ib a_UNKNOWN a_HEALTHY a_UNHEALTHY a_DRAINING a_TIMEOUT a_DEGRADED)), .null, (.ref b268), (.ref b268)]))
    obtain ⟨hsb, hd_hsb⟩ : ∃ z, z = (fpick ib a_UNKNOWN a_HEALTHY a_UNHEALTHY a_DRAINING a_TIMEOUT a_DEGRADED) := ⟨_, rfl⟩
    rw [← hd_hsb]
    have E_hsb := (own_Ep ib a_UNKNOWN a_HEALTHY a_UNHEALTHY a_DRAINING a_TIMEOUT a_DEGRADED E_UNKNOWN E_HEALTHY E_UNHEALTHY E_DRAINING E_TIMEOUT E_DEGRADED).ext O268.2
    rw [← hd_hsb] at E_hsb
    have kd_hsb := own_kind ib bib a_UNKNOWN a_HEALTHY a_UNHEALTHY a_DRAINING a_TIMEOUT a_DEGRADED n_UNKNOWN_HEALTHY n_UNKNOWN_DEGRADED n_HEALTHY_UNKNOWN n_HEALTHY_DEGRADED n_UNHEALTHY_HEALTHY n_UNHEALTHY_UNKNOWN n_UNHEALTHY_DEGRADED n_DRAINING_HEALTHY n_DRAINING_UNKNOWN n_DRAINING_DEGRADED n_TIMEOUT_HEALTHY n_TIMEOUT_UNKNOWN n_TIMEOUT_DEGRADED n_DEGRADED_HEALTHY n_DEGRADED_UNKNOWN
    rw [← hd_hsb] at kd_hsb
    rcases kd_hsb with ⟨khsb_0, khsb_1, khsb_2⟩ | ⟨khsb_0, khsb_1, khsb_2, khsb_3⟩ | ⟨khsb_0, khsb_1, khsb_2, khsb_3⟩
    · show GoW p e below s _ _ _ _ _ (T280.setTop (mkF m 58 #[.val (.int sa), .val (.long va), .second, .val (.int sb), .val (.long vb), .second, .val (.int ia), .val (.int ib), .val (.long wa), .second, .val (.long wb), .second, .val (.ref b3), .unset, .unset, .unset, .unset, .unset, .unset, .unset, .unset, .unset, .unset, .unset, .unset] [(.ref hsb), .null, (.ref b268), (.ref b268)]))
      refine GoW.st (fun _ k' => XS.lload X280.here hx rfl (hb hby at_58) rfl k') ?_
      show GoW p e below s _ _ _ _ _ (T280.setTop (mkF m 60 #[.val (.int sa), .val (.long va), .second, .val (.int sb), .val (.long vb), .second, .val (.int ia), .val (.int ib), .val (.long wa), .second, .val (.long wb), .second, .val (.ref b3), .unset, .unset, .unset, .unset, .unset, .unset, .unset, .unset, .unset, .unset, .unset, .unset] [(.long wb), (.ref hsb), .null, (.ref b268), (.ref b268)]))
      obtain ⟨_, _, ⟨T281, L281, k281, n281⟩, -, Xr281, hSr281, hgr281, ⟨Lc281, hQ281, l281, y281, z281, C281⟩, st281⟩ := X280.specialBackS hx (y := mn7) rfl hown262 (mvT hZ262 (wdx hw 19 rfl)) (mvT hZ262 (wdx hw 20 rfl)) (mvT hZ262 (wdx hw 21 rfl)) (by decide) (own_back (W := 1) (rm4 l Z a0 hw [] b268 hsb wb h268 n0 O268 A268 f277 f278 f279 E_hsb g_b268 qwb rwb) hZ262 (wdx hw 21 rfl) (wdx hw 12 rfl) (by decide) (by decide) hEL CH268.1 (allS ⟨A268.lt, f276⟩ all0)) (g := (mkF m 60 #[.val (.int sa), .val (.long va), .second, .val (.int sb), .val (.long vb), .second, .val (.int ia), .val (.int ib), .val (.long wa), .second, .val (.long wb), .second, .val (.ref b3), .unset, .unset, .unset, .unset, .unset, .unset, .unset, .unset, .unset, .unset, .unset, .unset] [(.long wb), (.ref hsb), .null, (.ref b268), (.ref b268)])) rfl (by rw [hml]; rfl) (Steps.refl _) (a := b268) (argsL := [.null, (.ref hsb), (.long wb)]) (rest := [(.ref b268)]) (lenOf pd__Lcom_example_spillway_spillway_assignment_EndpointAddress_Lcom_example_spillway_spillway_assignment_HealthStatus_J_V rfl) rfl (by show 2 * 0 + _ ≤ _; exact Nat.le_of_eq rfl) (hb hby at_60) (fun _ _ => ⟨rfl, eq280, (by exact lee rfl), (by exact lee rfl)⟩)
      dsimp only [Pt.U, Pt.locs, Pt.cells, Pt.slots] at Xr281 hSr281 hgr281 l281 y281 z281 C281 st281 hQ281
      subst l281 y281 z281
      obtain ⟨X281, hS281, hZ281, hown281⟩ := rebS hS262 (by rw [eq280]; exact hk268) Xr281 hSr281 hgr281 hZ262 hown262
      obtain ⟨rfl, Nq281, Kq281, f282, f283⟩ := hQ281
      have N281 := Fr.app N280 Nq281
      refine GoW.tr st281 ?_
      have f284 : Safe Z EL T281.vm T281.heap b3 := C281.safe f272.lt f271
      have f285 : Exa Z T281.heap b3 "com/example/spillway/spillway/assignment/Endpoint" := f272.keep Kq281
      have f286 : Exa Z T281.heap hsa "com/example/spillway/spillway/assignment/HealthStatus" := f273.keep Kq281
      have f287 : Fld Z T281.heap b3 "com/example/spillway/spillway/assignment/Endpoint" "health" "Lcom/example/spillway/spillway/assignment/HealthStatus;" (.ref hsa) := f274.keep Kq281 (ninS ne269 nin0)
      have f288 : Fld Z T281.heap b3 "com/example/spillway/spillway/assignment/Endpoint" "loadBalancingWeight" "J" (.long wa) := f275.keep Kq281 (ninS ne269 nin0)
      have f289 : Safe Z EL T281.vm T281.heap b268 := C281.safe A268.lt f276
      have f290 : Exa Z T281.heap b268 "com/example/spillway/spillway/assignment/Endpoint" := A268.keep Kq281
      have f291 : Exa Z T281.heap hsb "com/example/spillway/spillway/assignment/HealthStatus" := E_hsb.keep Kq281
      have CH281 : CHr Z EL s.vm s.heap T281.vm T281.heap := CH268.trans C281
      have O281 : Old Z n0 T281.heap := O268.keep Kq281 (allS g_b268 all0)
      show GoW p e below s _ _ _ _ _ (T281.setTop (mkF m 63 #[.val (.int sa), .val (.long va), .second, .val (.int sb), .val (.long vb), .second, .val (.int ia), .val (.int ib), .val (.long wa), .second, .val (.long wb), .second, .val (.ref b3), .unset, .unset, .unset, .unset, .unset, .unset, .unset, .unset, .unset, .unset, .unset, .unset] [(.ref b268)]))
      refine GoW.st (fun _ k' => XS.astore X281.here hx rfl (hb hby at_63) rfl rfl (l' := #[.val (.int sa), .val (.long va), .second, .val (.int sb), .val (.long vb), .second, .val (.int ia), .val (.int ib), .val (.long wa), .second, .val (.long wb), .second, .val (.ref b3), .val (.ref b268), .unset, .unset, .unset, .unset, .unset, .unset, .unset, .unset, .unset, .unset, .unset]) rfl k') ?_
      show GoW p e below s _ _ _ _ _ (T281.setTop (mkF m 65 #[.val (.int sa), .val (.long va), .second, .val (.int sb), .val (.long vb), .second, .val (.int ia), .val (.int ib), .val (.long wa), .second, .val (.long wb), .second, .val (.ref b3), .val (.ref b268), .unset, .unset, .unset, .unset, .unset, .unset, .unset, .unset, .unset, .unset, .unset] []))
      obtain ⟨T292, h292, X292, e292, E292, A292, D292, -, st292⟩ := newO X281 hx hZ281 hown281 (wdx hw 52 rfl) (wdx hw 53 rfl) (wdx hw 54 rfl) rfl (g := (mkF m 65 #[.val (.int sa), .val (.long va), .second, .val (.int sb), .val (.long vb), .second, .val (.int ia), .val (.int ib), .val (.long wa), .second, .val (.long wb), .second, .val (.ref b3), .val (.ref b268), .unset, .unset, .unset, .unset, .unset, .unset, .unset, .unset, .unset, .unset, .unset] [])) rfl (hb hby at_65) (by decide) (by decide)
      obtain ⟨b292, g292⟩ : ∃ z, z = T281.heap.size := ⟨_, rfl⟩
      rw [← g292] at A292 D292 st292
      refine GoW.st st292 ?_
      have g_b292 : n0 ≤ b292 := Nat.le_trans (own_le O281) (Nat.le_of_eq g292.symm)
      have sf_b292 : Safe Z EL T281.vm T281.heap b292 := Safe.new (Nat.le_of_eq g292.symm)
      have ne293 : b3 ≠ b292 := Nat.ne_of_lt (Nat.lt_of_lt_of_le f285.lt (Nat.le_of_eq g292.symm))
      have ne294 : hsa ≠ b292 := Nat.ne_of_lt (Nat.lt_of_lt_of_le f286.lt (Nat.le_of_eq g292.symm))
      have ne295 : b268 ≠ b292 := Nat.ne_of_lt (Nat.lt_of_lt_of_le f290.lt (Nat.le_of_eq g292.symm))
      have ne296 : hsb ≠ b292 := Nat.ne_of_lt (Nat.lt_of_lt_of_le f291.lt (Nat.le_of_eq g292.symm))
      have f297 : Safe Z EL T281.vm h292 b3 := Safe.ext E292 CH281.1 f284
      have f298 : Exa Z h292 b3 "com/example/spillway/spillway/assignment/Endpoint" := f285.ext E292
      have f299 : Exa Z h292 hsa "com/example/spillway/spillway/assignment/HealthStatus" := f286.ext E292
      have f300 : Fld Z h292 b3 "com/example/spillway/spillway/assignment/Endpoint" "health" "Lcom/example/spillway/spillway/assignment/HealthStatus;" (.ref hsa) := f287.ext E292
      have f301 : Fld Z h292 b3 "com/example/spillway/spillway/assignment/Endpoint" "loadBalancingWeight" "J" (.long wa) := f288.ext E292
      have f302 : Safe Z EL T281.vm h292 b268 := Safe.ext E292 CH281.1 f289
      have f303 : Exa Z h292 b268 "com/example/spillway/spillway/assignment/Endpoint" := f290.ext E292
      have f304 : Exa Z h292 hsb "com/example/spillway/spillway/assignment/HealthStatus" := f291.ext E292
      have f305 : Fld Z h292 b268 "com/example/spillway/spillway/assignment/Endpoint" "health" "Lcom/example/spillway/spillway/assignment/HealthStatus;" (.ref hsb) := f282.ext E292
      have f306 : Fld Z h292 b268 "com/example/spillway/spillway/assignment/Endpoint" "loadBalancingWeight" "J" (.long wb) := f283.ext E292
      have f307 : Safe Z EL T281.vm h292 b292 := Safe.ext E292 CH281.1 sf_b292
      have CH292 : CHr Z EL s.vm s.heap T281.vm h292 := CH281.trans (CHr.ext E292 CH281.1)
      have hk292 : Array.size T281.heap ≤ Array.size h292 := Nat.le_trans (Nat.le_refl _) E292.1
      have O292 : Old Z n0 h292 := O281.ext E292
      have f308 : Fld Z h292 b292 "com/example/spillway/spillway/assignment/HealthTally" "hosts" "I" (.int 0) := D292 (Or.inl (wdx hw 74 rfl)) (ty := .int) (by decide)
      have f309 : Fld Z h292 b292 "com/example/spillway/spillway/assignment/HealthTally" "hostWeight" "J" (.long 0) := D292 (Or.inl (wdx hw 76 rfl)) (ty := .long) (by decide)
      have f310 : Fld Z h292 b292 "com/example/spillway/spillway/assignment/HealthTally" "healthy" "I" (.int 0) := D292 (Or.inl (wdx hw 90 rfl)) (ty := .int) (by decide)
      have f311 : Fld Z h292 b292 "com/example/spillway/spillway/assignment/HealthTally" "healthyWeight" "J" (.long 0) := D292 (Or.inl (wdx hw 92 rfl)) (ty := .long) (by decide)
      have f312 : Fld Z h292 b292 "com/example/spillway/spillway/assignment/HealthTally" "degraded" "I" (.int 0) := D292 (Or.inl (wdx hw 109 rfl)) (ty := .int) (by decide)
      have f313 : Fld Z h292 b292 "com/example/spillway/spillway/assignment/HealthTally" "degradedWeight" "J" (.long 0) := D292 (Or.inl (wdx hw 126 rfl)) (ty := .long) (by decide)
      show GoW p e below s _ _ _ _ _ (T292.setTop (mkF m 68 #[.val (.int sa), .val (.long va), .second, .val (.int sb), .val (.long vb), .second, .val (.int ia), .val (.int ib), .val (.long wa), .second, .val (.long wb), .second, .val (.ref b3), .val (.ref b268), .unset, .unset, .unset, .unset, .unset, .unset, .unset, .unset, .unset, .unset, .unset] [(.ref b292)]))
      refine GoW.st (fun _ k' => XS.dup X292.here hx rfl (hb hby at_68) rfl rfl k') ?_
      show GoW p e below s _ _ _ _ _ (T292.setTop (mkF m 69 #[.val (.int sa), .val (.long va), .second, .val (.int sb), .val (.long vb), .second, .val (.int ia), .val (.int ib), .val (.long wa), .second, .val (.long wb), .second, .val (.ref b3), .val (.ref b268), .unset, .unset, .unset, .unset, .unset, .unset, .unset, .unset, .unset, .unset, .unset] [(.ref b292), (.ref b292)]))
      obtain ⟨_, _, ⟨T314, L314, k314, n314⟩, -, X314, ⟨Lc314, hQ314, l314, y314, z314⟩, st314⟩ := X292.specialBack hx (y := mn9) rfl hown281 (mvT hZ281 (wdx hw 55 rfl)) (mvT hZ281 (wdx hw 56 rfl)) (mvT hZ281 (wdx hw 57 rfl)) (by decide) (backOf (W := 1) (rm8 l Z a0 hw [] b292 h292 n0 O292 ) hZ281 (wdx hw 57 rfl) (wdx hw 54 rfl) (by decide) (by decide)) (g := (mkF m 69 #[.val (.int sa), .val (.long va), .second, .val (.int sb), .val (.long vb), .second, .val (.int ia), .val (.int ib), .val (.long wa), .second, .val (.long wb), .second, .val (.ref b3), .val (.ref b268), .unset, .unset, .unset, .unset, .unset, .unset, .unset, .unset, .unset, .unset, .unset] [(.ref b292), (.ref b292)])) rfl (by rw [hml]; rfl) (Steps.refl _) (a := b292) (argsL := []) (rest := [(.ref b292)]) (lenOf pd___V rfl) rfl (by show 2 * 0 + _ ≤ _; exact Nat.le_of_eq rfl) (hb hby at_69) (fun _ _ => ⟨rfl, e292, (by exact lee rfl), (by exact lee rfl)⟩)
      dsimp only [Pt.U, Pt.locs, Pt.cells, Pt.slots] at X314 l314 y314 z314 st314 hQ314
      subst l314 y314 z314
      obtain ⟨rfl, Nq314, eq314⟩ := hQ314
      have N314 := Fr.app N281 Nq314
      refine GoW.tr st314 ?_
      show GoW p e below s _ _ _ _ _ (T314.setTop (mkF m 72 #[.val (.int sa), .val (.long va), .second, .val (.int sb), .val (.long vb), .second, .val (.int ia), .val (.int ib), .val (.long wa), .second, .val (.long wb), .second, .val (.ref b3), .val (.ref b268), .unset, .unset, .unset, .unset, .unset, .unset, .unset, .unset, .unset, .unset, .unset] [(.ref b292)]))
      refine GoW.st (fun _ k' => XS.astore X314.here hx rfl (hb hby at_72) rfl rfl (l' := #[.val (.int sa), .val (.long va), .second, .val (.int sb), .val (.long vb), .second, .val (.int ia), .val (.int ib), .val (.long wa), .second, .val (.long wb), .second, .val (.ref b3), .val (.ref b268), .val (.ref b292), .unset, .unset, .unset, .unset, .unset, .unset, .unset, .unset, .unset, .unset]) rfl k') ?_
      refine GoW.st (fun _ k' => XS.aload X314.here hx rfl (hb hby at_74) rfl rfl k') ?_
      refine GoW.st (fun _ k' => XS.aload X314.here hx rfl (hb hby at_76) rfl rfl k') ?_
      show GoW p e below s _ _ _ _ _ (T314.setTop (mkF m 78 #[.val (.int sa), .val (.long va), .second, .val (.int sb), .val (.long vb), .second, .val (.int ia), .val (.int ib), .val (.long wa), .second, .val (.long wb), .second, .val (.ref b3), .val (.ref b268), .val (.ref b292), .unset, .unset, .unset, .unset, .unset, .unset, .unset, .unset, .unset, .unset] [(.ref b3), (.ref b292)]))
      obtain ⟨cq315, kq315, q315a, q315b, q315c⟩ := isOf hZ281 eq314 A292
      obtain ⟨_, _, ⟨T315, L315, k315, n315⟩, -, X315, ⟨Lc315, hQ315, l315, y315, z315⟩, st315⟩ := X314.virtualBack hx (y := mn0) (z := mn0) hown281 (mvT hZ281 (wdx hw 59 rfl)) (mvT hZ281 (wdx hw 60 rfl)) (notFace_of_selects (args := #[]) (mvT hZ281 (wdx hw 62 rfl))) (mvT hZ281 (wdx hw 62 rfl)) (mvT hZ281 (wdx hw 61 rfl)) (by decide) (backOf (W := 0) (rm9_d l Z a0 hw [] b292 b3 (0 : Int32) (0 : Int32) (0 : Int32) (0 : Int64) (0 : Int64) (0 : Int64) hsa wa a_UNKNOWN a_HEALTHY a_DEGRADED h292 n0 O292 A292 f308 f310 f312 f309 f311 f313 f298 f300 f301 f299 S_UNKNOWN S_HEALTHY S_DEGRADED g_b292 (Ne.symm ne293) khsa_2 khsa_3) hZ281 (wdx hw 63 rfl) (wdx hw 54 rfl) (by decide) (by decide)) q315a q315c (g := (mkF m 78 #[.val (.int sa), .val (.long va), .second, .val (.int sb), .val (.long vb), .second, .val (.int ia), .val (.int ib), .val (.long wa), .second, .val (.long wb), .second, .val (.ref b3), .val (.ref b268), .val (.ref b292), .unset, .unset, .unset, .unset, .unset, .unset, .unset, .unset, .unset, .unset] [(.ref b3), (.ref b292)])) rfl (by rw [hml]; rfl) (Steps.refl _) (argsL := [(.ref b3)]) (rest := []) (lenOf pd__Lcom_example_spillway_spillway_assignment_Endpoint__V rfl) rfl (by show 2 * 0 + _ ≤ _; exact Nat.le_of_eq rfl) (hb hby at_78) (fun _ _ => ⟨rfl, eq314, (by exact lee rfl), (by exact lee rfl)⟩)
      dsimp only [Pt.U, Pt.locs, Pt.cells, Pt.slots] at X315 l315 y315 z315 st315 hQ315
      subst l315 y315 z315
      obtain ⟨rfl, Nq315, Kq315, f316, f317, f318, f319, f320, f321⟩ := hQ315
      have N315 := Fr.app N314 Nq315
      refine GoW.tr st315 ?_
      have f322 : Safe Z EL T281.vm T315.heap b3 := Safe.keep Kq315 (allS f307 all0) CH292.1 f297
      have f323 : Exa Z T315.heap b3 "com/example/spillway/spillway/assignment/Endpoint" := f298.keep Kq315
      have f324 : Exa Z T315.heap hsa "com/example/spillway/spillway/assignment/HealthStatus" := f299.keep Kq315
      have f325 : Fld Z T315.heap b3 "com/example/spillway/spillway/assignment/Endpoint" "health" "Lcom/example/spillway/spillway/assignment/HealthStatus;" (.ref hsa) := f300.keep Kq315 (ninS ne293 nin0)
      have f326 : Fld Z T315.heap b3 "com/example/spillway/spillway/assignment/Endpoint" "loadBalancingWeight" "J" (.long wa) := f301.keep Kq315 (ninS ne293 nin0)
      have f327 : Safe Z EL T281.vm T315.heap b268 := Safe.keep Kq315 (allS f307 all0) CH292.1 f302
      have f328 : Exa Z T315.heap b268 "com/example/spillway/spillway/assignment/Endpoint" := f303.keep Kq315
      have f329 : Exa Z T315.heap hsb "com/example/spillway/spillway/assignment/HealthStatus" := f304.keep Kq315
      have f330 : Fld Z T315.heap b268 "com/example/spillway/spillway/assignment/Endpoint" "health" "Lcom/example/spillway/spillway/assignment/HealthStatus;" (.ref hsb) := f305.keep Kq315 (ninS ne295 nin0)
      have f331 : Fld Z T315.heap b268 "com/example/spillway/spillway/assignment/Endpoint" "loadBalancingWeight" "J" (.long wb) := f306.keep Kq315 (ninS ne295 nin0)
      have f332 : Safe Z EL T281.vm T315.heap b292 := Safe.keep Kq315 (allS f307 all0) CH292.1 f307
      have f333 : Exa Z T315.heap b292 "com/example/spillway/spillway/assignment/HealthTally" := A292.keep Kq315
      have CH315 : CHr Z EL s.vm s.heap T281.vm T315.heap := CH292.trans (CHr.keep Kq315 (allS f307 all0) CH292.1)
      have hk315 : Array.size T281.heap ≤ Array.size T315.heap := Nat.le_trans hk292 Kq315.1
      have O315 : Old Z n0 T315.heap := O292.keep Kq315 (allS g_b292 all0)
      show GoW p e below s _ _ _ _ _ (T315.setTop (mkF m 81 #[.val (.int sa), .val (.long va), .second, .val (.int sb), .val (.long vb), .second, .val (.int ia), .val (.int ib), .val (.long wa), .second, .val (.long wb), .second, .val (.ref b3), .val (.ref b268), .val (.ref b292), .unset, .unset, .unset, .unset, .unset, .unset, .unset, .unset, .unset, .unset] []))
      refine GoW.st (fun _ k' => XS.aload X315.here hx rfl (hb hby at_81) rfl rfl k') ?_
      refine GoW.st (fun _ k' => XS.aload X315.here hx rfl (hb hby at_83) rfl rfl k') ?_
      show GoW p e below s _ _ _ _ _ (T315.setTop (mkF m 85 #[.val (.int sa), .val (.long va), .second, .val (.int sb), .val (.long vb), .second, .val (.int ia), .val (.int ib), .val (.long wa), .second, .val (.long wb), .second, .val (.ref b3), .val (.ref b268), .val (.ref b292), .unset, .unset, .unset, .unset, .unset, .unset, .unset, .unset, .unset, .unset] [(.ref b268), (.ref b292)]))
      obtain ⟨cq334, kq334, q334a, q334b, q334c⟩ := isOf hZ281 rfl f333
      obtain ⟨_, _, ⟨T334, L334, k334, n334⟩, -, X334, ⟨Lc334, hQ334, l334, y334, z334⟩, st334⟩ := X315.virtualBack hx (y := mn0) (z := mn0) hown281 (mvT hZ281 (wdx hw 59 rfl)) (mvT hZ281 (wdx hw 60 rfl)) (notFace_of_selects (args := #[]) (mvT hZ281 (wdx hw 62 rfl))) (mvT hZ281 (wdx hw 62 rfl)) (mvT hZ281 (wdx hw 61 rfl)) (by decide) (backOf (W := 0) (rm9_h l Z a0 hw [] b292 b268 ((0 : Int32) + (1 : Int32)) (0 : Int32) ((0 : Int32) + (1 : Int32)) ((0 : Int64) + (((1 : Int32).toInt64) * wa)) (0 : Int64) ((0 : Int64) + (((1 : Int32).toInt64) * wa)) hsb wb a_UNKNOWN a_HEALTHY a_DEGRADED T315.heap n0 O315 f333 f316 f317 f318 f319 f320 f321 f328 f330 f331 f329 S_UNKNOWN S_HEALTHY S_DEGRADED g_b292 (Ne.symm ne295) khsb_2) hZ281 (wdx hw 63 rfl) (wdx hw 54 rfl) (by decide) (by decide)) q334a q334c (g := (mkF m 85 #[.val (.int sa), .val (.long va), .second, .val (.int sb), .val (.long vb), .second, .val (.int ia), .val (.int ib), .val (.long wa), .second, .val (.long wb), .second, .val (.ref b3), .val (.ref b268), .val (.ref b292), .unset, .unset, .unset, .unset, .unset, .unset, .unset, .unset, .unset, .unset] [(.ref b268), (.ref b292)])) rfl (by rw [hml]; rfl) (Steps.refl _) (argsL := [(.ref b268)]) (rest := []) (lenOf pd__Lcom_example_spillway_spillway_assignment_Endpoint__V rfl) rfl (by show 2 * 0 + _ ≤ _; exact Nat.le_of_eq rfl) (hb hby at_85) (fun _ _ => ⟨rfl, rfl, (by exact lee rfl), (by exact lee rfl)⟩)
      dsimp only [Pt.U, Pt.locs, Pt.cells, Pt.slots] at X334 l334 y334 z334 st334 hQ334
      subst l334 y334 z334
      obtain ⟨rfl, Nq334, Kq334, f335, f336, f337, f338, f339, f340⟩ := hQ334
      have N334 := Fr.app N315 Nq334
      refine GoW.tr st334 ?_
      have f341 : Safe Z EL T281.vm T334.heap b3 := Safe.keep Kq334 (allS f332 all0) CH315.1 f322
      have f342 : Exa Z T334.heap b3 "com/example/spillway/spillway/assignment/Endpoint" := f323.keep Kq334
      have f343 : Exa Z T334.heap hsa "com/example/spillway/spillway/assignment/HealthStatus" := f324.keep Kq334
      have f344 : Fld Z T334.heap b3 "com/example/spillway/spillway/assignment/Endpoint" "health" "Lcom/example/spillway/spillway/assignment/HealthStatus;" (.ref hsa) := f325.keep Kq334 (ninS ne293 nin0)
      have f345 : Fld Z T334.heap b3 "com/example/spillway/spillway/assignment/Endpoint" "loadBalancingWeight" "J" (.long wa) := f326.keep Kq334 (ninS ne293 nin0)
      have f346 : Safe Z EL T281.vm T334.heap b268 := Safe.keep Kq334 (allS f332 all0) CH315.1 f327
      have f347 : Exa Z T334.heap b268 "com/example/spillway/spillway/assignment/Endpoint" := f328.keep Kq334
      have f348 : Exa Z T334.heap hsb "com/example/spillway/spillway/assignment/HealthStatus" := f329.keep Kq334
      have f349 : Fld Z T334.heap b268 "com/example/spillway/spillway/assignment/Endpoint" "health" "Lcom/example/spillway/spillway/assignment/HealthStatus;" (.ref hsb) := f330.keep Kq334 (ninS ne295 nin0)
      have f350 : Fld Z T334.heap b268 "com/example/spillway/spillway/assignment/Endpoint" "loadBalancingWeight" "J" (.long wb) := f331.keep Kq334 (ninS ne295 nin0)
      have f351 : Safe Z EL T281.vm T334.heap b292 := Safe.keep Kq334 (allS f332 all0) CH315.1 f332
      have f352 : Exa Z T334.heap b292 "com/example/spillway/spillway/assignment/HealthTally" := f333.keep Kq334
      have CH334 : CHr Z EL s.vm s.heap T281.vm T334.heap := CH315.trans (CHr.keep Kq334 (allS f332 all0) CH315.1)
      have hk334 : Array.size T281.heap ≤ Array.size T334.heap := Nat.le_trans hk315 Kq334.1
      have O334 : Old Z n0 T334.heap := O315.keep Kq334 (allS g_b292 all0)
      show GoW p e below s _ _ _ _ _ (T334.setTop (mkF m 88 #[.val (.int sa), .val (.long va), .second, .val (.int sb), .val (.long vb), .second, .val (.int ia), .val (.int ib), .val (.long wa), .second, .val (.long wb), .second, .val (.ref b3), .val (.ref b268), .val (.ref b292), .unset, .unset, .unset, .unset, .unset, .unset, .unset, .unset, .unset, .unset] []))
      refine GoW.st (fun _ k' => XS.iload X334.here hx rfl (hb hby at_88) rfl k') ?_
      refine GoW.st (fun _ k' => XS.iconst X334.here hx rfl (hb hby at_90) k') ?_
      show GoW p e below s _ _ _ _ _ (T334.setTop (mkF m 91 #[.val (.int sa), .val (.long va), .second, .val (.int sb), .val (.long vb), .second, .val (.int ia), .val (.int ib), .val (.long wa), .second, .val (.long wb), .second, .val (.ref b3), .val (.ref b268), .val (.ref b292), .unset, .unset, .unset, .unset, .unset, .unset, .unset, .unset, .unset, .unset] [(.int 1), (.int ia)]))
      refine GoW.st (fun _ k' => XS.icmpYes X334.here hx rfl (pc0 := 91) (pc' := 98) rfl (hb hby at_91) rfl (XT.ii_gt_t khsa_0) (by decide) (by decide) k') ?_
      show GoW p e below s _ _ _ _ _ (T334.setTop (mkF m 98 #[.val (.int sa), .val (.long va), .second, .val (.int sb), .val (.long vb), .second, .val (.int ia), .val (.int ib), .val (.long wa), .second, .val (.long wb), .second, .val (.ref b3), .val (.ref b268), .val (.ref b292), .unset, .unset, .unset, .unset, .unset, .unset, .unset, .unset, .unset, .unset] []))
      refine GoW.st (fun _ k' => XS.iconst X334.here hx rfl (hb hby at_98) k') ?_
      refine GoW.st (fun _ k' => XS.istore X334.here hx rfl (hb hby at_99) rfl (l' := #[.val (.int sa), .val (.long va), .second, .val (.int sb), .val (.long vb), .second, .val (.int ia), .val (.int ib), .val (.long wa), .second, .val (.long wb), .second, .val (.ref b3), .val (.ref b268), .val (.ref b292), .val (.int 0), .unset, .unset, .unset, .unset, .unset, .unset, .unset, .unset, .unset]) rfl k') ?_
      refine GoW.st (fun _ k' => XS.iload X334.here hx rfl (hb hby at_101) rfl k') ?_
      refine GoW.st (fun _ k' => XS.iconst X334.here hx rfl (hb hby at_103) k') ?_
      show GoW p e below s _ _ _ _ _ (T334.setTop (mkF m 104 #[.val (.int sa), .val (.long va), .second, .val (.int sb), .val (.long vb), .second, .val (.int ia), .val (.int ib), .val (.long wa), .second, .val (.long wb), .second, .val (.ref b3), .val (.ref b268), .val (.ref b292), .val (.int 0), .unset, .unset, .unset, .unset, .unset, .unset, .unset, .unset, .unset] [(.int 1), (.int ib)]))
      refine GoW.st (fun _ k' => XS.icmpNo X334.here hx rfl (hb hby at_104) rfl (XT.ii_gt_f khsb_0) k') ?_
      show GoW p e below s _ _ _ _ _ (T334.setTop (mkF m 107 #[.val (.int sa), .val (.long va), .second, .val (.int sb), .val (.long vb), .second, .val (.int ia), .val (.int ib), .val (.long wa), .second, .val (.long wb), .second, .val (.ref b3), .val (.ref b268), .val (.ref b292), .val (.int 0), .unset, .unset, .unset, .unset, .unset, .unset, .unset, .unset, .unset] []))
      refine GoW.st (fun _ k' => XS.iconst X334.here hx rfl (hb hby at_107) k') ?_
      show GoW p e below s _ _ _ _ _ (T334.setTop (mkF m 108 #[.val (.int sa), .val (.long va), .second, .val (.int sb), .val (.long vb), .second, .val (.int ia), .val (.int ib), .val (.long wa), .second, .val (.long wb), .second, .val (.ref b3), .val (.ref b268), .val (.ref b292), .val (.int 0), .unset, .unset, .unset, .unset, .unset, .unset, .unset, .unset, .unset] [(.int 1)]))
      refine GoW.st (fun _ k' => XS.goto X334.here hx rfl (pc0 := 108) (pc' := 112) rfl (hb hby at_108) (by decide) (by decide) k') ?_
      show GoW p e below s _ _ _ _ _ (T334.setTop (mkF m 112 #[.val (.int sa), .val (.long va), .second, .val (.int sb), .val (.long vb), .second, .val (.int ia), .val (.int ib), .val (.long wa), .second, .val (.long wb), .second, .val (.ref b3), .val (.ref b268), .val (.ref b292), .val (.int 0), .unset, .unset, .unset, .unset, .unset, .unset, .unset, .unset, .unset] [(.int 1)]))
      refine GoW.st (fun _ k' => XS.istore X334.here hx rfl (hb hby at_112) rfl (l' := #[.val (.int sa), .val (.long va), .second, .val (.int sb), .val (.long vb), .second, .val (.int ia), .val (.int ib), .val (.long wa), .second, .val (.long wb), .second, .val (.ref b3), .val (.ref b268), .val (.ref b292), .val (.int 0), .val (.int 1), .unset, .unset, .unset, .unset, .unset, .unset, .unset, .unset]) rfl k') ?_
      refine GoW.st (fun _ k' => XS.iload X334.here hx rfl (hb hby at_114) rfl k') ?_
      refine GoW.st (fun _ k' => XS.iconst X334.here hx rfl (hb hby at_116) k') ?_
      show GoW p e below s _ _ _ _ _ (T334.setTop (mkF m 117 #[.val (.int sa), .val (.long va), .second, .val (.int sb), .val (.long vb), .second, .val (.int ia), .val (.int ib), .val (.long wa), .second, .val (.long wb), .second, .val (.ref b3), .val (.ref b268), .val (.ref b292), .val (.int 0), .val (.int 1), .unset, .unset, .unset, .unset, .unset, .unset, .unset, .unset] [(.int 5), (.int ia)]))
      refine GoW.st (fun _ k' => XS.icmpNo X334.here hx rfl (hb hby at_117) rfl (XT.ii_ne_f khsa_1) k') ?_
      show GoW p e below s _ _ _ _ _ (T334.setTop (mkF m 120 #[.val (.int sa), .val (.long va), .second, .val (.int sb), .val (.long vb), .second, .val (.int ia), .val (.int ib), .val (.long wa), .second, .val (.long wb), .second, .val (.ref b3), .val (.ref b268), .val (.ref b292), .val (.int 0), .val (.int 1), .unset, .unset, .unset, .unset, .unset, .unset, .unset, .unset] []))
      refine GoW.st (fun _ k' => XS.iconst X334.here hx rfl (hb hby at_120) k') ?_
      show GoW p e below s _ _ _ _ _ (T334.setTop (mkF m 121 #[.val (.int sa), .val (.long va), .second, .val (.int sb), .val (.long vb), .second, .val (.int ia), .val (.int ib), .val (.long wa), .second, .val (.long wb), .second, .val (.ref b3), .val (.ref b268), .val (.ref b292), .val (.int 0), .val (.int 1), .unset, .unset, .unset, .unset, .unset, .unset, .unset, .unset] [(.int 1)]))
      refine GoW.st (fun _ k' => XS.goto X334.here hx rfl (pc0 := 121) (pc' := 125) rfl (hb hby at_121) (by decide) (by decide) k') ?_
      show GoW p e below s _ _ _ _ _ (T334.setTop (mkF m 125 #[.val (.int sa), .val (.long va), .second, .val (.int sb), .val (.long vb), .second, .val (.int ia), .val (.int ib), .val (.long wa), .second, .val (.long wb), .second, .val (.ref b3), .val (.ref b268), .val (.ref b292), .val (.int 0), .val (.int 1), .unset, .unset, .unset, .unset, .unset, .unset, .unset, .unset] [(.int 1)]))
      refine GoW.st (fun _ k' => XS.istore X334.here hx rfl (hb hby at_125) rfl (l' := #[.val (.int sa), .val (.long va), .second, .val (.int sb), .val (.long vb), .second, .val (.int ia), .val (.int ib), .val (.long wa), .second, .val (.long wb), .second, .val (.ref b3), .val (.ref b268), .val (.ref b292), .val (.int 0), .val (.int 1), .val (.int 1), .unset, .unset, .unset, .unset, .unset, .unset, .unset]) rfl k') ?_
      refine GoW.st (fun _ k' => XS.iload X334.here hx rfl (hb hby at_127) rfl k') ?_
      refine GoW.st (fun _ k' => XS.iconst X334.here hx rfl (hb hby at_129) k') ?_
      show GoW p e below s _ _ _ _ _ (T334.setTop (mkF m 130 #[.val (.int sa), .val (.long va), .second, .val (.int sb), .val (.long vb), .second, .val (.int ia), .val (.int ib), .val (.long wa), .second, .val (.long wb), .second, .val (.ref b3), .val (.ref b268), .val (.ref b292), .val (.int 0), .val (.int 1), .val (.int 1), .unset, .unset, .unset, .unset, .unset, .unset, .unset] [(.int 5), (.int ib)]))
      refine GoW.st (fun _ k' => XS.icmpYes X334.here hx rfl (pc0 := 130) (pc' := 137) rfl (hb hby at_130) rfl (XT.ii_ne_t khsb_1) (by decide) (by decide) k') ?_
      show GoW p e below s _ _ _ _ _ (T334.setTop (mkF m 137 #[.val (.int sa), .val (.long va), .second, .val (.int sb), .val (.long vb), .second, .val (.int ia), .val (.int ib), .val (.long wa), .second, .val (.long wb), .second, .val (.ref b3), .val (.ref b268), .val (.ref b292), .val (.int 0), .val (.int 1), .val (.int 1), .unset, .unset, .unset, .unset, .unset, .unset, .unset] []))
      refine GoW.st (fun _ k' => XS.iconst X334.here hx rfl (hb hby at_137) k') ?_
      refine GoW.st (fun _ k' => XS.istore X334.here hx rfl (hb hby at_138) rfl (l' := #[.val (.int sa), .val (.long va), .second, .val (.int sb), .val (.long vb), .second, .val (.int ia), .val (.int ib), .val (.long wa), .second, .val (.long wb), .second, .val (.ref b3), .val (.ref b268), .val (.ref b292), .val (.int 0), .val (.int 1), .val (.int 1), .val (.int 0), .unset, .unset, .unset, .unset, .unset, .unset]) rfl k') ?_
      refine GoW.st (fun _ k' => XS.iload X334.here hx rfl (hb hby at_140) rfl k') ?_
      show GoW p e below s _ _ _ _ _ (T334.setTop (mkF m 142 #[.val (.int sa), .val (.long va), .second, .val (.int sb), .val (.long vb), .second, .val (.int ia), .val (.int ib), .val (.long wa), .second, .val (.long wb), .second, .val (.ref b3), .val (.ref b268), .val (.ref b292), .val (.int 0), .val (.int 1), .val (.int 1), .val (.int 0), .unset, .unset, .unset, .unset, .unset, .unset] [(.int 0)]))
      refine GoW.st (fun _ k' => XS.ifYes X334.here hx rfl (pc0 := 142) (pc' := 149) rfl (hb hby at_142) rfl (XT.i0_eq_t (by decide)) (by decide) (by decide) k') ?_
      show GoW p e below s _ _ _ _ _ (T334.setTop (mkF m 149 #[.val (.int sa), .val (.long va), .second, .val (.int sb), .val (.long vb), .second, .val (.int ia), .val (.int ib), .val (.long wa), .second, .val (.long wb), .second, .val (.ref b3), .val (.ref b268), .val (.ref b292), .val (.int 0), .val (.int 1), .val (.int 1), .val (.int 0), .unset, .unset, .unset, .unset, .unset, .unset] []))
      refine GoW.st (fun _ k' => XS.iconst X334.here hx rfl (hb hby at_149) k') ?_
      refine GoW.st (fun _ k' => XS.iload X334.here hx rfl (hb hby at_150) rfl k') ?_
      show GoW p e below s _ _ _ _ _ (T334.setTop (mkF m 152 #[.val (.int sa), .val (.long va), .second, .val (.int sb), .val (.long vb), .second, .val (.int ia), .val (.int ib), .val (.long wa), .second, .val (.long wb), .second, .val (.ref b3), .val (.ref b268), .val (.ref b292), .val (.int 0), .val (.int 1), .val (.int 1), .val (.int 0), .unset, .unset, .unset, .unset, .unset, .unset] [(.int 1), (.int 0)]))
      refine GoW.st (fun _ k' => XS.ifNo X334.here hx rfl (hb hby at_152) rfl (XT.i0_eq_f (by decide)) k') ?_
      show GoW p e below s _ _ _ _ _ (T334.setTop (mkF m 155 #[.val (.int sa), .val (.long va), .second, .val (.int sb), .val (.long vb), .second, .val (.int ia), .val (.int ib), .val (.long wa), .second, .val (.long wb), .second, .val (.ref b3), .val (.ref b268), .val (.ref b292), .val (.int 0), .val (.int 1), .val (.int 1), .val (.int 0), .unset, .unset, .unset, .unset, .unset, .unset] [(.int 0)]))
      refine GoW.st (fun _ k' => XS.iconst X334.here hx rfl (hb hby at_155) k') ?_
      show GoW p e below s _ _ _ _ _ (T334.setTop (mkF m 156 #[.val (.int sa), .val (.long va), .second, .val (.int sb), .val (.long vb), .second, .val (.int ia), .val (.int ib), .val (.long wa), .second, .val (.long wb), .second, .val (.ref b3), .val (.ref b268), .val (.ref b292), .val (.int 0), .val (.int 1), .val (.int 1), .val (.int 0), .unset, .unset, .unset, .unset, .unset, .unset] [(.int 1), (.int 0)]))
      refine GoW.st (fun _ k' => XS.goto X334.here hx rfl (pc0 := 156) (pc' := 160) rfl (hb hby at_156) (by decide) (by decide) k') ?_
      show GoW p e below s _ _ _ _ _ (T334.setTop (mkF m 160 #[.val (.int sa), .val (.long va), .second, .val (.int sb), .val (.long vb), .second, .val (.int ia), .val (.int ib), .val (.long wa), .second, .val (.long wb), .second, .val (.ref b3), .val (.ref b268), .val (.ref b292), .val (.int 0), .val (.int 1), .val (.int 1), .val (.int 0), .unset, .unset, .unset, .unset, .unset, .unset] [(.int 1), (.int 0)]))
      refine GoW.st (fun _ k' => XS.iadd X334.here hx rfl (hb hby at_160) rfl k') ?_
      refine GoW.st (fun _ k' => XS.istore X334.here hx rfl (hb hby at_161) rfl (l' := #[.val (.int sa), .val (.long va), .second, .val (.int sb), .val (.long vb), .second, .val (.int ia), .val (.int ib), .val (.long wa), .second, .val (.long wb), .second, .val (.ref b3), .val (.ref b268), .val (.ref b292), .val (.int 0), .val (.int 1), .val (.int 1), .val (.int 0), .val (.int 1), .unset, .unset, .unset, .unset, .unset]) rfl k') ?_
      refine GoW.st (fun _ k' => XS.iload X334.here hx rfl (hb hby at_163) rfl k') ?_
      show GoW p e below s _ _ _ _ _ (T334.setTop (mkF m 165 #[.val (.int sa), .val (.long va), .second, .val (.int sb), .val (.long vb), .second, .val (.int ia), .val (.int ib), .val (.long wa), .second, .val (.long wb), .second, .val (.ref b3), .val (.ref b268), .val (.ref b292), .val (.int 0), .val (.int 1), .val (.int 1), .val (.int 0), .val (.int 1), .unset, .unset, .unset, .unset, .unset] [(.int 1)]))
      refine GoW.st (fun _ k' => XS.ifNo X334.here hx rfl (hb hby at_165) rfl (XT.i0_eq_f (by decide)) k') ?_
      show GoW p e below s _ _ _ _ _ (T334.setTop (mkF m 168 #[.val (.int sa), .val (.long va), .second, .val (.int sb), .val (.long vb), .second, .val (.int ia), .val (.int ib), .val (.long wa), .second, .val (.long wb), .second, .val (.ref b3), .val (.ref b268), .val (.ref b292), .val (.int 0), .val (.int 1), .val (.int 1), .val (.int 0), .val (.int 1), .unset, .unset, .unset, .unset, .unset] []))
      refine GoW.st (fun _ k' => XS.iconst X334.here hx rfl (hb hby at_168) k') ?_
      show GoW p e below s _ _ _ _ _ (T334.setTop (mkF m 169 #[.val (.int sa), .val (.long va), .second, .val (.int sb), .val (.long vb), .second, .val (.int ia), .val (.int ib), .val (.long wa), .second, .val (.long wb), .second, .val (.ref b3), .val (.ref b268), .val (.ref b292), .val (.int 0), .val (.int 1), .val (.int 1), .val (.int 0), .val (.int 1), .unset, .unset, .unset, .unset, .unset] [(.int 1)]))
      refine GoW.st (fun _ k' => XS.goto X334.here hx rfl (pc0 := 169) (pc' := 173) rfl (hb hby at_169) (by decide) (by decide) k') ?_
      show GoW p e below s _ _ _ _ _ (T334.setTop (mkF m 173 #[.val (.int sa), .val (.long va), .second, .val (.int sb), .val (.long vb), .second, .val (.int ia), .val (.int ib), .val (.long wa), .second, .val (.long wb), .second, .val (.ref b3), .val (.ref b268), .val (.ref b292), .val (.int 0), .val (.int 1), .val (.int 1), .val (.int 0), .val (.int 1), .unset, .unset, .unset, .unset, .unset] [(.int 1)]))
      refine GoW.st (fun _ k' => XS.iload X334.here hx rfl (hb hby at_173) rfl k') ?_
      show GoW p e below s _ _ _ _ _ (T334.setTop (mkF m 175 #[.val (.int sa), .val (.long va), .second, .val (.int sb), .val (.long vb), .second, .val (.int ia), .val (.int ib), .val (.long wa), .second, .val (.long wb), .second, .val (.ref b3), .val (.ref b268), .val (.ref b292), .val (.int 0), .val (.int 1), .val (.int 1), .val (.int 0), .val (.int 1), .unset, .unset, .unset, .unset, .unset] [(.int 0), (.int 1)]))
      refine GoW.st (fun _ k' => XS.ifYes X334.here hx rfl (pc0 := 175) (pc' := 182) rfl (hb hby at_175) rfl (XT.i0_eq_t (by decide)) (by decide) (by decide) k') ?_
      show GoW p e below s _ _ _ _ _ (T334.setTop (mkF m 182 #[.val (.int sa), .val (.long va), .second, .val (.int sb), .val (.long vb), .second, .val (.int ia), .val (.int ib), .val (.long wa), .second, .val (.long wb), .second, .val (.ref b3), .val (.ref b268), .val (.ref b292), .val (.int 0), .val (.int 1), .val (.int 1), .val (.int 0), .val (.int 1), .unset, .unset, .unset, .unset, .unset] [(.int 1)]))
      refine GoW.st (fun _ k' => XS.iconst X334.here hx rfl (hb hby at_182) k') ?_
      refine GoW.st (fun _ k' => XS.iadd X334.here hx rfl (hb hby at_183) rfl k') ?_
      refine GoW.st (fun _ k' => XS.istore X334.here hx rfl (hb hby at_184) rfl (l' := #[.val (.int sa), .val (.long va), .second, .val (.int sb), .val (.long vb), .second, .val (.int ia), .val (.int ib), .val (.long wa), .second, .val (.long wb), .second, .val (.ref b3), .val (.ref b268), .val (.ref b292), .val (.int 0), .val (.int 1), .val (.int 1), .val (.int 0), .val (.int 1), .val (.int 1), .unset, .unset, .unset, .unset]) rfl k') ?_
      refine GoW.st (fun _ k' => XS.iload X334.here hx rfl (hb hby at_186) rfl k') ?_
      show GoW p e below s _ _ _ _ _ (T334.setTop (mkF m 188 #[.val (.int sa), .val (.long va), .second, .val (.int sb), .val (.long vb), .second, .val (.int ia), .val (.int ib), .val (.long wa), .second, .val (.long wb), .second, .val (.ref b3), .val (.ref b268), .val (.ref b292), .val (.int 0), .val (.int 1), .val (.int 1), .val (.int 0), .val (.int 1), .val (.int 1), .unset, .unset, .unset, .unset] [(.int 0)]))
      refine GoW.st (fun _ k' => XS.ifYes X334.here hx rfl (pc0 := 188) (pc' := 196) rfl (hb hby at_188) rfl (XT.i0_eq_t (by decide)) (by decide) (by decide) k') ?_
      show GoW p e below s _ _ _ _ _ (T334.setTop (mkF m 196 #[.val (.int sa), .val (.long va), .second, .val (.int sb), .val (.long vb), .second, .val (.int ia), .val (.int ib), .val (.long wa), .second, .val (.long wb), .second, .val (.ref b3), .val (.ref b268), .val (.ref b292), .val (.int 0), .val (.int 1), .val (.int 1), .val (.int 0), .val (.int 1), .val (.int 1), .unset, .unset, .unset, .unset] []))
      refine GoW.st (fun _ k' => XS.lconst X334.here hx rfl (hb hby at_196) k') ?_
      refine GoW.st (fun _ k' => XS.iload X334.here hx rfl (hb hby at_197) rfl k') ?_
      show GoW p e below s _ _ _ _ _ (T334.setTop (mkF m 199 #[.val (.int sa), .val (.long va), .second, .val (.int sb), .val (.long vb), .second, .val (.int ia), .val (.int ib), .val (.long wa), .second, .val (.long wb), .second, .val (.ref b3), .val (.ref b268), .val (.ref b292), .val (.int 0), .val (.int 1), .val (.int 1), .val (.int 0), .val (.int 1), .val (.int 1), .unset, .unset, .unset, .unset] [(.int 1), (.long 0)]))
      refine GoW.st (fun _ k' => XS.ifNo X334.here hx rfl (hb hby at_199) rfl (XT.i0_eq_f (by decide)) k') ?_
      show GoW p e below s _ _ _ _ _ (T334.setTop (mkF m 202 #[.val (.int sa), .val (.long va), .second, .val (.int sb), .val (.long vb), .second, .val (.int ia), .val (.int ib), .val (.long wa), .second, .val (.long wb), .second, .val (.ref b3), .val (.ref b268), .val (.ref b292), .val (.int 0), .val (.int 1), .val (.int 1), .val (.int 0), .val (.int 1), .val (.int 1), .unset, .unset, .unset, .unset] [(.long 0)]))
      refine GoW.st (fun _ k' => XS.lload X334.here hx rfl (hb hby at_202) rfl k') ?_
      show GoW p e below s _ _ _ _ _ (T334.setTop (mkF m 204 #[.val (.int sa), .val (.long va), .second, .val (.int sb), .val (.long vb), .second, .val (.int ia), .val (.int ib), .val (.long wa), .second, .val (.long wb), .second, .val (.ref b3), .val (.ref b268), .val (.ref b292), .val (.int 0), .val (.int 1), .val (.int 1), .val (.int 0), .val (.int 1), .val (.int 1), .unset, .unset, .unset, .unset] [(.long wb), (.long 0)]))
      refine GoW.st (fun _ k' => XS.goto X334.here hx rfl (pc0 := 204) (pc' := 208) rfl (hb hby at_204) (by decide) (by decide) k') ?_
      show GoW p e below s _ _ _ _ _ (T334.setTop (mkF m 208 #[.val (.int sa), .val (.long va), .second, .val (.int sb), .val (.long vb), .second, .val (.int ia), .val (.int ib), .val (.long wa), .second, .val (.long wb), .second, .val (.ref b3), .val (.ref b268), .val (.ref b292), .val (.int 0), .val (.int 1), .val (.int 1), .val (.int 0), .val (.int 1), .val (.int 1), .unset, .unset, .unset, .unset] [(.long wb), (.long 0)]))
      refine GoW.st (fun _ k' => XS.ladd X334.here hx rfl (hb hby at_208) rfl k') ?_
      refine GoW.st (fun _ k' => XS.lstore X334.here hx rfl (hb hby at_209) rfl (l' := #[.val (.int sa), .val (.long va), .second, .val (.int sb), .val (.long vb), .second, .val (.int ia), .val (.int ib), .val (.long wa), .second, .val (.long wb), .second, .val (.ref b3), .val (.ref b268), .val (.ref b292), .val (.int 0), .val (.int 1), .val (.int 1), .val (.int 0), .val (.int 1), .val (.int 1), .val (.long ((0 : Int64) + wb)), .second, .unset, .unset]) rfl k') ?_
      refine GoW.st (fun _ k' => XS.iload X334.here hx rfl (hb hby at_211) rfl k') ?_
      show GoW p e below s _ _ _ _ _ (T334.setTop (mkF m 213 #[.val (.int sa), .val (.long va), .second, .val (.int sb), .val (.long vb), .second, .val (.int ia), .val (.int ib), .val (.long wa), .second, .val (.long wb), .second, .val (.ref b3), .val (.ref b268), .val (.ref b292), .val (.int 0), .val (.int 1), .val (.int 1), .val (.int 0), .val (.int 1), .val (.int 1), .val (.long ((0 : Int64) + wb)), .second, .unset, .unset] [(.int 1)]))
      refine GoW.st (fun _ k' => XS.ifNo X334.here hx rfl (hb hby at_213) rfl (XT.i0_eq_f (by decide)) k') ?_
      show GoW p e below s _ _ _ _ _ (T334.setTop (mkF m 216 #[.val (.int sa), .val (.long va), .second, .val (.int sb), .val (.long vb), .second, .val (.int ia), .val (.int ib), .val (.long wa), .second, .val (.long wb), .second, .val (.ref b3), .val (.ref b268), .val (.ref b292), .val (.int 0), .val (.int 1), .val (.int 1), .val (.int 0), .val (.int 1), .val (.int 1), .val (.long ((0 : Int64) + wb)), .second, .unset, .unset] []))
      refine GoW.st (fun _ k' => XS.lload X334.here hx rfl (hb hby at_216) rfl k') ?_
      show GoW p e below s _ _ _ _ _ (T334.setTop (mkF m 218 #[.val (.int sa), .val (.long va), .second, .val (.int sb), .val (.long vb), .second, .val (.int ia), .val (.int ib), .val (.long wa), .second, .val (.long wb), .second, .val (.ref b3), .val (.ref b268), .val (.ref b292), .val (.int 0), .val (.int 1), .val (.int 1), .val (.int 0), .val (.int 1), .val (.int 1), .val (.long ((0 : Int64) + wb)), .second, .unset, .unset] [(.long wa)]))
      refine GoW.st (fun _ k' => XS.goto X334.here hx rfl (pc0 := 218) (pc' := 222) rfl (hb hby at_218) (by decide) (by decide) k') ?_
      show GoW p e below s _ _ _ _ _ (T334.setTop (mkF m 222 #[.val (.int sa), .val (.long va), .second, .val (.int sb), .val (.long vb), .second, .val (.int ia), .val (.int ib), .val (.long wa), .second, .val (.long wb), .second, .val (.ref b3), .val (.ref b268), .val (.ref b292), .val (.int 0), .val (.int 1), .val (.int 1), .val (.int 0), .val (.int 1), .val (.int 1), .val (.long ((0 : Int64) + wb)), .second, .unset, .unset] [(.long wa)]))
      refine GoW.st (fun _ k' => XS.iload X334.here hx rfl (hb hby at_222) rfl k') ?_
      show GoW p e below s _ _ _ _ _ (T334.setTop (mkF m 224 #[.val (.int sa), .val (.long va), .second, .val (.int sb), .val (.long vb), .second, .val (.int ia), .val (.int ib), .val (.long wa), .second, .val (.long wb), .second, .val (.ref b3), .val (.ref b268), .val (.ref b292), .val (.int 0), .val (.int 1), .val (.int 1), .val (.int 0), .val (.int 1), .val (.int 1), .val (.long ((0 : Int64) + wb)), .second, .unset, .unset] [(.int 0), (.long wa)]))
      refine GoW.st (fun _ k' => XS.ifYes X334.here hx rfl (pc0 := 224) (pc' := 232) rfl (hb hby at_224) rfl (XT.i0_eq_t (by decide)) (by decide) (by decide) k') ?_
      show GoW p e below s _ _ _ _ _ (T334.setTop (mkF m 232 #[.val (.int sa), .val (.long va), .second, .val (.int sb), .val (.long vb), .second, .val (.int ia), .val (.int ib), .val (.long wa), .second, .val (.long wb), .second, .val (.ref b3), .val (.ref b268), .val (.ref b292), .val (.int 0), .val (.int 1), .val (.int 1), .val (.int 0), .val (.int 1), .val (.int 1), .val (.long ((0 : Int64) + wb)), .second, .unset, .unset] [(.long wa)]))
      refine GoW.st (fun _ k' => XS.lconst X334.here hx rfl (hb hby at_232) k') ?_
      refine GoW.st (fun _ k' => XS.ladd X334.here hx rfl (hb hby at_233) rfl k') ?_
      refine GoW.st (fun _ k' => XS.lstore X334.here hx rfl (hb hby at_234) rfl (l' := #[.val (.int sa), .val (.long va), .second, .val (.int sb), .val (.long vb), .second, .val (.int ia), .val (.int ib), .val (.long wa), .second, .val (.long wb), .second, .val (.ref b3), .val (.ref b268), .val (.ref b292), .val (.int 0), .val (.int 1), .val (.int 1), .val (.int 0), .val (.int 1), .val (.int 1), .val (.long ((0 : Int64) + wb)), .second, .val (.long (wa + (0 : Int64))), .second]) rfl k') ?_
      refine GoW.st (fun _ k' => XS.aload X334.here hx rfl (hb hby at_236) rfl rfl k') ?_
      show GoW p e below s _ _ _ _ _ (T334.setTop (mkF m 238 #[.val (.int sa), .val (.long va), .second, .val (.int sb), .val (.long vb), .second, .val (.int ia), .val (.int ib), .val (.long wa), .second, .val (.long wb), .second, .val (.ref b3), .val (.ref b268), .val (.ref b292), .val (.int 0), .val (.int 1), .val (.int 1), .val (.int 0), .val (.int 1), .val (.int 1), .val (.long ((0 : Int64) + wb)), .second, .val (.long (wa + (0 : Int64))), .second] [(.ref b292)]))
      obtain ⟨cq353, kq353, q353a, q353b, q353c⟩ := isOf hZ281 rfl f352
      obtain ⟨_, _, ⟨T353, L353, k353, n353⟩, -, X353, ⟨Lc353, hQ353, l353, y353, z353⟩, st353⟩ := X334.virtualBack hx (y := mn1) (z := mn1) hown281 (mvT hZ281 (wdx hw 93 rfl)) (mvT hZ281 (wdx hw 94 rfl)) (notFace_of_selects (args := #[]) (mvT hZ281 (wdx hw 96 rfl))) (mvT hZ281 (wdx hw 96 rfl)) (mvT hZ281 (wdx hw 95 rfl)) (by decide) (backOf (W := 0) (rm14 l Z a0 hw [] b292 (((0 : Int32) + (1 : Int32)) + (1 : Int32)) T334.heap n0 O334 f335) hZ281 (wdx hw 97 rfl) (wdx hw 54 rfl) (by decide) (by decide)) q353a q353c (g := (mkF m 238 #[.val (.int sa), .val (.long va), .second, .val (.int sb), .val (.long vb), .second, .val (.int ia), .val (.int ib), .val (.long wa), .second, .val (.long wb), .second, .val (.ref b3), .val (.ref b268), .val (.ref b292), .val (.int 0), .val (.int 1), .val (.int 1), .val (.int 0), .val (.int 1), .val (.int 1), .val (.long ((0 : Int64) + wb)), .second, .val (.long (wa + (0 : Int64))), .second] [(.ref b292)])) rfl (by rw [hml]; rfl) (Steps.refl _) (argsL := []) (rest := []) (lenOf pd___I rfl) rfl (by show 2 * 0 + _ ≤ _; exact Nat.le_of_eq rfl) (hb hby at_238) (fun _ _ => ⟨rfl, rfl, (by exact lee rfl), (by exact lee rfl)⟩)
      dsimp only [Pt.U, Pt.locs, Pt.cells, Pt.slots] at X353 l353 y353 z353 st353 hQ353
      subst l353 y353 z353
      obtain ⟨rfl, Nq353, eq353⟩ := hQ353
      have N353 := Fr.app N334 Nq353
      refine GoW.tr st353 ?_
      show GoW p e below s _ _ _ _ _ (T353.setTop (mkF m 241 #[.val (.int sa), .val (.long va), .second, .val (.int sb), .val (.long vb), .second, .val (.int ia), .val (.int ib), .val (.long wa), .second, .val (.long wb), .second, .val (.ref b3), .val (.ref b268), .val (.ref b292), .val (.int 0), .val (.int 1), .val (.int 1), .val (.int 0), .val (.int 1), .val (.int 1), .val (.long ((0 : Int64) + wb)), .second, .val (.long (wa + (0 : Int64))), .second] [(.int (((0 : Int32) + (1 : Int32)) + (1 : Int32)))]))
      refine GoW.st (fun _ k' => XS.iconst X353.here hx rfl (hb hby at_241) k') ?_
      show GoW p e below s _ _ _ _ _ (T353.setTop (mkF m 242 #[.val (.int sa), .val (.long va), .second, .val (.int sb), .val (.long vb), .second, .val (.int ia), .val (.int ib), .val (.long wa), .second, .val (.long wb), .second, .val (.ref b3), .val (.ref b268), .val (.ref b292), .val (.int 0), .val (.int 1), .val (.int 1), .val (.int 0), .val (.int 1), .val (.int 1), .val (.long ((0 : Int64) + wb)), .second, .val (.long (wa + (0 : Int64))), .second] [(.int 2), (.int (((0 : Int32) + (1 : Int32)) + (1 : Int32)))]))
      refine GoW.st (fun _ k' => XS.icmpNo X353.here hx rfl (hb hby at_242) rfl (XT.ii_ne_f (by simp [own_one])) k') ?_
      show GoW p e below s _ _ _ _ _ (T353.setTop (mkF m 245 #[.val (.int sa), .val (.long va), .second, .val (.int sb), .val (.long vb), .second, .val (.int ia), .val (.int ib), .val (.long wa), .second, .val (.long wb), .second, .val (.ref b3), .val (.ref b268), .val (.ref b292), .val (.int 0), .val (.int 1), .val (.int 1), .val (.int 0), .val (.int 1), .val (.int 1), .val (.long ((0 : Int64) + wb)), .second, .val (.long (wa + (0 : Int64))), .second] []))
      refine GoW.st (fun _ k' => XS.aload X353.here hx rfl (hb hby at_245) rfl rfl k') ?_
      show GoW p e below s _ _ _ _ _ (T353.setTop (mkF m 247 #[.val (.int sa), .val (.long va), .second, .val (.int sb), .val (.long vb), .second, .val (.int ia), .val (.int ib), .val (.long wa), .second, .val (.long wb), .second, .val (.ref b3), .val (.ref b268), .val (.ref b292), .val (.int 0), .val (.int 1), .val (.int 1), .val (.int 0), .val (.int 1), .val (.int 1), .val (.long ((0 : Int64) + wb)), .second, .val (.long (wa + (0 : Int64))), .second] [(.ref b292)]))
      obtain ⟨cq354, kq354, q354a, q354b, q354c⟩ := isOf hZ281 eq353 f352
      obtain ⟨_, _, ⟨T354, L354, k354, n354⟩, -, X354, ⟨Lc354, hQ354, l354, y354, z354⟩, st354⟩ := X353.virtualBack hx (y := mn2) (z := mn2) hown281 (mvT hZ281 (wdx hw 98 rfl)) (mvT hZ281 (wdx hw 99 rfl)) (notFace_of_selects (args := #[]) (mvT hZ281 (wdx hw 101 rfl))) (mvT hZ281 (wdx hw 101 rfl)) (mvT hZ281 (wdx hw 100 rfl)) (by decide) (backOf (W := 0) (rm15 l Z a0 hw [] b292 ((0 : Int32) + (1 : Int32)) T334.heap n0 O334 f336) hZ281 (wdx hw 102 rfl) (wdx hw 54 rfl) (by decide) (by decide)) q354a q354c (g := (mkF m 247 #[.val (.int sa), .val (.long va), .second, .val (.int sb), .val (.long vb), .second, .val (.int ia), .val (.int ib), .val (.long wa), .second, .val (.long wb), .second, .val (.ref b3), .val (.ref b268), .val (.ref b292), .val (.int 0), .val (.int 1), .val (.int 1), .val (.int 0), .val (.int 1), .val (.int 1), .val (.long ((0 : Int64) + wb)), .second, .val (.long (wa + (0 : Int64))), .second] [(.ref b292)])) rfl (by rw [hml]; rfl) (Steps.refl _) (argsL := []) (rest := []) (lenOf pd___I rfl) rfl (by show 2 * 0 + _ ≤ _; exact Nat.le_of_eq rfl) (hb hby at_247) (fun _ _ => ⟨rfl, eq353, (by exact lee rfl), (by exact lee rfl)⟩)
      dsimp only [Pt.U, Pt.locs, Pt.cells, Pt.slots] at X354 l354 y354 z354 st354 hQ354
      subst l354 y354 z354
      obtain ⟨rfl, Nq354, eq354⟩ := hQ354
      have N354 := Fr.app N353 Nq354
      refine GoW.tr st354 ?_
      show GoW p e below s _ _ _ _ _ (T354.setTop (mkF m 250 #[.val (.int sa), .val (.long va), .second, .val (.int sb), .val (.long vb), .second, .val (.int ia), .val (.int ib), .val (.long wa), .second, .val (.long wb), .second, .val (.ref b3), .val (.ref b268), .val (.ref b292), .val (.int 0), .val (.int 1), .val (.int 1), .val (.int 0), .val (.int 1), .val (.int 1), .val (.long ((0 : Int64) + wb)), .second, .val (.long (wa + (0 : Int64))), .second] [(.int ((0 : Int32) + (1 : Int32)))]))
      refine GoW.st (fun _ k' => XS.iload X354.here hx rfl (hb hby at_250) rfl k') ?_
      show GoW p e below s _ _ _ _ _ (T354.setTop (mkF m 252 #[.val (.int sa), .val (.long va), .second, .val (.int sb), .val (.long vb), .second, .val (.int ia), .val (.int ib), .val (.long wa), .second, .val (.long wb), .second, .val (.ref b3), .val (.ref b268), .val (.ref b292), .val (.int 0), .val (.int 1), .val (.int 1), .val (.int 0), .val (.int 1), .val (.int 1), .val (.long ((0 : Int64) + wb)), .second, .val (.long (wa + (0 : Int64))), .second] [(.int 1), (.int ((0 : Int32) + (1 : Int32)))]))
      refine GoW.st (fun _ k' => XS.icmpNo X354.here hx rfl (hb hby at_252) rfl (XT.ii_ne_f (by simp [own_one])) k') ?_
      show GoW p e below s _ _ _ _ _ (T354.setTop (mkF m 255 #[.val (.int sa), .val (.long va), .second, .val (.int sb), .val (.long vb), .second, .val (.int ia), .val (.int ib), .val (.long wa), .second, .val (.long wb), .second, .val (.ref b3), .val (.ref b268), .val (.ref b292), .val (.int 0), .val (.int 1), .val (.int 1), .val (.int 0), .val (.int 1), .val (.int 1), .val (.long ((0 : Int64) + wb)), .second, .val (.long (wa + (0 : Int64))), .second] []))
      refine GoW.st (fun _ k' => XS.aload X354.here hx rfl (hb hby at_255) rfl rfl k') ?_
      show GoW p e below s _ _ _ _ _ (T354.setTop (mkF m 257 #[.val (.int sa), .val (.long va), .second, .val (.int sb), .val (.long vb), .second, .val (.int ia), .val (.int ib), .val (.long wa), .second, .val (.long wb), .second, .val (.ref b3), .val (.ref b268), .val (.ref b292), .val (.int 0), .val (.int 1), .val (.int 1), .val (.int 0), .val (.int 1), .val (.int 1), .val (.long ((0 : Int64) + wb)), .second, .val (.long (wa + (0 : Int64))), .second] [(.ref b292)]))
      obtain ⟨cq355, kq355, q355a, q355b, q355c⟩ := isOf hZ281 eq354 f352
      obtain ⟨_, _, ⟨T355, L355, k355, n355⟩, -, X355, ⟨Lc355, hQ355, l355, y355, z355⟩, st355⟩ := X354.virtualBack hx (y := mn3) (z := mn3) hown281 (mvT hZ281 (wdx hw 103 rfl)) (mvT hZ281 (wdx hw 104 rfl)) (notFace_of_selects (args := #[]) (mvT hZ281 (wdx hw 106 rfl))) (mvT hZ281 (wdx hw 106 rfl)) (mvT hZ281 (wdx hw 105 rfl)) (by decide) (backOf (W := 0) (rm16 l Z a0 hw [] b292 ((0 : Int32) + (1 : Int32)) T334.heap n0 O334 f337) hZ281 (wdx hw 107 rfl) (wdx hw 54 rfl) (by decide) (by decide)) q355a q355c (g := (mkF m 257 #[.val (.int sa), .val (.long va), .second, .val (.int sb), .val (.long vb), .second, .val (.int ia), .val (.int ib), .val (.long wa), .second, .val (.long wb), .second, .val (.ref b3), .val (.ref b268), .val (.ref b292), .val (.int 0), .val (.int 1), .val (.int 1), .val (.int 0), .val (.int 1), .val (.int 1), .val (.long ((0 : Int64) + wb)), .second, .val (.long (wa + (0 : Int64))), .second] [(.ref b292)])) rfl (by rw [hml]; rfl) (Steps.refl _) (argsL := []) (rest := []) (lenOf pd___I rfl) rfl (by show 2 * 0 + _ ≤ _; exact Nat.le_of_eq rfl) (hb hby at_257) (fun _ _ => ⟨rfl, eq354, (by exact lee rfl), (by exact lee rfl)⟩)
      dsimp only [Pt.U, Pt.locs, Pt.cells, Pt.slots] at X355 l355 y355 z355 st355 hQ355
      subst l355 y355 z355
      obtain ⟨rfl, Nq355, eq355⟩ := hQ355
      have N355 := Fr.app N354 Nq355
      refine GoW.tr st355 ?_
      show GoW p e below s _ _ _ _ _ (T355.setTop (mkF m 260 #[.val (.int sa), .val (.long va), .second, .val (.int sb), .val (.long vb), .second, .val (.int ia), .val (.int ib), .val (.long wa), .second, .val (.long wb), .second, .val (.ref b3), .val (.ref b268), .val (.ref b292), .val (.int 0), .val (.int 1), .val (.int 1), .val (.int 0), .val (.int 1), .val (.int 1), .val (.long ((0 : Int64) + wb)), .second, .val (.long (wa + (0 : Int64))), .second] [(.int ((0 : Int32) + (1 : Int32)))]))
      refine GoW.st (fun _ k' => XS.iload X355.here hx rfl (hb hby at_260) rfl k') ?_
      show GoW p e below s _ _ _ _ _ (T355.setTop (mkF m 262 #[.val (.int sa), .val (.long va), .second, .val (.int sb), .val (.long vb), .second, .val (.int ia), .val (.int ib), .val (.long wa), .second, .val (.long wb), .second, .val (.ref b3), .val (.ref b268), .val (.ref b292), .val (.int 0), .val (.int 1), .val (.int 1), .val (.int 0), .val (.int 1), .val (.int 1), .val (.long ((0 : Int64) + wb)), .second, .val (.long (wa + (0 : Int64))), .second] [(.int 1), (.int ((0 : Int32) + (1 : Int32)))]))
      refine GoW.st (fun _ k' => XS.icmpNo X355.here hx rfl (hb hby at_262) rfl (XT.ii_ne_f (by simp [own_one])) k') ?_
      show GoW p e below s _ _ _ _ _ (T355.setTop (mkF m 265 #[.val (.int sa), .val (.long va), .second, .val (.int sb), .val (.long vb), .second, .val (.int ia), .val (.int ib), .val (.long wa), .second, .val (.long wb), .second, .val (.ref b3), .val (.ref b268), .val (.ref b292), .val (.int 0), .val (.int 1), .val (.int 1), .val (.int 0), .val (.int 1), .val (.int 1), .val (.long ((0 : Int64) + wb)), .second, .val (.long (wa + (0 : Int64))), .second] []))
      refine GoW.st (fun _ k' => XS.aload X355.here hx rfl (hb hby at_265) rfl rfl k') ?_
      show GoW p e below s _ _ _ _ _ (T355.setTop (mkF m 267 #[.val (.int sa), .val (.long va), .second, .val (.int sb), .val (.long vb), .second, .val (.int ia), .val (.int ib), .val (.long wa), .second, .val (.long wb), .second, .val (.ref b3), .val (.ref b268), .val (.ref b292), .val (.int 0), .val (.int 1), .val (.int 1), .val (.int 0), .val (.int 1), .val (.int 1), .val (.long ((0 : Int64) + wb)), .second, .val (.long (wa + (0 : Int64))), .second] [(.ref b292)]))
      obtain ⟨cq356, kq356, q356a, q356b, q356c⟩ := isOf hZ281 eq355 f352
      obtain ⟨_, _, ⟨T356, L356, k356, n356⟩, -, X356, ⟨Lc356, hQ356, l356, y356, z356⟩, st356⟩ := X355.virtualBack hx (y := mn4) (z := mn4) hown281 (mvT hZ281 (wdx hw 110 rfl)) (mvT hZ281 (wdx hw 111 rfl)) (notFace_of_selects (args := #[]) (mvT hZ281 (wdx hw 113 rfl))) (mvT hZ281 (wdx hw 113 rfl)) (mvT hZ281 (wdx hw 112 rfl)) (by decide) (backOf (W := 0) (rm17 l Z a0 hw [] b292 (((0 : Int64) + (((1 : Int32).toInt64) * wa)) + (((1 : Int32).toInt64) * wb)) T334.heap n0 O334 f338) hZ281 (wdx hw 114 rfl) (wdx hw 54 rfl) (by decide) (by decide)) q356a q356c (g := (mkF m 267 #[.val (.int sa), .val (.long va), .second, .val (.int sb), .val (.long vb), .second, .val (.int ia), .val (.int ib), .val (.long wa), .second, .val (.long wb), .second, .val (.ref b3), .val (.ref b268), .val (.ref b292), .val (.int 0), .val (.int 1), .val (.int 1), .val (.int 0), .val (.int 1), .val (.int 1), .val (.long ((0 : Int64) + wb)), .second, .val (.long (wa + (0 : Int64))), .second] [(.ref b292)])) rfl (by rw [hml]; rfl) (Steps.refl _) (argsL := []) (rest := []) (lenOf pd___J rfl) rfl (by show 2 * 0 + _ ≤ _; exact Nat.le_of_eq rfl) (hb hby at_267) (fun _ _ => ⟨rfl, eq355, (by exact lee rfl), (by exact lee rfl)⟩)
      dsimp only [Pt.U, Pt.locs, Pt.cells, Pt.slots] at X356 l356 y356 z356 st356 hQ356
      subst l356 y356 z356
      obtain ⟨rfl, Nq356, eq356⟩ := hQ356
      have N356 := Fr.app N355 Nq356
      refine GoW.tr st356 ?_
      show GoW p e below s _ _ _ _ _ (T356.setTop (mkF m 270 #[.val (.int sa), .val (.long va), .second, .val (.int sb), .val (.long vb), .second, .val (.int ia), .val (.int ib), .val (.long wa), .second, .val (.long wb), .second, .val (.ref b3), .val (.ref b268), .val (.ref b292), .val (.int 0), .val (.int 1), .val (.int 1), .val (.int 0), .val (.int 1), .val (.int 1), .val (.long ((0 : Int64) + wb)), .second, .val (.long (wa + (0 : Int64))), .second] [(.long (((0 : Int64) + (((1 : Int32).toInt64) * wa)) + (((1 : Int32).toInt64) * wb)))]))
      refine GoW.st (fun _ k' => XS.lload X356.here hx rfl (hb hby at_270) rfl k') ?_
      refine GoW.st (fun _ k' => XS.lload X356.here hx rfl (hb hby at_272) rfl k') ?_
      refine GoW.st (fun _ k' => XS.ladd X356.here hx rfl (hb hby at_274) rfl k') ?_
      show GoW p e below s _ _ _ _ _ (T356.setTop (mkF m 275 #[.val (.int sa), .val (.long va), .second, .val (.int sb), .val (.long vb), .second, .val (.int ia), .val (.int ib), .val (.long wa), .second, .val (.long wb), .second, .val (.ref b3), .val (.ref b268), .val (.ref b292), .val (.int 0), .val (.int 1), .val (.int 1), .val (.int 0), .val (.int 1), .val (.int 1), .val (.long ((0 : Int64) + wb)), .second, .val (.long (wa + (0 : Int64))), .second] [(.long (wa + wb)), (.long (((0 : Int64) + (((1 : Int32).toInt64) * wa)) + (((1 : Int32).toInt64) * wb)))]))
      refine GoW.st (fun _ k' => XT.lcmp X356.here hx rfl (hb hby at_275) rfl k') ?_
      show GoW p e below s _ _ _ _ _ (T356.setTop (mkF m 276 #[.val (.int sa), .val (.long va), .second, .val (.int sb), .val (.long vb), .second, .val (.int ia), .val (.int ib), .val (.long wa), .second, .val (.long wb), .second, .val (.ref b3), .val (.ref b268), .val (.ref b292), .val (.int 0), .val (.int 1), .val (.int 1), .val (.int 0), .val (.int 1), .val (.int 1), .val (.long ((0 : Int64) + wb)), .second, .val (.long (wa + (0 : Int64))), .second] [(.int (XT.cmpL (((0 : Int64) + (((1 : Int32).toInt64) * wa)) + (((1 : Int32).toInt64) * wb)) (wa + wb)))]))
      refine GoW.st (fun _ k' => XS.ifNo X356.here hx rfl (hb hby at_276) rfl (XT.ll_ne_f (by simp [own_one])) k') ?_
      show GoW p e below s _ _ _ _ _ (T356.setTop (mkF m 279 #[.val (.int sa), .val (.long va), .second, .val (.int sb), .val (.long vb), .second, .val (.int ia), .val (.int ib), .val (.long wa), .second, .val (.long wb), .second, .val (.ref b3), .val (.ref b268), .val (.ref b292), .val (.int 0), .val (.int 1), .val (.int 1), .val (.int 0), .val (.int 1), .val (.int 1), .val (.long ((0 : Int64) + wb)), .second, .val (.long (wa + (0 : Int64))), .second] []))
      refine GoW.st (fun _ k' => XS.aload X356.here hx rfl (hb hby at_279) rfl rfl k') ?_
      show GoW p e below s _ _ _ _ _ (T356.setTop (mkF m 281 #[.val (.int sa), .val (.long va), .second, .val (.int sb), .val (.long vb), .second, .val (.int ia), .val (.int ib), .val (.long wa), .second, .val (.long wb), .second, .val (.ref b3), .val (.ref b268), .val (.ref b292), .val (.int 0), .val (.int 1), .val (.int 1), .val (.int 0), .val (.int 1), .val (.int 1), .val (.long ((0 : Int64) + wb)), .second, .val (.long (wa + (0 : Int64))), .second] [(.ref b292)]))
      obtain ⟨cq357, kq357, q357a, q357b, q357c⟩ := isOf hZ281 eq356 f352
      obtain ⟨_, _, ⟨T357, L357, k357, n357⟩, -, X357, ⟨Lc357, hQ357, l357, y357, z357⟩, st357⟩ := X356.virtualBack hx (y := mn5) (z := mn5) hown281 (mvT hZ281 (wdx hw 115 rfl)) (mvT hZ281 (wdx hw 116 rfl)) (notFace_of_selects (args := #[]) (mvT hZ281 (wdx hw 118 rfl))) (mvT hZ281 (wdx hw 118 rfl)) (mvT hZ281 (wdx hw 117 rfl)) (by decide) (backOf (W := 0) (rm18 l Z a0 hw [] b292 ((0 : Int64) + (((1 : Int32).toInt64) * wb)) T334.heap n0 O334 f339) hZ281 (wdx hw 119 rfl) (wdx hw 54 rfl) (by decide) (by decide)) q357a q357c (g := (mkF m 281 #[.val (.int sa), .val (.long va), .second, .val (.int sb), .val (.long vb), .second, .val (.int ia), .val (.int ib), .val (.long wa), .second, .val (.long wb), .second, .val (.ref b3), .val (.ref b268), .val (.ref b292), .val (.int 0), .val (.int 1), .val (.int 1), .val (.int 0), .val (.int 1), .val (.int 1), .val (.long ((0 : Int64) + wb)), .second, .val (.long (wa + (0 : Int64))), .second] [(.ref b292)])) rfl (by rw [hml]; rfl) (Steps.refl _) (argsL := []) (rest := []) (lenOf pd___J rfl) rfl (by show 2 * 0 + _ ≤ _; exact Nat.le_of_eq rfl) (hb hby at_281) (fun _ _ => ⟨rfl, eq356, (by exact lee rfl), (by exact lee rfl)⟩)
      dsimp only [Pt.U, Pt.locs, Pt.cells, Pt.slots] at X357 l357 y357 z357 st357 hQ357
      subst l357 y357 z357
      obtain ⟨rfl, Nq357, eq357⟩ := hQ357
      have N357 := Fr.app N356 Nq357
      refine GoW.tr st357 ?_
      show GoW p e below s _ _ _ _ _ (T357.setTop (mkF m 284 #[.val (.int sa), .val (.long va), .second, .val (.int sb), .val (.long vb), .second, .val (.int ia), .val (.int ib), .val (.long wa), .second, .val (.long wb), .second, .val (.ref b3), .val (.ref b268), .val (.ref b292), .val (.int 0), .val (.int 1), .val (.int 1), .val (.int 0), .val (.int 1), .val (.int 1), .val (.long ((0 : Int64) + wb)), .second, .val (.long (wa + (0 : Int64))), .second] [(.long ((0 : Int64) + (((1 : Int32).toInt64) * wb)))]))
      refine GoW.st (fun _ k' => XS.lload X357.here hx rfl (hb hby at_284) rfl k') ?_
      show GoW p e below s _ _ _ _ _ (T357.setTop (mkF m 286 #[.val (.int sa), .val (.long va), .second, .val (.int sb), .val (.long vb), .second, .val (.int ia), .val (.int ib), .val (.long wa), .second, .val (.long wb), .second, .val (.ref b3), .val (.ref b268), .val (.ref b292), .val (.int 0), .val (.int 1), .val (.int 1), .val (.int 0), .val (.int 1), .val (.int 1), .val (.long ((0 : Int64) + wb)), .second, .val (.long (wa + (0 : Int64))), .second] [(.long ((0 : Int64) + wb)), (.long ((0 : Int64) + (((1 : Int32).toInt64) * wb)))]))
      refine GoW.st (fun _ k' => XT.lcmp X357.here hx rfl (hb hby at_286) rfl k') ?_
      show GoW p e below s _ _ _ _ _ (T357.setTop (mkF m 287 #[.val (.int sa), .val (.long va), .second, .val (.int sb), .val (.long vb), .second, .val (.int ia), .val (.int ib), .val (.long wa), .second, .val (.long wb), .second, .val (.ref b3), .val (.ref b268), .val (.ref b292), .val (.int 0), .val (.int 1), .val (.int 1), .val (.int 0), .val (.int 1), .val (.int 1), .val (.long ((0 : Int64) + wb)), .second, .val (.long (wa + (0 : Int64))), .second] [(.int (XT.cmpL ((0 : Int64) + (((1 : Int32).toInt64) * wb)) ((0 : Int64) + wb)))]))
      refine GoW.st (fun _ k' => XS.ifNo X357.here hx rfl (hb hby at_287) rfl (XT.ll_ne_f (by simp [own_one])) k') ?_
      show GoW p e below s _ _ _ _ _ (T357.setTop (mkF m 290 #[.val (.int sa), .val (.long va), .second, .val (.int sb), .val (.long vb), .second, .val (.int ia), .val (.int ib), .val (.long wa), .second, .val (.long wb), .second, .val (.ref b3), .val (.ref b268), .val (.ref b292), .val (.int 0), .val (.int 1), .val (.int 1), .val (.int 0), .val (.int 1), .val (.int 1), .val (.long ((0 : Int64) + wb)), .second, .val (.long (wa + (0 : Int64))), .second] []))
      refine GoW.st (fun _ k' => XS.aload X357.here hx rfl (hb hby at_290) rfl rfl k') ?_
      show GoW p e below s _ _ _ _ _ (T357.setTop (mkF m 292 #[.val (.int sa), .val (.long va), .second, .val (.int sb), .val (.long vb), .second, .val (.int ia), .val (.int ib), .val (.long wa), .second, .val (.long wb), .second, .val (.ref b3), .val (.ref b268), .val (.ref b292), .val (.int 0), .val (.int 1), .val (.int 1), .val (.int 0), .val (.int 1), .val (.int 1), .val (.long ((0 : Int64) + wb)), .second, .val (.long (wa + (0 : Int64))), .second] [(.ref b292)]))
      obtain ⟨cq358, kq358, q358a, q358b, q358c⟩ := isOf hZ281 eq357 f352
      obtain ⟨_, _, ⟨T358, L358, k358, n358⟩, -, X358, ⟨Lc358, hQ358, l358, y358, z358⟩, st358⟩ := X357.virtualBack hx (y := mn6) (z := mn6) hown281 (mvT hZ281 (wdx hw 120 rfl)) (mvT hZ281 (wdx hw 121 rfl)) (notFace_of_selects (args := #[]) (mvT hZ281 (wdx hw 123 rfl))) (mvT hZ281 (wdx hw 123 rfl)) (mvT hZ281 (wdx hw 122 rfl)) (by decide) (backOf (W := 0) (rm19 l Z a0 hw [] b292 ((0 : Int64) + (((1 : Int32).toInt64) * wa)) T334.heap n0 O334 f340) hZ281 (wdx hw 124 rfl) (wdx hw 54 rfl) (by decide) (by decide)) q358a q358c (g := (mkF m 292 #[.val (.int sa), .val (.long va), .second, .val (.int sb), .val (.long vb), .second, .val (.int ia), .val (.int ib), .val (.long wa), .second, .val (.long wb), .second, .val (.ref b3), .val (.ref b268), .val (.ref b292), .val (.int 0), .val (.int 1), .val (.int 1), .val (.int 0), .val (.int 1), .val (.int 1), .val (.long ((0 : Int64) + wb)), .second, .val (.long (wa + (0 : Int64))), .second] [(.ref b292)])) rfl (by rw [hml]; rfl) (Steps.refl _) (argsL := []) (rest := []) (lenOf pd___J rfl) rfl (by show 2 * 0 + _ ≤ _; exact Nat.le_of_eq rfl) (hb hby at_292) (fun _ _ => ⟨rfl, eq357, (by exact lee rfl), (by exact lee rfl)⟩)
      dsimp only [Pt.U, Pt.locs, Pt.cells, Pt.slots] at X358 l358 y358 z358 st358 hQ358
      subst l358 y358 z358
      obtain ⟨rfl, Nq358, eq358⟩ := hQ358
      have N358 := Fr.app N357 Nq358
      refine GoW.tr st358 ?_
      show GoW p e below s _ _ _ _ _ (T358.setTop (mkF m 295 #[.val (.int sa), .val (.long va), .second, .val (.int sb), .val (.long vb), .second, .val (.int ia), .val (.int ib), .val (.long wa), .second, .val (.long wb), .second, .val (.ref b3), .val (.ref b268), .val (.ref b292), .val (.int 0), .val (.int 1), .val (.int 1), .val (.int 0), .val (.int 1), .val (.int 1), .val (.long ((0 : Int64) + wb)), .second, .val (.long (wa + (0 : Int64))), .second] [(.long ((0 : Int64) + (((1 : Int32).toInt64) * wa)))]))
      refine GoW.st (fun _ k' => XS.lload X358.here hx rfl (hb hby at_295) rfl k') ?_
      show GoW p e below s _ _ _ _ _ (T358.setTop (mkF m 297 #[.val (.int sa), .val (.long va), .second, .val (.int sb), .val (.long vb), .second, .val (.int ia), .val (.int ib), .val (.long wa), .second, .val (.long wb), .second, .val (.ref b3), .val (.ref b268), .val (.ref b292), .val (.int 0), .val (.int 1), .val (.int 1), .val (.int 0), .val (.int 1), .val (.int 1), .val (.long ((0 : Int64) + wb)), .second, .val (.long (wa + (0 : Int64))), .second] [(.long (wa + (0 : Int64))), (.long ((0 : Int64) + (((1 : Int32).toInt64) * wa)))]))
      refine GoW.st (fun _ k' => XT.lcmp X358.here hx rfl (hb hby at_297) rfl k') ?_
      show GoW p e below s _ _ _ _ _ (T358.setTop (mkF m 298 #[.val (.int sa), .val (.long va), .second, .val (.int sb), .val (.long vb), .second, .val (.int ia), .val (.int ib), .val (.long wa), .second, .val (.long wb), .second, .val (.ref b3), .val (.ref b268), .val (.ref b292), .val (.int 0), .val (.int 1), .val (.int 1), .val (.int 0), .val (.int 1), .val (.int 1), .val (.long ((0 : Int64) + wb)), .second, .val (.long (wa + (0 : Int64))), .second] [(.int (XT.cmpL ((0 : Int64) + (((1 : Int32).toInt64) * wa)) (wa + (0 : Int64))))]))
      refine GoW.st (fun _ k' => XS.ifNo X358.here hx rfl (hb hby at_298) rfl (XT.ll_ne_f (by simp [own_one])) k') ?_
      show GoW p e below s _ _ _ _ _ (T358.setTop (mkF m 301 #[.val (.int sa), .val (.long va), .second, .val (.int sb), .val (.long vb), .second, .val (.int ia), .val (.int ib), .val (.long wa), .second, .val (.long wb), .second, .val (.ref b3), .val (.ref b268), .val (.ref b292), .val (.int 0), .val (.int 1), .val (.int 1), .val (.int 0), .val (.int 1), .val (.int 1), .val (.long ((0 : Int64) + wb)), .second, .val (.long (wa + (0 : Int64))), .second] []))
      refine GoW.st (fun _ k' => XS.iconst X358.here hx rfl (hb hby at_301) k') ?_
      show GoW p e below s _ _ _ _ _ (T358.setTop (mkF m 302 #[.val (.int sa), .val (.long va), .second, .val (.int sb), .val (.long vb), .second, .val (.int ia), .val (.int ib), .val (.long wa), .second, .val (.long wb), .second, .val (.ref b3), .val (.ref b268), .val (.ref b292), .val (.int 0), .val (.int 1), .val (.int 1), .val (.int 0), .val (.int 1), .val (.int 1), .val (.long ((0 : Int64) + wb)), .second, .val (.long (wa + (0 : Int64))), .second] [(.int 1)]))
      refine GoW.st (fun _ k' => XS.goto X358.here hx rfl (pc0 := 302) (pc' := 306) rfl (hb hby at_302) (by decide) (by decide) k') ?_
      show GoW p e below s _ _ _ _ _ (T358.setTop (mkF m 306 #[.val (.int sa), .val (.long va), .second, .val (.int sb), .val (.long vb), .second, .val (.int ia), .val (.int ib), .val (.long wa), .second, .val (.long wb), .second, .val (.ref b3), .val (.ref b268), .val (.ref b292), .val (.int 0), .val (.int 1), .val (.int 1), .val (.int 0), .val (.int 1), .val (.int 1), .val (.long ((0 : Int64) + wb)), .second, .val (.long (wa + (0 : Int64))), .second] [(.int 1)]))
      refine GoW.retB X358 hx hlk hS281 (by rw [eq358]; exact hk334) hZ281 hEL CH334 (t := .boolean) Bd.returns (by simp) (hb hby at_306) (by decide) (by decide) eq358 ?_
      exact ⟨rfl, N358, trivial⟩
    · show GoW p e below s _ _ _ _ _ (T280.setTop (mkF m 58 #[.val (.int sa), .val (.long va), .second, .val (.int sb), .val (.long vb), .second, .val (.int ia), .val (.int ib), .val (.long wa), .second, .val (.long wb), .second, .val (.ref b3), .unset, .unset, .unset, .unset, .unset, .unset, .unset, .unset, .unset, .unset, .unset, .unset] [(.ref hsb), .null, (.ref b268), (.ref b268)]))
      refine GoW.st (fun _ k' => XS.lload X280.here hx rfl (hb hby at_58) rfl k') ?_
      show GoW p e below s _ _ _ _ _ (T280.setTop (mkF m 60 #[.val (.int sa), .val (.long va), .second, .val (.int sb), .val (.long vb), .second, .val (.int ia), .val (.int ib), .val (.long wa), .second, .val (.long wb), .second, .val (.ref b3), .unset, .unset, .unset, .unset, .unset, .unset, .unset, .unset, .unset, .unset, .unset, .unset] [(.long wb), (.ref hsb), .null, (.ref b268), (.ref b268)]))
      obtain ⟨_, _, ⟨T359, L359, k359, n359⟩, -, Xr359, hSr359, hgr359, ⟨Lc359, hQ359, l359, y359, z359, C359⟩, st359⟩ := X280.specialBackS hx (y := mn7) rfl hown262 (mvT hZ262 (wdx hw 19 rfl)) (mvT hZ262 (wdx hw 20 rfl)) (mvT hZ262 (wdx hw 21 rfl)) (by decide) (own_back (W := 1) (rm4 l Z a0 hw [] b268 hsb wb h268 n0 O268 A268 f277 f278 f279 E_hsb g_b268 qwb rwb) hZ262 (wdx hw 21 rfl) (wdx hw 12 rfl) (by decide) (by decide) hEL CH268.1 (allS ⟨A268.lt, f276⟩ all0)) (g := (mkF m 60 #[.val (.int sa), .val (.long va), .second, .val (.int sb), .val (.long vb), .second, .val (.int ia), .val (.int ib), .val (.long wa), .second, .val (.long wb), .second, .val (.ref b3), .unset, .unset, .unset, .unset, .unset, .unset, .unset, .unset, .unset, .unset, .unset, .unset] [(.long wb), (.ref hsb), .null, (.ref b268), (.ref b268)])) rfl (by rw [hml]; rfl) (Steps.refl _) (a := b268) (argsL := [.null, (.ref hsb), (.long wb)]) (rest := [(.ref b268)]) (lenOf pd__Lcom_example_spillway_spillway_assignment_EndpointAddress_Lcom_example_spillway_spillway_assignment_HealthStatus_J_V rfl) rfl (by show 2 * 0 + _ ≤ _; exact Nat.le_of_eq rfl) (hb hby at_60) (fun _ _ => ⟨rfl, eq280, (by exact lee rfl), (by exact lee rfl)⟩)
      dsimp only [Pt.U, Pt.locs, Pt.cells, Pt.slots] at Xr359 hSr359 hgr359 l359 y359 z359 C359 st359 hQ359
      subst l359 y359 z359
      obtain ⟨X359, hS359, hZ359, hown359⟩ := rebS hS262 (by rw [eq280]; exact hk268) Xr359 hSr359 hgr359 hZ262 hown262
      obtain ⟨rfl, Nq359, Kq359, f360, f361⟩ := hQ359
      have N359 := Fr.app N280 Nq359
      refine GoW.tr st359 ?_
      have f362 : Safe Z EL T359.vm T359.heap b3 := C359.safe f272.lt f271
      have f363 : Exa Z T359.heap b3 "com/example/spillway/spillway/assignment/Endpoint" := f272.keep Kq359
      have f364 : Exa Z T359.heap hsa "com/example/spillway/spillway/assignment/HealthStatus" := f273.keep Kq359
      have f365 : Fld Z T359.heap b3 "com/example/spillway/spillway/assignment/Endpoint" "health" "Lcom/example/spillway/spillway/assignment/HealthStatus;" (.ref hsa) := f274.keep Kq359 (ninS ne269 nin0)
      have f366 : Fld Z T359.heap b3 "com/example/spillway/spillway/assignment/Endpoint" "loadBalancingWeight" "J" (.long wa) := f275.keep Kq359 (ninS ne269 nin0)
      have f367 : Safe Z EL T359.vm T359.heap b268 := C359.safe A268.lt f276
      have f368 : Exa Z T359.heap b268 "com/example/spillway/spillway/assignment/Endpoint" := A268.keep Kq359
      have f369 : Exa Z T359.heap hsb "com/example/spillway/spillway/assignment/HealthStatus" := E_hsb.keep Kq359
      have CH359 : CHr Z EL s.vm s.heap T359.vm T359.heap := CH268.trans C359
      have O359 : Old Z n0 T359.heap := O268.keep Kq359 (allS g_b268 all0)
      show GoW p e below s _ _ _ _ _ (T359.setTop (mkF m 63 #[.val (.int sa), .val (.long va), .second, .val (.int sb), .val (.long vb), .second, .val (.int ia), .val (.int ib), .val (.long wa), .second, .val (.long wb), .second, .val (.ref b3), .unset, .unset, .unset, .unset, .unset, .unset, .unset, .unset, .unset, .unset, .unset, .unset] [(.ref b268)]))
      refine GoW.st (fun _ k' => XS.astore X359.here hx rfl (hb hby at_63) rfl rfl (l' := #[.val (.int sa), .val (.long va), .second, .val (.int sb), .val (.long vb), .second, .val (.int ia), .val (.int ib), .val (.long wa), .second, .val (.long wb), .second, .val (.ref b3), .val (.ref b268), .unset, .unset, .unset, .unset, .unset, .unset, .unset, .unset, .unset, .unset, .unset]) rfl k') ?_
      show GoW p e below s _ _ _ _ _ (T359.setTop (mkF m 65 #[.val (.int sa), .val (.long va), .second, .val (.int sb), .val (.long vb), .second, .val (.int ia), .val (.int ib), .val (.long wa), .second, .val (.long wb), .second, .val (.ref b3), .val (.ref b268), .unset, .unset, .unset, .unset, .unset, .unset, .unset, .unset, .unset, .unset, .unset] []))
      obtain ⟨T370, h370, X370, e370, E370, A370, D370, -, st370⟩ := newO X359 hx hZ359 hown359 (wdx hw 52 rfl) (wdx hw 53 rfl) (wdx hw 54 rfl) rfl (g := (mkF m 65 #[.val (.int sa), .val (.long va), .second, .val (.int sb), .val (.long vb), .second, .val (.int ia), .val (.int ib), .val (.long wa), .second, .val (.long wb), .second, .val (.ref b3), .val (.ref b268), .unset, .unset, .unset, .unset, .unset, .unset, .unset, .unset, .unset, .unset, .unset] [])) rfl (hb hby at_65) (by decide) (by decide)
      obtain ⟨b370, g370⟩ : ∃ z, z = T359.heap.size := ⟨_, rfl⟩
      rw [← g370] at A370 D370 st370
      refine GoW.st st370 ?_
      have g_b370 : n0 ≤ b370 := Nat.le_trans (own_le O359) (Nat.le_of_eq g370.symm)
      have sf_b370 : Safe Z EL T359.vm T359.heap b370 := Safe.new (Nat.le_of_eq g370.symm)
      have ne371 : b3 ≠ b370 := Nat.ne_of_lt (Nat.lt_of_lt_of_le f363.lt (Nat.le_of_eq g370.symm))
      have ne372 : hsa ≠ b370 := Nat.ne_of_lt (Nat.lt_of_lt_of_le f364.lt (Nat.le_of_eq g370.symm))
      have ne373 : b268 ≠ b370 := Nat.ne_of_lt (Nat.lt_of_lt_of_le f368.lt (Nat.le_of_eq g370.symm))
      have ne374 : hsb ≠ b370 := Nat.ne_of_lt (Nat.lt_of_lt_of_le f369.lt (Nat.le_of_eq g370.symm))
      have f375 : Safe Z EL T359.vm h370 b3 := Safe.ext E370 CH359.1 f362
      have f376 : Exa Z h370 b3 "com/example/spillway/spillway/assignment/Endpoint" := f363.ext E370
      have f377 : Exa Z h370 hsa "com/example/spillway/spillway/assignment/HealthStatus" := f364.ext E370
      have f378 : Fld Z h370 b3 "com/example/spillway/spillway/assignment/Endpoint" "health" "Lcom/example/spillway/spillway/assignment/HealthStatus;" (.ref hsa) := f365.ext E370
      have f379 : Fld Z h370 b3 "com/example/spillway/spillway/assignment/Endpoint" "loadBalancingWeight" "J" (.long wa) := f366.ext E370
      have f380 : Safe Z EL T359.vm h370 b268 := Safe.ext E370 CH359.1 f367
      have f381 : Exa Z h370 b268 "com/example/spillway/spillway/assignment/Endpoint" := f368.ext E370
      have f382 : Exa Z h370 hsb "com/example/spillway/spillway/assignment/HealthStatus" := f369.ext E370
      have f383 : Fld Z h370 b268 "com/example/spillway/spillway/assignment/Endpoint" "health" "Lcom/example/spillway/spillway/assignment/HealthStatus;" (.ref hsb) := f360.ext E370
      have f384 : Fld Z h370 b268 "com/example/spillway/spillway/assignment/Endpoint" "loadBalancingWeight" "J" (.long wb) := f361.ext E370
      have f385 : Safe Z EL T359.vm h370 b370 := Safe.ext E370 CH359.1 sf_b370
      have CH370 : CHr Z EL s.vm s.heap T359.vm h370 := CH359.trans (CHr.ext E370 CH359.1)
      have hk370 : Array.size T359.heap ≤ Array.size h370 := Nat.le_trans (Nat.le_refl _) E370.1
      have O370 : Old Z n0 h370 := O359.ext E370
      have f386 : Fld Z h370 b370 "com/example/spillway/spillway/assignment/HealthTally" "hosts" "I" (.int 0) := D370 (Or.inl (wdx hw 74 rfl)) (ty := .int) (by decide)
      have f387 : Fld Z h370 b370 "com/example/spillway/spillway/assignment/HealthTally" "hostWeight" "J" (.long 0) := D370 (Or.inl (wdx hw 76 rfl)) (ty := .long) (by decide)
      have f388 : Fld Z h370 b370 "com/example/spillway/spillway/assignment/HealthTally" "healthy" "I" (.int 0) := D370 (Or.inl (wdx hw 90 rfl)) (ty := .int) (by decide)
      have f389 : Fld Z h370 b370 "com/example/spillway/spillway/assignment/HealthTally" "healthyWeight" "J" (.long 0) := D370 (Or.inl (wdx hw 92 rfl)) (ty := .long) (by decide)
      have f390 : Fld Z h370 b370 "com/example/spillway/spillway/assignment/HealthTally" "degraded" "I" (.int 0) := D370 (Or.inl (wdx hw 109 rfl)) (ty := .int) (by decide)
      have f391 : Fld Z h370 b370 "com/example/spillway/spillway/assignment/HealthTally" "degradedWeight" "J" (.long 0) := D370 (Or.inl (wdx hw 126 rfl)) (ty := .long) (by decide)
      show GoW p e below s _ _ _ _ _ (T370.setTop (mkF m 68 #[.val (.int sa), .val (.long va), .second, .val (.int sb), .val (.long vb), .second, .val (.int ia), .val (.int ib), .val (.long wa), .second, .val (.long wb), .second, .val (.ref b3), .val (.ref b268), .unset, .unset, .unset, .unset, .unset, .unset, .unset, .unset, .unset, .unset, .unset] [(.ref b370)]))
      refine GoW.st (fun _ k' => XS.dup X370.here hx rfl (hb hby at_68) rfl rfl k') ?_
      show GoW p e below s _ _ _ _ _ (T370.setTop (mkF m 69 #[.val (.int sa), .val (.long va), .second, .val (.int sb), .val (.long vb), .second, .val (.int ia), .val (.int ib), .val (.long wa), .second, .val (.long wb), .second, .val (.ref b3), .val (.ref b268), .unset, .unset, .unset, .unset, .unset, .unset, .unset, .unset, .unset, .unset, .unset] [(.ref b370), (.ref b370)]))
      obtain ⟨_, _, ⟨T392, L392, k392, n392⟩, -, X392, ⟨Lc392, hQ392, l392, y392, z392⟩, st392⟩ := X370.specialBack hx (y := mn9) rfl hown359 (mvT hZ359 (wdx hw 55 rfl)) (mvT hZ359 (wdx hw 56 rfl)) (mvT hZ359 (wdx hw 57 rfl)) (by decide) (backOf (W := 1) (rm8 l Z a0 hw [] b370 h370 n0 O370 ) hZ359 (wdx hw 57 rfl) (wdx hw 54 rfl) (by decide) (by decide)) (g := (mkF m 69 #[.val (.int sa), .val (.long va), .second, .val (.int sb), .val (.long vb), .second, .val (.int ia), .val (.int ib), .val (.long wa), .second, .val (.long wb), .second, .val (.ref b3), .val (.ref b268), .unset, .unset, .unset, .unset, .unset, .unset, .unset, .unset, .unset, .unset, .unset] [(.ref b370), (.ref b370)])) rfl (by rw [hml]; rfl) (Steps.refl _) (a := b370) (argsL := []) (rest := [(.ref b370)]) (lenOf pd___V rfl) rfl (by show 2 * 0 + _ ≤ _; exact Nat.le_of_eq rfl) (hb hby at_69) (fun _ _ => ⟨rfl, e370, (by exact lee rfl), (by exact lee rfl)⟩)
      dsimp only [Pt.U, Pt.locs, Pt.cells, Pt.slots] at X392 l392 y392 z392 st392 hQ392
      subst l392 y392 z392
      obtain ⟨rfl, Nq392, eq392⟩ := hQ392
      have N392 := Fr.app N359 Nq392
      refine GoW.tr st392 ?_
      show GoW p e below s _ _ _ _ _ (T392.setTop (mkF m 72 #[.val (.int sa), .val (.long va), .second, .val (.int sb), .val (.long vb), .second, .val (.int ia), .val (.int ib), .val (.long wa), .second, .val (.long wb), .second, .val (.ref b3), .val (.ref b268), .unset, .unset, .unset, .unset, .unset, .unset, .unset, .unset, .unset, .unset, .unset] [(.ref b370)]))
      refine GoW.st (fun _ k' => XS.astore X392.here hx rfl (hb hby at_72) rfl rfl (l' := #[.val (.int sa), .val (.long va), .second, .val (.int sb), .val (.long vb), .second, .val (.int ia), .val (.int ib), .val (.long wa), .second, .val (.long wb), .second, .val (.ref b3), .val (.ref b268), .val (.ref b370), .unset, .unset, .unset, .unset, .unset, .unset, .unset, .unset, .unset, .unset]) rfl k') ?_
      refine GoW.st (fun _ k' => XS.aload X392.here hx rfl (hb hby at_74) rfl rfl k') ?_
      refine GoW.st (fun _ k' => XS.aload X392.here hx rfl (hb hby at_76) rfl rfl k') ?_
      show GoW p e below s _ _ _ _ _ (T392.setTop (mkF m 78 #[.val (.int sa), .val (.long va), .second, .val (.int sb), .val (.long vb), .second, .val (.int ia), .val (.int ib), .val (.long wa), .second, .val (.long wb), .second, .val (.ref b3), .val (.ref b268), .val (.ref b370), .unset, .unset, .unset, .unset, .unset, .unset, .unset, .unset, .unset, .unset] [(.ref b3), (.ref b370)]))
      obtain ⟨cq393, kq393, q393a, q393b, q393c⟩ := isOf hZ359 eq392 A370
      obtain ⟨_, _, ⟨T393, L393, k393, n393⟩, -, X393, ⟨Lc393, hQ393, l393, y393, z393⟩, st393⟩ := X392.virtualBack hx (y := mn0) (z := mn0) hown359 (mvT hZ359 (wdx hw 59 rfl)) (mvT hZ359 (wdx hw 60 rfl)) (notFace_of_selects (args := #[]) (mvT hZ359 (wdx hw 62 rfl))) (mvT hZ359 (wdx hw 62 rfl)) (mvT hZ359 (wdx hw 61 rfl)) (by decide) (backOf (W := 0) (rm9_d l Z a0 hw [] b370 b3 (0 : Int32) (0 : Int32) (0 : Int32) (0 : Int64) (0 : Int64) (0 : Int64) hsa wa a_UNKNOWN a_HEALTHY a_DEGRADED h370 n0 O370 A370 f386 f388 f390 f387 f389 f391 f376 f378 f379 f377 S_UNKNOWN S_HEALTHY S_DEGRADED g_b370 (Ne.symm ne371) khsa_2 khsa_3) hZ359 (wdx hw 63 rfl) (wdx hw 54 rfl) (by decide) (by decide)) q393a q393c (g := (mkF m 78 #[.val (.int sa), .val (.long va), .second, .val (.int sb), .val (.long vb), .second, .val (.int ia), .val (.int ib), .val (.long wa), .second, .val (.long wb), .second, .val (.ref b3), .val (.ref b268), .val (.ref b370), .unset, .unset, .unset, .unset, .unset, .unset, .unset, .unset, .unset, .unset] [(.ref b3), (.ref b370)])) rfl (by rw [hml]; rfl) (Steps.refl _) (argsL := [(.ref b3)]) (rest := []) (lenOf pd__Lcom_example_spillway_spillway_assignment_Endpoint__V rfl) rfl (by show 2 * 0 + _ ≤ _; exact Nat.le_of_eq rfl) (hb hby at_78) (fun _ _ => ⟨rfl, eq392, (by exact lee rfl), (by exact lee rfl)⟩)
      dsimp only [Pt.U, Pt.locs, Pt.cells, Pt.slots] at X393 l393 y393 z393 st393 hQ393
      subst l393 y393 z393
      obtain ⟨rfl, Nq393, Kq393, f394, f395, f396, f397, f398, f399⟩ := hQ393
      have N393 := Fr.app N392 Nq393
      refine GoW.tr st393 ?_
      have f400 : Safe Z EL T359.vm T393.heap b3 := Safe.keep Kq393 (allS f385 all0) CH370.1 f375
      have f401 : Exa Z T393.heap b3 "com/example/spillway/spillway/assignment/Endpoint" := f376.keep Kq393
      have f402 : Exa Z T393.heap hsa "com/example/spillway/spillway/assignment/HealthStatus" := f377.keep Kq393
      have f403 : Fld Z T393.heap b3 "com/example/spillway/spillway/assignment/Endpoint" "health" "Lcom/example/spillway/spillway/assignment/HealthStatus;" (.ref hsa) := f378.keep Kq393 (ninS ne371 nin0)
      have f404 : Fld Z T393.heap b3 "com/example/spillway/spillway/assignment/Endpoint" "loadBalancingWeight" "J" (.long wa) := f379.keep Kq393 (ninS ne371 nin0)
      have f405 : Safe Z EL T359.vm T393.heap b268 := Safe.keep Kq393 (allS f385 all0) CH370.1 f380
      have f406 : Exa Z T393.heap b268 "com/example/spillway/spillway/assignment/Endpoint" := f381.keep Kq393
      have f407 : Exa Z T393.heap hsb "com/example/spillway/spillway/assignment/HealthStatus" := f382.keep Kq393
      have f408 : Fld Z T393.heap b268 "com/example/spillway/spillway/assignment/Endpoint" "health" "Lcom/example/spillway/spillway/assignment/HealthStatus;" (.ref hsb) := f383.keep Kq393 (ninS ne373 nin0)
      have f409 : Fld Z T393.heap b268 "com/example/spillway/spillway/assignment/Endpoint" "loadBalancingWeight" "J" (.long wb) := f384.keep Kq393 (ninS ne373 nin0)
      have f410 : Safe Z EL T359.vm T393.heap b370 := Safe.keep Kq393 (allS f385 all0) CH370.1 f385
      have f411 : Exa Z T393.heap b370 "com/example/spillway/spillway/assignment/HealthTally" := A370.keep Kq393
      have CH393 : CHr Z EL s.vm s.heap T359.vm T393.heap := CH370.trans (CHr.keep Kq393 (allS f385 all0) CH370.1)
      have hk393 : Array.size T359.heap ≤ Array.size T393.heap := Nat.le_trans hk370 Kq393.1
      have O393 : Old Z n0 T393.heap := O370.keep Kq393 (allS g_b370 all0)
      show GoW p e below s _ _ _ _ _ (T393.setTop (mkF m 81 #[.val (.int sa), .val (.long va), .second, .val (.int sb), .val (.long vb), .second, .val (.int ia), .val (.int ib), .val (.long wa), .second, .val (.long wb), .second, .val (.ref b3), .val (.ref b268), .val (.ref b370), .unset, .unset, .unset, .unset, .unset, .unset, .unset, .unset, .unset, .unset] []))
      refine GoW.st (fun _ k' => XS.aload X393.here hx rfl (hb hby at_81) rfl rfl k') ?_
      refine GoW.st (fun _ k' => XS.aload X393.here hx rfl (hb hby at_83) rfl rfl k') ?_
      show GoW p e below s _ _ _ _ _ (T393.setTop (mkF m 85 #[.val (.int sa), .val (.long va), .second, .val (.int sb), .val (.long vb), .second, .val (.int ia), .val (.int ib), .val (.long wa), .second, .val (.long wb), .second, .val (.ref b3), .val (.ref b268), .val (.ref b370), .unset, .unset, .unset, .unset, .unset, .unset, .unset, .unset, .unset, .unset] [(.ref b268), (.ref b370)]))
      obtain ⟨cq412, kq412, q412a, q412b, q412c⟩ := isOf hZ359 rfl f411
      obtain ⟨_, _, ⟨T412, L412, k412, n412⟩, -, X412, ⟨Lc412, hQ412, l412, y412, z412⟩, st412⟩ := X393.virtualBack hx (y := mn0) (z := mn0) hown359 (mvT hZ359 (wdx hw 59 rfl)) (mvT hZ359 (wdx hw 60 rfl)) (notFace_of_selects (args := #[]) (mvT hZ359 (wdx hw 62 rfl))) (mvT hZ359 (wdx hw 62 rfl)) (mvT hZ359 (wdx hw 61 rfl)) (by decide) (backOf (W := 0) (rm9_d l Z a0 hw [] b370 b268 ((0 : Int32) + (1 : Int32)) (0 : Int32) ((0 : Int32) + (1 : Int32)) ((0 : Int64) + (((1 : Int32).toInt64) * wa)) (0 : Int64) ((0 : Int64) + (((1 : Int32).toInt64) * wa)) hsb wb a_UNKNOWN a_HEALTHY a_DEGRADED T393.heap n0 O393 f411 f394 f395 f396 f397 f398 f399 f406 f408 f409 f407 S_UNKNOWN S_HEALTHY S_DEGRADED g_b370 (Ne.symm ne373) khsb_2 khsb_3) hZ359 (wdx hw 63 rfl) (wdx hw 54 rfl) (by decide) (by decide)) q412a q412c (g := (mkF m 85 #[.val (.int sa), .val (.long va), .second, .val (.int sb), .val (.long vb), .second, .val (.int ia), .val (.int ib), .val (.long wa), .second, .val (.long wb), .second, .val (.ref b3), .val (.ref b268), .val (.ref b370), .unset, .unset, .unset, .unset, .unset, .unset, .unset, .unset, .unset, .unset] [(.ref b268), (.ref b370)])) rfl (by rw [hml]; rfl) (Steps.refl _) (argsL := [(.ref b268)]) (rest := []) (lenOf pd__Lcom_example_spillway_spillway_assignment_Endpoint__V rfl) rfl (by show 2 * 0 + _ ≤ _; exact Nat.le_of_eq rfl) (hb hby at_85) (fun _ _ => ⟨rfl, rfl, (by exact lee rfl), (by exact lee rfl)⟩)
      dsimp only [Pt.U, Pt.locs, Pt.cells, Pt.slots] at X412 l412 y412 z412 st412 hQ412
      subst l412 y412 z412
      obtain ⟨rfl, Nq412, Kq412, f413, f414, f415, f416, f417, f418⟩ := hQ412
      have N412 := Fr.app N393 Nq412
      refine GoW.tr st412 ?_
      have f419 : Safe Z EL T359.vm T412.heap b3 := Safe.keep Kq412 (allS f410 all0) CH393.1 f400
      have f420 : Exa Z T412.heap b3 "com/example/spillway/spillway/assignment/Endpoint" := f401.keep Kq412
      have f421 : Exa Z T412.heap hsa "com/example/spillway/spillway/assignment/HealthStatus" := f402.keep Kq412
      have f422 : Fld Z T412.heap b3 "com/example/spillway/spillway/assignment/Endpoint" "health" "Lcom/example/spillway/spillway/assignment/HealthStatus;" (.ref hsa) := f403.keep Kq412 (ninS ne371 nin0)
      have f423 : Fld Z T412.heap b3 "com/example/spillway/spillway/assignment/Endpoint" "loadBalancingWeight" "J" (.long wa) := f404.keep Kq412 (ninS ne371 nin0)
      have f424 : Safe Z EL T359.vm T412.heap b268 := Safe.keep Kq412 (allS f410 all0) CH393.1 f405
      have f425 : Exa Z T412.heap b268 "com/example/spillway/spillway/assignment/Endpoint" := f406.keep Kq412
      have f426 : Exa Z T412.heap hsb "com/example/spillway/spillway/assignment/HealthStatus" := f407.keep Kq412
      have f427 : Fld Z T412.heap b268 "com/example/spillway/spillway/assignment/Endpoint" "health" "Lcom/example/spillway/spillway/assignment/HealthStatus;" (.ref hsb) := f408.keep Kq412 (ninS ne373 nin0)
      have f428 : Fld Z T412.heap b268 "com/example/spillway/spillway/assignment/Endpoint" "loadBalancingWeight" "J" (.long wb) := f409.keep Kq412 (ninS ne373 nin0)
      have f429 : Safe Z EL T359.vm T412.heap b370 := Safe.keep Kq412 (allS f410 all0) CH393.1 f410
      have f430 : Exa Z T412.heap b370 "com/example/spillway/spillway/assignment/HealthTally" := f411.keep Kq412
      have CH412 : CHr Z EL s.vm s.heap T359.vm T412.heap := CH393.trans (CHr.keep Kq412 (allS f410 all0) CH393.1)
      have hk412 : Array.size T359.heap ≤ Array.size T412.heap := Nat.le_trans hk393 Kq412.1
      have O412 : Old Z n0 T412.heap := O393.keep Kq412 (allS g_b370 all0)
      show GoW p e below s _ _ _ _ _ (T412.setTop (mkF m 88 #[.val (.int sa), .val (.long va), .second, .val (.int sb), .val (.long vb), .second, .val (.int ia), .val (.int ib), .val (.long wa), .second, .val (.long wb), .second, .val (.ref b3), .val (.ref b268), .val (.ref b370), .unset, .unset, .unset, .unset, .unset, .unset, .unset, .unset, .unset, .unset] []))
      refine GoW.st (fun _ k' => XS.iload X412.here hx rfl (hb hby at_88) rfl k') ?_
      refine GoW.st (fun _ k' => XS.iconst X412.here hx rfl (hb hby at_90) k') ?_
      show GoW p e below s _ _ _ _ _ (T412.setTop (mkF m 91 #[.val (.int sa), .val (.long va), .second, .val (.int sb), .val (.long vb), .second, .val (.int ia), .val (.int ib), .val (.long wa), .second, .val (.long wb), .second, .val (.ref b3), .val (.ref b268), .val (.ref b370), .unset, .unset, .unset, .unset, .unset, .unset, .unset, .unset, .unset, .unset] [(.int 1), (.int ia)]))
      refine GoW.st (fun _ k' => XS.icmpYes X412.here hx rfl (pc0 := 91) (pc' := 98) rfl (hb hby at_91) rfl (XT.ii_gt_t khsa_0) (by decide) (by decide) k') ?_
      show GoW p e below s _ _ _ _ _ (T412.setTop (mkF m 98 #[.val (.int sa), .val (.long va), .second, .val (.int sb), .val (.long vb), .second, .val (.int ia), .val (.int ib), .val (.long wa), .second, .val (.long wb), .second, .val (.ref b3), .val (.ref b268), .val (.ref b370), .unset, .unset, .unset, .unset, .unset, .unset, .unset, .unset, .unset, .unset] []))
      refine GoW.st (fun _ k' => XS.iconst X412.here hx rfl (hb hby at_98) k') ?_
      refine GoW.st (fun _ k' => XS.istore X412.here hx rfl (hb hby at_99) rfl (l' := #[.val (.int sa), .val (.long va), .second, .val (.int sb), .val (.long vb), .second, .val (.int ia), .val (.int ib), .val (.long wa), .second, .val (.long wb), .second, .val (.ref b3), .val (.ref b268), .val (.ref b370), .val (.int 0), .unset, .unset, .unset, .unset, .unset, .unset, .unset, .unset, .unset]) rfl k') ?_
      refine GoW.st (fun _ k' => XS.iload X412.here hx rfl (hb hby at_101) rfl k') ?_
      refine GoW.st (fun _ k' => XS.iconst X412.here hx rfl (hb hby at_103) k') ?_
      show GoW p e below s _ _ _ _ _ (T412.setTop (mkF m 104 #[.val (.int sa), .val (.long va), .second, .val (.int sb), .val (.long vb), .second, .val (.int ia), .val (.int ib), .val (.long wa), .second, .val (.long wb), .second, .val (.ref b3), .val (.ref b268), .val (.ref b370), .val (.int 0), .unset, .unset, .unset, .unset, .unset, .unset, .unset, .unset, .unset] [(.int 1), (.int ib)]))
      refine GoW.st (fun _ k' => XS.icmpYes X412.here hx rfl (pc0 := 104) (pc' := 111) rfl (hb hby at_104) rfl (XT.ii_gt_t khsb_0) (by decide) (by decide) k') ?_
      show GoW p e below s _ _ _ _ _ (T412.setTop (mkF m 111 #[.val (.int sa), .val (.long va), .second, .val (.int sb), .val (.long vb), .second, .val (.int ia), .val (.int ib), .val (.long wa), .second, .val (.long wb), .second, .val (.ref b3), .val (.ref b268), .val (.ref b370), .val (.int 0), .unset, .unset, .unset, .unset, .unset, .unset, .unset, .unset, .unset] []))
      refine GoW.st (fun _ k' => XS.iconst X412.here hx rfl (hb hby at_111) k') ?_
      refine GoW.st (fun _ k' => XS.istore X412.here hx rfl (hb hby at_112) rfl (l' := #[.val (.int sa), .val (.long va), .second, .val (.int sb), .val (.long vb), .second, .val (.int ia), .val (.int ib), .val (.long wa), .second, .val (.long wb), .second, .val (.ref b3), .val (.ref b268), .val (.ref b370), .val (.int 0), .val (.int 0), .unset, .unset, .unset, .unset, .unset, .unset, .unset, .unset]) rfl k') ?_
      refine GoW.st (fun _ k' => XS.iload X412.here hx rfl (hb hby at_114) rfl k') ?_
      refine GoW.st (fun _ k' => XS.iconst X412.here hx rfl (hb hby at_116) k') ?_
      show GoW p e below s _ _ _ _ _ (T412.setTop (mkF m 117 #[.val (.int sa), .val (.long va), .second, .val (.int sb), .val (.long vb), .second, .val (.int ia), .val (.int ib), .val (.long wa), .second, .val (.long wb), .second, .val (.ref b3), .val (.ref b268), .val (.ref b370), .val (.int 0), .val (.int 0), .unset, .unset, .unset, .unset, .unset, .unset, .unset, .unset] [(.int 5), (.int ia)]))
      refine GoW.st (fun _ k' => XS.icmpNo X412.here hx rfl (hb hby at_117) rfl (XT.ii_ne_f khsa_1) k') ?_
      show GoW p e below s _ _ _ _ _ (T412.setTop (mkF m 120 #[.val (.int sa), .val (.long va), .second, .val (.int sb), .val (.long vb), .second, .val (.int ia), .val (.int ib), .val (.long wa), .second, .val (.long wb), .second, .val (.ref b3), .val (.ref b268), .val (.ref b370), .val (.int 0), .val (.int 0), .unset, .unset, .unset, .unset, .unset, .unset, .unset, .unset] []))
      refine GoW.st (fun _ k' => XS.iconst X412.here hx rfl (hb hby at_120) k') ?_
      show GoW p e below s _ _ _ _ _ (T412.setTop (mkF m 121 #[.val (.int sa), .val (.long va), .second, .val (.int sb), .val (.long vb), .second, .val (.int ia), .val (.int ib), .val (.long wa), .second, .val (.long wb), .second, .val (.ref b3), .val (.ref b268), .val (.ref b370), .val (.int 0), .val (.int 0), .unset, .unset, .unset, .unset, .unset, .unset, .unset, .unset] [(.int 1)]))
      refine GoW.st (fun _ k' => XS.goto X412.here hx rfl (pc0 := 121) (pc' := 125) rfl (hb hby at_121) (by decide) (by decide) k') ?_
      show GoW p e below s _ _ _ _ _ (T412.setTop (mkF m 125 #[.val (.int sa), .val (.long va), .second, .val (.int sb), .val (.long vb), .second, .val (.int ia), .val (.int ib), .val (.long wa), .second, .val (.long wb), .second, .val (.ref b3), .val (.ref b268), .val (.ref b370), .val (.int 0), .val (.int 0), .unset, .unset, .unset, .unset, .unset, .unset, .unset, .unset] [(.int 1)]))
      refine GoW.st (fun _ k' => XS.istore X412.here hx rfl (hb hby at_125) rfl (l' := #[.val (.int sa), .val (.long va), .second, .val (.int sb), .val (.long vb), .second, .val (.int ia), .val (.int ib), .val (.long wa), .second, .val (.long wb), .second, .val (.ref b3), .val (.ref b268), .val (.ref b370), .val (.int 0), .val (.int 0), .val (.int 1), .unset, .unset, .unset, .unset, .unset, .unset, .unset]) rfl k') ?_
      refine GoW.st (fun _ k' => XS.iload X412.here hx rfl (hb hby at_127) rfl k') ?_
      refine GoW.st (fun _ k' => XS.iconst X412.here hx rfl (hb hby at_129) k') ?_
      show GoW p e below s _ _ _ _ _ (T412.setTop (mkF m 130 #[.val (.int sa), .val (.long va), .second, .val (.int sb), .val (.long vb), .second, .val (.int ia), .val (.int ib), .val (.long wa), .second, .val (.long wb), .second, .val (.ref b3), .val (.ref b268), .val (.ref b370), .val (.int 0), .val (.int 0), .val (.int 1), .unset, .unset, .unset, .unset, .unset, .unset, .unset] [(.int 5), (.int ib)]))
      refine GoW.st (fun _ k' => XS.icmpNo X412.here hx rfl (hb hby at_130) rfl (XT.ii_ne_f khsb_1) k') ?_
      show GoW p e below s _ _ _ _ _ (T412.setTop (mkF m 133 #[.val (.int sa), .val (.long va), .second, .val (.int sb), .val (.long vb), .second, .val (.int ia), .val (.int ib), .val (.long wa), .second, .val (.long wb), .second, .val (.ref b3), .val (.ref b268), .val (.ref b370), .val (.int 0), .val (.int 0), .val (.int 1), .unset, .unset, .unset, .unset, .unset, .unset, .unset] []))
      refine GoW.st (fun _ k' => XS.iconst X412.here hx rfl (hb hby at_133) k') ?_
      show GoW p e below s _ _ _ _ _ (T412.setTop (mkF m 134 #[.val (.int sa), .val (.long va), .second, .val (.int sb), .val (.long vb), .second, .val (.int ia), .val (.int ib), .val (.long wa), .second, .val (.long wb), .second, .val (.ref b3), .val (.ref b268), .val (.ref b370), .val (.int 0), .val (.int 0), .val (.int 1), .unset, .unset, .unset, .unset, .unset, .unset, .unset] [(.int 1)]))
      refine GoW.st (fun _ k' => XS.goto X412.here hx rfl (pc0 := 134) (pc' := 138) rfl (hb hby at_134) (by decide) (by decide) k') ?_
      show GoW p e below s _ _ _ _ _ (T412.setTop (mkF m 138 #[.val (.int sa), .val (.long va), .second, .val (.int sb), .val (.long vb), .second, .val (.int ia), .val (.int ib), .val (.long wa), .second, .val (.long wb), .second, .val (.ref b3), .val (.ref b268), .val (.ref b370), .val (.int 0), .val (.int 0), .val (.int 1), .unset, .unset, .unset, .unset, .unset, .unset, .unset] [(.int 1)]))
      refine GoW.st (fun _ k' => XS.istore X412.here hx rfl (hb hby at_138) rfl (l' := #[.val (.int sa), .val (.long va), .second, .val (.int sb), .val (.long vb), .second, .val (.int ia), .val (.int ib), .val (.long wa), .second, .val (.long wb), .second, .val (.ref b3), .val (.ref b268), .val (.ref b370), .val (.int 0), .val (.int 0), .val (.int 1), .val (.int 1), .unset, .unset, .unset, .unset, .unset, .unset]) rfl k') ?_
      refine GoW.st (fun _ k' => XS.iload X412.here hx rfl (hb hby at_140) rfl k') ?_
      show GoW p e below s _ _ _ _ _ (T412.setTop (mkF m 142 #[.val (.int sa), .val (.long va), .second, .val (.int sb), .val (.long vb), .second, .val (.int ia), .val (.int ib), .val (.long wa), .second, .val (.long wb), .second, .val (.ref b3), .val (.ref b268), .val (.ref b370), .val (.int 0), .val (.int 0), .val (.int 1), .val (.int 1), .unset, .unset, .unset, .unset, .unset, .unset] [(.int 0)]))
      refine GoW.st (fun _ k' => XS.ifYes X412.here hx rfl (pc0 := 142) (pc' := 149) rfl (hb hby at_142) rfl (XT.i0_eq_t (by decide)) (by decide) (by decide) k') ?_
      show GoW p e below s _ _ _ _ _ (T412.setTop (mkF m 149 #[.val (.int sa), .val (.long va), .second, .val (.int sb), .val (.long vb), .second, .val (.int ia), .val (.int ib), .val (.long wa), .second, .val (.long wb), .second, .val (.ref b3), .val (.ref b268), .val (.ref b370), .val (.int 0), .val (.int 0), .val (.int 1), .val (.int 1), .unset, .unset, .unset, .unset, .unset, .unset] []))
      refine GoW.st (fun _ k' => XS.iconst X412.here hx rfl (hb hby at_149) k') ?_
      refine GoW.st (fun _ k' => XS.iload X412.here hx rfl (hb hby at_150) rfl k') ?_
      show GoW p e below s _ _ _ _ _ (T412.setTop (mkF m 152 #[.val (.int sa), .val (.long va), .second, .val (.int sb), .val (.long vb), .second, .val (.int ia), .val (.int ib), .val (.long wa), .second, .val (.long wb), .second, .val (.ref b3), .val (.ref b268), .val (.ref b370), .val (.int 0), .val (.int 0), .val (.int 1), .val (.int 1), .unset, .unset, .unset, .unset, .unset, .unset] [(.int 0), (.int 0)]))
      refine GoW.st (fun _ k' => XS.ifYes X412.here hx rfl (pc0 := 152) (pc' := 159) rfl (hb hby at_152) rfl (XT.i0_eq_t (by decide)) (by decide) (by decide) k') ?_
      show GoW p e below s _ _ _ _ _ (T412.setTop (mkF m 159 #[.val (.int sa), .val (.long va), .second, .val (.int sb), .val (.long vb), .second, .val (.int ia), .val (.int ib), .val (.long wa), .second, .val (.long wb), .second, .val (.ref b3), .val (.ref b268), .val (.ref b370), .val (.int 0), .val (.int 0), .val (.int 1), .val (.int 1), .unset, .unset, .unset, .unset, .unset, .unset] [(.int 0)]))
      refine GoW.st (fun _ k' => XS.iconst X412.here hx rfl (hb hby at_159) k') ?_
      refine GoW.st (fun _ k' => XS.iadd X412.here hx rfl (hb hby at_160) rfl k') ?_
      refine GoW.st (fun _ k' => XS.istore X412.here hx rfl (hb hby at_161) rfl (l' := #[.val (.int sa), .val (.long va), .second, .val (.int sb), .val (.long vb), .second, .val (.int ia), .val (.int ib), .val (.long wa), .second, .val (.long wb), .second, .val (.ref b3), .val (.ref b268), .val (.ref b370), .val (.int 0), .val (.int 0), .val (.int 1), .val (.int 1), .val (.int 0), .unset, .unset, .unset, .unset, .unset]) rfl k') ?_
      refine GoW.st (fun _ k' => XS.iload X412.here hx rfl (hb hby at_163) rfl k') ?_
      show GoW p e below s _ _ _ _ _ (T412.setTop (mkF m 165 #[.val (.int sa), .val (.long va), .second, .val (.int sb), .val (.long vb), .second, .val (.int ia), .val (.int ib), .val (.long wa), .second, .val (.long wb), .second, .val (.ref b3), .val (.ref b268), .val (.ref b370), .val (.int 0), .val (.int 0), .val (.int 1), .val (.int 1), .val (.int 0), .unset, .unset, .unset, .unset, .unset] [(.int 1)]))
      refine GoW.st (fun _ k' => XS.ifNo X412.here hx rfl (hb hby at_165) rfl (XT.i0_eq_f (by decide)) k') ?_
      show GoW p e below s _ _ _ _ _ (T412.setTop (mkF m 168 #[.val (.int sa), .val (.long va), .second, .val (.int sb), .val (.long vb), .second, .val (.int ia), .val (.int ib), .val (.long wa), .second, .val (.long wb), .second, .val (.ref b3), .val (.ref b268), .val (.ref b370), .val (.int 0), .val (.int 0), .val (.int 1), .val (.int 1), .val (.int 0), .unset, .unset, .unset, .unset, .unset] []))
      refine GoW.st (fun _ k' => XS.iconst X412.here hx rfl (hb hby at_168) k') ?_
      show GoW p e below s _ _ _ _ _ (T412.setTop (mkF m 169 #[.val (.int sa), .val (.long va), .second, .val (.int sb), .val (.long vb), .second, .val (.int ia), .val (.int ib), .val (.long wa), .second, .val (.long wb), .second, .val (.ref b3), .val (.ref b268), .val (.ref b370), .val (.int 0), .val (.int 0), .val (.int 1), .val (.int 1), .val (.int 0), .unset, .unset, .unset, .unset, .unset] [(.int 1)]))
      refine GoW.st (fun _ k' => XS.goto X412.here hx rfl (pc0 := 169) (pc' := 173) rfl (hb hby at_169) (by decide) (by decide) k') ?_
      show GoW p e below s _ _ _ _ _ (T412.setTop (mkF m 173 #[.val (.int sa), .val (.long va), .second, .val (.int sb), .val (.long vb), .second, .val (.int ia), .val (.int ib), .val (.long wa), .second, .val (.long wb), .second, .val (.ref b3), .val (.ref b268), .val (.ref b370), .val (.int 0), .val (.int 0), .val (.int 1), .val (.int 1), .val (.int 0), .unset, .unset, .unset, .unset, .unset] [(.int 1)]))
      refine GoW.st (fun _ k' => XS.iload X412.here hx rfl (hb hby at_173) rfl k') ?_
      show GoW p e below s _ _ _ _ _ (T412.setTop (mkF m 175 #[.val (.int sa), .val (.long va), .second, .val (.int sb), .val (.long vb), .second, .val (.int ia), .val (.int ib), .val (.long wa), .second, .val (.long wb), .second, .val (.ref b3), .val (.ref b268), .val (.ref b370), .val (.int 0), .val (.int 0), .val (.int 1), .val (.int 1), .val (.int 0), .unset, .unset, .unset, .unset, .unset] [(.int 1), (.int 1)]))
      refine GoW.st (fun _ k' => XS.ifNo X412.here hx rfl (hb hby at_175) rfl (XT.i0_eq_f (by decide)) k') ?_
      show GoW p e below s _ _ _ _ _ (T412.setTop (mkF m 178 #[.val (.int sa), .val (.long va), .second, .val (.int sb), .val (.long vb), .second, .val (.int ia), .val (.int ib), .val (.long wa), .second, .val (.long wb), .second, .val (.ref b3), .val (.ref b268), .val (.ref b370), .val (.int 0), .val (.int 0), .val (.int 1), .val (.int 1), .val (.int 0), .unset, .unset, .unset, .unset, .unset] [(.int 1)]))
      refine GoW.st (fun _ k' => XS.iconst X412.here hx rfl (hb hby at_178) k') ?_
      show GoW p e below s _ _ _ _ _ (T412.setTop (mkF m 179 #[.val (.int sa), .val (.long va), .second, .val (.int sb), .val (.long vb), .second, .val (.int ia), .val (.int ib), .val (.long wa), .second, .val (.long wb), .second, .val (.ref b3), .val (.ref b268), .val (.ref b370), .val (.int 0), .val (.int 0), .val (.int 1), .val (.int 1), .val (.int 0), .unset, .unset, .unset, .unset, .unset] [(.int 1), (.int 1)]))
      refine GoW.st (fun _ k' => XS.goto X412.here hx rfl (pc0 := 179) (pc' := 183) rfl (hb hby at_179) (by decide) (by decide) k') ?_
      show GoW p e below s _ _ _ _ _ (T412.setTop (mkF m 183 #[.val (.int sa), .val (.long va), .second, .val (.int sb), .val (.long vb), .second, .val (.int ia), .val (.int ib), .val (.long wa), .second, .val (.long wb), .second, .val (.ref b3), .val (.ref b268), .val (.ref b370), .val (.int 0), .val (.int 0), .val (.int 1), .val (.int 1), .val (.int 0), .unset, .unset, .unset, .unset, .unset] [(.int 1), (.int 1)]))
      refine GoW.st (fun _ k' => XS.iadd X412.here hx rfl (hb hby at_183) rfl k') ?_
      refine GoW.st (fun _ k' => XS.istore X412.here hx rfl (hb hby at_184) rfl (l' := #[.val (.int sa), .val (.long va), .second, .val (.int sb), .val (.long vb), .second, .val (.int ia), .val (.int ib), .val (.long wa), .second, .val (.long wb), .second, .val (.ref b3), .val (.ref b268), .val (.ref b370), .val (.int 0), .val (.int 0), .val (.int 1), .val (.int 1), .val (.int 0), .val (.int 2), .unset, .unset, .unset, .unset]) rfl k') ?_
      refine GoW.st (fun _ k' => XS.iload X412.here hx rfl (hb hby at_186) rfl k') ?_
      show GoW p e below s _ _ _ _ _ (T412.setTop (mkF m 188 #[.val (.int sa), .val (.long va), .second, .val (.int sb), .val (.long vb), .second, .val (.int ia), .val (.int ib), .val (.long wa), .second, .val (.long wb), .second, .val (.ref b3), .val (.ref b268), .val (.ref b370), .val (.int 0), .val (.int 0), .val (.int 1), .val (.int 1), .val (.int 0), .val (.int 2), .unset, .unset, .unset, .unset] [(.int 0)]))
      refine GoW.st (fun _ k' => XS.ifYes X412.here hx rfl (pc0 := 188) (pc' := 196) rfl (hb hby at_188) rfl (XT.i0_eq_t (by decide)) (by decide) (by decide) k') ?_
      show GoW p e below s _ _ _ _ _ (T412.setTop (mkF m 196 #[.val (.int sa), .val (.long va), .second, .val (.int sb), .val (.long vb), .second, .val (.int ia), .val (.int ib), .val (.long wa), .second, .val (.long wb), .second, .val (.ref b3), .val (.ref b268), .val (.ref b370), .val (.int 0), .val (.int 0), .val (.int 1), .val (.int 1), .val (.int 0), .val (.int 2), .unset, .unset, .unset, .unset] []))
      refine GoW.st (fun _ k' => XS.lconst X412.here hx rfl (hb hby at_196) k') ?_
      refine GoW.st (fun _ k' => XS.iload X412.here hx rfl (hb hby at_197) rfl k') ?_
      show GoW p e below s _ _ _ _ _ (T412.setTop (mkF m 199 #[.val (.int sa), .val (.long va), .second, .val (.int sb), .val (.long vb), .second, .val (.int ia), .val (.int ib), .val (.long wa), .second, .val (.long wb), .second, .val (.ref b3), .val (.ref b268), .val (.ref b370), .val (.int 0), .val (.int 0), .val (.int 1), .val (.int 1), .val (.int 0), .val (.int 2), .unset, .unset, .unset, .unset] [(.int 0), (.long 0)]))
      refine GoW.st (fun _ k' => XS.ifYes X412.here hx rfl (pc0 := 199) (pc' := 207) rfl (hb hby at_199) rfl (XT.i0_eq_t (by decide)) (by decide) (by decide) k') ?_
      show GoW p e below s _ _ _ _ _ (T412.setTop (mkF m 207 #[.val (.int sa), .val (.long va), .second, .val (.int sb), .val (.long vb), .second, .val (.int ia), .val (.int ib), .val (.long wa), .second, .val (.long wb), .second, .val (.ref b3), .val (.ref b268), .val (.ref b370), .val (.int 0), .val (.int 0), .val (.int 1), .val (.int 1), .val (.int 0), .val (.int 2), .unset, .unset, .unset, .unset] [(.long 0)]))
      refine GoW.st (fun _ k' => XS.lconst X412.here hx rfl (hb hby at_207) k') ?_
      refine GoW.st (fun _ k' => XS.ladd X412.here hx rfl (hb hby at_208) rfl k') ?_
      refine GoW.st (fun _ k' => XS.lstore X412.here hx rfl (hb hby at_209) rfl (l' := #[.val (.int sa), .val (.long va), .second, .val (.int sb), .val (.long vb), .second, .val (.int ia), .val (.int ib), .val (.long wa), .second, .val (.long wb), .second, .val (.ref b3), .val (.ref b268), .val (.ref b370), .val (.int 0), .val (.int 0), .val (.int 1), .val (.int 1), .val (.int 0), .val (.int 2), .val (.long ((0 : Int64) + (0 : Int64))), .second, .unset, .unset]) rfl k') ?_
      refine GoW.st (fun _ k' => XS.iload X412.here hx rfl (hb hby at_211) rfl k') ?_
      show GoW p e below s _ _ _ _ _ (T412.setTop (mkF m 213 #[.val (.int sa), .val (.long va), .second, .val (.int sb), .val (.long vb), .second, .val (.int ia), .val (.int ib), .val (.long wa), .second, .val (.long wb), .second, .val (.ref b3), .val (.ref b268), .val (.ref b370), .val (.int 0), .val (.int 0), .val (.int 1), .val (.int 1), .val (.int 0), .val (.int 2), .val (.long ((0 : Int64) + (0 : Int64))), .second, .unset, .unset] [(.int 1)]))
      refine GoW.st (fun _ k' => XS.ifNo X412.here hx rfl (hb hby at_213) rfl (XT.i0_eq_f (by decide)) k') ?_
      show GoW p e below s _ _ _ _ _ (T412.setTop (mkF m 216 #[.val (.int sa), .val (.long va), .second, .val (.int sb), .val (.long vb), .second, .val (.int ia), .val (.int ib), .val (.long wa), .second, .val (.long wb), .second, .val (.ref b3), .val (.ref b268), .val (.ref b370), .val (.int 0), .val (.int 0), .val (.int 1), .val (.int 1), .val (.int 0), .val (.int 2), .val (.long ((0 : Int64) + (0 : Int64))), .second, .unset, .unset] []))
      refine GoW.st (fun _ k' => XS.lload X412.here hx rfl (hb hby at_216) rfl k') ?_
      show GoW p e below s _ _ _ _ _ (T412.setTop (mkF m 218 #[.val (.int sa), .val (.long va), .second, .val (.int sb), .val (.long vb), .second, .val (.int ia), .val (.int ib), .val (.long wa), .second, .val (.long wb), .second, .val (.ref b3), .val (.ref b268), .val (.ref b370), .val (.int 0), .val (.int 0), .val (.int 1), .val (.int 1), .val (.int 0), .val (.int 2), .val (.long ((0 : Int64) + (0 : Int64))), .second, .unset, .unset] [(.long wa)]))
      refine GoW.st (fun _ k' => XS.goto X412.here hx rfl (pc0 := 218) (pc' := 222) rfl (hb hby at_218) (by decide) (by decide) k') ?_
      show GoW p e below s _ _ _ _ _ (T412.setTop (mkF m 222 #[.val (.int sa), .val (.long va), .second, .val (.int sb), .val (.long vb), .second, .val (.int ia), .val (.int ib), .val (.long wa), .second, .val (.long wb), .second, .val (.ref b3), .val (.ref b268), .val (.ref b370), .val (.int 0), .val (.int 0), .val (.int 1), .val (.int 1), .val (.int 0), .val (.int 2), .val (.long ((0 : Int64) + (0 : Int64))), .second, .unset, .unset] [(.long wa)]))
      refine GoW.st (fun _ k' => XS.iload X412.here hx rfl (hb hby at_222) rfl k') ?_
      show GoW p e below s _ _ _ _ _ (T412.setTop (mkF m 224 #[.val (.int sa), .val (.long va), .second, .val (.int sb), .val (.long vb), .second, .val (.int ia), .val (.int ib), .val (.long wa), .second, .val (.long wb), .second, .val (.ref b3), .val (.ref b268), .val (.ref b370), .val (.int 0), .val (.int 0), .val (.int 1), .val (.int 1), .val (.int 0), .val (.int 2), .val (.long ((0 : Int64) + (0 : Int64))), .second, .unset, .unset] [(.int 1), (.long wa)]))
      refine GoW.st (fun _ k' => XS.ifNo X412.here hx rfl (hb hby at_224) rfl (XT.i0_eq_f (by decide)) k') ?_
      show GoW p e below s _ _ _ _ _ (T412.setTop (mkF m 227 #[.val (.int sa), .val (.long va), .second, .val (.int sb), .val (.long vb), .second, .val (.int ia), .val (.int ib), .val (.long wa), .second, .val (.long wb), .second, .val (.ref b3), .val (.ref b268), .val (.ref b370), .val (.int 0), .val (.int 0), .val (.int 1), .val (.int 1), .val (.int 0), .val (.int 2), .val (.long ((0 : Int64) + (0 : Int64))), .second, .unset, .unset] [(.long wa)]))
      refine GoW.st (fun _ k' => XS.lload X412.here hx rfl (hb hby at_227) rfl k') ?_
      show GoW p e below s _ _ _ _ _ (T412.setTop (mkF m 229 #[.val (.int sa), .val (.long va), .second, .val (.int sb), .val (.long vb), .second, .val (.int ia), .val (.int ib), .val (.long wa), .second, .val (.long wb), .second, .val (.ref b3), .val (.ref b268), .val (.ref b370), .val (.int 0), .val (.int 0), .val (.int 1), .val (.int 1), .val (.int 0), .val (.int 2), .val (.long ((0 : Int64) + (0 : Int64))), .second, .unset, .unset] [(.long wb), (.long wa)]))
      refine GoW.st (fun _ k' => XS.goto X412.here hx rfl (pc0 := 229) (pc' := 233) rfl (hb hby at_229) (by decide) (by decide) k') ?_
      show GoW p e below s _ _ _ _ _ (T412.setTop (mkF m 233 #[.val (.int sa), .val (.long va), .second, .val (.int sb), .val (.long vb), .second, .val (.int ia), .val (.int ib), .val (.long wa), .second, .val (.long wb), .second, .val (.ref b3), .val (.ref b268), .val (.ref b370), .val (.int 0), .val (.int 0), .val (.int 1), .val (.int 1), .val (.int 0), .val (.int 2), .val (.long ((0 : Int64) + (0 : Int64))), .second, .unset, .unset] [(.long wb), (.long wa)]))
      refine GoW.st (fun _ k' => XS.ladd X412.here hx rfl (hb hby at_233) rfl k') ?_
      refine GoW.st (fun _ k' => XS.lstore X412.here hx rfl (hb hby at_234) rfl (l' := #[.val (.int sa), .val (.long va), .second, .val (.int sb), .val (.long vb), .second, .val (.int ia), .val (.int ib), .val (.long wa), .second, .val (.long wb), .second, .val (.ref b3), .val (.ref b268), .val (.ref b370), .val (.int 0), .val (.int 0), .val (.int 1), .val (.int 1), .val (.int 0), .val (.int 2), .val (.long ((0 : Int64) + (0 : Int64))), .second, .val (.long (wa + wb)), .second]) rfl k') ?_
      refine GoW.st (fun _ k' => XS.aload X412.here hx rfl (hb hby at_236) rfl rfl k') ?_
      show GoW p e below s _ _ _ _ _ (T412.setTop (mkF m 238 #[.val (.int sa), .val (.long va), .second, .val (.int sb), .val (.long vb), .second, .val (.int ia), .val (.int ib), .val (.long wa), .second, .val (.long wb), .second, .val (.ref b3), .val (.ref b268), .val (.ref b370), .val (.int 0), .val (.int 0), .val (.int 1), .val (.int 1), .val (.int 0), .val (.int 2), .val (.long ((0 : Int64) + (0 : Int64))), .second, .val (.long (wa + wb)), .second] [(.ref b370)]))
      obtain ⟨cq431, kq431, q431a, q431b, q431c⟩ := isOf hZ359 rfl f430
      obtain ⟨_, _, ⟨T431, L431, k431, n431⟩, -, X431, ⟨Lc431, hQ431, l431, y431, z431⟩, st431⟩ := X412.virtualBack hx (y := mn1) (z := mn1) hown359 (mvT hZ359 (wdx hw 93 rfl)) (mvT hZ359 (wdx hw 94 rfl)) (notFace_of_selects (args := #[]) (mvT hZ359 (wdx hw 96 rfl))) (mvT hZ359 (wdx hw 96 rfl)) (mvT hZ359 (wdx hw 95 rfl)) (by decide) (backOf (W := 0) (rm14 l Z a0 hw [] b370 (((0 : Int32) + (1 : Int32)) + (1 : Int32)) T412.heap n0 O412 f413) hZ359 (wdx hw 97 rfl) (wdx hw 54 rfl) (by decide) (by decide)) q431a q431c (g := (mkF m 238 #[.val (.int sa), .val (.long va), .second, .val (.int sb), .val (.long vb), .second, .val (.int ia), .val (.int ib), .val (.long wa), .second, .val (.long wb), .second, .val (.ref b3), .val (.ref b268), .val (.ref b370), .val (.int 0), .val (.int 0), .val (.int 1), .val (.int 1), .val (.int 0), .val (.int 2), .val (.long ((0 : Int64) + (0 : Int64))), .second, .val (.long (wa + wb)), .second] [(.ref b370)])) rfl (by rw [hml]; rfl) (Steps.refl _) (argsL := []) (rest := []) (lenOf pd___I rfl) rfl (by show 2 * 0 + _ ≤ _; exact Nat.le_of_eq rfl) (hb hby at_238) (fun _ _ => ⟨rfl, rfl, (by exact lee rfl), (by exact lee rfl)⟩)
      dsimp only [Pt.U, Pt.locs, Pt.cells, Pt.slots] at X431 l431 y431 z431 st431 hQ431
      subst l431 y431 z431
      obtain ⟨rfl, Nq431, eq431⟩ := hQ431
      have N431 := Fr.app N412 Nq431
      refine GoW.tr st431 ?_
      show GoW p e below s _ _ _ _ _ (T431.setTop (mkF m 241 #[.val (.int sa), .val (.long va), .second, .val (.int sb), .val (.long vb), .second, .val (.int ia), .val (.int ib), .val (.long wa), .second, .val (.long wb), .second, .val (.ref b3), .val (.ref b268), .val (.ref b370), .val (.int 0), .val (.int 0), .val (.int 1), .val (.int 1), .val (.int 0), .val (.int 2), .val (.long ((0 : Int64) + (0 : Int64))), .second, .val (.long (wa + wb)), .second] [(.int (((0 : Int32) + (1 : Int32)) + (1 : Int32)))]))
      refine GoW.st (fun _ k' => XS.iconst X431.here hx rfl (hb hby at_241) k') ?_
      show GoW p e below s _ _ _ _ _ (T431.setTop (mkF m 242 #[.val (.int sa), .val (.long va), .second, .val (.int sb), .val (.long vb), .second, .val (.int ia), .val (.int ib), .val (.long wa), .second, .val (.long wb), .second, .val (.ref b3), .val (.ref b268), .val (.ref b370), .val (.int 0), .val (.int 0), .val (.int 1), .val (.int 1), .val (.int 0), .val (.int 2), .val (.long ((0 : Int64) + (0 : Int64))), .second, .val (.long (wa + wb)), .second] [(.int 2), (.int (((0 : Int32) + (1 : Int32)) + (1 : Int32)))]))
      refine GoW.st (fun _ k' => XS.icmpNo X431.here hx rfl (hb hby at_242) rfl (XT.ii_ne_f (by simp [own_one])) k') ?_
      show GoW p e below s _ _ _ _ _ (T431.setTop (mkF m 245 #[.val (.int sa), .val (.long va), .second, .val (.int sb), .val (.long vb), .second, .val (.int ia), .val (.int ib), .val (.long wa), .second, .val (.long wb), .second, .val (.ref b3), .val (.ref b268), .val (.ref b370), .val (.int 0), .val (.int 0), .val (.int 1), .val (.int 1), .val (.int 0), .val (.int 2), .val (.long ((0 : Int64) + (0 : Int64))), .second, .val (.long (wa + wb)), .second] []))
      refine GoW.st (fun _ k' => XS.aload X431.here hx rfl (hb hby at_245) rfl rfl k') ?_
      show GoW p e below s _ _ _ _ _ (T431.setTop (mkF m 247 #[.val (.int sa), .val (.long va), .second, .val (.int sb), .val (.long vb), .second, .val (.int ia), .val (.int ib), .val (.long wa), .second, .val (.long wb), .second, .val (.ref b3), .val (.ref b268), .val (.ref b370), .val (.int 0), .val (.int 0), .val (.int 1), .val (.int 1), .val (.int 0), .val (.int 2), .val (.long ((0 : Int64) + (0 : Int64))), .second, .val (.long (wa + wb)), .second] [(.ref b370)]))
      obtain ⟨cq432, kq432, q432a, q432b, q432c⟩ := isOf hZ359 eq431 f430
      obtain ⟨_, _, ⟨T432, L432, k432, n432⟩, -, X432, ⟨Lc432, hQ432, l432, y432, z432⟩, st432⟩ := X431.virtualBack hx (y := mn2) (z := mn2) hown359 (mvT hZ359 (wdx hw 98 rfl)) (mvT hZ359 (wdx hw 99 rfl)) (notFace_of_selects (args := #[]) (mvT hZ359 (wdx hw 101 rfl))) (mvT hZ359 (wdx hw 101 rfl)) (mvT hZ359 (wdx hw 100 rfl)) (by decide) (backOf (W := 0) (rm15 l Z a0 hw [] b370 (0 : Int32) T412.heap n0 O412 f414) hZ359 (wdx hw 102 rfl) (wdx hw 54 rfl) (by decide) (by decide)) q432a q432c (g := (mkF m 247 #[.val (.int sa), .val (.long va), .second, .val (.int sb), .val (.long vb), .second, .val (.int ia), .val (.int ib), .val (.long wa), .second, .val (.long wb), .second, .val (.ref b3), .val (.ref b268), .val (.ref b370), .val (.int 0), .val (.int 0), .val (.int 1), .val (.int 1), .val (.int 0), .val (.int 2), .val (.long ((0 : Int64) + (0 : Int64))), .second, .val (.long (wa + wb)), .second] [(.ref b370)])) rfl (by rw [hml]; rfl) (Steps.refl _) (argsL := []) (rest := []) (lenOf pd___I rfl) rfl (by show 2 * 0 + _ ≤ _; exact Nat.le_of_eq rfl) (hb hby at_247) (fun _ _ => ⟨rfl, eq431, (by exact lee rfl), (by exact lee rfl)⟩)
      dsimp only [Pt.U, Pt.locs, Pt.cells, Pt.slots] at X432 l432 y432 z432 st432 hQ432
      subst l432 y432 z432
      obtain ⟨rfl, Nq432, eq432⟩ := hQ432
      have N432 := Fr.app N431 Nq432
      refine GoW.tr st432 ?_
      show GoW p e below s _ _ _ _ _ (T432.setTop (mkF m 250 #[.val (.int sa), .val (.long va), .second, .val (.int sb), .val (.long vb), .second, .val (.int ia), .val (.int ib), .val (.long wa), .second, .val (.long wb), .second, .val (.ref b3), .val (.ref b268), .val (.ref b370), .val (.int 0), .val (.int 0), .val (.int 1), .val (.int 1), .val (.int 0), .val (.int 2), .val (.long ((0 : Int64) + (0 : Int64))), .second, .val (.long (wa + wb)), .second] [(.int 0)]))
      refine GoW.st (fun _ k' => XS.iload X432.here hx rfl (hb hby at_250) rfl k') ?_
      show GoW p e below s _ _ _ _ _ (T432.setTop (mkF m 252 #[.val (.int sa), .val (.long va), .second, .val (.int sb), .val (.long vb), .second, .val (.int ia), .val (.int ib), .val (.long wa), .second, .val (.long wb), .second, .val (.ref b3), .val (.ref b268), .val (.ref b370), .val (.int 0), .val (.int 0), .val (.int 1), .val (.int 1), .val (.int 0), .val (.int 2), .val (.long ((0 : Int64) + (0 : Int64))), .second, .val (.long (wa + wb)), .second] [(.int 0), (.int 0)]))
      refine GoW.st (fun _ k' => XS.icmpNo X432.here hx rfl (hb hby at_252) rfl (XT.ii_ne_f (by simp [own_one])) k') ?_
      show GoW p e below s _ _ _ _ _ (T432.setTop (mkF m 255 #[.val (.int sa), .val (.long va), .second, .val (.int sb), .val (.long vb), .second, .val (.int ia), .val (.int ib), .val (.long wa), .second, .val (.long wb), .second, .val (.ref b3), .val (.ref b268), .val (.ref b370), .val (.int 0), .val (.int 0), .val (.int 1), .val (.int 1), .val (.int 0), .val (.int 2), .val (.long ((0 : Int64) + (0 : Int64))), .second, .val (.long (wa + wb)), .second] []))
      refine GoW.st (fun _ k' => XS.aload X432.here hx rfl (hb hby at_255) rfl rfl k') ?_
      show GoW p e below s _ _ _ _ _ (T432.setTop (mkF m 257 #[.val (.int sa), .val (.long va), .second, .val (.int sb), .val (.long vb), .second, .val (.int ia), .val (.int ib), .val (.long wa), .second, .val (.long wb), .second, .val (.ref b3), .val (.ref b268), .val (.ref b370), .val (.int 0), .val (.int 0), .val (.int 1), .val (.int 1), .val (.int 0), .val (.int 2), .val (.long ((0 : Int64) + (0 : Int64))), .second, .val (.long (wa + wb)), .second] [(.ref b370)]))
      obtain ⟨cq433, kq433, q433a, q433b, q433c⟩ := isOf hZ359 eq432 f430
      obtain ⟨_, _, ⟨T433, L433, k433, n433⟩, -, X433, ⟨Lc433, hQ433, l433, y433, z433⟩, st433⟩ := X432.virtualBack hx (y := mn3) (z := mn3) hown359 (mvT hZ359 (wdx hw 103 rfl)) (mvT hZ359 (wdx hw 104 rfl)) (notFace_of_selects (args := #[]) (mvT hZ359 (wdx hw 106 rfl))) (mvT hZ359 (wdx hw 106 rfl)) (mvT hZ359 (wdx hw 105 rfl)) (by decide) (backOf (W := 0) (rm16 l Z a0 hw [] b370 (((0 : Int32) + (1 : Int32)) + (1 : Int32)) T412.heap n0 O412 f415) hZ359 (wdx hw 107 rfl) (wdx hw 54 rfl) (by decide) (by decide)) q433a q433c (g := (mkF m 257 #[.val (.int sa), .val (.long va), .second, .val (.int sb), .val (.long vb), .second, .val (.int ia), .val (.int ib), .val (.long wa), .second, .val (.long wb), .second, .val (.ref b3), .val (.ref b268), .val (.ref b370), .val (.int 0), .val (.int 0), .val (.int 1), .val (.int 1), .val (.int 0), .val (.int 2), .val (.long ((0 : Int64) + (0 : Int64))), .second, .val (.long (wa + wb)), .second] [(.ref b370)])) rfl (by rw [hml]; rfl) (Steps.refl _) (argsL := []) (rest := []) (lenOf pd___I rfl) rfl (by show 2 * 0 + _ ≤ _; exact Nat.le_of_eq rfl) (hb hby at_257) (fun _ _ => ⟨rfl, eq432, (by exact lee rfl), (by exact lee rfl)⟩)
      dsimp only [Pt.U, Pt.locs, Pt.cells, Pt.slots] at X433 l433 y433 z433 st433 hQ433
      subst l433 y433 z433
      obtain ⟨rfl, Nq433, eq433⟩ := hQ433
      have N433 := Fr.app N432 Nq433
      refine GoW.tr st433 ?_
      show GoW p e below s _ _ _ _ _ (T433.setTop (mkF m 260 #[.val (.int sa), .val (.long va), .second, .val (.int sb), .val (.long vb), .second, .val (.int ia), .val (.int ib), .val (.long wa), .second, .val (.long wb), .second, .val (.ref b3), .val (.ref b268), .val (.ref b370), .val (.int 0), .val (.int 0), .val (.int 1), .val (.int 1), .val (.int 0), .val (.int 2), .val (.long ((0 : Int64) + (0 : Int64))), .second, .val (.long (wa + wb)), .second] [(.int (((0 : Int32) + (1 : Int32)) + (1 : Int32)))]))
      refine GoW.st (fun _ k' => XS.iload X433.here hx rfl (hb hby at_260) rfl k') ?_
      show GoW p e below s _ _ _ _ _ (T433.setTop (mkF m 262 #[.val (.int sa), .val (.long va), .second, .val (.int sb), .val (.long vb), .second, .val (.int ia), .val (.int ib), .val (.long wa), .second, .val (.long wb), .second, .val (.ref b3), .val (.ref b268), .val (.ref b370), .val (.int 0), .val (.int 0), .val (.int 1), .val (.int 1), .val (.int 0), .val (.int 2), .val (.long ((0 : Int64) + (0 : Int64))), .second, .val (.long (wa + wb)), .second] [(.int 2), (.int (((0 : Int32) + (1 : Int32)) + (1 : Int32)))]))
      refine GoW.st (fun _ k' => XS.icmpNo X433.here hx rfl (hb hby at_262) rfl (XT.ii_ne_f (by simp [own_one])) k') ?_
      show GoW p e below s _ _ _ _ _ (T433.setTop (mkF m 265 #[.val (.int sa), .val (.long va), .second, .val (.int sb), .val (.long vb), .second, .val (.int ia), .val (.int ib), .val (.long wa), .second, .val (.long wb), .second, .val (.ref b3), .val (.ref b268), .val (.ref b370), .val (.int 0), .val (.int 0), .val (.int 1), .val (.int 1), .val (.int 0), .val (.int 2), .val (.long ((0 : Int64) + (0 : Int64))), .second, .val (.long (wa + wb)), .second] []))
      refine GoW.st (fun _ k' => XS.aload X433.here hx rfl (hb hby at_265) rfl rfl k') ?_
      show GoW p e below s _ _ _ _ _ (T433.setTop (mkF m 267 #[.val (.int sa), .val (.long va), .second, .val (.int sb), .val (.long vb), .second, .val (.int ia), .val (.int ib), .val (.long wa), .second, .val (.long wb), .second, .val (.ref b3), .val (.ref b268), .val (.ref b370), .val (.int 0), .val (.int 0), .val (.int 1), .val (.int 1), .val (.int 0), .val (.int 2), .val (.long ((0 : Int64) + (0 : Int64))), .second, .val (.long (wa + wb)), .second] [(.ref b370)]))
      obtain ⟨cq434, kq434, q434a, q434b, q434c⟩ := isOf hZ359 eq433 f430
      obtain ⟨_, _, ⟨T434, L434, k434, n434⟩, -, X434, ⟨Lc434, hQ434, l434, y434, z434⟩, st434⟩ := X433.virtualBack hx (y := mn4) (z := mn4) hown359 (mvT hZ359 (wdx hw 110 rfl)) (mvT hZ359 (wdx hw 111 rfl)) (notFace_of_selects (args := #[]) (mvT hZ359 (wdx hw 113 rfl))) (mvT hZ359 (wdx hw 113 rfl)) (mvT hZ359 (wdx hw 112 rfl)) (by decide) (backOf (W := 0) (rm17 l Z a0 hw [] b370 (((0 : Int64) + (((1 : Int32).toInt64) * wa)) + (((1 : Int32).toInt64) * wb)) T412.heap n0 O412 f416) hZ359 (wdx hw 114 rfl) (wdx hw 54 rfl) (by decide) (by decide)) q434a q434c (g := (mkF m 267 #[.val (.int sa), .val (.long va), .second, .val (.int sb), .val (.long vb), .second, .val (.int ia), .val (.int ib), .val (.long wa), .second, .val (.long wb), .second, .val (.ref b3), .val (.ref b268), .val (.ref b370), .val (.int 0), .val (.int 0), .val (.int 1), .val (.int 1), .val (.int 0), .val (.int 2), .val (.long ((0 : Int64) + (0 : Int64))), .second, .val (.long (wa + wb)), .second] [(.ref b370)])) rfl (by rw [hml]; rfl) (Steps.refl _) (argsL := []) (rest := []) (lenOf pd___J rfl) rfl (by show 2 * 0 + _ ≤ _; exact Nat.le_of_eq rfl) (hb hby at_267) (fun _ _ => ⟨rfl, eq433, (by exact lee rfl), (by exact lee rfl)⟩)
      dsimp only [Pt.U, Pt.locs, Pt.cells, Pt.slots] at X434 l434 y434 z434 st434 hQ434
      subst l434 y434 z434
      obtain ⟨rfl, Nq434, eq434⟩ := hQ434
      have N434 := Fr.app N433 Nq434
      refine GoW.tr st434 ?_
      show GoW p e below s _ _ _ _ _ (T434.setTop (mkF m 270 #[.val (.int sa), .val (.long va), .second, .val (.int sb), .val (.long vb), .second, .val (.int ia), .val (.int ib), .val (.long wa), .second, .val (.long wb), .second, .val (.ref b3), .val (.ref b268), .val (.ref b370), .val (.int 0), .val (.int 0), .val (.int 1), .val (.int 1), .val (.int 0), .val (.int 2), .val (.long ((0 : Int64) + (0 : Int64))), .second, .val (.long (wa + wb)), .second] [(.long (((0 : Int64) + (((1 : Int32).toInt64) * wa)) + (((1 : Int32).toInt64) * wb)))]))
      refine GoW.st (fun _ k' => XS.lload X434.here hx rfl (hb hby at_270) rfl k') ?_
      refine GoW.st (fun _ k' => XS.lload X434.here hx rfl (hb hby at_272) rfl k') ?_
      refine GoW.st (fun _ k' => XS.ladd X434.here hx rfl (hb hby at_274) rfl k') ?_
      show GoW p e below s _ _ _ _ _ (T434.setTop (mkF m 275 #[.val (.int sa), .val (.long va), .second, .val (.int sb), .val (.long vb), .second, .val (.int ia), .val (.int ib), .val (.long wa), .second, .val (.long wb), .second, .val (.ref b3), .val (.ref b268), .val (.ref b370), .val (.int 0), .val (.int 0), .val (.int 1), .val (.int 1), .val (.int 0), .val (.int 2), .val (.long ((0 : Int64) + (0 : Int64))), .second, .val (.long (wa + wb)), .second] [(.long (wa + wb)), (.long (((0 : Int64) + (((1 : Int32).toInt64) * wa)) + (((1 : Int32).toInt64) * wb)))]))
      refine GoW.st (fun _ k' => XT.lcmp X434.here hx rfl (hb hby at_275) rfl k') ?_
      show GoW p e below s _ _ _ _ _ (T434.setTop (mkF m 276 #[.val (.int sa), .val (.long va), .second, .val (.int sb), .val (.long vb), .second, .val (.int ia), .val (.int ib), .val (.long wa), .second, .val (.long wb), .second, .val (.ref b3), .val (.ref b268), .val (.ref b370), .val (.int 0), .val (.int 0), .val (.int 1), .val (.int 1), .val (.int 0), .val (.int 2), .val (.long ((0 : Int64) + (0 : Int64))), .second, .val (.long (wa + wb)), .second] [(.int (XT.cmpL (((0 : Int64) + (((1 : Int32).toInt64) * wa)) + (((1 : Int32).toInt64) * wb)) (wa + wb)))]))
      refine GoW.st (fun _ k' => XS.ifNo X434.here hx rfl (hb hby at_276) rfl (XT.ll_ne_f (by simp [own_one])) k') ?_
      show GoW p e below s _ _ _ _ _ (T434.setTop (mkF m 279 #[.val (.int sa), .val (.long va), .second, .val (.int sb), .val (.long vb), .second, .val (.int ia), .val (.int ib), .val (.long wa), .second, .val (.long wb), .second, .val (.ref b3), .val (.ref b268), .val (.ref b370), .val (.int 0), .val (.int 0), .val (.int 1), .val (.int 1), .val (.int 0), .val (.int 2), .val (.long ((0 : Int64) + (0 : Int64))), .second, .val (.long (wa + wb)), .second] []))
      refine GoW.st (fun _ k' => XS.aload X434.here hx rfl (hb hby at_279) rfl rfl k') ?_
      show GoW p e below s _ _ _ _ _ (T434.setTop (mkF m 281 #[.val (.int sa), .val (.long va), .second, .val (.int sb), .val (.long vb), .second, .val (.int ia), .val (.int ib), .val (.long wa), .second, .val (.long wb), .second, .val (.ref b3), .val (.ref b268), .val (.ref b370), .val (.int 0), .val (.int 0), .val (.int 1), .val (.int 1), .val (.int 0), .val (.int 2), .val (.long ((0 : Int64) + (0 : Int64))), .second, .val (.long (wa + wb)), .second] [(.ref b370)]))
      obtain ⟨cq435, kq435, q435a, q435b, q435c⟩ := isOf hZ359 eq434 f430
      obtain ⟨_, _, ⟨T435, L435, k435, n435⟩, -, X435, ⟨Lc435, hQ435, l435, y435, z435⟩, st435⟩ := X434.virtualBack hx (y := mn5) (z := mn5) hown359 (mvT hZ359 (wdx hw 115 rfl)) (mvT hZ359 (wdx hw 116 rfl)) (notFace_of_selects (args := #[]) (mvT hZ359 (wdx hw 118 rfl))) (mvT hZ359 (wdx hw 118 rfl)) (mvT hZ359 (wdx hw 117 rfl)) (by decide) (backOf (W := 0) (rm18 l Z a0 hw [] b370 (0 : Int64) T412.heap n0 O412 f417) hZ359 (wdx hw 119 rfl) (wdx hw 54 rfl) (by decide) (by decide)) q435a q435c (g := (mkF m 281 #[.val (.int sa), .val (.long va), .second, .val (.int sb), .val (.long vb), .second, .val (.int ia), .val (.int ib), .val (.long wa), .second, .val (.long wb), .second, .val (.ref b3), .val (.ref b268), .val (.ref b370), .val (.int 0), .val (.int 0), .val (.int 1), .val (.int 1), .val (.int 0), .val (.int 2), .val (.long ((0 : Int64) + (0 : Int64))), .second, .val (.long (wa + wb)), .second] [(.ref b370)])) rfl (by rw [hml]; rfl) (Steps.refl _) (argsL := []) (rest := []) (lenOf pd___J rfl) rfl (by show 2 * 0 + _ ≤ _; exact Nat.le_of_eq rfl) (hb hby at_281) (fun _ _ => ⟨rfl, eq434, (by exact lee rfl), (by exact lee rfl)⟩)
      dsimp only [Pt.U, Pt.locs, Pt.cells, Pt.slots] at X435 l435 y435 z435 st435 hQ435
      subst l435 y435 z435
      obtain ⟨rfl, Nq435, eq435⟩ := hQ435
      have N435 := Fr.app N434 Nq435
      refine GoW.tr st435 ?_
      show GoW p e below s _ _ _ _ _ (T435.setTop (mkF m 284 #[.val (.int sa), .val (.long va), .second, .val (.int sb), .val (.long vb), .second, .val (.int ia), .val (.int ib), .val (.long wa), .second, .val (.long wb), .second, .val (.ref b3), .val (.ref b268), .val (.ref b370), .val (.int 0), .val (.int 0), .val (.int 1), .val (.int 1), .val (.int 0), .val (.int 2), .val (.long ((0 : Int64) + (0 : Int64))), .second, .val (.long (wa + wb)), .second] [(.long 0)]))
      refine GoW.st (fun _ k' => XS.lload X435.here hx rfl (hb hby at_284) rfl k') ?_
      show GoW p e below s _ _ _ _ _ (T435.setTop (mkF m 286 #[.val (.int sa), .val (.long va), .second, .val (.int sb), .val (.long vb), .second, .val (.int ia), .val (.int ib), .val (.long wa), .second, .val (.long wb), .second, .val (.ref b3), .val (.ref b268), .val (.ref b370), .val (.int 0), .val (.int 0), .val (.int 1), .val (.int 1), .val (.int 0), .val (.int 2), .val (.long ((0 : Int64) + (0 : Int64))), .second, .val (.long (wa + wb)), .second] [(.long ((0 : Int64) + (0 : Int64))), (.long 0)]))
      refine GoW.st (fun _ k' => XT.lcmp X435.here hx rfl (hb hby at_286) rfl k') ?_
      show GoW p e below s _ _ _ _ _ (T435.setTop (mkF m 287 #[.val (.int sa), .val (.long va), .second, .val (.int sb), .val (.long vb), .second, .val (.int ia), .val (.int ib), .val (.long wa), .second, .val (.long wb), .second, .val (.ref b3), .val (.ref b268), .val (.ref b370), .val (.int 0), .val (.int 0), .val (.int 1), .val (.int 1), .val (.int 0), .val (.int 2), .val (.long ((0 : Int64) + (0 : Int64))), .second, .val (.long (wa + wb)), .second] [(.int (XT.cmpL (0 : Int64) ((0 : Int64) + (0 : Int64))))]))
      refine GoW.st (fun _ k' => XS.ifNo X435.here hx rfl (hb hby at_287) rfl (XT.ll_ne_f (by simp [own_one])) k') ?_
      show GoW p e below s _ _ _ _ _ (T435.setTop (mkF m 290 #[.val (.int sa), .val (.long va), .second, .val (.int sb), .val (.long vb), .second, .val (.int ia), .val (.int ib), .val (.long wa), .second, .val (.long wb), .second, .val (.ref b3), .val (.ref b268), .val (.ref b370), .val (.int 0), .val (.int 0), .val (.int 1), .val (.int 1), .val (.int 0), .val (.int 2), .val (.long ((0 : Int64) + (0 : Int64))), .second, .val (.long (wa + wb)), .second] []))
      refine GoW.st (fun _ k' => XS.aload X435.here hx rfl (hb hby at_290) rfl rfl k') ?_
      show GoW p e below s _ _ _ _ _ (T435.setTop (mkF m 292 #[.val (.int sa), .val (.long va), .second, .val (.int sb), .val (.long vb), .second, .val (.int ia), .val (.int ib), .val (.long wa), .second, .val (.long wb), .second, .val (.ref b3), .val (.ref b268), .val (.ref b370), .val (.int 0), .val (.int 0), .val (.int 1), .val (.int 1), .val (.int 0), .val (.int 2), .val (.long ((0 : Int64) + (0 : Int64))), .second, .val (.long (wa + wb)), .second] [(.ref b370)]))
      obtain ⟨cq436, kq436, q436a, q436b, q436c⟩ := isOf hZ359 eq435 f430
      obtain ⟨_, _, ⟨T436, L436, k436, n436⟩, -, X436, ⟨Lc436, hQ436, l436, y436, z436⟩, st436⟩ := X435.virtualBack hx (y := mn6) (z := mn6) hown359 (mvT hZ359 (wdx hw 120 rfl)) (mvT hZ359 (wdx hw 121 rfl)) (notFace_of_selects (args := #[]) (mvT hZ359 (wdx hw 123 rfl))) (mvT hZ359 (wdx hw 123 rfl)) (mvT hZ359 (wdx hw 122 rfl)) (by decide) (backOf (W := 0) (rm19 l Z a0 hw [] b370 (((0 : Int64) + (((1 : Int32).toInt64) * wa)) + (((1 : Int32).toInt64) * wb)) T412.heap n0 O412 f418) hZ359 (wdx hw 124 rfl) (wdx hw 54 rfl) (by decide) (by decide)) q436a q436c (g := (mkF m 292 #[.val (.int sa), .val (.long va), .second, .val (.int sb), .val (.long vb), .second, .val (.int ia), .val (.int ib), .val (.long wa), .second, .val (.long wb), .second, .val (.ref b3), .val (.ref b268), .val (.ref b370), .val (.int 0), .val (.int 0), .val (.int 1), .val (.int 1), .val (.int 0), .val (.int 2), .val (.long ((0 : Int64) + (0 : Int64))), .second, .val (.long (wa + wb)), .second] [(.ref b370)])) rfl (by rw [hml]; rfl) (Steps.refl _) (argsL := []) (rest := []) (lenOf pd___J rfl) rfl (by show 2 * 0 + _ ≤ _; exact Nat.le_of_eq rfl) (hb hby at_292) (fun _ _ => ⟨rfl, eq435, (by exact lee rfl), (by exact lee rfl)⟩)
      dsimp only [Pt.U, Pt.locs, Pt.cells, Pt.slots] at X436 l436 y436 z436 st436 hQ436
      subst l436 y436 z436
      obtain ⟨rfl, Nq436, eq436⟩ := hQ436
      have N436 := Fr.app N435 Nq436
      refine GoW.tr st436 ?_
      show GoW p e below s _ _ _ _ _ (T436.setTop (mkF m 295 #[.val (.int sa), .val (.long va), .second, .val (.int sb), .val (.long vb), .second, .val (.int ia), .val (.int ib), .val (.long wa), .second, .val (.long wb), .second, .val (.ref b3), .val (.ref b268), .val (.ref b370), .val (.int 0), .val (.int 0), .val (.int 1), .val (.int 1), .val (.int 0), .val (.int 2), .val (.long ((0 : Int64) + (0 : Int64))), .second, .val (.long (wa + wb)), .second] [(.long (((0 : Int64) + (((1 : Int32).toInt64) * wa)) + (((1 : Int32).toInt64) * wb)))]))
      refine GoW.st (fun _ k' => XS.lload X436.here hx rfl (hb hby at_295) rfl k') ?_
      show GoW p e below s _ _ _ _ _ (T436.setTop (mkF m 297 #[.val (.int sa), .val (.long va), .second, .val (.int sb), .val (.long vb), .second, .val (.int ia), .val (.int ib), .val (.long wa), .second, .val (.long wb), .second, .val (.ref b3), .val (.ref b268), .val (.ref b370), .val (.int 0), .val (.int 0), .val (.int 1), .val (.int 1), .val (.int 0), .val (.int 2), .val (.long ((0 : Int64) + (0 : Int64))), .second, .val (.long (wa + wb)), .second] [(.long (wa + wb)), (.long (((0 : Int64) + (((1 : Int32).toInt64) * wa)) + (((1 : Int32).toInt64) * wb)))]))
      refine GoW.st (fun _ k' => XT.lcmp X436.here hx rfl (hb hby at_297) rfl k') ?_
      show GoW p e below s _ _ _ _ _ (T436.setTop (mkF m 298 #[.val (.int sa), .val (.long va), .second, .val (.int sb), .val (.long vb), .second, .val (.int ia), .val (.int ib), .val (.long wa), .second, .val (.long wb), .second, .val (.ref b3), .val (.ref b268), .val (.ref b370), .val (.int 0), .val (.int 0), .val (.int 1), .val (.int 1), .val (.int 0), .val (.int 2), .val (.long ((0 : Int64) + (0 : Int64))), .second, .val (.long (wa + wb)), .second] [(.int (XT.cmpL (((0 : Int64) + (((1 : Int32).toInt64) * wa)) + (((1 : Int32).toInt64) * wb)) (wa + wb)))]))
      refine GoW.st (fun _ k' => XS.ifNo X436.here hx rfl (hb hby at_298) rfl (XT.ll_ne_f (by simp [own_one])) k') ?_
      show GoW p e below s _ _ _ _ _ (T436.setTop (mkF m 301 #[.val (.int sa), .val (.long va), .second, .val (.int sb), .val (.long vb), .second, .val (.int ia), .val (.int ib), .val (.long wa), .second, .val (.long wb), .second, .val (.ref b3), .val (.ref b268), .val (.ref b370), .val (.int 0), .val (.int 0), .val (.int 1), .val (.int 1), .val (.int 0), .val (.int 2), .val (.long ((0 : Int64) + (0 : Int64))), .second, .val (.long (wa + wb)), .second] []))
      refine GoW.st (fun _ k' => XS.iconst X436.here hx rfl (hb hby at_301) k') ?_
      show GoW p e below s _ _ _ _ _ (T436.setTop (mkF m 302 #[.val (.int sa), .val (.long va), .second, .val (.int sb), .val (.long vb), .second, .val (.int ia), .val (.int ib), .val (.long wa), .second, .val (.long wb), .second, .val (.ref b3), .val (.ref b268), .val (.ref b370), .val (.int 0), .val (.int 0), .val (.int 1), .val (.int 1), .val (.int 0), .val (.int 2), .val (.long ((0 : Int64) + (0 : Int64))), .second, .val (.long (wa + wb)), .second] [(.int 1)]))
      refine GoW.st (fun _ k' => XS.goto X436.here hx rfl (pc0 := 302) (pc' := 306) rfl (hb hby at_302) (by decide) (by decide) k') ?_
      show GoW p e below s _ _ _ _ _ (T436.setTop (mkF m 306 #[.val (.int sa), .val (.long va), .second, .val (.int sb), .val (.long vb), .second, .val (.int ia), .val (.int ib), .val (.long wa), .second, .val (.long wb), .second, .val (.ref b3), .val (.ref b268), .val (.ref b370), .val (.int 0), .val (.int 0), .val (.int 1), .val (.int 1), .val (.int 0), .val (.int 2), .val (.long ((0 : Int64) + (0 : Int64))), .second, .val (.long (wa + wb)), .second] [(.int 1)]))
      refine GoW.retB X436 hx hlk hS359 (by rw [eq436]; exact hk412) hZ359 hEL CH412 (t := .boolean) Bd.returns (by simp) (hb hby at_306) (by decide) (by decide) eq436 ?_
      exact ⟨rfl, N436, trivial⟩
    · show GoW p e below s _ _ _ _ _ (T280.setTop (mkF m 58 #[.val (.int sa), .val (.long va), .second, .val (.int sb), .val (.long vb), .second, .val (.int ia), .val (.int ib), .val (.long wa), .second, .val (.long wb), .second, .val (.ref b3), .unset, .unset, .unset, .unset, .unset, .unset, .unset, .unset, .unset, .unset, .unset, .unset] [(.ref hsb), .null, (.ref b268), (.ref b268)]))
      refine GoW.st (fun _ k' => XS.lload X280.here hx rfl (hb hby at_58) rfl k') ?_
      show GoW p e below s _ _ _ _ _ (T280.setTop (mkF m 60 #[.val (.int sa), .val (.long va), .second, .val (.int sb), .val (.long vb), .second, .val (.int ia), .val (.int ib), .val (.long wa), .second, .val (.long wb), .second, .val (.ref b3), .unset, .unset, .unset, .unset, .unset, .unset, .unset, .unset, .unset, .unset, .unset, .unset] [(.long wb), (.ref hsb), .null, (.ref b268), (.ref b268)]))
      obtain ⟨_, _, ⟨T437, L437, k437, n437⟩, -, Xr437, hSr437, hgr437, ⟨Lc437, hQ437, l437, y437, z437, C437⟩, st437⟩ := X280.specialBackS hx (y := mn7) rfl hown262 (mvT hZ262 (wdx hw 19 rfl)) (mvT hZ262 (wdx hw 20 rfl)) (mvT hZ262 (wdx hw 21 rfl)) (by decide) (own_back (W := 1) (rm4 l Z a0 hw [] b268 hsb wb h268 n0 O268 A268 f277 f278 f279 E_hsb g_b268 qwb rwb) hZ262 (wdx hw 21 rfl) (wdx hw 12 rfl) (by decide) (by decide) hEL CH268.1 (allS ⟨A268.lt, f276⟩ all0)) (g := (mkF m 60 #[.val (.int sa), .val (.long va), .second, .val (.int sb), .val (.long vb), .second, .val (.int ia), .val (.int ib), .val (.long wa), .second, .val (.long wb), .second, .val (.ref b3), .unset, .unset, .unset, .unset, .unset, .unset, .unset, .unset, .unset, .unset, .unset, .unset] [(.long wb), (.ref hsb), .null, (.ref b268), (.ref b268)])) rfl (by rw [hml]; rfl) (Steps.refl _) (a := b268) (argsL := [.null, (.ref hsb), (.long wb)]) (rest := [(.ref b268)]) (lenOf pd__Lcom_example_spillway_spillway_assignment_EndpointAddress_Lcom_example_spillway_spillway_assignment_HealthStatus_J_V rfl) rfl (by show 2 * 0 + _ ≤ _; exact Nat.le_of_eq rfl) (hb hby at_60) (fun _ _ => ⟨rfl, eq280, (by exact lee rfl), (by exact lee rfl)⟩)
      dsimp only [Pt.U, Pt.locs, Pt.cells, Pt.slots] at Xr437 hSr437 hgr437 l437 y437 z437 C437 st437 hQ437
      subst l437 y437 z437
      obtain ⟨X437, hS437, hZ437, hown437⟩ := rebS hS262 (by rw [eq280]; exact hk268) Xr437 hSr437 hgr437 hZ262 hown262
      obtain ⟨rfl, Nq437, Kq437, f438, f439⟩ := hQ437
      have N437 := Fr.app N280 Nq437
      refine GoW.tr st437 ?_
      have f440 : Safe Z EL T437.vm T437.heap b3 := C437.safe f272.lt f271
      have f441 : Exa Z T437.heap b3 "com/example/spillway/spillway/assignment/Endpoint" := f272.keep Kq437
      have f442 : Exa Z T437.heap hsa "com/example/spillway/spillway/assignment/HealthStatus" := f273.keep Kq437
      have f443 : Fld Z T437.heap b3 "com/example/spillway/spillway/assignment/Endpoint" "health" "Lcom/example/spillway/spillway/assignment/HealthStatus;" (.ref hsa) := f274.keep Kq437 (ninS ne269 nin0)
      have f444 : Fld Z T437.heap b3 "com/example/spillway/spillway/assignment/Endpoint" "loadBalancingWeight" "J" (.long wa) := f275.keep Kq437 (ninS ne269 nin0)
      have f445 : Safe Z EL T437.vm T437.heap b268 := C437.safe A268.lt f276
      have f446 : Exa Z T437.heap b268 "com/example/spillway/spillway/assignment/Endpoint" := A268.keep Kq437
      have f447 : Exa Z T437.heap hsb "com/example/spillway/spillway/assignment/HealthStatus" := E_hsb.keep Kq437
      have CH437 : CHr Z EL s.vm s.heap T437.vm T437.heap := CH268.trans C437
      have O437 : Old Z n0 T437.heap := O268.keep Kq437 (allS g_b268 all0)
      show GoW p e below s _ _ _ _ _ (T437.setTop (mkF m 63 #[.val (.int sa), .val (.long va), .second, .val (.int sb), .val (.long vb), .second, .val (.int ia), .val (.int ib), .val (.long wa), .second, .val (.long wb), .second, .val (.ref b3), .unset, .unset, .unset, .unset, .unset, .unset, .unset, .unset, .unset, .unset, .unset, .unset] [(.ref b268)]))
      refine GoW.st (fun _ k' => XS.astore X437.here hx rfl (hb hby at_63) rfl rfl (l' := #[.val (.int sa), .val (.long va), .second, .val (.int sb), .val (.long vb), .second, .val (.int ia), .val (.int ib), .val (.long wa), .second, .val (.long wb), .second, .val (.ref b3), .val (.ref b268), .unset, .unset, .unset, .unset, .unset, .unset, .unset, .unset, .unset, .unset, .unset]) rfl k') ?_
      show GoW p e below s _ _ _ _ _ (T437.setTop (mkF m 65 #[.val (.int sa), .val (.long va), .second, .val (.int sb), .val (.long vb), .second, .val (.int ia), .val (.int ib), .val (.long wa), .second, .val (.long wb), .second, .val (.ref b3), .val (.ref b268), .unset, .unset, .unset, .unset, .unset, .unset, .unset, .unset, .unset, .unset, .unset] []))
      obtain ⟨T448, h448, X448, e448, E448, A448, D448, -, st448⟩ := newO X437 hx hZ437 hown437 (wdx hw 52 rfl) (wdx hw 53 rfl) (wdx hw 54 rfl) rfl (g := (mkF m 65 #[.val (.int sa), .val (.long va), .second, .val (.int sb), .val (.long vb), .second, .val (.int ia), .val (.int ib), .val (.long wa), .second, .val (.long wb), .second, .val (.ref b3), .val (.ref b268), .unset, .unset, .unset, .unset, .unset, .unset, .unset, .unset, .unset, .unset, .unset] [])) rfl (hb hby at_65) (by decide) (by decide)
      obtain ⟨b448, g448⟩ : ∃ z, z = T437.heap.size := ⟨_, rfl⟩
      rw [← g448] at A448 D448 st448
      refine GoW.st st448 ?_
      have g_b448 : n0 ≤ b448 := Nat.le_trans (own_le O437) (Nat.le_of_eq g448.symm)
      have sf_b448 : Safe Z EL T437.vm T437.heap b448 := Safe.new (Nat.le_of_eq g448.symm)
      have ne449 : b3 ≠ b448 := Nat.ne_of_lt (Nat.lt_of_lt_of_le f441.lt (Nat.le_of_eq g448.symm))
      have ne450 : hsa ≠ b448 := Nat.ne_of_lt (Nat.lt_of_lt_of_le f442.lt (Nat.le_of_eq g448.symm))
      have ne451 : b268 ≠ b448 := Nat.ne_of_lt (Nat.lt_of_lt_of_le f446.lt (Nat.le_of_eq g448.symm))
      have ne452 : hsb ≠ b448 := Nat.ne_of_lt (Nat.lt_of_lt_of_le f447.lt (Nat.le_of_eq g448.symm))
      have f453 : Safe Z EL T437.vm h448 b3 := Safe.ext E448 CH437.1 f440
      have f454 : Exa Z h448 b3 "com/example/spillway/spillway/assignment/Endpoint" := f441.ext E448
      have f455 : Exa Z h448 hsa "com/example/spillway/spillway/assignment/HealthStatus" := f442.ext E448
      have f456 : Fld Z h448 b3 "com/example/spillway/spillway/assignment/Endpoint" "health" "Lcom/example/spillway/spillway/assignment/HealthStatus;" (.ref hsa) := f443.ext E448
      have f457 : Fld Z h448 b3 "com/example/spillway/spillway/assignment/Endpoint" "loadBalancingWeight" "J" (.long wa) := f444.ext E448
      have f458 : Safe Z EL T437.vm h448 b268 := Safe.ext E448 CH437.1 f445
      have f459 : Exa Z h448 b268 "com/example/spillway/spillway/assignment/Endpoint" := f446.ext E448
      have f460 : Exa Z h448 hsb "com/example/spillway/spillway/assignment/HealthStatus" := f447.ext E448
      have f461 : Fld Z h448 b268 "com/example/spillway/spillway/assignment/Endpoint" "health" "Lcom/example/spillway/spillway/assignment/HealthStatus;" (.ref hsb) := f438.ext E448
      have f462 : Fld Z h448 b268 "com/example/spillway/spillway/assignment/Endpoint" "loadBalancingWeight" "J" (.long wb) := f439.ext E448
      have f463 : Safe Z EL T437.vm h448 b448 := Safe.ext E448 CH437.1 sf_b448
      have CH448 : CHr Z EL s.vm s.heap T437.vm h448 := CH437.trans (CHr.ext E448 CH437.1)
      have hk448 : Array.size T437.heap ≤ Array.size h448 := Nat.le_trans (Nat.le_refl _) E448.1
      have O448 : Old Z n0 h448 := O437.ext E448
      have f464 : Fld Z h448 b448 "com/example/spillway/spillway/assignment/HealthTally" "hosts" "I" (.int 0) := D448 (Or.inl (wdx hw 74 rfl)) (ty := .int) (by decide)
      have f465 : Fld Z h448 b448 "com/example/spillway/spillway/assignment/HealthTally" "hostWeight" "J" (.long 0) := D448 (Or.inl (wdx hw 76 rfl)) (ty := .long) (by decide)
      have f466 : Fld Z h448 b448 "com/example/spillway/spillway/assignment/HealthTally" "healthy" "I" (.int 0) := D448 (Or.inl (wdx hw 90 rfl)) (ty := .int) (by decide)
      have f467 : Fld Z h448 b448 "com/example/spillway/spillway/assignment/HealthTally" "healthyWeight" "J" (.long 0) := D448 (Or.inl (wdx hw 92 rfl)) (ty := .long) (by decide)
      have f468 : Fld Z h448 b448 "com/example/spillway/spillway/assignment/HealthTally" "degraded" "I" (.int 0) := D448 (Or.inl (wdx hw 109 rfl)) (ty := .int) (by decide)
      have f469 : Fld Z h448 b448 "com/example/spillway/spillway/assignment/HealthTally" "degradedWeight" "J" (.long 0) := D448 (Or.inl (wdx hw 126 rfl)) (ty := .long) (by decide)
      show GoW p e below s _ _ _ _ _ (T448.setTop (mkF m 68 #[.val (.int sa), .val (.long va), .second, .val (.int sb), .val (.long vb), .second, .val (.int ia), .val (.int ib), .val (.long wa), .second, .val (.long wb), .second, .val (.ref b3), .val (.ref b268), .unset, .unset, .unset, .unset, .unset, .unset, .unset, .unset, .unset, .unset, .unset] [(.ref b448)]))
      refine GoW.st (fun _ k' => XS.dup X448.here hx rfl (hb hby at_68) rfl rfl k') ?_
      show GoW p e below s _ _ _ _ _ (T448.setTop (mkF m 69 #[.val (.int sa), .val (.long va), .second, .val (.int sb), .val (.long vb), .second, .val (.int ia), .val (.int ib), .val (.long wa), .second, .val (.long wb), .second, .val (.ref b3), .val (.ref b268), .unset, .unset, .unset, .unset, .unset, .unset, .unset, .unset, .unset, .unset, .unset] [(.ref b448), (.ref b448)]))
      obtain ⟨_, _, ⟨T470, L470, k470, n470⟩, -, X470, ⟨Lc470, hQ470, l470, y470, z470⟩, st470⟩ := X448.specialBack hx (y := mn9) rfl hown437 (mvT hZ437 (wdx hw 55 rfl)) (mvT hZ437 (wdx hw 56 rfl)) (mvT hZ437 (wdx hw 57 rfl)) (by decide) (backOf (W := 1) (rm8 l Z a0 hw [] b448 h448 n0 O448 ) hZ437 (wdx hw 57 rfl) (wdx hw 54 rfl) (by decide) (by decide)) (g := (mkF m 69 #[.val (.int sa), .val (.long va), .second, .val (.int sb), .val (.long vb), .second, .val (.int ia), .val (.int ib), .val (.long wa), .second, .val (.long wb), .second, .val (.ref b3), .val (.ref b268), .unset, .unset, .unset, .unset, .unset, .unset, .unset, .unset, .unset, .unset, .unset] [(.ref b448), (.ref b448)])) rfl (by rw [hml]; rfl) (Steps.refl _) (a := b448) (argsL := []) (rest := [(.ref b448)]) (lenOf pd___V rfl) rfl (by show 2 * 0 + _ ≤ _; exact Nat.le_of_eq rfl) (hb hby at_69) (fun _ _ => ⟨rfl, e448, (by exact lee rfl), (by exact lee rfl)⟩)
      dsimp only [Pt.U, Pt.locs, Pt.cells, Pt.slots] at X470 l470 y470 z470 st470 hQ470
      subst l470 y470 z470
      obtain ⟨rfl, Nq470, eq470⟩ := hQ470
      have N470 := Fr.app N437 Nq470
      refine GoW.tr st470 ?_
      show GoW p e below s _ _ _ _ _ (T470.setTop (mkF m 72 #[.val (.int sa), .val (.long va), .second, .val (.int sb), .val (.long vb), .second, .val (.int ia), .val (.int ib), .val (.long wa), .second, .val (.long wb), .second, .val (.ref b3), .val (.ref b268), .unset, .unset, .unset, .unset, .unset, .unset, .unset, .unset, .unset, .unset, .unset] [(.ref b448)]))
      refine GoW.st (fun _ k' => XS.astore X470.here hx rfl (hb hby at_72) rfl rfl (l' := #[.val (.int sa), .val (.long va), .second, .val (.int sb), .val (.long vb), .second, .val (.int ia), .val (.int ib), .val (.long wa), .second, .val (.long wb), .second, .val (.ref b3), .val (.ref b268), .val (.ref b448), .unset, .unset, .unset, .unset, .unset, .unset, .unset, .unset, .unset, .unset]) rfl k') ?_
      refine GoW.st (fun _ k' => XS.aload X470.here hx rfl (hb hby at_74) rfl rfl k') ?_
      refine GoW.st (fun _ k' => XS.aload X470.here hx rfl (hb hby at_76) rfl rfl k') ?_
      show GoW p e below s _ _ _ _ _ (T470.setTop (mkF m 78 #[.val (.int sa), .val (.long va), .second, .val (.int sb), .val (.long vb), .second, .val (.int ia), .val (.int ib), .val (.long wa), .second, .val (.long wb), .second, .val (.ref b3), .val (.ref b268), .val (.ref b448), .unset, .unset, .unset, .unset, .unset, .unset, .unset, .unset, .unset, .unset] [(.ref b3), (.ref b448)]))
      obtain ⟨cq471, kq471, q471a, q471b, q471c⟩ := isOf hZ437 eq470 A448
      obtain ⟨_, _, ⟨T471, L471, k471, n471⟩, -, X471, ⟨Lc471, hQ471, l471, y471, z471⟩, st471⟩ := X470.virtualBack hx (y := mn0) (z := mn0) hown437 (mvT hZ437 (wdx hw 59 rfl)) (mvT hZ437 (wdx hw 60 rfl)) (notFace_of_selects (args := #[]) (mvT hZ437 (wdx hw 62 rfl))) (mvT hZ437 (wdx hw 62 rfl)) (mvT hZ437 (wdx hw 61 rfl)) (by decide) (backOf (W := 0) (rm9_d l Z a0 hw [] b448 b3 (0 : Int32) (0 : Int32) (0 : Int32) (0 : Int64) (0 : Int64) (0 : Int64) hsa wa a_UNKNOWN a_HEALTHY a_DEGRADED h448 n0 O448 A448 f464 f466 f468 f465 f467 f469 f454 f456 f457 f455 S_UNKNOWN S_HEALTHY S_DEGRADED g_b448 (Ne.symm ne449) khsa_2 khsa_3) hZ437 (wdx hw 63 rfl) (wdx hw 54 rfl) (by decide) (by decide)) q471a q471c (g := (mkF m 78 #[.val (.int sa), .val (.long va), .second, .val (.int sb), .val (.long vb), .second, .val (.int ia), .val (.int ib), .val (.long wa), .second, .val (.long wb), .second, .val (.ref b3), .val (.ref b268), .val (.ref b448), .unset, .unset, .unset, .unset, .unset, .unset, .unset, .unset, .unset, .unset] [(.ref b3), (.ref b448)])) rfl (by rw [hml]; rfl) (Steps.refl _) (argsL := [(.ref b3)]) (rest := []) (lenOf pd__Lcom_example_spillway_spillway_assignment_Endpoint__V rfl) rfl (by show 2 * 0 + _ ≤ _; exact Nat.le_of_eq rfl) (hb hby at_78) (fun _ _ => ⟨rfl, eq470, (by exact lee rfl), (by exact lee rfl)⟩)
      dsimp only [Pt.U, Pt.locs, Pt.cells, Pt.slots] at X471 l471 y471 z471 st471 hQ471
      subst l471 y471 z471
      obtain ⟨rfl, Nq471, Kq471, f472, f473, f474, f475, f476, f477⟩ := hQ471
      have N471 := Fr.app N470 Nq471
      refine GoW.tr st471 ?_
      have f478 : Safe Z EL T437.vm T471.heap b3 := Safe.keep Kq471 (allS f463 all0) CH448.1 f453
      have f479 : Exa Z T471.heap b3 "com/example/spillway/spillway/assignment/Endpoint" := f454.keep Kq471
      have f480 : Exa Z T471.heap hsa "com/example/spillway/spillway/assignment/HealthStatus" := f455.keep Kq471
      have f481 : Fld Z T471.heap b3 "com/example/spillway/spillway/assignment/Endpoint" "health" "Lcom/example/spillway/spillway/assignment/HealthStatus;" (.ref hsa) := f456.keep Kq471 (ninS ne449 nin0)
      have f482 : Fld Z T471.heap b3 "com/example/spillway/spillway/assignment/Endpoint" "loadBalancingWeight" "J" (.long wa) := f457.keep Kq471 (ninS ne449 nin0)
      have f483 : Safe Z EL T437.vm T471.heap b268 := Safe.keep Kq471 (allS f463 all0) CH448.1 f458
      have f484 : Exa Z T471.heap b268 "com/example/spillway/spillway/assignment/Endpoint" := f459.keep Kq471
      have f485 : Exa Z T471.heap hsb "com/example/spillway/spillway/assignment/HealthStatus" := f460.keep Kq471
      have f486 : Fld Z T471.heap b268 "com/example/spillway/spillway/assignment/Endpoint" "health" "Lcom/example/spillway/spillway/assignment/HealthStatus;" (.ref hsb) := f461.keep Kq471 (ninS ne451 nin0)
      have f487 : Fld Z T471.heap b268 "com/example/spillway/spillway/assignment/Endpoint" "loadBalancingWeight" "J" (.long wb) := f462.keep Kq471 (ninS ne451 nin0)
      have f488 : Safe Z EL T437.vm T471.heap b448 := Safe.keep Kq471 (allS f463 all0) CH448.1 f463
      have f489 : Exa Z T471.heap b448 "com/example/spillway/spillway/assignment/HealthTally" := A448.keep Kq471
      have CH471 : CHr Z EL s.vm s.heap T437.vm T471.heap := CH448.trans (CHr.keep Kq471 (allS f463 all0) CH448.1)
      have hk471 : Array.size T437.heap ≤ Array.size T471.heap := Nat.le_trans hk448 Kq471.1
      have O471 : Old Z n0 T471.heap := O448.keep Kq471 (allS g_b448 all0)
      show GoW p e below s _ _ _ _ _ (T471.setTop (mkF m 81 #[.val (.int sa), .val (.long va), .second, .val (.int sb), .val (.long vb), .second, .val (.int ia), .val (.int ib), .val (.long wa), .second, .val (.long wb), .second, .val (.ref b3), .val (.ref b268), .val (.ref b448), .unset, .unset, .unset, .unset, .unset, .unset, .unset, .unset, .unset, .unset] []))
      refine GoW.st (fun _ k' => XS.aload X471.here hx rfl (hb hby at_81) rfl rfl k') ?_
      refine GoW.st (fun _ k' => XS.aload X471.here hx rfl (hb hby at_83) rfl rfl k') ?_
      show GoW p e below s _ _ _ _ _ (T471.setTop (mkF m 85 #[.val (.int sa), .val (.long va), .second, .val (.int sb), .val (.long vb), .second, .val (.int ia), .val (.int ib), .val (.long wa), .second, .val (.long wb), .second, .val (.ref b3), .val (.ref b268), .val (.ref b448), .unset, .unset, .unset, .unset, .unset, .unset, .unset, .unset, .unset, .unset] [(.ref b268), (.ref b448)]))
      obtain ⟨cq490, kq490, q490a, q490b, q490c⟩ := isOf hZ437 rfl f489
      obtain ⟨_, _, ⟨T490, L490, k490, n490⟩, -, X490, ⟨Lc490, hQ490, l490, y490, z490⟩, st490⟩ := X471.virtualBack hx (y := mn0) (z := mn0) hown437 (mvT hZ437 (wdx hw 59 rfl)) (mvT hZ437 (wdx hw 60 rfl)) (notFace_of_selects (args := #[]) (mvT hZ437 (wdx hw 62 rfl))) (mvT hZ437 (wdx hw 62 rfl)) (mvT hZ437 (wdx hw 61 rfl)) (by decide) (backOf (W := 0) (rm9_o l Z a0 hw [] b448 b268 ((0 : Int32) + (1 : Int32)) (0 : Int32) ((0 : Int32) + (1 : Int32)) ((0 : Int64) + (((1 : Int32).toInt64) * wa)) (0 : Int64) ((0 : Int64) + (((1 : Int32).toInt64) * wa)) hsb wb a_UNKNOWN a_HEALTHY a_DEGRADED T471.heap n0 O471 f489 f472 f473 f474 f475 f476 f477 f484 f486 f487 f485 S_UNKNOWN S_HEALTHY S_DEGRADED g_b448 (Ne.symm ne451) khsb_2 khsb_3) hZ437 (wdx hw 63 rfl) (wdx hw 54 rfl) (by decide) (by decide)) q490a q490c (g := (mkF m 85 #[.val (.int sa), .val (.long va), .second, .val (.int sb), .val (.long vb), .second, .val (.int ia), .val (.int ib), .val (.long wa), .second, .val (.long wb), .second, .val (.ref b3), .val (.ref b268), .val (.ref b448), .unset, .unset, .unset, .unset, .unset, .unset, .unset, .unset, .unset, .unset] [(.ref b268), (.ref b448)])) rfl (by rw [hml]; rfl) (Steps.refl _) (argsL := [(.ref b268)]) (rest := []) (lenOf pd__Lcom_example_spillway_spillway_assignment_Endpoint__V rfl) rfl (by show 2 * 0 + _ ≤ _; exact Nat.le_of_eq rfl) (hb hby at_85) (fun _ _ => ⟨rfl, rfl, (by exact lee rfl), (by exact lee rfl)⟩)
      dsimp only [Pt.U, Pt.locs, Pt.cells, Pt.slots] at X490 l490 y490 z490 st490 hQ490
      subst l490 y490 z490
      obtain ⟨rfl, Nq490, Kq490, f491, f492, f493, f494, f495, f496⟩ := hQ490
      have N490 := Fr.app N471 Nq490
      refine GoW.tr st490 ?_
      have f497 : Safe Z EL T437.vm T490.heap b3 := Safe.keep Kq490 (allS f488 all0) CH471.1 f478
      have f498 : Exa Z T490.heap b3 "com/example/spillway/spillway/assignment/Endpoint" := f479.keep Kq490
      have f499 : Exa Z T490.heap hsa "com/example/spillway/spillway/assignment/HealthStatus" := f480.keep Kq490
      have f500 : Fld Z T490.heap b3 "com/example/spillway/spillway/assignment/Endpoint" "health" "Lcom/example/spillway/spillway/assignment/HealthStatus;" (.ref hsa) := f481.keep Kq490 (ninS ne449 nin0)
      have f501 : Fld Z T490.heap b3 "com/example/spillway/spillway/assignment/Endpoint" "loadBalancingWeight" "J" (.long wa) := f482.keep Kq490 (ninS ne449 nin0)
      have f502 : Safe Z EL T437.vm T490.heap b268 := Safe.keep Kq490 (allS f488 all0) CH471.1 f483
      have f503 : Exa Z T490.heap b268 "com/example/spillway/spillway/assignment/Endpoint" := f484.keep Kq490
      have f504 : Exa Z T490.heap hsb "com/example/spillway/spillway/assignment/HealthStatus" := f485.keep Kq490
      have f505 : Fld Z T490.heap b268 "com/example/spillway/spillway/assignment/Endpoint" "health" "Lcom/example/spillway/spillway/assignment/HealthStatus;" (.ref hsb) := f486.keep Kq490 (ninS ne451 nin0)
      have f506 : Fld Z T490.heap b268 "com/example/spillway/spillway/assignment/Endpoint" "loadBalancingWeight" "J" (.long wb) := f487.keep Kq490 (ninS ne451 nin0)
      have f507 : Safe Z EL T437.vm T490.heap b448 := Safe.keep Kq490 (allS f488 all0) CH471.1 f488
      have f508 : Exa Z T490.heap b448 "com/example/spillway/spillway/assignment/HealthTally" := f489.keep Kq490
      have CH490 : CHr Z EL s.vm s.heap T437.vm T490.heap := CH471.trans (CHr.keep Kq490 (allS f488 all0) CH471.1)
      have hk490 : Array.size T437.heap ≤ Array.size T490.heap := Nat.le_trans hk471 Kq490.1
      have O490 : Old Z n0 T490.heap := O471.keep Kq490 (allS g_b448 all0)
      show GoW p e below s _ _ _ _ _ (T490.setTop (mkF m 88 #[.val (.int sa), .val (.long va), .second, .val (.int sb), .val (.long vb), .second, .val (.int ia), .val (.int ib), .val (.long wa), .second, .val (.long wb), .second, .val (.ref b3), .val (.ref b268), .val (.ref b448), .unset, .unset, .unset, .unset, .unset, .unset, .unset, .unset, .unset, .unset] []))
      refine GoW.st (fun _ k' => XS.iload X490.here hx rfl (hb hby at_88) rfl k') ?_
      refine GoW.st (fun _ k' => XS.iconst X490.here hx rfl (hb hby at_90) k') ?_
      show GoW p e below s _ _ _ _ _ (T490.setTop (mkF m 91 #[.val (.int sa), .val (.long va), .second, .val (.int sb), .val (.long vb), .second, .val (.int ia), .val (.int ib), .val (.long wa), .second, .val (.long wb), .second, .val (.ref b3), .val (.ref b268), .val (.ref b448), .unset, .unset, .unset, .unset, .unset, .unset, .unset, .unset, .unset, .unset] [(.int 1), (.int ia)]))
      refine GoW.st (fun _ k' => XS.icmpYes X490.here hx rfl (pc0 := 91) (pc' := 98) rfl (hb hby at_91) rfl (XT.ii_gt_t khsa_0) (by decide) (by decide) k') ?_
      show GoW p e below s _ _ _ _ _ (T490.setTop (mkF m 98 #[.val (.int sa), .val (.long va), .second, .val (.int sb), .val (.long vb), .second, .val (.int ia), .val (.int ib), .val (.long wa), .second, .val (.long wb), .second, .val (.ref b3), .val (.ref b268), .val (.ref b448), .unset, .unset, .unset, .unset, .unset, .unset, .unset, .unset, .unset, .unset] []))
      refine GoW.st (fun _ k' => XS.iconst X490.here hx rfl (hb hby at_98) k') ?_
      refine GoW.st (fun _ k' => XS.istore X490.here hx rfl (hb hby at_99) rfl (l' := #[.val (.int sa), .val (.long va), .second, .val (.int sb), .val (.long vb), .second, .val (.int ia), .val (.int ib), .val (.long wa), .second, .val (.long wb), .second, .val (.ref b3), .val (.ref b268), .val (.ref b448), .val (.int 0), .unset, .unset, .unset, .unset, .unset, .unset, .unset, .unset, .unset]) rfl k') ?_
      refine GoW.st (fun _ k' => XS.iload X490.here hx rfl (hb hby at_101) rfl k') ?_
      refine GoW.st (fun _ k' => XS.iconst X490.here hx rfl (hb hby at_103) k') ?_
      show GoW p e below s _ _ _ _ _ (T490.setTop (mkF m 104 #[.val (.int sa), .val (.long va), .second, .val (.int sb), .val (.long vb), .second, .val (.int ia), .val (.int ib), .val (.long wa), .second, .val (.long wb), .second, .val (.ref b3), .val (.ref b268), .val (.ref b448), .val (.int 0), .unset, .unset, .unset, .unset, .unset, .unset, .unset, .unset, .unset] [(.int 1), (.int ib)]))
      refine GoW.st (fun _ k' => XS.icmpYes X490.here hx rfl (pc0 := 104) (pc' := 111) rfl (hb hby at_104) rfl (XT.ii_gt_t khsb_0) (by decide) (by decide) k') ?_
      show GoW p e below s _ _ _ _ _ (T490.setTop (mkF m 111 #[.val (.int sa), .val (.long va), .second, .val (.int sb), .val (.long vb), .second, .val (.int ia), .val (.int ib), .val (.long wa), .second, .val (.long wb), .second, .val (.ref b3), .val (.ref b268), .val (.ref b448), .val (.int 0), .unset, .unset, .unset, .unset, .unset, .unset, .unset, .unset, .unset] []))
      refine GoW.st (fun _ k' => XS.iconst X490.here hx rfl (hb hby at_111) k') ?_
      refine GoW.st (fun _ k' => XS.istore X490.here hx rfl (hb hby at_112) rfl (l' := #[.val (.int sa), .val (.long va), .second, .val (.int sb), .val (.long vb), .second, .val (.int ia), .val (.int ib), .val (.long wa), .second, .val (.long wb), .second, .val (.ref b3), .val (.ref b268), .val (.ref b448), .val (.int 0), .val (.int 0), .unset, .unset, .unset, .unset, .unset, .unset, .unset, .unset]) rfl k') ?_
      refine GoW.st (fun _ k' => XS.iload X490.here hx rfl (hb hby at_114) rfl k') ?_
      refine GoW.st (fun _ k' => XS.iconst X490.here hx rfl (hb hby at_116) k') ?_
      show GoW p e below s _ _ _ _ _ (T490.setTop (mkF m 117 #[.val (.int sa), .val (.long va), .second, .val (.int sb), .val (.long vb), .second, .val (.int ia), .val (.int ib), .val (.long wa), .second, .val (.long wb), .second, .val (.ref b3), .val (.ref b268), .val (.ref b448), .val (.int 0), .val (.int 0), .unset, .unset, .unset, .unset, .unset, .unset, .unset, .unset] [(.int 5), (.int ia)]))
      refine GoW.st (fun _ k' => XS.icmpNo X490.here hx rfl (hb hby at_117) rfl (XT.ii_ne_f khsa_1) k') ?_
      show GoW p e below s _ _ _ _ _ (T490.setTop (mkF m 120 #[.val (.int sa), .val (.long va), .second, .val (.int sb), .val (.long vb), .second, .val (.int ia), .val (.int ib), .val (.long wa), .second, .val (.long wb), .second, .val (.ref b3), .val (.ref b268), .val (.ref b448), .val (.int 0), .val (.int 0), .unset, .unset, .unset, .unset, .unset, .unset, .unset, .unset] []))
      refine GoW.st (fun _ k' => XS.iconst X490.here hx rfl (hb hby at_120) k') ?_
      show GoW p e below s _ _ _ _ _ (T490.setTop (mkF m 121 #[.val (.int sa), .val (.long va), .second, .val (.int sb), .val (.long vb), .second, .val (.int ia), .val (.int ib), .val (.long wa), .second, .val (.long wb), .second, .val (.ref b3), .val (.ref b268), .val (.ref b448), .val (.int 0), .val (.int 0), .unset, .unset, .unset, .unset, .unset, .unset, .unset, .unset] [(.int 1)]))
      refine GoW.st (fun _ k' => XS.goto X490.here hx rfl (pc0 := 121) (pc' := 125) rfl (hb hby at_121) (by decide) (by decide) k') ?_
      show GoW p e below s _ _ _ _ _ (T490.setTop (mkF m 125 #[.val (.int sa), .val (.long va), .second, .val (.int sb), .val (.long vb), .second, .val (.int ia), .val (.int ib), .val (.long wa), .second, .val (.long wb), .second, .val (.ref b3), .val (.ref b268), .val (.ref b448), .val (.int 0), .val (.int 0), .unset, .unset, .unset, .unset, .unset, .unset, .unset, .unset] [(.int 1)]))
      refine GoW.st (fun _ k' => XS.istore X490.here hx rfl (hb hby at_125) rfl (l' := #[.val (.int sa), .val (.long va), .second, .val (.int sb), .val (.long vb), .second, .val (.int ia), .val (.int ib), .val (.long wa), .second, .val (.long wb), .second, .val (.ref b3), .val (.ref b268), .val (.ref b448), .val (.int 0), .val (.int 0), .val (.int 1), .unset, .unset, .unset, .unset, .unset, .unset, .unset]) rfl k') ?_
      refine GoW.st (fun _ k' => XS.iload X490.here hx rfl (hb hby at_127) rfl k') ?_
      refine GoW.st (fun _ k' => XS.iconst X490.here hx rfl (hb hby at_129) k') ?_
      show GoW p e below s _ _ _ _ _ (T490.setTop (mkF m 130 #[.val (.int sa), .val (.long va), .second, .val (.int sb), .val (.long vb), .second, .val (.int ia), .val (.int ib), .val (.long wa), .second, .val (.long wb), .second, .val (.ref b3), .val (.ref b268), .val (.ref b448), .val (.int 0), .val (.int 0), .val (.int 1), .unset, .unset, .unset, .unset, .unset, .unset, .unset] [(.int 5), (.int ib)]))
      refine GoW.st (fun _ k' => XS.icmpYes X490.here hx rfl (pc0 := 130) (pc' := 137) rfl (hb hby at_130) rfl (XT.ii_ne_t khsb_1) (by decide) (by decide) k') ?_
      show GoW p e below s _ _ _ _ _ (T490.setTop (mkF m 137 #[.val (.int sa), .val (.long va), .second, .val (.int sb), .val (.long vb), .second, .val (.int ia), .val (.int ib), .val (.long wa), .second, .val (.long wb), .second, .val (.ref b3), .val (.ref b268), .val (.ref b448), .val (.int 0), .val (.int 0), .val (.int 1), .unset, .unset, .unset, .unset, .unset, .unset, .unset] []))
      refine GoW.st (fun _ k' => XS.iconst X490.here hx rfl (hb hby at_137) k') ?_
      refine GoW.st (fun _ k' => XS.istore X490.here hx rfl (hb hby at_138) rfl (l' := #[.val (.int sa), .val (.long va), .second, .val (.int sb), .val (.long vb), .second, .val (.int ia), .val (.int ib), .val (.long wa), .second, .val (.long wb), .second, .val (.ref b3), .val (.ref b268), .val (.ref b448), .val (.int 0), .val (.int 0), .val (.int 1), .val (.int 0), .unset, .unset, .unset, .unset, .unset, .unset]) rfl k') ?_
      refine GoW.st (fun _ k' => XS.iload X490.here hx rfl (hb hby at_140) rfl k') ?_
      show GoW p e below s _ _ _ _ _ (T490.setTop (mkF m 142 #[.val (.int sa), .val (.long va), .second, .val (.int sb), .val (.long vb), .second, .val (.int ia), .val (.int ib), .val (.long wa), .second, .val (.long wb), .second, .val (.ref b3), .val (.ref b268), .val (.ref b448), .val (.int 0), .val (.int 0), .val (.int 1), .val (.int 0), .unset, .unset, .unset, .unset, .unset, .unset] [(.int 0)]))
      refine GoW.st (fun _ k' => XS.ifYes X490.here hx rfl (pc0 := 142) (pc' := 149) rfl (hb hby at_142) rfl (XT.i0_eq_t (by decide)) (by decide) (by decide) k') ?_
      show GoW p e below s _ _ _ _ _ (T490.setTop (mkF m 149 #[.val (.int sa), .val (.long va), .second, .val (.int sb), .val (.long vb), .second, .val (.int ia), .val (.int ib), .val (.long wa), .second, .val (.long wb), .second, .val (.ref b3), .val (.ref b268), .val (.ref b448), .val (.int 0), .val (.int 0), .val (.int 1), .val (.int 0), .unset, .unset, .unset, .unset, .unset, .unset] []))
      refine GoW.st (fun _ k' => XS.iconst X490.here hx rfl (hb hby at_149) k') ?_
      refine GoW.st (fun _ k' => XS.iload X490.here hx rfl (hb hby at_150) rfl k') ?_
      show GoW p e below s _ _ _ _ _ (T490.setTop (mkF m 152 #[.val (.int sa), .val (.long va), .second, .val (.int sb), .val (.long vb), .second, .val (.int ia), .val (.int ib), .val (.long wa), .second, .val (.long wb), .second, .val (.ref b3), .val (.ref b268), .val (.ref b448), .val (.int 0), .val (.int 0), .val (.int 1), .val (.int 0), .unset, .unset, .unset, .unset, .unset, .unset] [(.int 0), (.int 0)]))
      refine GoW.st (fun _ k' => XS.ifYes X490.here hx rfl (pc0 := 152) (pc' := 159) rfl (hb hby at_152) rfl (XT.i0_eq_t (by decide)) (by decide) (by decide) k') ?_
      show GoW p e below s _ _ _ _ _ (T490.setTop (mkF m 159 #[.val (.int sa), .val (.long va), .second, .val (.int sb), .val (.long vb), .second, .val (.int ia), .val (.int ib), .val (.long wa), .second, .val (.long wb), .second, .val (.ref b3), .val (.ref b268), .val (.ref b448), .val (.int 0), .val (.int 0), .val (.int 1), .val (.int 0), .unset, .unset, .unset, .unset, .unset, .unset] [(.int 0)]))
      refine GoW.st (fun _ k' => XS.iconst X490.here hx rfl (hb hby at_159) k') ?_
      refine GoW.st (fun _ k' => XS.iadd X490.here hx rfl (hb hby at_160) rfl k') ?_
      refine GoW.st (fun _ k' => XS.istore X490.here hx rfl (hb hby at_161) rfl (l' := #[.val (.int sa), .val (.long va), .second, .val (.int sb), .val (.long vb), .second, .val (.int ia), .val (.int ib), .val (.long wa), .second, .val (.long wb), .second, .val (.ref b3), .val (.ref b268), .val (.ref b448), .val (.int 0), .val (.int 0), .val (.int 1), .val (.int 0), .val (.int 0), .unset, .unset, .unset, .unset, .unset]) rfl k') ?_
      refine GoW.st (fun _ k' => XS.iload X490.here hx rfl (hb hby at_163) rfl k') ?_
      show GoW p e below s _ _ _ _ _ (T490.setTop (mkF m 165 #[.val (.int sa), .val (.long va), .second, .val (.int sb), .val (.long vb), .second, .val (.int ia), .val (.int ib), .val (.long wa), .second, .val (.long wb), .second, .val (.ref b3), .val (.ref b268), .val (.ref b448), .val (.int 0), .val (.int 0), .val (.int 1), .val (.int 0), .val (.int 0), .unset, .unset, .unset, .unset, .unset] [(.int 1)]))
      refine GoW.st (fun _ k' => XS.ifNo X490.here hx rfl (hb hby at_165) rfl (XT.i0_eq_f (by decide)) k') ?_
      show GoW p e below s _ _ _ _ _ (T490.setTop (mkF m 168 #[.val (.int sa), .val (.long va), .second, .val (.int sb), .val (.long vb), .second, .val (.int ia), .val (.int ib), .val (.long wa), .second, .val (.long wb), .second, .val (.ref b3), .val (.ref b268), .val (.ref b448), .val (.int 0), .val (.int 0), .val (.int 1), .val (.int 0), .val (.int 0), .unset, .unset, .unset, .unset, .unset] []))
      refine GoW.st (fun _ k' => XS.iconst X490.here hx rfl (hb hby at_168) k') ?_
      show GoW p e below s _ _ _ _ _ (T490.setTop (mkF m 169 #[.val (.int sa), .val (.long va), .second, .val (.int sb), .val (.long vb), .second, .val (.int ia), .val (.int ib), .val (.long wa), .second, .val (.long wb), .second, .val (.ref b3), .val (.ref b268), .val (.ref b448), .val (.int 0), .val (.int 0), .val (.int 1), .val (.int 0), .val (.int 0), .unset, .unset, .unset, .unset, .unset] [(.int 1)]))
      refine GoW.st (fun _ k' => XS.goto X490.here hx rfl (pc0 := 169) (pc' := 173) rfl (hb hby at_169) (by decide) (by decide) k') ?_
      show GoW p e below s _ _ _ _ _ (T490.setTop (mkF m 173 #[.val (.int sa), .val (.long va), .second, .val (.int sb), .val (.long vb), .second, .val (.int ia), .val (.int ib), .val (.long wa), .second, .val (.long wb), .second, .val (.ref b3), .val (.ref b268), .val (.ref b448), .val (.int 0), .val (.int 0), .val (.int 1), .val (.int 0), .val (.int 0), .unset, .unset, .unset, .unset, .unset] [(.int 1)]))
      refine GoW.st (fun _ k' => XS.iload X490.here hx rfl (hb hby at_173) rfl k') ?_
      show GoW p e below s _ _ _ _ _ (T490.setTop (mkF m 175 #[.val (.int sa), .val (.long va), .second, .val (.int sb), .val (.long vb), .second, .val (.int ia), .val (.int ib), .val (.long wa), .second, .val (.long wb), .second, .val (.ref b3), .val (.ref b268), .val (.ref b448), .val (.int 0), .val (.int 0), .val (.int 1), .val (.int 0), .val (.int 0), .unset, .unset, .unset, .unset, .unset] [(.int 0), (.int 1)]))
      refine GoW.st (fun _ k' => XS.ifYes X490.here hx rfl (pc0 := 175) (pc' := 182) rfl (hb hby at_175) rfl (XT.i0_eq_t (by decide)) (by decide) (by decide) k') ?_
      show GoW p e below s _ _ _ _ _ (T490.setTop (mkF m 182 #[.val (.int sa), .val (.long va), .second, .val (.int sb), .val (.long vb), .second, .val (.int ia), .val (.int ib), .val (.long wa), .second, .val (.long wb), .second, .val (.ref b3), .val (.ref b268), .val (.ref b448), .val (.int 0), .val (.int 0), .val (.int 1), .val (.int 0), .val (.int 0), .unset, .unset, .unset, .unset, .unset] [(.int 1)]))
      refine GoW.st (fun _ k' => XS.iconst X490.here hx rfl (hb hby at_182) k') ?_
      refine GoW.st (fun _ k' => XS.iadd X490.here hx rfl (hb hby at_183) rfl k') ?_
      refine GoW.st (fun _ k' => XS.istore X490.here hx rfl (hb hby at_184) rfl (l' := #[.val (.int sa), .val (.long va), .second, .val (.int sb), .val (.long vb), .second, .val (.int ia), .val (.int ib), .val (.long wa), .second, .val (.long wb), .second, .val (.ref b3), .val (.ref b268), .val (.ref b448), .val (.int 0), .val (.int 0), .val (.int 1), .val (.int 0), .val (.int 0), .val (.int 1), .unset, .unset, .unset, .unset]) rfl k') ?_
      refine GoW.st (fun _ k' => XS.iload X490.here hx rfl (hb hby at_186) rfl k') ?_
      show GoW p e below s _ _ _ _ _ (T490.setTop (mkF m 188 #[.val (.int sa), .val (.long va), .second, .val (.int sb), .val (.long vb), .second, .val (.int ia), .val (.int ib), .val (.long wa), .second, .val (.long wb), .second, .val (.ref b3), .val (.ref b268), .val (.ref b448), .val (.int 0), .val (.int 0), .val (.int 1), .val (.int 0), .val (.int 0), .val (.int 1), .unset, .unset, .unset, .unset] [(.int 0)]))
      refine GoW.st (fun _ k' => XS.ifYes X490.here hx rfl (pc0 := 188) (pc' := 196) rfl (hb hby at_188) rfl (XT.i0_eq_t (by decide)) (by decide) (by decide) k') ?_
      show GoW p e below s _ _ _ _ _ (T490.setTop (mkF m 196 #[.val (.int sa), .val (.long va), .second, .val (.int sb), .val (.long vb), .second, .val (.int ia), .val (.int ib), .val (.long wa), .second, .val (.long wb), .second, .val (.ref b3), .val (.ref b268), .val (.ref b448), .val (.int 0), .val (.int 0), .val (.int 1), .val (.int 0), .val (.int 0), .val (.int 1), .unset, .unset, .unset, .unset] []))
      refine GoW.st (fun _ k' => XS.lconst X490.here hx rfl (hb hby at_196) k') ?_
      refine GoW.st (fun _ k' => XS.iload X490.here hx rfl (hb hby at_197) rfl k') ?_
      show GoW p e below s _ _ _ _ _ (T490.setTop (mkF m 199 #[.val (.int sa), .val (.long va), .second, .val (.int sb), .val (.long vb), .second, .val (.int ia), .val (.int ib), .val (.long wa), .second, .val (.long wb), .second, .val (.ref b3), .val (.ref b268), .val (.ref b448), .val (.int 0), .val (.int 0), .val (.int 1), .val (.int 0), .val (.int 0), .val (.int 1), .unset, .unset, .unset, .unset] [(.int 0), (.long 0)]))
      refine GoW.st (fun _ k' => XS.ifYes X490.here hx rfl (pc0 := 199) (pc' := 207) rfl (hb hby at_199) rfl (XT.i0_eq_t (by decide)) (by decide) (by decide) k') ?_
      show GoW p e below s _ _ _ _ _ (T490.setTop (mkF m 207 #[.val (.int sa), .val (.long va), .second, .val (.int sb), .val (.long vb), .second, .val (.int ia), .val (.int ib), .val (.long wa), .second, .val (.long wb), .second, .val (.ref b3), .val (.ref b268), .val (.ref b448), .val (.int 0), .val (.int 0), .val (.int 1), .val (.int 0), .val (.int 0), .val (.int 1), .unset, .unset, .unset, .unset] [(.long 0)]))
      refine GoW.st (fun _ k' => XS.lconst X490.here hx rfl (hb hby at_207) k') ?_
      refine GoW.st (fun _ k' => XS.ladd X490.here hx rfl (hb hby at_208) rfl k') ?_
      refine GoW.st (fun _ k' => XS.lstore X490.here hx rfl (hb hby at_209) rfl (l' := #[.val (.int sa), .val (.long va), .second, .val (.int sb), .val (.long vb), .second, .val (.int ia), .val (.int ib), .val (.long wa), .second, .val (.long wb), .second, .val (.ref b3), .val (.ref b268), .val (.ref b448), .val (.int 0), .val (.int 0), .val (.int 1), .val (.int 0), .val (.int 0), .val (.int 1), .val (.long ((0 : Int64) + (0 : Int64))), .second, .unset, .unset]) rfl k') ?_
      refine GoW.st (fun _ k' => XS.iload X490.here hx rfl (hb hby at_211) rfl k') ?_
      show GoW p e below s _ _ _ _ _ (T490.setTop (mkF m 213 #[.val (.int sa), .val (.long va), .second, .val (.int sb), .val (.long vb), .second, .val (.int ia), .val (.int ib), .val (.long wa), .second, .val (.long wb), .second, .val (.ref b3), .val (.ref b268), .val (.ref b448), .val (.int 0), .val (.int 0), .val (.int 1), .val (.int 0), .val (.int 0), .val (.int 1), .val (.long ((0 : Int64) + (0 : Int64))), .second, .unset, .unset] [(.int 1)]))
      refine GoW.st (fun _ k' => XS.ifNo X490.here hx rfl (hb hby at_213) rfl (XT.i0_eq_f (by decide)) k') ?_
      show GoW p e below s _ _ _ _ _ (T490.setTop (mkF m 216 #[.val (.int sa), .val (.long va), .second, .val (.int sb), .val (.long vb), .second, .val (.int ia), .val (.int ib), .val (.long wa), .second, .val (.long wb), .second, .val (.ref b3), .val (.ref b268), .val (.ref b448), .val (.int 0), .val (.int 0), .val (.int 1), .val (.int 0), .val (.int 0), .val (.int 1), .val (.long ((0 : Int64) + (0 : Int64))), .second, .unset, .unset] []))
      refine GoW.st (fun _ k' => XS.lload X490.here hx rfl (hb hby at_216) rfl k') ?_
      show GoW p e below s _ _ _ _ _ (T490.setTop (mkF m 218 #[.val (.int sa), .val (.long va), .second, .val (.int sb), .val (.long vb), .second, .val (.int ia), .val (.int ib), .val (.long wa), .second, .val (.long wb), .second, .val (.ref b3), .val (.ref b268), .val (.ref b448), .val (.int 0), .val (.int 0), .val (.int 1), .val (.int 0), .val (.int 0), .val (.int 1), .val (.long ((0 : Int64) + (0 : Int64))), .second, .unset, .unset] [(.long wa)]))
      refine GoW.st (fun _ k' => XS.goto X490.here hx rfl (pc0 := 218) (pc' := 222) rfl (hb hby at_218) (by decide) (by decide) k') ?_
      show GoW p e below s _ _ _ _ _ (T490.setTop (mkF m 222 #[.val (.int sa), .val (.long va), .second, .val (.int sb), .val (.long vb), .second, .val (.int ia), .val (.int ib), .val (.long wa), .second, .val (.long wb), .second, .val (.ref b3), .val (.ref b268), .val (.ref b448), .val (.int 0), .val (.int 0), .val (.int 1), .val (.int 0), .val (.int 0), .val (.int 1), .val (.long ((0 : Int64) + (0 : Int64))), .second, .unset, .unset] [(.long wa)]))
      refine GoW.st (fun _ k' => XS.iload X490.here hx rfl (hb hby at_222) rfl k') ?_
      show GoW p e below s _ _ _ _ _ (T490.setTop (mkF m 224 #[.val (.int sa), .val (.long va), .second, .val (.int sb), .val (.long vb), .second, .val (.int ia), .val (.int ib), .val (.long wa), .second, .val (.long wb), .second, .val (.ref b3), .val (.ref b268), .val (.ref b448), .val (.int 0), .val (.int 0), .val (.int 1), .val (.int 0), .val (.int 0), .val (.int 1), .val (.long ((0 : Int64) + (0 : Int64))), .second, .unset, .unset] [(.int 0), (.long wa)]))
      refine GoW.st (fun _ k' => XS.ifYes X490.here hx rfl (pc0 := 224) (pc' := 232) rfl (hb hby at_224) rfl (XT.i0_eq_t (by decide)) (by decide) (by decide) k') ?_
      show GoW p e below s _ _ _ _ _ (T490.setTop (mkF m 232 #[.val (.int sa), .val (.long va), .second, .val (.int sb), .val (.long vb), .second, .val (.int ia), .val (.int ib), .val (.long wa), .second, .val (.long wb), .second, .val (.ref b3), .val (.ref b268), .val (.ref b448), .val (.int 0), .val (.int 0), .val (.int 1), .val (.int 0), .val (.int 0), .val (.int 1), .val (.long ((0 : Int64) + (0 : Int64))), .second, .unset, .unset] [(.long wa)]))
      refine GoW.st (fun _ k' => XS.lconst X490.here hx rfl (hb hby at_232) k') ?_
      refine GoW.st (fun _ k' => XS.ladd X490.here hx rfl (hb hby at_233) rfl k') ?_
      refine GoW.st (fun _ k' => XS.lstore X490.here hx rfl (hb hby at_234) rfl (l' := #[.val (.int sa), .val (.long va), .second, .val (.int sb), .val (.long vb), .second, .val (.int ia), .val (.int ib), .val (.long wa), .second, .val (.long wb), .second, .val (.ref b3), .val (.ref b268), .val (.ref b448), .val (.int 0), .val (.int 0), .val (.int 1), .val (.int 0), .val (.int 0), .val (.int 1), .val (.long ((0 : Int64) + (0 : Int64))), .second, .val (.long (wa + (0 : Int64))), .second]) rfl k') ?_
      refine GoW.st (fun _ k' => XS.aload X490.here hx rfl (hb hby at_236) rfl rfl k') ?_
      show GoW p e below s _ _ _ _ _ (T490.setTop (mkF m 238 #[.val (.int sa), .val (.long va), .second, .val (.int sb), .val (.long vb), .second, .val (.int ia), .val (.int ib), .val (.long wa), .second, .val (.long wb), .second, .val (.ref b3), .val (.ref b268), .val (.ref b448), .val (.int 0), .val (.int 0), .val (.int 1), .val (.int 0), .val (.int 0), .val (.int 1), .val (.long ((0 : Int64) + (0 : Int64))), .second, .val (.long (wa + (0 : Int64))), .second] [(.ref b448)]))
      obtain ⟨cq509, kq509, q509a, q509b, q509c⟩ := isOf hZ437 rfl f508
      obtain ⟨_, _, ⟨T509, L509, k509, n509⟩, -, X509, ⟨Lc509, hQ509, l509, y509, z509⟩, st509⟩ := X490.virtualBack hx (y := mn1) (z := mn1) hown437 (mvT hZ437 (wdx hw 93 rfl)) (mvT hZ437 (wdx hw 94 rfl)) (notFace_of_selects (args := #[]) (mvT hZ437 (wdx hw 96 rfl))) (mvT hZ437 (wdx hw 96 rfl)) (mvT hZ437 (wdx hw 95 rfl)) (by decide) (backOf (W := 0) (rm14 l Z a0 hw [] b448 (((0 : Int32) + (1 : Int32)) + (1 : Int32)) T490.heap n0 O490 f491) hZ437 (wdx hw 97 rfl) (wdx hw 54 rfl) (by decide) (by decide)) q509a q509c (g := (mkF m 238 #[.val (.int sa), .val (.long va), .second, .val (.int sb), .val (.long vb), .second, .val (.int ia), .val (.int ib), .val (.long wa), .second, .val (.long wb), .second, .val (.ref b3), .val (.ref b268), .val (.ref b448), .val (.int 0), .val (.int 0), .val (.int 1), .val (.int 0), .val (.int 0), .val (.int 1), .val (.long ((0 : Int64) + (0 : Int64))), .second, .val (.long (wa + (0 : Int64))), .second] [(.ref b448)])) rfl (by rw [hml]; rfl) (Steps.refl _) (argsL := []) (rest := []) (lenOf pd___I rfl) rfl (by show 2 * 0 + _ ≤ _; exact Nat.le_of_eq rfl) (hb hby at_238) (fun _ _ => ⟨rfl, rfl, (by exact lee rfl), (by exact lee rfl)⟩)
      dsimp only [Pt.U, Pt.locs, Pt.cells, Pt.slots] at X509 l509 y509 z509 st509 hQ509
      subst l509 y509 z509
      obtain ⟨rfl, Nq509, eq509⟩ := hQ509
      have N509 := Fr.app N490 Nq509
      refine GoW.tr st509 ?_
      show GoW p e below s _ _ _ _ _ (T509.setTop (mkF m 241 #[.val (.int sa), .val (.long va), .second, .val (.int sb), .val (.long vb), .second, .val (.int ia), .val (.int ib), .val (.long wa), .second, .val (.long wb), .second, .val (.ref b3), .val (.ref b268), .val (.ref b448), .val (.int 0), .val (.int 0), .val (.int 1), .val (.int 0), .val (.int 0), .val (.int 1), .val (.long ((0 : Int64) + (0 : Int64))), .second, .val (.long (wa + (0 : Int64))), .second] [(.int (((0 : Int32) + (1 : Int32)) + (1 : Int32)))]))
      refine GoW.st (fun _ k' => XS.iconst X509.here hx rfl (hb hby at_241) k') ?_
      show GoW p e below s _ _ _ _ _ (T509.setTop (mkF m 242 #[.val (.int sa), .val (.long va), .second, .val (.int sb), .val (.long vb), .second, .val (.int ia), .val (.int ib), .val (.long wa), .second, .val (.long wb), .second, .val (.ref b3), .val (.ref b268), .val (.ref b448), .val (.int 0), .val (.int 0), .val (.int 1), .val (.int 0), .val (.int 0), .val (.int 1), .val (.long ((0 : Int64) + (0 : Int64))), .second, .val (.long (wa + (0 : Int64))), .second] [(.int 2), (.int (((0 : Int32) + (1 : Int32)) + (1 : Int32)))]))
      refine GoW.st (fun _ k' => XS.icmpNo X509.here hx rfl (hb hby at_242) rfl (XT.ii_ne_f (by simp [own_one])) k') ?_
      show GoW p e below s _ _ _ _ _ (T509.setTop (mkF m 245 #[.val (.int sa), .val (.long va), .second, .val (.int sb), .val (.long vb), .second, .val (.int ia), .val (.int ib), .val (.long wa), .second, .val (.long wb), .second, .val (.ref b3), .val (.ref b268), .val (.ref b448), .val (.int 0), .val (.int 0), .val (.int 1), .val (.int 0), .val (.int 0), .val (.int 1), .val (.long ((0 : Int64) + (0 : Int64))), .second, .val (.long (wa + (0 : Int64))), .second] []))
      refine GoW.st (fun _ k' => XS.aload X509.here hx rfl (hb hby at_245) rfl rfl k') ?_
      show GoW p e below s _ _ _ _ _ (T509.setTop (mkF m 247 #[.val (.int sa), .val (.long va), .second, .val (.int sb), .val (.long vb), .second, .val (.int ia), .val (.int ib), .val (.long wa), .second, .val (.long wb), .second, .val (.ref b3), .val (.ref b268), .val (.ref b448), .val (.int 0), .val (.int 0), .val (.int 1), .val (.int 0), .val (.int 0), .val (.int 1), .val (.long ((0 : Int64) + (0 : Int64))), .second, .val (.long (wa + (0 : Int64))), .second] [(.ref b448)]))
      obtain ⟨cq510, kq510, q510a, q510b, q510c⟩ := isOf hZ437 eq509 f508
      obtain ⟨_, _, ⟨T510, L510, k510, n510⟩, -, X510, ⟨Lc510, hQ510, l510, y510, z510⟩, st510⟩ := X509.virtualBack hx (y := mn2) (z := mn2) hown437 (mvT hZ437 (wdx hw 98 rfl)) (mvT hZ437 (wdx hw 99 rfl)) (notFace_of_selects (args := #[]) (mvT hZ437 (wdx hw 101 rfl))) (mvT hZ437 (wdx hw 101 rfl)) (mvT hZ437 (wdx hw 100 rfl)) (by decide) (backOf (W := 0) (rm15 l Z a0 hw [] b448 (0 : Int32) T490.heap n0 O490 f492) hZ437 (wdx hw 102 rfl) (wdx hw 54 rfl) (by decide) (by decide)) q510a q510c (g := (mkF m 247 #[.val (.int sa), .val (.long va), .second, .val (.int sb), .val (.long vb), .second, .val (.int ia), .val (.int ib), .val (.long wa), .second, .val (.long wb), .second, .val (.ref b3), .val (.ref b268), .val (.ref b448), .val (.int 0), .val (.int 0), .val (.int 1), .val (.int 0), .val (.int 0), .val (.int 1), .val (.long ((0 : Int64) + (0 : Int64))), .second, .val (.long (wa + (0 : Int64))), .second] [(.ref b448)])) rfl (by rw [hml]; rfl) (Steps.refl _) (argsL := []) (rest := []) (lenOf pd___I rfl) rfl (by show 2 * 0 + _ ≤ _; exact Nat.le_of_eq rfl) (hb hby at_247) (fun _ _ => ⟨rfl, eq509, (by exact lee rfl), (by exact lee rfl)⟩)
      dsimp only [Pt.U, Pt.locs, Pt.cells, Pt.slots] at X510 l510 y510 z510 st510 hQ510
      subst l510 y510 z510
      obtain ⟨rfl, Nq510, eq510⟩ := hQ510
      have N510 := Fr.app N509 Nq510
      refine GoW.tr st510 ?_
      show GoW p e below s _ _ _ _ _ (T510.setTop (mkF m 250 #[.val (.int sa), .val (.long va), .second, .val (.int sb), .val (.long vb), .second, .val (.int ia), .val (.int ib), .val (.long wa), .second, .val (.long wb), .second, .val (.ref b3), .val (.ref b268), .val (.ref b448), .val (.int 0), .val (.int 0), .val (.int 1), .val (.int 0), .val (.int 0), .val (.int 1), .val (.long ((0 : Int64) + (0 : Int64))), .second, .val (.long (wa + (0 : Int64))), .second] [(.int 0)]))
      refine GoW.st (fun _ k' => XS.iload X510.here hx rfl (hb hby at_250) rfl k') ?_
      show GoW p e below s _ _ _ _ _ (T510.setTop (mkF m 252 #[.val (.int sa), .val (.long va), .second, .val (.int sb), .val (.long vb), .second, .val (.int ia), .val (.int ib), .val (.long wa), .second, .val (.long wb), .second, .val (.ref b3), .val (.ref b268), .val (.ref b448), .val (.int 0), .val (.int 0), .val (.int 1), .val (.int 0), .val (.int 0), .val (.int 1), .val (.long ((0 : Int64) + (0 : Int64))), .second, .val (.long (wa + (0 : Int64))), .second] [(.int 0), (.int 0)]))
      refine GoW.st (fun _ k' => XS.icmpNo X510.here hx rfl (hb hby at_252) rfl (XT.ii_ne_f (by simp [own_one])) k') ?_
      show GoW p e below s _ _ _ _ _ (T510.setTop (mkF m 255 #[.val (.int sa), .val (.long va), .second, .val (.int sb), .val (.long vb), .second, .val (.int ia), .val (.int ib), .val (.long wa), .second, .val (.long wb), .second, .val (.ref b3), .val (.ref b268), .val (.ref b448), .val (.int 0), .val (.int 0), .val (.int 1), .val (.int 0), .val (.int 0), .val (.int 1), .val (.long ((0 : Int64) + (0 : Int64))), .second, .val (.long (wa + (0 : Int64))), .second] []))
      refine GoW.st (fun _ k' => XS.aload X510.here hx rfl (hb hby at_255) rfl rfl k') ?_
      show GoW p e below s _ _ _ _ _ (T510.setTop (mkF m 257 #[.val (.int sa), .val (.long va), .second, .val (.int sb), .val (.long vb), .second, .val (.int ia), .val (.int ib), .val (.long wa), .second, .val (.long wb), .second, .val (.ref b3), .val (.ref b268), .val (.ref b448), .val (.int 0), .val (.int 0), .val (.int 1), .val (.int 0), .val (.int 0), .val (.int 1), .val (.long ((0 : Int64) + (0 : Int64))), .second, .val (.long (wa + (0 : Int64))), .second] [(.ref b448)]))
      obtain ⟨cq511, kq511, q511a, q511b, q511c⟩ := isOf hZ437 eq510 f508
      obtain ⟨_, _, ⟨T511, L511, k511, n511⟩, -, X511, ⟨Lc511, hQ511, l511, y511, z511⟩, st511⟩ := X510.virtualBack hx (y := mn3) (z := mn3) hown437 (mvT hZ437 (wdx hw 103 rfl)) (mvT hZ437 (wdx hw 104 rfl)) (notFace_of_selects (args := #[]) (mvT hZ437 (wdx hw 106 rfl))) (mvT hZ437 (wdx hw 106 rfl)) (mvT hZ437 (wdx hw 105 rfl)) (by decide) (backOf (W := 0) (rm16 l Z a0 hw [] b448 ((0 : Int32) + (1 : Int32)) T490.heap n0 O490 f493) hZ437 (wdx hw 107 rfl) (wdx hw 54 rfl) (by decide) (by decide)) q511a q511c (g := (mkF m 257 #[.val (.int sa), .val (.long va), .second, .val (.int sb), .val (.long vb), .second, .val (.int ia), .val (.int ib), .val (.long wa), .second, .val (.long wb), .second, .val (.ref b3), .val (.ref b268), .val (.ref b448), .val (.int 0), .val (.int 0), .val (.int 1), .val (.int 0), .val (.int 0), .val (.int 1), .val (.long ((0 : Int64) + (0 : Int64))), .second, .val (.long (wa + (0 : Int64))), .second] [(.ref b448)])) rfl (by rw [hml]; rfl) (Steps.refl _) (argsL := []) (rest := []) (lenOf pd___I rfl) rfl (by show 2 * 0 + _ ≤ _; exact Nat.le_of_eq rfl) (hb hby at_257) (fun _ _ => ⟨rfl, eq510, (by exact lee rfl), (by exact lee rfl)⟩)
      dsimp only [Pt.U, Pt.locs, Pt.cells, Pt.slots] at X511 l511 y511 z511 st511 hQ511
      subst l511 y511 z511
      obtain ⟨rfl, Nq511, eq511⟩ := hQ511
      have N511 := Fr.app N510 Nq511
      refine GoW.tr st511 ?_
      show GoW p e below s _ _ _ _ _ (T511.setTop (mkF m 260 #[.val (.int sa), .val (.long va), .second, .val (.int sb), .val (.long vb), .second, .val (.int ia), .val (.int ib), .val (.long wa), .second, .val (.long wb), .second, .val (.ref b3), .val (.ref b268), .val (.ref b448), .val (.int 0), .val (.int 0), .val (.int 1), .val (.int 0), .val (.int 0), .val (.int 1), .val (.long ((0 : Int64) + (0 : Int64))), .second, .val (.long (wa + (0 : Int64))), .second] [(.int ((0 : Int32) + (1 : Int32)))]))
      refine GoW.st (fun _ k' => XS.iload X511.here hx rfl (hb hby at_260) rfl k') ?_
      show GoW p e below s _ _ _ _ _ (T511.setTop (mkF m 262 #[.val (.int sa), .val (.long va), .second, .val (.int sb), .val (.long vb), .second, .val (.int ia), .val (.int ib), .val (.long wa), .second, .val (.long wb), .second, .val (.ref b3), .val (.ref b268), .val (.ref b448), .val (.int 0), .val (.int 0), .val (.int 1), .val (.int 0), .val (.int 0), .val (.int 1), .val (.long ((0 : Int64) + (0 : Int64))), .second, .val (.long (wa + (0 : Int64))), .second] [(.int 1), (.int ((0 : Int32) + (1 : Int32)))]))
      refine GoW.st (fun _ k' => XS.icmpNo X511.here hx rfl (hb hby at_262) rfl (XT.ii_ne_f (by simp [own_one])) k') ?_
      show GoW p e below s _ _ _ _ _ (T511.setTop (mkF m 265 #[.val (.int sa), .val (.long va), .second, .val (.int sb), .val (.long vb), .second, .val (.int ia), .val (.int ib), .val (.long wa), .second, .val (.long wb), .second, .val (.ref b3), .val (.ref b268), .val (.ref b448), .val (.int 0), .val (.int 0), .val (.int 1), .val (.int 0), .val (.int 0), .val (.int 1), .val (.long ((0 : Int64) + (0 : Int64))), .second, .val (.long (wa + (0 : Int64))), .second] []))
      refine GoW.st (fun _ k' => XS.aload X511.here hx rfl (hb hby at_265) rfl rfl k') ?_
      show GoW p e below s _ _ _ _ _ (T511.setTop (mkF m 267 #[.val (.int sa), .val (.long va), .second, .val (.int sb), .val (.long vb), .second, .val (.int ia), .val (.int ib), .val (.long wa), .second, .val (.long wb), .second, .val (.ref b3), .val (.ref b268), .val (.ref b448), .val (.int 0), .val (.int 0), .val (.int 1), .val (.int 0), .val (.int 0), .val (.int 1), .val (.long ((0 : Int64) + (0 : Int64))), .second, .val (.long (wa + (0 : Int64))), .second] [(.ref b448)]))
      obtain ⟨cq512, kq512, q512a, q512b, q512c⟩ := isOf hZ437 eq511 f508
      obtain ⟨_, _, ⟨T512, L512, k512, n512⟩, -, X512, ⟨Lc512, hQ512, l512, y512, z512⟩, st512⟩ := X511.virtualBack hx (y := mn4) (z := mn4) hown437 (mvT hZ437 (wdx hw 110 rfl)) (mvT hZ437 (wdx hw 111 rfl)) (notFace_of_selects (args := #[]) (mvT hZ437 (wdx hw 113 rfl))) (mvT hZ437 (wdx hw 113 rfl)) (mvT hZ437 (wdx hw 112 rfl)) (by decide) (backOf (W := 0) (rm17 l Z a0 hw [] b448 (((0 : Int64) + (((1 : Int32).toInt64) * wa)) + (((1 : Int32).toInt64) * wb)) T490.heap n0 O490 f494) hZ437 (wdx hw 114 rfl) (wdx hw 54 rfl) (by decide) (by decide)) q512a q512c (g := (mkF m 267 #[.val (.int sa), .val (.long va), .second, .val (.int sb), .val (.long vb), .second, .val (.int ia), .val (.int ib), .val (.long wa), .second, .val (.long wb), .second, .val (.ref b3), .val (.ref b268), .val (.ref b448), .val (.int 0), .val (.int 0), .val (.int 1), .val (.int 0), .val (.int 0), .val (.int 1), .val (.long ((0 : Int64) + (0 : Int64))), .second, .val (.long (wa + (0 : Int64))), .second] [(.ref b448)])) rfl (by rw [hml]; rfl) (Steps.refl _) (argsL := []) (rest := []) (lenOf pd___J rfl) rfl (by show 2 * 0 + _ ≤ _; exact Nat.le_of_eq rfl) (hb hby at_267) (fun _ _ => ⟨rfl, eq511, (by exact lee rfl), (by exact lee rfl)⟩)
      dsimp only [Pt.U, Pt.locs, Pt.cells, Pt.slots] at X512 l512 y512 z512 st512 hQ512
      subst l512 y512 z512
      obtain ⟨rfl, Nq512, eq512⟩ := hQ512
      have N512 := Fr.app N511 Nq512
      refine GoW.tr st512 ?_
      show GoW p e below s _ _ _ _ _ (T512.setTop (mkF m 270 #[.val (.int sa), .val (.long va), .second, .val (.int sb), .val (.long vb), .second, .val (.int ia), .val (.int ib), .val (.long wa), .second, .val (.long wb), .second, .val (.ref b3), .val (.ref b268), .val (.ref b448), .val (.int 0), .val (.int 0), .val (.int 1), .val (.int 0), .val (.int 0), .val (.int 1), .val (.long ((0 : Int64) + (0 : Int64))), .second, .val (.long (wa + (0 : Int64))), .second] [(.long (((0 : Int64) + (((1 : Int32).toInt64) * wa)) + (((1 : Int32).toInt64) * wb)))]))
      refine GoW.st (fun _ k' => XS.lload X512.here hx rfl (hb hby at_270) rfl k') ?_
      refine GoW.st (fun _ k' => XS.lload X512.here hx rfl (hb hby at_272) rfl k') ?_
      refine GoW.st (fun _ k' => XS.ladd X512.here hx rfl (hb hby at_274) rfl k') ?_
      show GoW p e below s _ _ _ _ _ (T512.setTop (mkF m 275 #[.val (.int sa), .val (.long va), .second, .val (.int sb), .val (.long vb), .second, .val (.int ia), .val (.int ib), .val (.long wa), .second, .val (.long wb), .second, .val (.ref b3), .val (.ref b268), .val (.ref b448), .val (.int 0), .val (.int 0), .val (.int 1), .val (.int 0), .val (.int 0), .val (.int 1), .val (.long ((0 : Int64) + (0 : Int64))), .second, .val (.long (wa + (0 : Int64))), .second] [(.long (wa + wb)), (.long (((0 : Int64) + (((1 : Int32).toInt64) * wa)) + (((1 : Int32).toInt64) * wb)))]))
      refine GoW.st (fun _ k' => XT.lcmp X512.here hx rfl (hb hby at_275) rfl k') ?_
      show GoW p e below s _ _ _ _ _ (T512.setTop (mkF m 276 #[.val (.int sa), .val (.long va), .second, .val (.int sb), .val (.long vb), .second, .val (.int ia), .val (.int ib), .val (.long wa), .second, .val (.long wb), .second, .val (.ref b3), .val (.ref b268), .val (.ref b448), .val (.int 0), .val (.int 0), .val (.int 1), .val (.int 0), .val (.int 0), .val (.int 1), .val (.long ((0 : Int64) + (0 : Int64))), .second, .val (.long (wa + (0 : Int64))), .second] [(.int (XT.cmpL (((0 : Int64) + (((1 : Int32).toInt64) * wa)) + (((1 : Int32).toInt64) * wb)) (wa + wb)))]))
      refine GoW.st (fun _ k' => XS.ifNo X512.here hx rfl (hb hby at_276) rfl (XT.ll_ne_f (by simp [own_one])) k') ?_
      show GoW p e below s _ _ _ _ _ (T512.setTop (mkF m 279 #[.val (.int sa), .val (.long va), .second, .val (.int sb), .val (.long vb), .second, .val (.int ia), .val (.int ib), .val (.long wa), .second, .val (.long wb), .second, .val (.ref b3), .val (.ref b268), .val (.ref b448), .val (.int 0), .val (.int 0), .val (.int 1), .val (.int 0), .val (.int 0), .val (.int 1), .val (.long ((0 : Int64) + (0 : Int64))), .second, .val (.long (wa + (0 : Int64))), .second] []))
      refine GoW.st (fun _ k' => XS.aload X512.here hx rfl (hb hby at_279) rfl rfl k') ?_
      show GoW p e below s _ _ _ _ _ (T512.setTop (mkF m 281 #[.val (.int sa), .val (.long va), .second, .val (.int sb), .val (.long vb), .second, .val (.int ia), .val (.int ib), .val (.long wa), .second, .val (.long wb), .second, .val (.ref b3), .val (.ref b268), .val (.ref b448), .val (.int 0), .val (.int 0), .val (.int 1), .val (.int 0), .val (.int 0), .val (.int 1), .val (.long ((0 : Int64) + (0 : Int64))), .second, .val (.long (wa + (0 : Int64))), .second] [(.ref b448)]))
      obtain ⟨cq513, kq513, q513a, q513b, q513c⟩ := isOf hZ437 eq512 f508
      obtain ⟨_, _, ⟨T513, L513, k513, n513⟩, -, X513, ⟨Lc513, hQ513, l513, y513, z513⟩, st513⟩ := X512.virtualBack hx (y := mn5) (z := mn5) hown437 (mvT hZ437 (wdx hw 115 rfl)) (mvT hZ437 (wdx hw 116 rfl)) (notFace_of_selects (args := #[]) (mvT hZ437 (wdx hw 118 rfl))) (mvT hZ437 (wdx hw 118 rfl)) (mvT hZ437 (wdx hw 117 rfl)) (by decide) (backOf (W := 0) (rm18 l Z a0 hw [] b448 (0 : Int64) T490.heap n0 O490 f495) hZ437 (wdx hw 119 rfl) (wdx hw 54 rfl) (by decide) (by decide)) q513a q513c (g := (mkF m 281 #[.val (.int sa), .val (.long va), .second, .val (.int sb), .val (.long vb), .second, .val (.int ia), .val (.int ib), .val (.long wa), .second, .val (.long wb), .second, .val (.ref b3), .val (.ref b268), .val (.ref b448), .val (.int 0), .val (.int 0), .val (.int 1), .val (.int 0), .val (.int 0), .val (.int 1), .val (.long ((0 : Int64) + (0 : Int64))), .second, .val (.long (wa + (0 : Int64))), .second] [(.ref b448)])) rfl (by rw [hml]; rfl) (Steps.refl _) (argsL := []) (rest := []) (lenOf pd___J rfl) rfl (by show 2 * 0 + _ ≤ _; exact Nat.le_of_eq rfl) (hb hby at_281) (fun _ _ => ⟨rfl, eq512, (by exact lee rfl), (by exact lee rfl)⟩)
      dsimp only [Pt.U, Pt.locs, Pt.cells, Pt.slots] at X513 l513 y513 z513 st513 hQ513
      subst l513 y513 z513
      obtain ⟨rfl, Nq513, eq513⟩ := hQ513
      have N513 := Fr.app N512 Nq513
      refine GoW.tr st513 ?_
      show GoW p e below s _ _ _ _ _ (T513.setTop (mkF m 284 #[.val (.int sa), .val (.long va), .second, .val (.int sb), .val (.long vb), .second, .val (.int ia), .val (.int ib), .val (.long wa), .second, .val (.long wb), .second, .val (.ref b3), .val (.ref b268), .val (.ref b448), .val (.int 0), .val (.int 0), .val (.int 1), .val (.int 0), .val (.int 0), .val (.int 1), .val (.long ((0 : Int64) + (0 : Int64))), .second, .val (.long (wa + (0 : Int64))), .second] [(.long 0)]))
      refine GoW.st (fun _ k' => XS.lload X513.here hx rfl (hb hby at_284) rfl k') ?_
      show GoW p e below s _ _ _ _ _ (T513.setTop (mkF m 286 #[.val (.int sa), .val (.long va), .second, .val (.int sb), .val (.long vb), .second, .val (.int ia), .val (.int ib), .val (.long wa), .second, .val (.long wb), .second, .val (.ref b3), .val (.ref b268), .val (.ref b448), .val (.int 0), .val (.int 0), .val (.int 1), .val (.int 0), .val (.int 0), .val (.int 1), .val (.long ((0 : Int64) + (0 : Int64))), .second, .val (.long (wa + (0 : Int64))), .second] [(.long ((0 : Int64) + (0 : Int64))), (.long 0)]))
      refine GoW.st (fun _ k' => XT.lcmp X513.here hx rfl (hb hby at_286) rfl k') ?_
      show GoW p e below s _ _ _ _ _ (T513.setTop (mkF m 287 #[.val (.int sa), .val (.long va), .second, .val (.int sb), .val (.long vb), .second, .val (.int ia), .val (.int ib), .val (.long wa), .second, .val (.long wb), .second, .val (.ref b3), .val (.ref b268), .val (.ref b448), .val (.int 0), .val (.int 0), .val (.int 1), .val (.int 0), .val (.int 0), .val (.int 1), .val (.long ((0 : Int64) + (0 : Int64))), .second, .val (.long (wa + (0 : Int64))), .second] [(.int (XT.cmpL (0 : Int64) ((0 : Int64) + (0 : Int64))))]))
      refine GoW.st (fun _ k' => XS.ifNo X513.here hx rfl (hb hby at_287) rfl (XT.ll_ne_f (by simp [own_one])) k') ?_
      show GoW p e below s _ _ _ _ _ (T513.setTop (mkF m 290 #[.val (.int sa), .val (.long va), .second, .val (.int sb), .val (.long vb), .second, .val (.int ia), .val (.int ib), .val (.long wa), .second, .val (.long wb), .second, .val (.ref b3), .val (.ref b268), .val (.ref b448), .val (.int 0), .val (.int 0), .val (.int 1), .val (.int 0), .val (.int 0), .val (.int 1), .val (.long ((0 : Int64) + (0 : Int64))), .second, .val (.long (wa + (0 : Int64))), .second] []))
      refine GoW.st (fun _ k' => XS.aload X513.here hx rfl (hb hby at_290) rfl rfl k') ?_
      show GoW p e below s _ _ _ _ _ (T513.setTop (mkF m 292 #[.val (.int sa), .val (.long va), .second, .val (.int sb), .val (.long vb), .second, .val (.int ia), .val (.int ib), .val (.long wa), .second, .val (.long wb), .second, .val (.ref b3), .val (.ref b268), .val (.ref b448), .val (.int 0), .val (.int 0), .val (.int 1), .val (.int 0), .val (.int 0), .val (.int 1), .val (.long ((0 : Int64) + (0 : Int64))), .second, .val (.long (wa + (0 : Int64))), .second] [(.ref b448)]))
      obtain ⟨cq514, kq514, q514a, q514b, q514c⟩ := isOf hZ437 eq513 f508
      obtain ⟨_, _, ⟨T514, L514, k514, n514⟩, -, X514, ⟨Lc514, hQ514, l514, y514, z514⟩, st514⟩ := X513.virtualBack hx (y := mn6) (z := mn6) hown437 (mvT hZ437 (wdx hw 120 rfl)) (mvT hZ437 (wdx hw 121 rfl)) (notFace_of_selects (args := #[]) (mvT hZ437 (wdx hw 123 rfl))) (mvT hZ437 (wdx hw 123 rfl)) (mvT hZ437 (wdx hw 122 rfl)) (by decide) (backOf (W := 0) (rm19 l Z a0 hw [] b448 ((0 : Int64) + (((1 : Int32).toInt64) * wa)) T490.heap n0 O490 f496) hZ437 (wdx hw 124 rfl) (wdx hw 54 rfl) (by decide) (by decide)) q514a q514c (g := (mkF m 292 #[.val (.int sa), .val (.long va), .second, .val (.int sb), .val (.long vb), .second, .val (.int ia), .val (.int ib), .val (.long wa), .second, .val (.long wb), .second, .val (.ref b3), .val (.ref b268), .val (.ref b448), .val (.int 0), .val (.int 0), .val (.int 1), .val (.int 0), .val (.int 0), .val (.int 1), .val (.long ((0 : Int64) + (0 : Int64))), .second, .val (.long (wa + (0 : Int64))), .second] [(.ref b448)])) rfl (by rw [hml]; rfl) (Steps.refl _) (argsL := []) (rest := []) (lenOf pd___J rfl) rfl (by show 2 * 0 + _ ≤ _; exact Nat.le_of_eq rfl) (hb hby at_292) (fun _ _ => ⟨rfl, eq513, (by exact lee rfl), (by exact lee rfl)⟩)
      dsimp only [Pt.U, Pt.locs, Pt.cells, Pt.slots] at X514 l514 y514 z514 st514 hQ514
      subst l514 y514 z514
      obtain ⟨rfl, Nq514, eq514⟩ := hQ514
      have N514 := Fr.app N513 Nq514
      refine GoW.tr st514 ?_
      show GoW p e below s _ _ _ _ _ (T514.setTop (mkF m 295 #[.val (.int sa), .val (.long va), .second, .val (.int sb), .val (.long vb), .second, .val (.int ia), .val (.int ib), .val (.long wa), .second, .val (.long wb), .second, .val (.ref b3), .val (.ref b268), .val (.ref b448), .val (.int 0), .val (.int 0), .val (.int 1), .val (.int 0), .val (.int 0), .val (.int 1), .val (.long ((0 : Int64) + (0 : Int64))), .second, .val (.long (wa + (0 : Int64))), .second] [(.long ((0 : Int64) + (((1 : Int32).toInt64) * wa)))]))
      refine GoW.st (fun _ k' => XS.lload X514.here hx rfl (hb hby at_295) rfl k') ?_
      show GoW p e below s _ _ _ _ _ (T514.setTop (mkF m 297 #[.val (.int sa), .val (.long va), .second, .val (.int sb), .val (.long vb), .second, .val (.int ia), .val (.int ib), .val (.long wa), .second, .val (.long wb), .second, .val (.ref b3), .val (.ref b268), .val (.ref b448), .val (.int 0), .val (.int 0), .val (.int 1), .val (.int 0), .val (.int 0), .val (.int 1), .val (.long ((0 : Int64) + (0 : Int64))), .second, .val (.long (wa + (0 : Int64))), .second] [(.long (wa + (0 : Int64))), (.long ((0 : Int64) + (((1 : Int32).toInt64) * wa)))]))
      refine GoW.st (fun _ k' => XT.lcmp X514.here hx rfl (hb hby at_297) rfl k') ?_
      show GoW p e below s _ _ _ _ _ (T514.setTop (mkF m 298 #[.val (.int sa), .val (.long va), .second, .val (.int sb), .val (.long vb), .second, .val (.int ia), .val (.int ib), .val (.long wa), .second, .val (.long wb), .second, .val (.ref b3), .val (.ref b268), .val (.ref b448), .val (.int 0), .val (.int 0), .val (.int 1), .val (.int 0), .val (.int 0), .val (.int 1), .val (.long ((0 : Int64) + (0 : Int64))), .second, .val (.long (wa + (0 : Int64))), .second] [(.int (XT.cmpL ((0 : Int64) + (((1 : Int32).toInt64) * wa)) (wa + (0 : Int64))))]))
      refine GoW.st (fun _ k' => XS.ifNo X514.here hx rfl (hb hby at_298) rfl (XT.ll_ne_f (by simp [own_one])) k') ?_
      show GoW p e below s _ _ _ _ _ (T514.setTop (mkF m 301 #[.val (.int sa), .val (.long va), .second, .val (.int sb), .val (.long vb), .second, .val (.int ia), .val (.int ib), .val (.long wa), .second, .val (.long wb), .second, .val (.ref b3), .val (.ref b268), .val (.ref b448), .val (.int 0), .val (.int 0), .val (.int 1), .val (.int 0), .val (.int 0), .val (.int 1), .val (.long ((0 : Int64) + (0 : Int64))), .second, .val (.long (wa + (0 : Int64))), .second] []))
      refine GoW.st (fun _ k' => XS.iconst X514.here hx rfl (hb hby at_301) k') ?_
      show GoW p e below s _ _ _ _ _ (T514.setTop (mkF m 302 #[.val (.int sa), .val (.long va), .second, .val (.int sb), .val (.long vb), .second, .val (.int ia), .val (.int ib), .val (.long wa), .second, .val (.long wb), .second, .val (.ref b3), .val (.ref b268), .val (.ref b448), .val (.int 0), .val (.int 0), .val (.int 1), .val (.int 0), .val (.int 0), .val (.int 1), .val (.long ((0 : Int64) + (0 : Int64))), .second, .val (.long (wa + (0 : Int64))), .second] [(.int 1)]))
      refine GoW.st (fun _ k' => XS.goto X514.here hx rfl (pc0 := 302) (pc' := 306) rfl (hb hby at_302) (by decide) (by decide) k') ?_
      show GoW p e below s _ _ _ _ _ (T514.setTop (mkF m 306 #[.val (.int sa), .val (.long va), .second, .val (.int sb), .val (.long vb), .second, .val (.int ia), .val (.int ib), .val (.long wa), .second, .val (.long wb), .second, .val (.ref b3), .val (.ref b268), .val (.ref b448), .val (.int 0), .val (.int 0), .val (.int 1), .val (.int 0), .val (.int 0), .val (.int 1), .val (.long ((0 : Int64) + (0 : Int64))), .second, .val (.long (wa + (0 : Int64))), .second] [(.int 1)]))
      refine GoW.retB X514 hx hlk hS437 (by rw [eq514]; exact hk490) hZ437 hEL CH490 (t := .boolean) Bd.returns (by simp) (hb hby at_306) (by decide) (by decide) eq514 ?_
      exact ⟨rfl, N514, trivial⟩
  · show GoW p e below s _ _ _ _ _ (T8.setTop (mkF m 41 #[.val (.int sa), .val (.long va), .second, .val (.int sb), .val (.long vb), .second, .val (.int ia), .val (.int ib), .val (.long wa), .second, .val (.long wb), .second, .unset, .unset, .unset, .unset, .unset, .unset, .unset, .unset, .unset, .unset, .unset, .unset, .unset] [(.ref hsa), .null, (.ref b3), (.ref b3)]))
    refine GoW.st (fun _ k' => XS.lload X8.here hx rfl (hb hby at_41) rfl k') ?_
    show GoW p e below s _ _ _ _ _ (T8.setTop (mkF m 43 #[.val (.int sa), .val (.long va), .second, .val (.int sb), .val (.long vb), .second, .val (.int ia), .val (.int ib), .val (.long wa), .second, .val (.long wb), .second, .unset, .unset, .unset, .unset, .unset, .unset, .unset, .unset, .unset, .unset, .unset, .unset, .unset] [(.long wa), (.ref hsa), .null, (.ref b3), (.ref b3)]))
    obtain ⟨_, _, ⟨T515, L515, k515, n515⟩, -, Xr515, hSr515, hgr515, ⟨Lc515, hQ515, l515, y515, z515, C515⟩, st515⟩ := X8.specialBackS hx (y := mn7) rfl hown (mvT hZ (wdx hw 19 rfl)) (mvT hZ (wdx hw 20 rfl)) (mvT hZ (wdx hw 21 rfl)) (by decide) (own_back (W := 1) (rm4 l Z a0 hw [] b3 hsa wa h3 n0 O3 A3 f5 f6 f7 E_hsa g_b3 qwa rwa) hZ (wdx hw 21 rfl) (wdx hw 12 rfl) (by decide) (by decide) hEL CH3.1 (allS ⟨A3.lt, f4⟩ all0)) (g := (mkF m 43 #[.val (.int sa), .val (.long va), .second, .val (.int sb), .val (.long vb), .second, .val (.int ia), .val (.int ib), .val (.long wa), .second, .val (.long wb), .second, .unset, .unset, .unset, .unset, .unset, .unset, .unset, .unset, .unset, .unset, .unset, .unset, .unset] [(.long wa), (.ref hsa), .null, (.ref b3), (.ref b3)])) rfl (by rw [hml]; rfl) (Steps.refl _) (a := b3) (argsL := [.null, (.ref hsa), (.long wa)]) (rest := [(.ref b3)]) (lenOf pd__Lcom_example_spillway_spillway_assignment_EndpointAddress_Lcom_example_spillway_spillway_assignment_HealthStatus_J_V rfl) rfl (by show 2 * 0 + _ ≤ _; exact Nat.le_of_eq rfl) (hb hby at_43) (fun _ _ => ⟨rfl, eq8, (by exact lee rfl), (by exact lee rfl)⟩)
    dsimp only [Pt.U, Pt.locs, Pt.cells, Pt.slots] at Xr515 hSr515 hgr515 l515 y515 z515 C515 st515 hQ515
    subst l515 y515 z515
    obtain ⟨X515, hS515, hZ515, hown515⟩ := rebS hS0 (by rw [eq8]; exact hk3) Xr515 hSr515 hgr515 hZ hown
    obtain ⟨rfl, Nq515, Kq515, f516, f517⟩ := hQ515
    have N515 := Fr.app N8 Nq515
    refine GoW.tr st515 ?_
    have f518 : Safe Z EL T515.vm T515.heap b3 := C515.safe A3.lt f4
    have f519 : Exa Z T515.heap b3 "com/example/spillway/spillway/assignment/Endpoint" := A3.keep Kq515
    have f520 : Exa Z T515.heap hsa "com/example/spillway/spillway/assignment/HealthStatus" := E_hsa.keep Kq515
    have CH515 : CHr Z EL s.vm s.heap T515.vm T515.heap := CH3.trans C515
    have O515 : Old Z n0 T515.heap := O3.keep Kq515 (allS g_b3 all0)
    show GoW p e below s _ _ _ _ _ (T515.setTop (mkF m 46 #[.val (.int sa), .val (.long va), .second, .val (.int sb), .val (.long vb), .second, .val (.int ia), .val (.int ib), .val (.long wa), .second, .val (.long wb), .second, .unset, .unset, .unset, .unset, .unset, .unset, .unset, .unset, .unset, .unset, .unset, .unset, .unset] [(.ref b3)]))
    refine GoW.st (fun _ k' => XS.astore X515.here hx rfl (hb hby at_46) rfl rfl (l' := #[.val (.int sa), .val (.long va), .second, .val (.int sb), .val (.long vb), .second, .val (.int ia), .val (.int ib), .val (.long wa), .second, .val (.long wb), .second, .val (.ref b3), .unset, .unset, .unset, .unset, .unset, .unset, .unset, .unset, .unset, .unset, .unset, .unset]) rfl k') ?_
    show GoW p e below s _ _ _ _ _ (T515.setTop (mkF m 48 #[.val (.int sa), .val (.long va), .second, .val (.int sb), .val (.long vb), .second, .val (.int ia), .val (.int ib), .val (.long wa), .second, .val (.long wb), .second, .val (.ref b3), .unset, .unset, .unset, .unset, .unset, .unset, .unset, .unset, .unset, .unset, .unset, .unset] []))
    obtain ⟨T521, h521, X521, e521, E521, A521, D521, -, st521⟩ := newO X515 hx hZ515 hown515 (wdx hw 10 rfl) (wdx hw 11 rfl) (wdx hw 12 rfl) rfl (g := (mkF m 48 #[.val (.int sa), .val (.long va), .second, .val (.int sb), .val (.long vb), .second, .val (.int ia), .val (.int ib), .val (.long wa), .second, .val (.long wb), .second, .val (.ref b3), .unset, .unset, .unset, .unset, .unset, .unset, .unset, .unset, .unset, .unset, .unset, .unset] [])) rfl (hb hby at_48) (by decide) (by decide)
    obtain ⟨b521, g521⟩ : ∃ z, z = T515.heap.size := ⟨_, rfl⟩
    rw [← g521] at A521 D521 st521
    refine GoW.st st521 ?_
    have g_b521 : n0 ≤ b521 := Nat.le_trans (own_le O515) (Nat.le_of_eq g521.symm)
    have sf_b521 : Safe Z EL T515.vm T515.heap b521 := Safe.new (Nat.le_of_eq g521.symm)
    have ne522 : b3 ≠ b521 := Nat.ne_of_lt (Nat.lt_of_lt_of_le f519.lt (Nat.le_of_eq g521.symm))
    have ne523 : hsa ≠ b521 := Nat.ne_of_lt (Nat.lt_of_lt_of_le f520.lt (Nat.le_of_eq g521.symm))
    have f524 : Safe Z EL T515.vm h521 b3 := Safe.ext E521 CH515.1 f518
    have f525 : Exa Z h521 b3 "com/example/spillway/spillway/assignment/Endpoint" := f519.ext E521
    have f526 : Exa Z h521 hsa "com/example/spillway/spillway/assignment/HealthStatus" := f520.ext E521
    have f527 : Fld Z h521 b3 "com/example/spillway/spillway/assignment/Endpoint" "health" "Lcom/example/spillway/spillway/assignment/HealthStatus;" (.ref hsa) := f516.ext E521
    have f528 : Fld Z h521 b3 "com/example/spillway/spillway/assignment/Endpoint" "loadBalancingWeight" "J" (.long wa) := f517.ext E521
    have f529 : Safe Z EL T515.vm h521 b521 := Safe.ext E521 CH515.1 sf_b521
    have CH521 : CHr Z EL s.vm s.heap T515.vm h521 := CH515.trans (CHr.ext E521 CH515.1)
    have hk521 : Array.size T515.heap ≤ Array.size h521 := Nat.le_trans (Nat.le_refl _) E521.1
    have O521 : Old Z n0 h521 := O515.ext E521
    have f530 : Fld Z h521 b521 "com/example/spillway/spillway/assignment/Endpoint" "address" "Lcom/example/spillway/spillway/assignment/EndpointAddress;" .null := D521 (Or.inr (wdx hw 31 rfl)) (ty := (.object "com/example/spillway/spillway/assignment/EndpointAddress")) (by decide)
    have f531 : Fld Z h521 b521 "com/example/spillway/spillway/assignment/Endpoint" "health" "Lcom/example/spillway/spillway/assignment/HealthStatus;" .null := D521 (Or.inr (wdx hw 47 rfl)) (ty := (.object "com/example/spillway/spillway/assignment/HealthStatus")) (by decide)
    have f532 : Fld Z h521 b521 "com/example/spillway/spillway/assignment/Endpoint" "loadBalancingWeight" "J" (.long 0) := D521 (Or.inr (wdx hw 49 rfl)) (ty := .long) (by decide)
    show GoW p e below s _ _ _ _ _ (T521.setTop (mkF m 51 #[.val (.int sa), .val (.long va), .second, .val (.int sb), .val (.long vb), .second, .val (.int ia), .val (.int ib), .val (.long wa), .second, .val (.long wb), .second, .val (.ref b3), .unset, .unset, .unset, .unset, .unset, .unset, .unset, .unset, .unset, .unset, .unset, .unset] [(.ref b521)]))
    refine GoW.st (fun _ k' => XS.dup X521.here hx rfl (hb hby at_51) rfl rfl k') ?_
    refine GoW.st (fun _ k' => XS.aconstNull X521.here hx rfl (hb hby at_52) k') ?_
    refine GoW.st (fun _ k' => XS.iload X521.here hx rfl (hb hby at_53) rfl k') ?_
    show GoW p e below s _ _ _ _ _ (T521.setTop (mkF m 55 #[.val (.int sa), .val (.long va), .second, .val (.int sb), .val (.long vb), .second, .val (.int ia), .val (.int ib), .val (.long wa), .second, .val (.long wb), .second, .val (.ref b3), .unset, .unset, .unset, .unset, .unset, .unset, .unset, .unset, .unset, .unset, .unset, .unset] [(.int ib), .null, (.ref b521), (.ref b521)]))
    obtain ⟨_, _, ⟨T533, L533, k533, n533⟩, -, X533, ⟨Lc533, hQ533, l533, y533, z533⟩, st533⟩ := Jvm.LawKit.callS X521 hx (y := mn13) hown515 (mvT hZ515 (wdx hw 13 rfl)) (mvT hZ515 (wdx hw 14 rfl)) (mvT hZ515 (wdx hw 3 rfl)) (mvT hZ515 (wdx hw 15 rfl)) (by decide) (backOf (W := 3) (rm3 l Z a0 hw [] ib a_UNKNOWN a_HEALTHY a_UNHEALTHY a_DRAINING a_TIMEOUT a_DEGRADED h521 n0 O521 S_UNKNOWN S_HEALTHY S_UNHEALTHY S_DRAINING S_TIMEOUT S_DEGRADED) hZ515 (wdx hw 15 rfl) (wdx hw 3 rfl) (by decide) (by decide)) (g := (mkF m 55 #[.val (.int sa), .val (.long va), .second, .val (.int sb), .val (.long vb), .second, .val (.int ia), .val (.int ib), .val (.long wa), .second, .val (.long wb), .second, .val (.ref b3), .unset, .unset, .unset, .unset, .unset, .unset, .unset, .unset, .unset, .unset, .unset, .unset] [(.int ib), .null, (.ref b521), (.ref b521)])) rfl (by rw [hml]; rfl) (argsL := [(.int ib)]) (rest := [.null, (.ref b521), (.ref b521)]) (lenOf pd__I_Lcom_example_spillway_spillway_assignment_HealthStatus_ rfl) rfl (by show 2 * 0 + _ ≤ _; exact Nat.le_of_eq rfl) (hb hby at_55) (fun _ _ => ⟨rfl, e521, (by exact lee rfl), (by exact lee rfl)⟩)
    dsimp only [Pt.U, Pt.locs, Pt.cells, Pt.slots] at X533 l533 y533 z533 st533 hQ533
    subst l533 y533 z533
    obtain ⟨rfl, Nq533, eq533⟩ := hQ533
    have N533 := Fr.app N515 Nq533
    refine GoW.st st533 ?_
    show GoW p e below s _ _ _ _ _ (T533.setTop (mkF m 58 #[.val (.int sa), .val (.long va), .second, .val (.int sb), .val (.long vb), .second, .val (.int ia), .val (.int ib), .val (.long wa), .second, .val (.long wb), .second, .val (.ref b3), .unset, .unset, .unset, .unset, .unset, .unset, .unset, .unset, .unset, .unset, .unset, .unset] [(.ref (fpick ib a_UNKNOWN a_HEALTHY a_UNHEALTHY a_DRAINING a_TIMEOUT a_DEGRADED)), .null, (.ref b521), (.ref b521)]))
    obtain ⟨hsb, hd_hsb⟩ : ∃ z, z = (fpick ib a_UNKNOWN a_HEALTHY a_UNHEALTHY a_DRAINING a_TIMEOUT a_DEGRADED) := ⟨_, rfl⟩
    rw [← hd_hsb]
    have E_hsb := (own_Ep ib a_UNKNOWN a_HEALTHY a_UNHEALTHY a_DRAINING a_TIMEOUT a_DEGRADED E_UNKNOWN E_HEALTHY E_UNHEALTHY E_DRAINING E_TIMEOUT E_DEGRADED).ext O521.2
    rw [← hd_hsb] at E_hsb
    have kd_hsb := own_kind ib bib a_UNKNOWN a_HEALTHY a_UNHEALTHY a_DRAINING a_TIMEOUT a_DEGRADED n_UNKNOWN_HEALTHY n_UNKNOWN_DEGRADED n_HEALTHY_UNKNOWN n_HEALTHY_DEGRADED n_UNHEALTHY_HEALTHY n_UNHEALTHY_UNKNOWN n_UNHEALTHY_DEGRADED n_DRAINING_HEALTHY n_DRAINING_UNKNOWN n_DRAINING_DEGRADED n_TIMEOUT_HEALTHY n_TIMEOUT_UNKNOWN n_TIMEOUT_DEGRADED n_DEGRADED_HEALTHY n_DEGRADED_UNKNOWN
    rw [← hd_hsb] at kd_hsb
    rcases kd_hsb with ⟨khsb_0, khsb_1, khsb_2⟩ | ⟨khsb_0, khsb_1, khsb_2, khsb_3⟩ | ⟨khsb_0, khsb_1, khsb_2, khsb_3⟩
    · show GoW p e below s _ _ _ _ _ (T533.setTop (mkF m 58 #[.val (.int sa), .val (.long va), .second, .val (.int sb), .val (.long vb), .second, .val (.int ia), .val (.int ib), .val (.long wa), .second, .val (.long wb), .second, .val (.ref b3), .unset, .unset, .unset, .unset, .unset, .unset, .unset, .unset, .unset, .unset, .unset, .unset] [(.ref hsb), .null, (.ref b521), (.ref b521)]))
      refine GoW.st (fun _ k' => XS.lload X533.here hx rfl (hb hby at_58) rfl k') ?_
      show GoW p e below s _ _ _ _ _ (T533.setTop (mkF m 60 #[.val (.int sa), .val (.long va), .second, .val (.int sb), .val (.long vb), .second, .val (.int ia), .val (.int ib), .val (.long wa), .second, .val (.long wb), .second, .val (.ref b3), .unset, .unset, .unset, .unset, .unset, .unset, .unset, .unset, .unset, .unset, .unset, .unset] [(.long wb), (.ref hsb), .null, (.ref b521), (.ref b521)]))
      obtain ⟨_, _, ⟨T534, L534, k534, n534⟩, -, Xr534, hSr534, hgr534, ⟨Lc534, hQ534, l534, y534, z534, C534⟩, st534⟩ := X533.specialBackS hx (y := mn7) rfl hown515 (mvT hZ515 (wdx hw 19 rfl)) (mvT hZ515 (wdx hw 20 rfl)) (mvT hZ515 (wdx hw 21 rfl)) (by decide) (own_back (W := 1) (rm4 l Z a0 hw [] b521 hsb wb h521 n0 O521 A521 f530 f531 f532 E_hsb g_b521 qwb rwb) hZ515 (wdx hw 21 rfl) (wdx hw 12 rfl) (by decide) (by decide) hEL CH521.1 (allS ⟨A521.lt, f529⟩ all0)) (g := (mkF m 60 #[.val (.int sa), .val (.long va), .second, .val (.int sb), .val (.long vb), .second, .val (.int ia), .val (.int ib), .val (.long wa), .second, .val (.long wb), .second, .val (.ref b3), .unset, .unset, .unset, .unset, .unset, .unset, .unset, .unset, .unset, .unset, .unset, .unset] [(.long wb), (.ref hsb), .null, (.ref b521), (.ref b521)])) rfl (by rw [hml]; rfl) (Steps.refl _) (a := b521) (argsL := [.null, (.ref hsb), (.long wb)]) (rest := [(.ref b521)]) (lenOf pd__Lcom_example_spillway_spillway_assignment_EndpointAddress_Lcom_example_spillway_spillway_assignment_HealthStatus_J_V rfl) rfl (by show 2 * 0 + _ ≤ _; exact Nat.le_of_eq rfl) (hb hby at_60) (fun _ _ => ⟨rfl, eq533, (by exact lee rfl), (by exact lee rfl)⟩)
      dsimp only [Pt.U, Pt.locs, Pt.cells, Pt.slots] at Xr534 hSr534 hgr534 l534 y534 z534 C534 st534 hQ534
      subst l534 y534 z534
      obtain ⟨X534, hS534, hZ534, hown534⟩ := rebS hS515 (by rw [eq533]; exact hk521) Xr534 hSr534 hgr534 hZ515 hown515
      obtain ⟨rfl, Nq534, Kq534, f535, f536⟩ := hQ534
      have N534 := Fr.app N533 Nq534
      refine GoW.tr st534 ?_
      have f537 : Safe Z EL T534.vm T534.heap b3 := C534.safe f525.lt f524
      have f538 : Exa Z T534.heap b3 "com/example/spillway/spillway/assignment/Endpoint" := f525.keep Kq534
      have f539 : Exa Z T534.heap hsa "com/example/spillway/spillway/assignment/HealthStatus" := f526.keep Kq534
      have f540 : Fld Z T534.heap b3 "com/example/spillway/spillway/assignment/Endpoint" "health" "Lcom/example/spillway/spillway/assignment/HealthStatus;" (.ref hsa) := f527.keep Kq534 (ninS ne522 nin0)
      have f541 : Fld Z T534.heap b3 "com/example/spillway/spillway/assignment/Endpoint" "loadBalancingWeight" "J" (.long wa) := f528.keep Kq534 (ninS ne522 nin0)
      have f542 : Safe Z EL T534.vm T534.heap b521 := C534.safe A521.lt f529
      have f543 : Exa Z T534.heap b521 "com/example/spillway/spillway/assignment/Endpoint" := A521.keep Kq534
      have f544 : Exa Z T534.heap hsb "com/example/spillway/spillway/assignment/HealthStatus" := E_hsb.keep Kq534
      have CH534 : CHr Z EL s.vm s.heap T534.vm T534.heap := CH521.trans C534
      have O534 : Old Z n0 T534.heap := O521.keep Kq534 (allS g_b521 all0)
      show GoW p e below s _ _ _ _ _ (T534.setTop (mkF m 63 #[.val (.int sa), .val (.long va), .second, .val (.int sb), .val (.long vb), .second, .val (.int ia), .val (.int ib), .val (.long wa), .second, .val (.long wb), .second, .val (.ref b3), .unset, .unset, .unset, .unset, .unset, .unset, .unset, .unset, .unset, .unset, .unset, .unset] [(.ref b521)]))
      refine GoW.st (fun _ k' => XS.astore X534.here hx rfl (hb hby at_63) rfl rfl (l' := #[.val (.int sa), .val (.long va), .second, .val (.int sb), .val (.long vb), .second, .val (.int ia), .val (.int ib), .val (.long wa), .second, .val (.long wb), .second, .val (.ref b3), .val (.ref b521), .unset, .unset, .unset, .unset, .unset, .unset, .unset, .unset, .unset, .unset, .unset]) rfl k') ?_
      show GoW p e below s _ _ _ _ _ (T534.setTop (mkF m 65 #[.val (.int sa), .val (.long va), .second, .val (.int sb), .val (.long vb), .second, .val (.int ia), .val (.int ib), .val (.long wa), .second, .val (.long wb), .second, .val (.ref b3), .val (.ref b521), .unset, .unset, .unset, .unset, .unset, .unset, .unset, .unset, .unset, .unset, .unset] []))
      obtain ⟨T545, h545, X545, e545, E545, A545, D545, -, st545⟩ := newO X534 hx hZ534 hown534 (wdx hw 52 rfl) (wdx hw 53 rfl) (wdx hw 54 rfl) rfl (g := (mkF m 65 #[.val (.int sa), .val (.long va), .second, .val (.int sb), .val (.long vb), .second, .val (.int ia), .val (.int ib), .val (.long wa), .second, .val (.long wb), .second, .val (.ref b3), .val (.ref b521), .unset, .unset, .unset, .unset, .unset, .unset, .unset, .unset, .unset, .unset, .unset] [])) rfl (hb hby at_65) (by decide) (by decide)
      obtain ⟨b545, g545⟩ : ∃ z, z = T534.heap.size := ⟨_, rfl⟩
      rw [← g545] at A545 D545 st545
      refine GoW.st st545 ?_
      have g_b545 : n0 ≤ b545 := Nat.le_trans (own_le O534) (Nat.le_of_eq g545.symm)
      have sf_b545 : Safe Z EL T534.vm T534.heap b545 := Safe.new (Nat.le_of_eq g545.symm)
      have ne546 : b3 ≠ b545 := Nat.ne_of_lt (Nat.lt_of_lt_of_le f538.lt (Nat.le_of_eq g545.symm))
      have ne547 : hsa ≠ b545 := Nat.ne_of_lt (Nat.lt_of_lt_of_le f539.lt (Nat.le_of_eq g545.symm))
      have ne548 : b521 ≠ b545 := Nat.ne_of_lt (Nat.lt_of_lt_of_le f543.lt (Nat.le_of_eq g545.symm))
      have ne549 : hsb ≠ b545 := Nat.ne_of_lt (Nat.lt_of_lt_of_le f544.lt (Nat.le_of_eq g545.symm))
      have f550 : Safe Z EL T534.vm h545 b3 := Safe.ext E545 CH534.1 f537
      have f551 : Exa Z h545 b3 "com/example/spillway/spillway/assignment/Endpoint" := f538.ext E545
      have f552 : Exa Z h545 hsa "com/example/spillway/spillway/assignment/HealthStatus" := f539.ext E545
      have f553 : Fld Z h545 b3 "com/example/spillway/spillway/assignment/Endpoint" "health" "Lcom/example/spillway/spillway/assignment/HealthStatus;" (.ref hsa) := f540.ext E545
      have f554 : Fld Z h545 b3 "com/example/spillway/spillway/assignment/Endpoint" "loadBalancingWeight" "J" (.long wa) := f541.ext E545
      have f555 : Safe Z EL T534.vm h545 b521 := Safe.ext E545 CH534.1 f542
      have f556 : Exa Z h545 b521 "com/example/spillway/spillway/assignment/Endpoint" := f543.ext E545
      have f557 : Exa Z h545 hsb "com/example/spillway/spillway/assignment/HealthStatus" := f544.ext E545
      have f558 : Fld Z h545 b521 "com/example/spillway/spillway/assignment/Endpoint" "health" "Lcom/example/spillway/spillway/assignment/HealthStatus;" (.ref hsb) := f535.ext E545
      have f559 : Fld Z h545 b521 "com/example/spillway/spillway/assignment/Endpoint" "loadBalancingWeight" "J" (.long wb) := f536.ext E545
      have f560 : Safe Z EL T534.vm h545 b545 := Safe.ext E545 CH534.1 sf_b545
      have CH545 : CHr Z EL s.vm s.heap T534.vm h545 := CH534.trans (CHr.ext E545 CH534.1)
      have hk545 : Array.size T534.heap ≤ Array.size h545 := Nat.le_trans (Nat.le_refl _) E545.1
      have O545 : Old Z n0 h545 := O534.ext E545
      have f561 : Fld Z h545 b545 "com/example/spillway/spillway/assignment/HealthTally" "hosts" "I" (.int 0) := D545 (Or.inl (wdx hw 74 rfl)) (ty := .int) (by decide)
      have f562 : Fld Z h545 b545 "com/example/spillway/spillway/assignment/HealthTally" "hostWeight" "J" (.long 0) := D545 (Or.inl (wdx hw 76 rfl)) (ty := .long) (by decide)
      have f563 : Fld Z h545 b545 "com/example/spillway/spillway/assignment/HealthTally" "healthy" "I" (.int 0) := D545 (Or.inl (wdx hw 90 rfl)) (ty := .int) (by decide)
      have f564 : Fld Z h545 b545 "com/example/spillway/spillway/assignment/HealthTally" "healthyWeight" "J" (.long 0) := D545 (Or.inl (wdx hw 92 rfl)) (ty := .long) (by decide)
      have f565 : Fld Z h545 b545 "com/example/spillway/spillway/assignment/HealthTally" "degraded" "I" (.int 0) := D545 (Or.inl (wdx hw 109 rfl)) (ty := .int) (by decide)
      have f566 : Fld Z h545 b545 "com/example/spillway/spillway/assignment/HealthTally" "degradedWeight" "J" (.long 0) := D545 (Or.inl (wdx hw 126 rfl)) (ty := .long) (by decide)
      show GoW p e below s _ _ _ _ _ (T545.setTop (mkF m 68 #[.val (.int sa), .val (.long va), .second, .val (.int sb), .val (.long vb), .second, .val (.int ia), .val (.int ib), .val (.long wa), .second, .val (.long wb), .second, .val (.ref b3), .val (.ref b521), .unset, .unset, .unset, .unset, .unset, .unset, .unset, .unset, .unset, .unset, .unset] [(.ref b545)]))
      refine GoW.st (fun _ k' => XS.dup X545.here hx rfl (hb hby at_68) rfl rfl k') ?_
      show GoW p e below s _ _ _ _ _ (T545.setTop (mkF m 69 #[.val (.int sa), .val (.long va), .second, .val (.int sb), .val (.long vb), .second, .val (.int ia), .val (.int ib), .val (.long wa), .second, .val (.long wb), .second, .val (.ref b3), .val (.ref b521), .unset, .unset, .unset, .unset, .unset, .unset, .unset, .unset, .unset, .unset, .unset] [(.ref b545), (.ref b545)]))
      obtain ⟨_, _, ⟨T567, L567, k567, n567⟩, -, X567, ⟨Lc567, hQ567, l567, y567, z567⟩, st567⟩ := X545.specialBack hx (y := mn9) rfl hown534 (mvT hZ534 (wdx hw 55 rfl)) (mvT hZ534 (wdx hw 56 rfl)) (mvT hZ534 (wdx hw 57 rfl)) (by decide) (backOf (W := 1) (rm8 l Z a0 hw [] b545 h545 n0 O545 ) hZ534 (wdx hw 57 rfl) (wdx hw 54 rfl) (by decide) (by decide)) (g := (mkF m 69 #[.val (.int sa), .val (.long va), .second, .val (.int sb), .val (.long vb), .second, .val (.int ia), .val (.int ib), .val (.long wa), .second, .val (.long wb), .second, .val (.ref b3), .val (.ref b521), .unset, .unset, .unset, .unset, .unset, .unset, .unset, .unset, .unset, .unset, .unset] [(.ref b545), (.ref b545)])) rfl (by rw [hml]; rfl) (Steps.refl _) (a := b545) (argsL := []) (rest := [(.ref b545)]) (lenOf pd___V rfl) rfl (by show 2 * 0 + _ ≤ _; exact Nat.le_of_eq rfl) (hb hby at_69) (fun _ _ => ⟨rfl, e545, (by exact lee rfl), (by exact lee rfl)⟩)
      dsimp only [Pt.U, Pt.locs, Pt.cells, Pt.slots] at X567 l567 y567 z567 st567 hQ567
      subst l567 y567 z567
      obtain ⟨rfl, Nq567, eq567⟩ := hQ567
      have N567 := Fr.app N534 Nq567
      refine GoW.tr st567 ?_
      show GoW p e below s _ _ _ _ _ (T567.setTop (mkF m 72 #[.val (.int sa), .val (.long va), .second, .val (.int sb), .val (.long vb), .second, .val (.int ia), .val (.int ib), .val (.long wa), .second, .val (.long wb), .second, .val (.ref b3), .val (.ref b521), .unset, .unset, .unset, .unset, .unset, .unset, .unset, .unset, .unset, .unset, .unset] [(.ref b545)]))
      refine GoW.st (fun _ k' => XS.astore X567.here hx rfl (hb hby at_72) rfl rfl (l' := #[.val (.int sa), .val (.long va), .second, .val (.int sb), .val (.long vb), .second, .val (.int ia), .val (.int ib), .val (.long wa), .second, .val (.long wb), .second, .val (.ref b3), .val (.ref b521), .val (.ref b545), .unset, .unset, .unset, .unset, .unset, .unset, .unset, .unset, .unset, .unset]) rfl k') ?_
      refine GoW.st (fun _ k' => XS.aload X567.here hx rfl (hb hby at_74) rfl rfl k') ?_
      refine GoW.st (fun _ k' => XS.aload X567.here hx rfl (hb hby at_76) rfl rfl k') ?_
      show GoW p e below s _ _ _ _ _ (T567.setTop (mkF m 78 #[.val (.int sa), .val (.long va), .second, .val (.int sb), .val (.long vb), .second, .val (.int ia), .val (.int ib), .val (.long wa), .second, .val (.long wb), .second, .val (.ref b3), .val (.ref b521), .val (.ref b545), .unset, .unset, .unset, .unset, .unset, .unset, .unset, .unset, .unset, .unset] [(.ref b3), (.ref b545)]))
      obtain ⟨cq568, kq568, q568a, q568b, q568c⟩ := isOf hZ534 eq567 A545
      obtain ⟨_, _, ⟨T568, L568, k568, n568⟩, -, X568, ⟨Lc568, hQ568, l568, y568, z568⟩, st568⟩ := X567.virtualBack hx (y := mn0) (z := mn0) hown534 (mvT hZ534 (wdx hw 59 rfl)) (mvT hZ534 (wdx hw 60 rfl)) (notFace_of_selects (args := #[]) (mvT hZ534 (wdx hw 62 rfl))) (mvT hZ534 (wdx hw 62 rfl)) (mvT hZ534 (wdx hw 61 rfl)) (by decide) (backOf (W := 0) (rm9_o l Z a0 hw [] b545 b3 (0 : Int32) (0 : Int32) (0 : Int32) (0 : Int64) (0 : Int64) (0 : Int64) hsa wa a_UNKNOWN a_HEALTHY a_DEGRADED h545 n0 O545 A545 f561 f563 f565 f562 f564 f566 f551 f553 f554 f552 S_UNKNOWN S_HEALTHY S_DEGRADED g_b545 (Ne.symm ne546) khsa_2 khsa_3) hZ534 (wdx hw 63 rfl) (wdx hw 54 rfl) (by decide) (by decide)) q568a q568c (g := (mkF m 78 #[.val (.int sa), .val (.long va), .second, .val (.int sb), .val (.long vb), .second, .val (.int ia), .val (.int ib), .val (.long wa), .second, .val (.long wb), .second, .val (.ref b3), .val (.ref b521), .val (.ref b545), .unset, .unset, .unset, .unset, .unset, .unset, .unset, .unset, .unset, .unset] [(.ref b3), (.ref b545)])) rfl (by rw [hml]; rfl) (Steps.refl _) (argsL := [(.ref b3)]) (rest := []) (lenOf pd__Lcom_example_spillway_spillway_assignment_Endpoint__V rfl) rfl (by show 2 * 0 + _ ≤ _; exact Nat.le_of_eq rfl) (hb hby at_78) (fun _ _ => ⟨rfl, eq567, (by exact lee rfl), (by exact lee rfl)⟩)
      dsimp only [Pt.U, Pt.locs, Pt.cells, Pt.slots] at X568 l568 y568 z568 st568 hQ568
      subst l568 y568 z568
      obtain ⟨rfl, Nq568, Kq568, f569, f570, f571, f572, f573, f574⟩ := hQ568
      have N568 := Fr.app N567 Nq568
      refine GoW.tr st568 ?_
      have f575 : Safe Z EL T534.vm T568.heap b3 := Safe.keep Kq568 (allS f560 all0) CH545.1 f550
      have f576 : Exa Z T568.heap b3 "com/example/spillway/spillway/assignment/Endpoint" := f551.keep Kq568
      have f577 : Exa Z T568.heap hsa "com/example/spillway/spillway/assignment/HealthStatus" := f552.keep Kq568
      have f578 : Fld Z T568.heap b3 "com/example/spillway/spillway/assignment/Endpoint" "health" "Lcom/example/spillway/spillway/assignment/HealthStatus;" (.ref hsa) := f553.keep Kq568 (ninS ne546 nin0)
      have f579 : Fld Z T568.heap b3 "com/example/spillway/spillway/assignment/Endpoint" "loadBalancingWeight" "J" (.long wa) := f554.keep Kq568 (ninS ne546 nin0)
      have f580 : Safe Z EL T534.vm T568.heap b521 := Safe.keep Kq568 (allS f560 all0) CH545.1 f555
      have f581 : Exa Z T568.heap b521 "com/example/spillway/spillway/assignment/Endpoint" := f556.keep Kq568
      have f582 : Exa Z T568.heap hsb "com/example/spillway/spillway/assignment/HealthStatus" := f557.keep Kq568
      have f583 : Fld Z T568.heap b521 "com/example/spillway/spillway/assignment/Endpoint" "health" "Lcom/example/spillway/spillway/assignment/HealthStatus;" (.ref hsb) := f558.keep Kq568 (ninS ne548 nin0)
      have f584 : Fld Z T568.heap b521 "com/example/spillway/spillway/assignment/Endpoint" "loadBalancingWeight" "J" (.long wb) := f559.keep Kq568 (ninS ne548 nin0)
      have f585 : Safe Z EL T534.vm T568.heap b545 := Safe.keep Kq568 (allS f560 all0) CH545.1 f560
      have f586 : Exa Z T568.heap b545 "com/example/spillway/spillway/assignment/HealthTally" := A545.keep Kq568
      have CH568 : CHr Z EL s.vm s.heap T534.vm T568.heap := CH545.trans (CHr.keep Kq568 (allS f560 all0) CH545.1)
      have hk568 : Array.size T534.heap ≤ Array.size T568.heap := Nat.le_trans hk545 Kq568.1
      have O568 : Old Z n0 T568.heap := O545.keep Kq568 (allS g_b545 all0)
      show GoW p e below s _ _ _ _ _ (T568.setTop (mkF m 81 #[.val (.int sa), .val (.long va), .second, .val (.int sb), .val (.long vb), .second, .val (.int ia), .val (.int ib), .val (.long wa), .second, .val (.long wb), .second, .val (.ref b3), .val (.ref b521), .val (.ref b545), .unset, .unset, .unset, .unset, .unset, .unset, .unset, .unset, .unset, .unset] []))
      refine GoW.st (fun _ k' => XS.aload X568.here hx rfl (hb hby at_81) rfl rfl k') ?_
      refine GoW.st (fun _ k' => XS.aload X568.here hx rfl (hb hby at_83) rfl rfl k') ?_
      show GoW p e below s _ _ _ _ _ (T568.setTop (mkF m 85 #[.val (.int sa), .val (.long va), .second, .val (.int sb), .val (.long vb), .second, .val (.int ia), .val (.int ib), .val (.long wa), .second, .val (.long wb), .second, .val (.ref b3), .val (.ref b521), .val (.ref b545), .unset, .unset, .unset, .unset, .unset, .unset, .unset, .unset, .unset, .unset] [(.ref b521), (.ref b545)]))
      obtain ⟨cq587, kq587, q587a, q587b, q587c⟩ := isOf hZ534 rfl f586
      obtain ⟨_, _, ⟨T587, L587, k587, n587⟩, -, X587, ⟨Lc587, hQ587, l587, y587, z587⟩, st587⟩ := X568.virtualBack hx (y := mn0) (z := mn0) hown534 (mvT hZ534 (wdx hw 59 rfl)) (mvT hZ534 (wdx hw 60 rfl)) (notFace_of_selects (args := #[]) (mvT hZ534 (wdx hw 62 rfl))) (mvT hZ534 (wdx hw 62 rfl)) (mvT hZ534 (wdx hw 61 rfl)) (by decide) (backOf (W := 0) (rm9_h l Z a0 hw [] b545 b521 ((0 : Int32) + (1 : Int32)) (0 : Int32) (0 : Int32) ((0 : Int64) + (((1 : Int32).toInt64) * wa)) (0 : Int64) (0 : Int64) hsb wb a_UNKNOWN a_HEALTHY a_DEGRADED T568.heap n0 O568 f586 f569 f570 f571 f572 f573 f574 f581 f583 f584 f582 S_UNKNOWN S_HEALTHY S_DEGRADED g_b545 (Ne.symm ne548) khsb_2) hZ534 (wdx hw 63 rfl) (wdx hw 54 rfl) (by decide) (by decide)) q587a q587c (g := (mkF m 85 #[.val (.int sa), .val (.long va), .second, .val (.int sb), .val (.long vb), .second, .val (.int ia), .val (.int ib), .val (.long wa), .second, .val (.long wb), .second, .val (.ref b3), .val (.ref b521), .val (.ref b545), .unset, .unset, .unset, .unset, .unset, .unset, .unset, .unset, .unset, .unset] [(.ref b521), (.ref b545)])) rfl (by rw [hml]; rfl) (Steps.refl _) (argsL := [(.ref b521)]) (rest := []) (lenOf pd__Lcom_example_spillway_spillway_assignment_Endpoint__V rfl) rfl (by show 2 * 0 + _ ≤ _; exact Nat.le_of_eq rfl) (hb hby at_85) (fun _ _ => ⟨rfl, rfl, (by exact lee rfl), (by exact lee rfl)⟩)
      dsimp only [Pt.U, Pt.locs, Pt.cells, Pt.slots] at X587 l587 y587 z587 st587 hQ587
      subst l587 y587 z587
      obtain ⟨rfl, Nq587, Kq587, f588, f589, f590, f591, f592, f593⟩ := hQ587
      have N587 := Fr.app N568 Nq587
      refine GoW.tr st587 ?_
      have f594 : Safe Z EL T534.vm T587.heap b3 := Safe.keep Kq587 (allS f585 all0) CH568.1 f575
      have f595 : Exa Z T587.heap b3 "com/example/spillway/spillway/assignment/Endpoint" := f576.keep Kq587
      have f596 : Exa Z T587.heap hsa "com/example/spillway/spillway/assignment/HealthStatus" := f577.keep Kq587
      have f597 : Fld Z T587.heap b3 "com/example/spillway/spillway/assignment/Endpoint" "health" "Lcom/example/spillway/spillway/assignment/HealthStatus;" (.ref hsa) := f578.keep Kq587 (ninS ne546 nin0)
      have f598 : Fld Z T587.heap b3 "com/example/spillway/spillway/assignment/Endpoint" "loadBalancingWeight" "J" (.long wa) := f579.keep Kq587 (ninS ne546 nin0)
      have f599 : Safe Z EL T534.vm T587.heap b521 := Safe.keep Kq587 (allS f585 all0) CH568.1 f580
      have f600 : Exa Z T587.heap b521 "com/example/spillway/spillway/assignment/Endpoint" := f581.keep Kq587
      have f601 : Exa Z T587.heap hsb "com/example/spillway/spillway/assignment/HealthStatus" := f582.keep Kq587
      have f602 : Fld Z T587.heap b521 "com/example/spillway/spillway/assignment/Endpoint" "health" "Lcom/example/spillway/spillway/assignment/HealthStatus;" (.ref hsb) := f583.keep Kq587 (ninS ne548 nin0)
      have f603 : Fld Z T587.heap b521 "com/example/spillway/spillway/assignment/Endpoint" "loadBalancingWeight" "J" (.long wb) := f584.keep Kq587 (ninS ne548 nin0)
      have f604 : Safe Z EL T534.vm T587.heap b545 := Safe.keep Kq587 (allS f585 all0) CH568.1 f585
      have f605 : Exa Z T587.heap b545 "com/example/spillway/spillway/assignment/HealthTally" := f586.keep Kq587
      have CH587 : CHr Z EL s.vm s.heap T534.vm T587.heap := CH568.trans (CHr.keep Kq587 (allS f585 all0) CH568.1)
      have hk587 : Array.size T534.heap ≤ Array.size T587.heap := Nat.le_trans hk568 Kq587.1
      have O587 : Old Z n0 T587.heap := O568.keep Kq587 (allS g_b545 all0)
      show GoW p e below s _ _ _ _ _ (T587.setTop (mkF m 88 #[.val (.int sa), .val (.long va), .second, .val (.int sb), .val (.long vb), .second, .val (.int ia), .val (.int ib), .val (.long wa), .second, .val (.long wb), .second, .val (.ref b3), .val (.ref b521), .val (.ref b545), .unset, .unset, .unset, .unset, .unset, .unset, .unset, .unset, .unset, .unset] []))
      refine GoW.st (fun _ k' => XS.iload X587.here hx rfl (hb hby at_88) rfl k') ?_
      refine GoW.st (fun _ k' => XS.iconst X587.here hx rfl (hb hby at_90) k') ?_
      show GoW p e below s _ _ _ _ _ (T587.setTop (mkF m 91 #[.val (.int sa), .val (.long va), .second, .val (.int sb), .val (.long vb), .second, .val (.int ia), .val (.int ib), .val (.long wa), .second, .val (.long wb), .second, .val (.ref b3), .val (.ref b521), .val (.ref b545), .unset, .unset, .unset, .unset, .unset, .unset, .unset, .unset, .unset, .unset] [(.int 1), (.int ia)]))
      refine GoW.st (fun _ k' => XS.icmpYes X587.here hx rfl (pc0 := 91) (pc' := 98) rfl (hb hby at_91) rfl (XT.ii_gt_t khsa_0) (by decide) (by decide) k') ?_
      show GoW p e below s _ _ _ _ _ (T587.setTop (mkF m 98 #[.val (.int sa), .val (.long va), .second, .val (.int sb), .val (.long vb), .second, .val (.int ia), .val (.int ib), .val (.long wa), .second, .val (.long wb), .second, .val (.ref b3), .val (.ref b521), .val (.ref b545), .unset, .unset, .unset, .unset, .unset, .unset, .unset, .unset, .unset, .unset] []))
      refine GoW.st (fun _ k' => XS.iconst X587.here hx rfl (hb hby at_98) k') ?_
      refine GoW.st (fun _ k' => XS.istore X587.here hx rfl (hb hby at_99) rfl (l' := #[.val (.int sa), .val (.long va), .second, .val (.int sb), .val (.long vb), .second, .val (.int ia), .val (.int ib), .val (.long wa), .second, .val (.long wb), .second, .val (.ref b3), .val (.ref b521), .val (.ref b545), .val (.int 0), .unset, .unset, .unset, .unset, .unset, .unset, .unset, .unset, .unset]) rfl k') ?_
      refine GoW.st (fun _ k' => XS.iload X587.here hx rfl (hb hby at_101) rfl k') ?_
      refine GoW.st (fun _ k' => XS.iconst X587.here hx rfl (hb hby at_103) k') ?_
      show GoW p e below s _ _ _ _ _ (T587.setTop (mkF m 104 #[.val (.int sa), .val (.long va), .second, .val (.int sb), .val (.long vb), .second, .val (.int ia), .val (.int ib), .val (.long wa), .second, .val (.long wb), .second, .val (.ref b3), .val (.ref b521), .val (.ref b545), .val (.int 0), .unset, .unset, .unset, .unset, .unset, .unset, .unset, .unset, .unset] [(.int 1), (.int ib)]))
      refine GoW.st (fun _ k' => XS.icmpNo X587.here hx rfl (hb hby at_104) rfl (XT.ii_gt_f khsb_0) k') ?_
      show GoW p e below s _ _ _ _ _ (T587.setTop (mkF m 107 #[.val (.int sa), .val (.long va), .second, .val (.int sb), .val (.long vb), .second, .val (.int ia), .val (.int ib), .val (.long wa), .second, .val (.long wb), .second, .val (.ref b3), .val (.ref b521), .val (.ref b545), .val (.int 0), .unset, .unset, .unset, .unset, .unset, .unset, .unset, .unset, .unset] []))
      refine GoW.st (fun _ k' => XS.iconst X587.here hx rfl (hb hby at_107) k') ?_
      show GoW p e below s _ _ _ _ _ (T587.setTop (mkF m 108 #[.val (.int sa), .val (.long va), .second, .val (.int sb), .val (.long vb), .second, .val (.int ia), .val (.int ib), .val (.long wa), .second, .val (.long wb), .second, .val (.ref b3), .val (.ref b521), .val (.ref b545), .val (.int 0), .unset, .unset, .unset, .unset, .unset, .unset, .unset, .unset, .unset] [(.int 1)]))
      refine GoW.st (fun _ k' => XS.goto X587.here hx rfl (pc0 := 108) (pc' := 112) rfl (hb hby at_108) (by decide) (by decide) k') ?_
      show GoW p e below s _ _ _ _ _ (T587.setTop (mkF m 112 #[.val (.int sa), .val (.long va), .second, .val (.int sb), .val (.long vb), .second, .val (.int ia), .val (.int ib), .val (.long wa), .second, .val (.long wb), .second, .val (.ref b3), .val (.ref b521), .val (.ref b545), .val (.int 0), .unset, .unset, .unset, .unset, .unset, .unset, .unset, .unset, .unset] [(.int 1)]))
      refine GoW.st (fun _ k' => XS.istore X587.here hx rfl (hb hby at_112) rfl (l' := #[.val (.int sa), .val (.long va), .second, .val (.int sb), .val (.long vb), .second, .val (.int ia), .val (.int ib), .val (.long wa), .second, .val (.long wb), .second, .val (.ref b3), .val (.ref b521), .val (.ref b545), .val (.int 0), .val (.int 1), .unset, .unset, .unset, .unset, .unset, .unset, .unset, .unset]) rfl k') ?_
      refine GoW.st (fun _ k' => XS.iload X587.here hx rfl (hb hby at_114) rfl k') ?_
      refine GoW.st (fun _ k' => XS.iconst X587.here hx rfl (hb hby at_116) k') ?_
      show GoW p e below s _ _ _ _ _ (T587.setTop (mkF m 117 #[.val (.int sa), .val (.long va), .second, .val (.int sb), .val (.long vb), .second, .val (.int ia), .val (.int ib), .val (.long wa), .second, .val (.long wb), .second, .val (.ref b3), .val (.ref b521), .val (.ref b545), .val (.int 0), .val (.int 1), .unset, .unset, .unset, .unset, .unset, .unset, .unset, .unset] [(.int 5), (.int ia)]))
      refine GoW.st (fun _ k' => XS.icmpYes X587.here hx rfl (pc0 := 117) (pc' := 124) rfl (hb hby at_117) rfl (XT.ii_ne_t khsa_1) (by decide) (by decide) k') ?_
      show GoW p e below s _ _ _ _ _ (T587.setTop (mkF m 124 #[.val (.int sa), .val (.long va), .second, .val (.int sb), .val (.long vb), .second, .val (.int ia), .val (.int ib), .val (.long wa), .second, .val (.long wb), .second, .val (.ref b3), .val (.ref b521), .val (.ref b545), .val (.int 0), .val (.int 1), .unset, .unset, .unset, .unset, .unset, .unset, .unset, .unset] []))
      refine GoW.st (fun _ k' => XS.iconst X587.here hx rfl (hb hby at_124) k') ?_
      refine GoW.st (fun _ k' => XS.istore X587.here hx rfl (hb hby at_125) rfl (l' := #[.val (.int sa), .val (.long va), .second, .val (.int sb), .val (.long vb), .second, .val (.int ia), .val (.int ib), .val (.long wa), .second, .val (.long wb), .second, .val (.ref b3), .val (.ref b521), .val (.ref b545), .val (.int 0), .val (.int 1), .val (.int 0), .unset, .unset, .unset, .unset, .unset, .unset, .unset]) rfl k') ?_
      refine GoW.st (fun _ k' => XS.iload X587.here hx rfl (hb hby at_127) rfl k') ?_
      refine GoW.st (fun _ k' => XS.iconst X587.here hx rfl (hb hby at_129) k') ?_
      show GoW p e below s _ _ _ _ _ (T587.setTop (mkF m 130 #[.val (.int sa), .val (.long va), .second, .val (.int sb), .val (.long vb), .second, .val (.int ia), .val (.int ib), .val (.long wa), .second, .val (.long wb), .second, .val (.ref b3), .val (.ref b521), .val (.ref b545), .val (.int 0), .val (.int 1), .val (.int 0), .unset, .unset, .unset, .unset, .unset, .unset, .unset] [(.int 5), (.int ib)]))
      refine GoW.st (fun _ k' => XS.icmpYes X587.here hx rfl (pc0 := 130) (pc' := 137) rfl (hb hby at_130) rfl (XT.ii_ne_t khsb_1) (by decide) (by decide) k') ?_
      show GoW p e below s _ _ _ _ _ (T587.setTop (mkF m 137 #[.val (.int sa), .val (.long va), .second, .val (.int sb), .val (.long vb), .second, .val (.int ia), .val (.int ib), .val (.long wa), .second, .val (.long wb), .second, .val (.ref b3), .val (.ref b521), .val (.ref b545), .val (.int 0), .val (.int 1), .val (.int 0), .unset, .unset, .unset, .unset, .unset, .unset, .unset] []))
      refine GoW.st (fun _ k' => XS.iconst X587.here hx rfl (hb hby at_137) k') ?_
      refine GoW.st (fun _ k' => XS.istore X587.here hx rfl (hb hby at_138) rfl (l' := #[.val (.int sa), .val (.long va), .second, .val (.int sb), .val (.long vb), .second, .val (.int ia), .val (.int ib), .val (.long wa), .second, .val (.long wb), .second, .val (.ref b3), .val (.ref b521), .val (.ref b545), .val (.int 0), .val (.int 1), .val (.int 0), .val (.int 0), .unset, .unset, .unset, .unset, .unset, .unset]) rfl k') ?_
      refine GoW.st (fun _ k' => XS.iload X587.here hx rfl (hb hby at_140) rfl k') ?_
      show GoW p e below s _ _ _ _ _ (T587.setTop (mkF m 142 #[.val (.int sa), .val (.long va), .second, .val (.int sb), .val (.long vb), .second, .val (.int ia), .val (.int ib), .val (.long wa), .second, .val (.long wb), .second, .val (.ref b3), .val (.ref b521), .val (.ref b545), .val (.int 0), .val (.int 1), .val (.int 0), .val (.int 0), .unset, .unset, .unset, .unset, .unset, .unset] [(.int 0)]))
      refine GoW.st (fun _ k' => XS.ifYes X587.here hx rfl (pc0 := 142) (pc' := 149) rfl (hb hby at_142) rfl (XT.i0_eq_t (by decide)) (by decide) (by decide) k') ?_
      show GoW p e below s _ _ _ _ _ (T587.setTop (mkF m 149 #[.val (.int sa), .val (.long va), .second, .val (.int sb), .val (.long vb), .second, .val (.int ia), .val (.int ib), .val (.long wa), .second, .val (.long wb), .second, .val (.ref b3), .val (.ref b521), .val (.ref b545), .val (.int 0), .val (.int 1), .val (.int 0), .val (.int 0), .unset, .unset, .unset, .unset, .unset, .unset] []))
      refine GoW.st (fun _ k' => XS.iconst X587.here hx rfl (hb hby at_149) k') ?_
      refine GoW.st (fun _ k' => XS.iload X587.here hx rfl (hb hby at_150) rfl k') ?_
      show GoW p e below s _ _ _ _ _ (T587.setTop (mkF m 152 #[.val (.int sa), .val (.long va), .second, .val (.int sb), .val (.long vb), .second, .val (.int ia), .val (.int ib), .val (.long wa), .second, .val (.long wb), .second, .val (.ref b3), .val (.ref b521), .val (.ref b545), .val (.int 0), .val (.int 1), .val (.int 0), .val (.int 0), .unset, .unset, .unset, .unset, .unset, .unset] [(.int 1), (.int 0)]))
      refine GoW.st (fun _ k' => XS.ifNo X587.here hx rfl (hb hby at_152) rfl (XT.i0_eq_f (by decide)) k') ?_
      show GoW p e below s _ _ _ _ _ (T587.setTop (mkF m 155 #[.val (.int sa), .val (.long va), .second, .val (.int sb), .val (.long vb), .second, .val (.int ia), .val (.int ib), .val (.long wa), .second, .val (.long wb), .second, .val (.ref b3), .val (.ref b521), .val (.ref b545), .val (.int 0), .val (.int 1), .val (.int 0), .val (.int 0), .unset, .unset, .unset, .unset, .unset, .unset] [(.int 0)]))
      refine GoW.st (fun _ k' => XS.iconst X587.here hx rfl (hb hby at_155) k') ?_
      show GoW p e below s _ _ _ _ _ (T587.setTop (mkF m 156 #[.val (.int sa), .val (.long va), .second, .val (.int sb), .val (.long vb), .second, .val (.int ia), .val (.int ib), .val (.long wa), .second, .val (.long wb), .second, .val (.ref b3), .val (.ref b521), .val (.ref b545), .val (.int 0), .val (.int 1), .val (.int 0), .val (.int 0), .unset, .unset, .unset, .unset, .unset, .unset] [(.int 1), (.int 0)]))
      refine GoW.st (fun _ k' => XS.goto X587.here hx rfl (pc0 := 156) (pc' := 160) rfl (hb hby at_156) (by decide) (by decide) k') ?_
      show GoW p e below s _ _ _ _ _ (T587.setTop (mkF m 160 #[.val (.int sa), .val (.long va), .second, .val (.int sb), .val (.long vb), .second, .val (.int ia), .val (.int ib), .val (.long wa), .second, .val (.long wb), .second, .val (.ref b3), .val (.ref b521), .val (.ref b545), .val (.int 0), .val (.int 1), .val (.int 0), .val (.int 0), .unset, .unset, .unset, .unset, .unset, .unset] [(.int 1), (.int 0)]))
      refine GoW.st (fun _ k' => XS.iadd X587.here hx rfl (hb hby at_160) rfl k') ?_
      refine GoW.st (fun _ k' => XS.istore X587.here hx rfl (hb hby at_161) rfl (l' := #[.val (.int sa), .val (.long va), .second, .val (.int sb), .val (.long vb), .second, .val (.int ia), .val (.int ib), .val (.long wa), .second, .val (.long wb), .second, .val (.ref b3), .val (.ref b521), .val (.ref b545), .val (.int 0), .val (.int 1), .val (.int 0), .val (.int 0), .val (.int 1), .unset, .unset, .unset, .unset, .unset]) rfl k') ?_
      refine GoW.st (fun _ k' => XS.iload X587.here hx rfl (hb hby at_163) rfl k') ?_
      show GoW p e below s _ _ _ _ _ (T587.setTop (mkF m 165 #[.val (.int sa), .val (.long va), .second, .val (.int sb), .val (.long vb), .second, .val (.int ia), .val (.int ib), .val (.long wa), .second, .val (.long wb), .second, .val (.ref b3), .val (.ref b521), .val (.ref b545), .val (.int 0), .val (.int 1), .val (.int 0), .val (.int 0), .val (.int 1), .unset, .unset, .unset, .unset, .unset] [(.int 0)]))
      refine GoW.st (fun _ k' => XS.ifYes X587.here hx rfl (pc0 := 165) (pc' := 172) rfl (hb hby at_165) rfl (XT.i0_eq_t (by decide)) (by decide) (by decide) k') ?_
      show GoW p e below s _ _ _ _ _ (T587.setTop (mkF m 172 #[.val (.int sa), .val (.long va), .second, .val (.int sb), .val (.long vb), .second, .val (.int ia), .val (.int ib), .val (.long wa), .second, .val (.long wb), .second, .val (.ref b3), .val (.ref b521), .val (.ref b545), .val (.int 0), .val (.int 1), .val (.int 0), .val (.int 0), .val (.int 1), .unset, .unset, .unset, .unset, .unset] []))
      refine GoW.st (fun _ k' => XS.iconst X587.here hx rfl (hb hby at_172) k') ?_
      refine GoW.st (fun _ k' => XS.iload X587.here hx rfl (hb hby at_173) rfl k') ?_
      show GoW p e below s _ _ _ _ _ (T587.setTop (mkF m 175 #[.val (.int sa), .val (.long va), .second, .val (.int sb), .val (.long vb), .second, .val (.int ia), .val (.int ib), .val (.long wa), .second, .val (.long wb), .second, .val (.ref b3), .val (.ref b521), .val (.ref b545), .val (.int 0), .val (.int 1), .val (.int 0), .val (.int 0), .val (.int 1), .unset, .unset, .unset, .unset, .unset] [(.int 0), (.int 0)]))
      refine GoW.st (fun _ k' => XS.ifYes X587.here hx rfl (pc0 := 175) (pc' := 182) rfl (hb hby at_175) rfl (XT.i0_eq_t (by decide)) (by decide) (by decide) k') ?_
      show GoW p e below s _ _ _ _ _ (T587.setTop (mkF m 182 #[.val (.int sa), .val (.long va), .second, .val (.int sb), .val (.long vb), .second, .val (.int ia), .val (.int ib), .val (.long wa), .second, .val (.long wb), .second, .val (.ref b3), .val (.ref b521), .val (.ref b545), .val (.int 0), .val (.int 1), .val (.int 0), .val (.int 0), .val (.int 1), .unset, .unset, .unset, .unset, .unset] [(.int 0)]))
      refine GoW.st (fun _ k' => XS.iconst X587.here hx rfl (hb hby at_182) k') ?_
      refine GoW.st (fun _ k' => XS.iadd X587.here hx rfl (hb hby at_183) rfl k') ?_
      refine GoW.st (fun _ k' => XS.istore X587.here hx rfl (hb hby at_184) rfl (l' := #[.val (.int sa), .val (.long va), .second, .val (.int sb), .val (.long vb), .second, .val (.int ia), .val (.int ib), .val (.long wa), .second, .val (.long wb), .second, .val (.ref b3), .val (.ref b521), .val (.ref b545), .val (.int 0), .val (.int 1), .val (.int 0), .val (.int 0), .val (.int 1), .val (.int 0), .unset, .unset, .unset, .unset]) rfl k') ?_
      refine GoW.st (fun _ k' => XS.iload X587.here hx rfl (hb hby at_186) rfl k') ?_
      show GoW p e below s _ _ _ _ _ (T587.setTop (mkF m 188 #[.val (.int sa), .val (.long va), .second, .val (.int sb), .val (.long vb), .second, .val (.int ia), .val (.int ib), .val (.long wa), .second, .val (.long wb), .second, .val (.ref b3), .val (.ref b521), .val (.ref b545), .val (.int 0), .val (.int 1), .val (.int 0), .val (.int 0), .val (.int 1), .val (.int 0), .unset, .unset, .unset, .unset] [(.int 0)]))
      refine GoW.st (fun _ k' => XS.ifYes X587.here hx rfl (pc0 := 188) (pc' := 196) rfl (hb hby at_188) rfl (XT.i0_eq_t (by decide)) (by decide) (by decide) k') ?_
      show GoW p e below s _ _ _ _ _ (T587.setTop (mkF m 196 #[.val (.int sa), .val (.long va), .second, .val (.int sb), .val (.long vb), .second, .val (.int ia), .val (.int ib), .val (.long wa), .second, .val (.long wb), .second, .val (.ref b3), .val (.ref b521), .val (.ref b545), .val (.int 0), .val (.int 1), .val (.int 0), .val (.int 0), .val (.int 1), .val (.int 0), .unset, .unset, .unset, .unset] []))
      refine GoW.st (fun _ k' => XS.lconst X587.here hx rfl (hb hby at_196) k') ?_
      refine GoW.st (fun _ k' => XS.iload X587.here hx rfl (hb hby at_197) rfl k') ?_
      show GoW p e below s _ _ _ _ _ (T587.setTop (mkF m 199 #[.val (.int sa), .val (.long va), .second, .val (.int sb), .val (.long vb), .second, .val (.int ia), .val (.int ib), .val (.long wa), .second, .val (.long wb), .second, .val (.ref b3), .val (.ref b521), .val (.ref b545), .val (.int 0), .val (.int 1), .val (.int 0), .val (.int 0), .val (.int 1), .val (.int 0), .unset, .unset, .unset, .unset] [(.int 1), (.long 0)]))
      refine GoW.st (fun _ k' => XS.ifNo X587.here hx rfl (hb hby at_199) rfl (XT.i0_eq_f (by decide)) k') ?_
      show GoW p e below s _ _ _ _ _ (T587.setTop (mkF m 202 #[.val (.int sa), .val (.long va), .second, .val (.int sb), .val (.long vb), .second, .val (.int ia), .val (.int ib), .val (.long wa), .second, .val (.long wb), .second, .val (.ref b3), .val (.ref b521), .val (.ref b545), .val (.int 0), .val (.int 1), .val (.int 0), .val (.int 0), .val (.int 1), .val (.int 0), .unset, .unset, .unset, .unset] [(.long 0)]))
      refine GoW.st (fun _ k' => XS.lload X587.here hx rfl (hb hby at_202) rfl k') ?_
      show GoW p e below s _ _ _ _ _ (T587.setTop (mkF m 204 #[.val (.int sa), .val (.long va), .second, .val (.int sb), .val (.long vb), .second, .val (.int ia), .val (.int ib), .val (.long wa), .second, .val (.long wb), .second, .val (.ref b3), .val (.ref b521), .val (.ref b545), .val (.int 0), .val (.int 1), .val (.int 0), .val (.int 0), .val (.int 1), .val (.int 0), .unset, .unset, .unset, .unset] [(.long wb), (.long 0)]))
      refine GoW.st (fun _ k' => XS.goto X587.here hx rfl (pc0 := 204) (pc' := 208) rfl (hb hby at_204) (by decide) (by decide) k') ?_
      show GoW p e below s _ _ _ _ _ (T587.setTop (mkF m 208 #[.val (.int sa), .val (.long va), .second, .val (.int sb), .val (.long vb), .second, .val (.int ia), .val (.int ib), .val (.long wa), .second, .val (.long wb), .second, .val (.ref b3), .val (.ref b521), .val (.ref b545), .val (.int 0), .val (.int 1), .val (.int 0), .val (.int 0), .val (.int 1), .val (.int 0), .unset, .unset, .unset, .unset] [(.long wb), (.long 0)]))
      refine GoW.st (fun _ k' => XS.ladd X587.here hx rfl (hb hby at_208) rfl k') ?_
      refine GoW.st (fun _ k' => XS.lstore X587.here hx rfl (hb hby at_209) rfl (l' := #[.val (.int sa), .val (.long va), .second, .val (.int sb), .val (.long vb), .second, .val (.int ia), .val (.int ib), .val (.long wa), .second, .val (.long wb), .second, .val (.ref b3), .val (.ref b521), .val (.ref b545), .val (.int 0), .val (.int 1), .val (.int 0), .val (.int 0), .val (.int 1), .val (.int 0), .val (.long ((0 : Int64) + wb)), .second, .unset, .unset]) rfl k') ?_
      refine GoW.st (fun _ k' => XS.iload X587.here hx rfl (hb hby at_211) rfl k') ?_
      show GoW p e below s _ _ _ _ _ (T587.setTop (mkF m 213 #[.val (.int sa), .val (.long va), .second, .val (.int sb), .val (.long vb), .second, .val (.int ia), .val (.int ib), .val (.long wa), .second, .val (.long wb), .second, .val (.ref b3), .val (.ref b521), .val (.ref b545), .val (.int 0), .val (.int 1), .val (.int 0), .val (.int 0), .val (.int 1), .val (.int 0), .val (.long ((0 : Int64) + wb)), .second, .unset, .unset] [(.int 0)]))
      refine GoW.st (fun _ k' => XS.ifYes X587.here hx rfl (pc0 := 213) (pc' := 221) rfl (hb hby at_213) rfl (XT.i0_eq_t (by decide)) (by decide) (by decide) k') ?_
      show GoW p e below s _ _ _ _ _ (T587.setTop (mkF m 221 #[.val (.int sa), .val (.long va), .second, .val (.int sb), .val (.long vb), .second, .val (.int ia), .val (.int ib), .val (.long wa), .second, .val (.long wb), .second, .val (.ref b3), .val (.ref b521), .val (.ref b545), .val (.int 0), .val (.int 1), .val (.int 0), .val (.int 0), .val (.int 1), .val (.int 0), .val (.long ((0 : Int64) + wb)), .second, .unset, .unset] []))
      refine GoW.st (fun _ k' => XS.lconst X587.here hx rfl (hb hby at_221) k') ?_
      refine GoW.st (fun _ k' => XS.iload X587.here hx rfl (hb hby at_222) rfl k') ?_
      show GoW p e below s _ _ _ _ _ (T587.setTop (mkF m 224 #[.val (.int sa), .val (.long va), .second, .val (.int sb), .val (.long vb), .second, .val (.int ia), .val (.int ib), .val (.long wa), .second, .val (.long wb), .second, .val (.ref b3), .val (.ref b521), .val (.ref b545), .val (.int 0), .val (.int 1), .val (.int 0), .val (.int 0), .val (.int 1), .val (.int 0), .val (.long ((0 : Int64) + wb)), .second, .unset, .unset] [(.int 0), (.long 0)]))
      refine GoW.st (fun _ k' => XS.ifYes X587.here hx rfl (pc0 := 224) (pc' := 232) rfl (hb hby at_224) rfl (XT.i0_eq_t (by decide)) (by decide) (by decide) k') ?_
      show GoW p e below s _ _ _ _ _ (T587.setTop (mkF m 232 #[.val (.int sa), .val (.long va), .second, .val (.int sb), .val (.long vb), .second, .val (.int ia), .val (.int ib), .val (.long wa), .second, .val (.long wb), .second, .val (.ref b3), .val (.ref b521), .val (.ref b545), .val (.int 0), .val (.int 1), .val (.int 0), .val (.int 0), .val (.int 1), .val (.int 0), .val (.long ((0 : Int64) + wb)), .second, .unset, .unset] [(.long 0)]))
      refine GoW.st (fun _ k' => XS.lconst X587.here hx rfl (hb hby at_232) k') ?_
      refine GoW.st (fun _ k' => XS.ladd X587.here hx rfl (hb hby at_233) rfl k') ?_
      refine GoW.st (fun _ k' => XS.lstore X587.here hx rfl (hb hby at_234) rfl (l' := #[.val (.int sa), .val (.long va), .second, .val (.int sb), .val (.long vb), .second, .val (.int ia), .val (.int ib), .val (.long wa), .second, .val (.long wb), .second, .val (.ref b3), .val (.ref b521), .val (.ref b545), .val (.int 0), .val (.int 1), .val (.int 0), .val (.int 0), .val (.int 1), .val (.int 0), .val (.long ((0 : Int64) + wb)), .second, .val (.long ((0 : Int64) + (0 : Int64))), .second]) rfl k') ?_
      refine GoW.st (fun _ k' => XS.aload X587.here hx rfl (hb hby at_236) rfl rfl k') ?_
      show GoW p e below s _ _ _ _ _ (T587.setTop (mkF m 238 #[.val (.int sa), .val (.long va), .second, .val (.int sb), .val (.long vb), .second, .val (.int ia), .val (.int ib), .val (.long wa), .second, .val (.long wb), .second, .val (.ref b3), .val (.ref b521), .val (.ref b545), .val (.int 0), .val (.int 1), .val (.int 0), .val (.int 0), .val (.int 1), .val (.int 0), .val (.long ((0 : Int64) + wb)), .second, .val (.long ((0 : Int64) + (0 : Int64))), .second] [(.ref b545)]))
      obtain ⟨cq606, kq606, q606a, q606b, q606c⟩ := isOf hZ534 rfl f605
      obtain ⟨_, _, ⟨T606, L606, k606, n606⟩, -, X606, ⟨Lc606, hQ606, l606, y606, z606⟩, st606⟩ := X587.virtualBack hx (y := mn1) (z := mn1) hown534 (mvT hZ534 (wdx hw 93 rfl)) (mvT hZ534 (wdx hw 94 rfl)) (notFace_of_selects (args := #[]) (mvT hZ534 (wdx hw 96 rfl))) (mvT hZ534 (wdx hw 96 rfl)) (mvT hZ534 (wdx hw 95 rfl)) (by decide) (backOf (W := 0) (rm14 l Z a0 hw [] b545 (((0 : Int32) + (1 : Int32)) + (1 : Int32)) T587.heap n0 O587 f588) hZ534 (wdx hw 97 rfl) (wdx hw 54 rfl) (by decide) (by decide)) q606a q606c (g := (mkF m 238 #[.val (.int sa), .val (.long va), .second, .val (.int sb), .val (.long vb), .second, .val (.int ia), .val (.int ib), .val (.long wa), .second, .val (.long wb), .second, .val (.ref b3), .val (.ref b521), .val (.ref b545), .val (.int 0), .val (.int 1), .val (.int 0), .val (.int 0), .val (.int 1), .val (.int 0), .val (.long ((0 : Int64) + wb)), .second, .val (.long ((0 : Int64) + (0 : Int64))), .second] [(.ref b545)])) rfl (by rw [hml]; rfl) (Steps.refl _) (argsL := []) (rest := []) (lenOf pd___I rfl) rfl (by show 2 * 0 + _ ≤ _; exact Nat.le_of_eq rfl) (hb hby at_238) (fun _ _ => ⟨rfl, rfl, (by exact lee rfl), (by exact lee rfl)⟩)
      dsimp only [Pt.U, Pt.locs, Pt.cells, Pt.slots] at X606 l606 y606 z606 st606 hQ606
      subst l606 y606 z606
      obtain ⟨rfl, Nq606, eq606⟩ := hQ606
      have N606 := Fr.app N587 Nq606
      refine GoW.tr st606 ?_
      show GoW p e below s _ _ _ _ _ (T606.setTop (mkF m 241 #[.val (.int sa), .val (.long va), .second, .val (.int sb), .val (.long vb), .second, .val (.int ia), .val (.int ib), .val (.long wa), .second, .val (.long wb), .second, .val (.ref b3), .val (.ref b521), .val (.ref b545), .val (.int 0), .val (.int 1), .val (.int 0), .val (.int 0), .val (.int 1), .val (.int 0), .val (.long ((0 : Int64) + wb)), .second, .val (.long ((0 : Int64) + (0 : Int64))), .second] [(.int (((0 : Int32) + (1 : Int32)) + (1 : Int32)))]))
      refine GoW.st (fun _ k' => XS.iconst X606.here hx rfl (hb hby at_241) k') ?_
      show GoW p e below s _ _ _ _ _ (T606.setTop (mkF m 242 #[.val (.int sa), .val (.long va), .second, .val (.int sb), .val (.long vb), .second, .val (.int ia), .val (.int ib), .val (.long wa), .second, .val (.long wb), .second, .val (.ref b3), .val (.ref b521), .val (.ref b545), .val (.int 0), .val (.int 1), .val (.int 0), .val (.int 0), .val (.int 1), .val (.int 0), .val (.long ((0 : Int64) + wb)), .second, .val (.long ((0 : Int64) + (0 : Int64))), .second] [(.int 2), (.int (((0 : Int32) + (1 : Int32)) + (1 : Int32)))]))
      refine GoW.st (fun _ k' => XS.icmpNo X606.here hx rfl (hb hby at_242) rfl (XT.ii_ne_f (by simp [own_one])) k') ?_
      show GoW p e below s _ _ _ _ _ (T606.setTop (mkF m 245 #[.val (.int sa), .val (.long va), .second, .val (.int sb), .val (.long vb), .second, .val (.int ia), .val (.int ib), .val (.long wa), .second, .val (.long wb), .second, .val (.ref b3), .val (.ref b521), .val (.ref b545), .val (.int 0), .val (.int 1), .val (.int 0), .val (.int 0), .val (.int 1), .val (.int 0), .val (.long ((0 : Int64) + wb)), .second, .val (.long ((0 : Int64) + (0 : Int64))), .second] []))
      refine GoW.st (fun _ k' => XS.aload X606.here hx rfl (hb hby at_245) rfl rfl k') ?_
      show GoW p e below s _ _ _ _ _ (T606.setTop (mkF m 247 #[.val (.int sa), .val (.long va), .second, .val (.int sb), .val (.long vb), .second, .val (.int ia), .val (.int ib), .val (.long wa), .second, .val (.long wb), .second, .val (.ref b3), .val (.ref b521), .val (.ref b545), .val (.int 0), .val (.int 1), .val (.int 0), .val (.int 0), .val (.int 1), .val (.int 0), .val (.long ((0 : Int64) + wb)), .second, .val (.long ((0 : Int64) + (0 : Int64))), .second] [(.ref b545)]))
      obtain ⟨cq607, kq607, q607a, q607b, q607c⟩ := isOf hZ534 eq606 f605
      obtain ⟨_, _, ⟨T607, L607, k607, n607⟩, -, X607, ⟨Lc607, hQ607, l607, y607, z607⟩, st607⟩ := X606.virtualBack hx (y := mn2) (z := mn2) hown534 (mvT hZ534 (wdx hw 98 rfl)) (mvT hZ534 (wdx hw 99 rfl)) (notFace_of_selects (args := #[]) (mvT hZ534 (wdx hw 101 rfl))) (mvT hZ534 (wdx hw 101 rfl)) (mvT hZ534 (wdx hw 100 rfl)) (by decide) (backOf (W := 0) (rm15 l Z a0 hw [] b545 ((0 : Int32) + (1 : Int32)) T587.heap n0 O587 f589) hZ534 (wdx hw 102 rfl) (wdx hw 54 rfl) (by decide) (by decide)) q607a q607c (g := (mkF m 247 #[.val (.int sa), .val (.long va), .second, .val (.int sb), .val (.long vb), .second, .val (.int ia), .val (.int ib), .val (.long wa), .second, .val (.long wb), .second, .val (.ref b3), .val (.ref b521), .val (.ref b545), .val (.int 0), .val (.int 1), .val (.int 0), .val (.int 0), .val (.int 1), .val (.int 0), .val (.long ((0 : Int64) + wb)), .second, .val (.long ((0 : Int64) + (0 : Int64))), .second] [(.ref b545)])) rfl (by rw [hml]; rfl) (Steps.refl _) (argsL := []) (rest := []) (lenOf pd___I rfl) rfl (by show 2 * 0 + _ ≤ _; exact Nat.le_of_eq rfl) (hb hby at_247) (fun _ _ => ⟨rfl, eq606, (by exact lee rfl), (by exact lee rfl)⟩)
      dsimp only [Pt.U, Pt.locs, Pt.cells, Pt.slots] at X607 l607 y607 z607 st607 hQ607
      subst l607 y607 z607
      obtain ⟨rfl, Nq607, eq607⟩ := hQ607
      have N607 := Fr.app N606 Nq607
      refine GoW.tr st607 ?_
      show GoW p e below s _ _ _ _ _ (T607.setTop (mkF m 250 #[.val (.int sa), .val (.long va), .second, .val (.int sb), .val (.long vb), .second, .val (.int ia), .val (.int ib), .val (.long wa), .second, .val (.long wb), .second, .val (.ref b3), .val (.ref b521), .val (.ref b545), .val (.int 0), .val (.int 1), .val (.int 0), .val (.int 0), .val (.int 1), .val (.int 0), .val (.long ((0 : Int64) + wb)), .second, .val (.long ((0 : Int64) + (0 : Int64))), .second] [(.int ((0 : Int32) + (1 : Int32)))]))
      refine GoW.st (fun _ k' => XS.iload X607.here hx rfl (hb hby at_250) rfl k') ?_
      show GoW p e below s _ _ _ _ _ (T607.setTop (mkF m 252 #[.val (.int sa), .val (.long va), .second, .val (.int sb), .val (.long vb), .second, .val (.int ia), .val (.int ib), .val (.long wa), .second, .val (.long wb), .second, .val (.ref b3), .val (.ref b521), .val (.ref b545), .val (.int 0), .val (.int 1), .val (.int 0), .val (.int 0), .val (.int 1), .val (.int 0), .val (.long ((0 : Int64) + wb)), .second, .val (.long ((0 : Int64) + (0 : Int64))), .second] [(.int 1), (.int ((0 : Int32) + (1 : Int32)))]))
      refine GoW.st (fun _ k' => XS.icmpNo X607.here hx rfl (hb hby at_252) rfl (XT.ii_ne_f (by simp [own_one])) k') ?_
      show GoW p e below s _ _ _ _ _ (T607.setTop (mkF m 255 #[.val (.int sa), .val (.long va), .second, .val (.int sb), .val (.long vb), .second, .val (.int ia), .val (.int ib), .val (.long wa), .second, .val (.long wb), .second, .val (.ref b3), .val (.ref b521), .val (.ref b545), .val (.int 0), .val (.int 1), .val (.int 0), .val (.int 0), .val (.int 1), .val (.int 0), .val (.long ((0 : Int64) + wb)), .second, .val (.long ((0 : Int64) + (0 : Int64))), .second] []))
      refine GoW.st (fun _ k' => XS.aload X607.here hx rfl (hb hby at_255) rfl rfl k') ?_
      show GoW p e below s _ _ _ _ _ (T607.setTop (mkF m 257 #[.val (.int sa), .val (.long va), .second, .val (.int sb), .val (.long vb), .second, .val (.int ia), .val (.int ib), .val (.long wa), .second, .val (.long wb), .second, .val (.ref b3), .val (.ref b521), .val (.ref b545), .val (.int 0), .val (.int 1), .val (.int 0), .val (.int 0), .val (.int 1), .val (.int 0), .val (.long ((0 : Int64) + wb)), .second, .val (.long ((0 : Int64) + (0 : Int64))), .second] [(.ref b545)]))
      obtain ⟨cq608, kq608, q608a, q608b, q608c⟩ := isOf hZ534 eq607 f605
      obtain ⟨_, _, ⟨T608, L608, k608, n608⟩, -, X608, ⟨Lc608, hQ608, l608, y608, z608⟩, st608⟩ := X607.virtualBack hx (y := mn3) (z := mn3) hown534 (mvT hZ534 (wdx hw 103 rfl)) (mvT hZ534 (wdx hw 104 rfl)) (notFace_of_selects (args := #[]) (mvT hZ534 (wdx hw 106 rfl))) (mvT hZ534 (wdx hw 106 rfl)) (mvT hZ534 (wdx hw 105 rfl)) (by decide) (backOf (W := 0) (rm16 l Z a0 hw [] b545 (0 : Int32) T587.heap n0 O587 f590) hZ534 (wdx hw 107 rfl) (wdx hw 54 rfl) (by decide) (by decide)) q608a q608c (g := (mkF m 257 #[.val (.int sa), .val (.long va), .second, .val (.int sb), .val (.long vb), .second, .val (.int ia), .val (.int ib), .val (.long wa), .second, .val (.long wb), .second, .val (.ref b3), .val (.ref b521), .val (.ref b545), .val (.int 0), .val (.int 1), .val (.int 0), .val (.int 0), .val (.int 1), .val (.int 0), .val (.long ((0 : Int64) + wb)), .second, .val (.long ((0 : Int64) + (0 : Int64))), .second] [(.ref b545)])) rfl (by rw [hml]; rfl) (Steps.refl _) (argsL := []) (rest := []) (lenOf pd___I rfl) rfl (by show 2 * 0 + _ ≤ _; exact Nat.le_of_eq rfl) (hb hby at_257) (fun _ _ => ⟨rfl, eq607, (by exact lee rfl), (by exact lee rfl)⟩)
      dsimp only [Pt.U, Pt.locs, Pt.cells, Pt.slots] at X608 l608 y608 z608 st608 hQ608
      subst l608 y608 z608
      obtain ⟨rfl, Nq608, eq608⟩ := hQ608
      have N608 := Fr.app N607 Nq608
      refine GoW.tr st608 ?_
      show GoW p e below s _ _ _ _ _ (T608.setTop (mkF m 260 #[.val (.int sa), .val (.long va), .second, .val (.int sb), .val (.long vb), .second, .val (.int ia), .val (.int ib), .val (.long wa), .second, .val (.long wb), .second, .val (.ref b3), .val (.ref b521), .val (.ref b545), .val (.int 0), .val (.int 1), .val (.int 0), .val (.int 0), .val (.int 1), .val (.int 0), .val (.long ((0 : Int64) + wb)), .second, .val (.long ((0 : Int64) + (0 : Int64))), .second] [(.int 0)]))
      refine GoW.st (fun _ k' => XS.iload X608.here hx rfl (hb hby at_260) rfl k') ?_
      show GoW p e below s _ _ _ _ _ (T608.setTop (mkF m 262 #[.val (.int sa), .val (.long va), .second, .val (.int sb), .val (.long vb), .second, .val (.int ia), .val (.int ib), .val (.long wa), .second, .val (.long wb), .second, .val (.ref b3), .val (.ref b521), .val (.ref b545), .val (.int 0), .val (.int 1), .val (.int 0), .val (.int 0), .val (.int 1), .val (.int 0), .val (.long ((0 : Int64) + wb)), .second, .val (.long ((0 : Int64) + (0 : Int64))), .second] [(.int 0), (.int 0)]))
      refine GoW.st (fun _ k' => XS.icmpNo X608.here hx rfl (hb hby at_262) rfl (XT.ii_ne_f (by simp [own_one])) k') ?_
      show GoW p e below s _ _ _ _ _ (T608.setTop (mkF m 265 #[.val (.int sa), .val (.long va), .second, .val (.int sb), .val (.long vb), .second, .val (.int ia), .val (.int ib), .val (.long wa), .second, .val (.long wb), .second, .val (.ref b3), .val (.ref b521), .val (.ref b545), .val (.int 0), .val (.int 1), .val (.int 0), .val (.int 0), .val (.int 1), .val (.int 0), .val (.long ((0 : Int64) + wb)), .second, .val (.long ((0 : Int64) + (0 : Int64))), .second] []))
      refine GoW.st (fun _ k' => XS.aload X608.here hx rfl (hb hby at_265) rfl rfl k') ?_
      show GoW p e below s _ _ _ _ _ (T608.setTop (mkF m 267 #[.val (.int sa), .val (.long va), .second, .val (.int sb), .val (.long vb), .second, .val (.int ia), .val (.int ib), .val (.long wa), .second, .val (.long wb), .second, .val (.ref b3), .val (.ref b521), .val (.ref b545), .val (.int 0), .val (.int 1), .val (.int 0), .val (.int 0), .val (.int 1), .val (.int 0), .val (.long ((0 : Int64) + wb)), .second, .val (.long ((0 : Int64) + (0 : Int64))), .second] [(.ref b545)]))
      obtain ⟨cq609, kq609, q609a, q609b, q609c⟩ := isOf hZ534 eq608 f605
      obtain ⟨_, _, ⟨T609, L609, k609, n609⟩, -, X609, ⟨Lc609, hQ609, l609, y609, z609⟩, st609⟩ := X608.virtualBack hx (y := mn4) (z := mn4) hown534 (mvT hZ534 (wdx hw 110 rfl)) (mvT hZ534 (wdx hw 111 rfl)) (notFace_of_selects (args := #[]) (mvT hZ534 (wdx hw 113 rfl))) (mvT hZ534 (wdx hw 113 rfl)) (mvT hZ534 (wdx hw 112 rfl)) (by decide) (backOf (W := 0) (rm17 l Z a0 hw [] b545 (((0 : Int64) + (((1 : Int32).toInt64) * wa)) + (((1 : Int32).toInt64) * wb)) T587.heap n0 O587 f591) hZ534 (wdx hw 114 rfl) (wdx hw 54 rfl) (by decide) (by decide)) q609a q609c (g := (mkF m 267 #[.val (.int sa), .val (.long va), .second, .val (.int sb), .val (.long vb), .second, .val (.int ia), .val (.int ib), .val (.long wa), .second, .val (.long wb), .second, .val (.ref b3), .val (.ref b521), .val (.ref b545), .val (.int 0), .val (.int 1), .val (.int 0), .val (.int 0), .val (.int 1), .val (.int 0), .val (.long ((0 : Int64) + wb)), .second, .val (.long ((0 : Int64) + (0 : Int64))), .second] [(.ref b545)])) rfl (by rw [hml]; rfl) (Steps.refl _) (argsL := []) (rest := []) (lenOf pd___J rfl) rfl (by show 2 * 0 + _ ≤ _; exact Nat.le_of_eq rfl) (hb hby at_267) (fun _ _ => ⟨rfl, eq608, (by exact lee rfl), (by exact lee rfl)⟩)
      dsimp only [Pt.U, Pt.locs, Pt.cells, Pt.slots] at X609 l609 y609 z609 st609 hQ609
      subst l609 y609 z609
      obtain ⟨rfl, Nq609, eq609⟩ := hQ609
      have N609 := Fr.app N608 Nq609
      refine GoW.tr st609 ?_
      show GoW p e below s _ _ _ _ _ (T609.setTop (mkF m 270 #[.val (.int sa), .val (.long va), .second, .val (.int sb), .val (.long vb), .second, .val (.int ia), .val (.int ib), .val (.long wa), .second, .val (.long wb), .second, .val (.ref b3), .val (.ref b521), .val (.ref b545), .val (.int 0), .val (.int 1), .val (.int 0), .val (.int 0), .val (.int 1), .val (.int 0), .val (.long ((0 : Int64) + wb)), .second, .val (.long ((0 : Int64) + (0 : Int64))), .second] [(.long (((0 : Int64) + (((1 : Int32).toInt64) * wa)) + (((1 : Int32).toInt64) * wb)))]))
      refine GoW.st (fun _ k' => XS.lload X609.here hx rfl (hb hby at_270) rfl k') ?_
      refine GoW.st (fun _ k' => XS.lload X609.here hx rfl (hb hby at_272) rfl k') ?_
      refine GoW.st (fun _ k' => XS.ladd X609.here hx rfl (hb hby at_274) rfl k') ?_
      show GoW p e below s _ _ _ _ _ (T609.setTop (mkF m 275 #[.val (.int sa), .val (.long va), .second, .val (.int sb), .val (.long vb), .second, .val (.int ia), .val (.int ib), .val (.long wa), .second, .val (.long wb), .second, .val (.ref b3), .val (.ref b521), .val (.ref b545), .val (.int 0), .val (.int 1), .val (.int 0), .val (.int 0), .val (.int 1), .val (.int 0), .val (.long ((0 : Int64) + wb)), .second, .val (.long ((0 : Int64) + (0 : Int64))), .second] [(.long (wa + wb)), (.long (((0 : Int64) + (((1 : Int32).toInt64) * wa)) + (((1 : Int32).toInt64) * wb)))]))
      refine GoW.st (fun _ k' => XT.lcmp X609.here hx rfl (hb hby at_275) rfl k') ?_
      show GoW p e below s _ _ _ _ _ (T609.setTop (mkF m 276 #[.val (.int sa), .val (.long va), .second, .val (.int sb), .val (.long vb), .second, .val (.int ia), .val (.int ib), .val (.long wa), .second, .val (.long wb), .second, .val (.ref b3), .val (.ref b521), .val (.ref b545), .val (.int 0), .val (.int 1), .val (.int 0), .val (.int 0), .val (.int 1), .val (.int 0), .val (.long ((0 : Int64) + wb)), .second, .val (.long ((0 : Int64) + (0 : Int64))), .second] [(.int (XT.cmpL (((0 : Int64) + (((1 : Int32).toInt64) * wa)) + (((1 : Int32).toInt64) * wb)) (wa + wb)))]))
      refine GoW.st (fun _ k' => XS.ifNo X609.here hx rfl (hb hby at_276) rfl (XT.ll_ne_f (by simp [own_one])) k') ?_
      show GoW p e below s _ _ _ _ _ (T609.setTop (mkF m 279 #[.val (.int sa), .val (.long va), .second, .val (.int sb), .val (.long vb), .second, .val (.int ia), .val (.int ib), .val (.long wa), .second, .val (.long wb), .second, .val (.ref b3), .val (.ref b521), .val (.ref b545), .val (.int 0), .val (.int 1), .val (.int 0), .val (.int 0), .val (.int 1), .val (.int 0), .val (.long ((0 : Int64) + wb)), .second, .val (.long ((0 : Int64) + (0 : Int64))), .second] []))
      refine GoW.st (fun _ k' => XS.aload X609.here hx rfl (hb hby at_279) rfl rfl k') ?_
      show GoW p e below s _ _ _ _ _ (T609.setTop (mkF m 281 #[.val (.int sa), .val (.long va), .second, .val (.int sb), .val (.long vb), .second, .val (.int ia), .val (.int ib), .val (.long wa), .second, .val (.long wb), .second, .val (.ref b3), .val (.ref b521), .val (.ref b545), .val (.int 0), .val (.int 1), .val (.int 0), .val (.int 0), .val (.int 1), .val (.int 0), .val (.long ((0 : Int64) + wb)), .second, .val (.long ((0 : Int64) + (0 : Int64))), .second] [(.ref b545)]))
      obtain ⟨cq610, kq610, q610a, q610b, q610c⟩ := isOf hZ534 eq609 f605
      obtain ⟨_, _, ⟨T610, L610, k610, n610⟩, -, X610, ⟨Lc610, hQ610, l610, y610, z610⟩, st610⟩ := X609.virtualBack hx (y := mn5) (z := mn5) hown534 (mvT hZ534 (wdx hw 115 rfl)) (mvT hZ534 (wdx hw 116 rfl)) (notFace_of_selects (args := #[]) (mvT hZ534 (wdx hw 118 rfl))) (mvT hZ534 (wdx hw 118 rfl)) (mvT hZ534 (wdx hw 117 rfl)) (by decide) (backOf (W := 0) (rm18 l Z a0 hw [] b545 ((0 : Int64) + (((1 : Int32).toInt64) * wb)) T587.heap n0 O587 f592) hZ534 (wdx hw 119 rfl) (wdx hw 54 rfl) (by decide) (by decide)) q610a q610c (g := (mkF m 281 #[.val (.int sa), .val (.long va), .second, .val (.int sb), .val (.long vb), .second, .val (.int ia), .val (.int ib), .val (.long wa), .second, .val (.long wb), .second, .val (.ref b3), .val (.ref b521), .val (.ref b545), .val (.int 0), .val (.int 1), .val (.int 0), .val (.int 0), .val (.int 1), .val (.int 0), .val (.long ((0 : Int64) + wb)), .second, .val (.long ((0 : Int64) + (0 : Int64))), .second] [(.ref b545)])) rfl (by rw [hml]; rfl) (Steps.refl _) (argsL := []) (rest := []) (lenOf pd___J rfl) rfl (by show 2 * 0 + _ ≤ _; exact Nat.le_of_eq rfl) (hb hby at_281) (fun _ _ => ⟨rfl, eq609, (by exact lee rfl), (by exact lee rfl)⟩)
      dsimp only [Pt.U, Pt.locs, Pt.cells, Pt.slots] at X610 l610 y610 z610 st610 hQ610
      subst l610 y610 z610
      obtain ⟨rfl, Nq610, eq610⟩ := hQ610
      have N610 := Fr.app N609 Nq610
      refine GoW.tr st610 ?_
      show GoW p e below s _ _ _ _ _ (T610.setTop (mkF m 284 #[.val (.int sa), .val (.long va), .second, .val (.int sb), .val (.long vb), .second, .val (.int ia), .val (.int ib), .val (.long wa), .second, .val (.long wb), .second, .val (.ref b3), .val (.ref b521), .val (.ref b545), .val (.int 0), .val (.int 1), .val (.int 0), .val (.int 0), .val (.int 1), .val (.int 0), .val (.long ((0 : Int64) + wb)), .second, .val (.long ((0 : Int64) + (0 : Int64))), .second] [(.long ((0 : Int64) + (((1 : Int32).toInt64) * wb)))]))
      refine GoW.st (fun _ k' => XS.lload X610.here hx rfl (hb hby at_284) rfl k') ?_
      show GoW p e below s _ _ _ _ _ (T610.setTop (mkF m 286 #[.val (.int sa), .val (.long va), .second, .val (.int sb), .val (.long vb), .second, .val (.int ia), .val (.int ib), .val (.long wa), .second, .val (.long wb), .second, .val (.ref b3), .val (.ref b521), .val (.ref b545), .val (.int 0), .val (.int 1), .val (.int 0), .val (.int 0), .val (.int 1), .val (.int 0), .val (.long ((0 : Int64) + wb)), .second, .val (.long ((0 : Int64) + (0 : Int64))), .second] [(.long ((0 : Int64) + wb)), (.long ((0 : Int64) + (((1 : Int32).toInt64) * wb)))]))
      refine GoW.st (fun _ k' => XT.lcmp X610.here hx rfl (hb hby at_286) rfl k') ?_
      show GoW p e below s _ _ _ _ _ (T610.setTop (mkF m 287 #[.val (.int sa), .val (.long va), .second, .val (.int sb), .val (.long vb), .second, .val (.int ia), .val (.int ib), .val (.long wa), .second, .val (.long wb), .second, .val (.ref b3), .val (.ref b521), .val (.ref b545), .val (.int 0), .val (.int 1), .val (.int 0), .val (.int 0), .val (.int 1), .val (.int 0), .val (.long ((0 : Int64) + wb)), .second, .val (.long ((0 : Int64) + (0 : Int64))), .second] [(.int (XT.cmpL ((0 : Int64) + (((1 : Int32).toInt64) * wb)) ((0 : Int64) + wb)))]))
      refine GoW.st (fun _ k' => XS.ifNo X610.here hx rfl (hb hby at_287) rfl (XT.ll_ne_f (by simp [own_one])) k') ?_
      show GoW p e below s _ _ _ _ _ (T610.setTop (mkF m 290 #[.val (.int sa), .val (.long va), .second, .val (.int sb), .val (.long vb), .second, .val (.int ia), .val (.int ib), .val (.long wa), .second, .val (.long wb), .second, .val (.ref b3), .val (.ref b521), .val (.ref b545), .val (.int 0), .val (.int 1), .val (.int 0), .val (.int 0), .val (.int 1), .val (.int 0), .val (.long ((0 : Int64) + wb)), .second, .val (.long ((0 : Int64) + (0 : Int64))), .second] []))
      refine GoW.st (fun _ k' => XS.aload X610.here hx rfl (hb hby at_290) rfl rfl k') ?_
      show GoW p e below s _ _ _ _ _ (T610.setTop (mkF m 292 #[.val (.int sa), .val (.long va), .second, .val (.int sb), .val (.long vb), .second, .val (.int ia), .val (.int ib), .val (.long wa), .second, .val (.long wb), .second, .val (.ref b3), .val (.ref b521), .val (.ref b545), .val (.int 0), .val (.int 1), .val (.int 0), .val (.int 0), .val (.int 1), .val (.int 0), .val (.long ((0 : Int64) + wb)), .second, .val (.long ((0 : Int64) + (0 : Int64))), .second] [(.ref b545)]))
      obtain ⟨cq611, kq611, q611a, q611b, q611c⟩ := isOf hZ534 eq610 f605
      obtain ⟨_, _, ⟨T611, L611, k611, n611⟩, -, X611, ⟨Lc611, hQ611, l611, y611, z611⟩, st611⟩ := X610.virtualBack hx (y := mn6) (z := mn6) hown534 (mvT hZ534 (wdx hw 120 rfl)) (mvT hZ534 (wdx hw 121 rfl)) (notFace_of_selects (args := #[]) (mvT hZ534 (wdx hw 123 rfl))) (mvT hZ534 (wdx hw 123 rfl)) (mvT hZ534 (wdx hw 122 rfl)) (by decide) (backOf (W := 0) (rm19 l Z a0 hw [] b545 (0 : Int64) T587.heap n0 O587 f593) hZ534 (wdx hw 124 rfl) (wdx hw 54 rfl) (by decide) (by decide)) q611a q611c (g := (mkF m 292 #[.val (.int sa), .val (.long va), .second, .val (.int sb), .val (.long vb), .second, .val (.int ia), .val (.int ib), .val (.long wa), .second, .val (.long wb), .second, .val (.ref b3), .val (.ref b521), .val (.ref b545), .val (.int 0), .val (.int 1), .val (.int 0), .val (.int 0), .val (.int 1), .val (.int 0), .val (.long ((0 : Int64) + wb)), .second, .val (.long ((0 : Int64) + (0 : Int64))), .second] [(.ref b545)])) rfl (by rw [hml]; rfl) (Steps.refl _) (argsL := []) (rest := []) (lenOf pd___J rfl) rfl (by show 2 * 0 + _ ≤ _; exact Nat.le_of_eq rfl) (hb hby at_292) (fun _ _ => ⟨rfl, eq610, (by exact lee rfl), (by exact lee rfl)⟩)
      dsimp only [Pt.U, Pt.locs, Pt.cells, Pt.slots] at X611 l611 y611 z611 st611 hQ611
      subst l611 y611 z611
      obtain ⟨rfl, Nq611, eq611⟩ := hQ611
      have N611 := Fr.app N610 Nq611
      refine GoW.tr st611 ?_
      show GoW p e below s _ _ _ _ _ (T611.setTop (mkF m 295 #[.val (.int sa), .val (.long va), .second, .val (.int sb), .val (.long vb), .second, .val (.int ia), .val (.int ib), .val (.long wa), .second, .val (.long wb), .second, .val (.ref b3), .val (.ref b521), .val (.ref b545), .val (.int 0), .val (.int 1), .val (.int 0), .val (.int 0), .val (.int 1), .val (.int 0), .val (.long ((0 : Int64) + wb)), .second, .val (.long ((0 : Int64) + (0 : Int64))), .second] [(.long 0)]))
      refine GoW.st (fun _ k' => XS.lload X611.here hx rfl (hb hby at_295) rfl k') ?_
      show GoW p e below s _ _ _ _ _ (T611.setTop (mkF m 297 #[.val (.int sa), .val (.long va), .second, .val (.int sb), .val (.long vb), .second, .val (.int ia), .val (.int ib), .val (.long wa), .second, .val (.long wb), .second, .val (.ref b3), .val (.ref b521), .val (.ref b545), .val (.int 0), .val (.int 1), .val (.int 0), .val (.int 0), .val (.int 1), .val (.int 0), .val (.long ((0 : Int64) + wb)), .second, .val (.long ((0 : Int64) + (0 : Int64))), .second] [(.long ((0 : Int64) + (0 : Int64))), (.long 0)]))
      refine GoW.st (fun _ k' => XT.lcmp X611.here hx rfl (hb hby at_297) rfl k') ?_
      show GoW p e below s _ _ _ _ _ (T611.setTop (mkF m 298 #[.val (.int sa), .val (.long va), .second, .val (.int sb), .val (.long vb), .second, .val (.int ia), .val (.int ib), .val (.long wa), .second, .val (.long wb), .second, .val (.ref b3), .val (.ref b521), .val (.ref b545), .val (.int 0), .val (.int 1), .val (.int 0), .val (.int 0), .val (.int 1), .val (.int 0), .val (.long ((0 : Int64) + wb)), .second, .val (.long ((0 : Int64) + (0 : Int64))), .second] [(.int (XT.cmpL (0 : Int64) ((0 : Int64) + (0 : Int64))))]))
      refine GoW.st (fun _ k' => XS.ifNo X611.here hx rfl (hb hby at_298) rfl (XT.ll_ne_f (by simp [own_one])) k') ?_
      show GoW p e below s _ _ _ _ _ (T611.setTop (mkF m 301 #[.val (.int sa), .val (.long va), .second, .val (.int sb), .val (.long vb), .second, .val (.int ia), .val (.int ib), .val (.long wa), .second, .val (.long wb), .second, .val (.ref b3), .val (.ref b521), .val (.ref b545), .val (.int 0), .val (.int 1), .val (.int 0), .val (.int 0), .val (.int 1), .val (.int 0), .val (.long ((0 : Int64) + wb)), .second, .val (.long ((0 : Int64) + (0 : Int64))), .second] []))
      refine GoW.st (fun _ k' => XS.iconst X611.here hx rfl (hb hby at_301) k') ?_
      show GoW p e below s _ _ _ _ _ (T611.setTop (mkF m 302 #[.val (.int sa), .val (.long va), .second, .val (.int sb), .val (.long vb), .second, .val (.int ia), .val (.int ib), .val (.long wa), .second, .val (.long wb), .second, .val (.ref b3), .val (.ref b521), .val (.ref b545), .val (.int 0), .val (.int 1), .val (.int 0), .val (.int 0), .val (.int 1), .val (.int 0), .val (.long ((0 : Int64) + wb)), .second, .val (.long ((0 : Int64) + (0 : Int64))), .second] [(.int 1)]))
      refine GoW.st (fun _ k' => XS.goto X611.here hx rfl (pc0 := 302) (pc' := 306) rfl (hb hby at_302) (by decide) (by decide) k') ?_
      show GoW p e below s _ _ _ _ _ (T611.setTop (mkF m 306 #[.val (.int sa), .val (.long va), .second, .val (.int sb), .val (.long vb), .second, .val (.int ia), .val (.int ib), .val (.long wa), .second, .val (.long wb), .second, .val (.ref b3), .val (.ref b521), .val (.ref b545), .val (.int 0), .val (.int 1), .val (.int 0), .val (.int 0), .val (.int 1), .val (.int 0), .val (.long ((0 : Int64) + wb)), .second, .val (.long ((0 : Int64) + (0 : Int64))), .second] [(.int 1)]))
      refine GoW.retB X611 hx hlk hS534 (by rw [eq611]; exact hk587) hZ534 hEL CH587 (t := .boolean) Bd.returns (by simp) (hb hby at_306) (by decide) (by decide) eq611 ?_
      exact ⟨rfl, N611, trivial⟩
    · show GoW p e below s _ _ _ _ _ (T533.setTop (mkF m 58 #[.val (.int sa), .val (.long va), .second, .val (.int sb), .val (.long vb), .second, .val (.int ia), .val (.int ib), .val (.long wa), .second, .val (.long wb), .second, .val (.ref b3), .unset, .unset, .unset, .unset, .unset, .unset, .unset, .unset, .unset, .unset, .unset, .unset] [(.ref hsb), .null, (.ref b521), (.ref b521)]))
      refine GoW.st (fun _ k' => XS.lload X533.here hx rfl (hb hby at_58) rfl k') ?_
      show GoW p e below s _ _ _ _ _ (T533.setTop (mkF m 60 #[.val (.int sa), .val (.long va), .second, .val (.int sb), .val (.long vb), .second, .val (.int ia), .val (.int ib), .val (.long wa), .second, .val (.long wb), .second, .val (.ref b3), .unset, .unset, .unset, .unset, .unset, .unset, .unset, .unset, .unset, .unset, .unset, .unset] [(.long wb), (.ref hsb), .null, (.ref b521), (.ref b521)]))
      obtain ⟨_, _, ⟨T612, L612, k612, n612⟩, -, Xr612, hSr612, hgr612, ⟨Lc612, hQ612, l612, y612, z612, C612⟩, st612⟩ := X533.specialBackS hx (y := mn7) rfl hown515 (mvT hZ515 (wdx hw 19 rfl)) (mvT hZ515 (wdx hw 20 rfl)) (mvT hZ515 (wdx hw 21 rfl)) (by decide) (own_back (W := 1) (rm4 l Z a0 hw [] b521 hsb wb h521 n0 O521 A521 f530 f531 f532 E_hsb g_b521 qwb rwb) hZ515 (wdx hw 21 rfl) (wdx hw 12 rfl) (by decide) (by decide) hEL CH521.1 (allS ⟨A521.lt, f529⟩ all0)) (g := (mkF m 60 #[.val (.int sa), .val (.long va), .second, .val (.int sb), .val (.long vb), .second, .val (.int ia), .val (.int ib), .val (.long wa), .second, .val (.long wb), .second, .val (.ref b3), .unset, .unset, .unset, .unset, .unset, .unset, .unset, .unset, .unset, .unset, .unset, .unset] [(.long wb), (.ref hsb), .null, (.ref b521), (.ref b521)])) rfl (by rw [hml]; rfl) (Steps.refl _) (a := b521) (argsL := [.null, (.ref hsb), (.long wb)]) (rest := [(.ref b521)]) (lenOf pd__Lcom_example_spillway_spillway_assignment_EndpointAddress_Lcom_example_spillway_spillway_assignment_HealthStatus_J_V rfl) rfl (by show 2 * 0 + _ ≤ _; exact Nat.le_of_eq rfl) (hb hby at_60) (fun _ _ => ⟨rfl, eq533, (by exact lee rfl), (by exact lee rfl)⟩)
      dsimp only [Pt.U, Pt.locs, Pt.cells, Pt.slots] at Xr612 hSr612 hgr612 l612 y612 z612 C612 st612 hQ612
      subst l612 y612 z612
      obtain ⟨X612, hS612, hZ612, hown612⟩ := rebS hS515 (by rw [eq533]; exact hk521) Xr612 hSr612 hgr612 hZ515 hown515
      obtain ⟨rfl, Nq612, Kq612, f613, f614⟩ := hQ612
      have N612 := Fr.app N533 Nq612
      refine GoW.tr st612 ?_
      have f615 : Safe Z EL T612.vm T612.heap b3 := C612.safe f525.lt f524
      have f616 : Exa Z T612.heap b3 "com/example/spillway/spillway/assignment/Endpoint" := f525.keep Kq612
      have f617 : Exa Z T612.heap hsa "com/example/spillway/spillway/assignment/HealthStatus" := f526.keep Kq612
      have f618 : Fld Z T612.heap b3 "com/example/spillway/spillway/assignment/Endpoint" "health" "Lcom/example/spillway/spillway/assignment/HealthStatus;" (.ref hsa) := f527.keep Kq612 (ninS ne522 nin0)
      have f619 : Fld Z T612.heap b3 "com/example/spillway/spillway/assignment/Endpoint" "loadBalancingWeight" "J" (.long wa) := f528.keep Kq612 (ninS ne522 nin0)
      have f620 : Safe Z EL T612.vm T612.heap b521 := C612.safe A521.lt f529
      have f621 : Exa Z T612.heap b521 "com/example/spillway/spillway/assignment/Endpoint" := A521.keep Kq612
      have f622 : Exa Z T612.heap hsb "com/example/spillway/spillway/assignment/HealthStatus" := E_hsb.keep Kq612
      have CH612 : CHr Z EL s.vm s.heap T612.vm T612.heap := CH521.trans C612
      have O612 : Old Z n0 T612.heap := O521.keep Kq612 (allS g_b521 all0)
      show GoW p e below s _ _ _ _ _ (T612.setTop (mkF m 63 #[.val (.int sa), .val (.long va), .second, .val (.int sb), .val (.long vb), .second, .val (.int ia), .val (.int ib), .val (.long wa), .second, .val (.long wb), .second, .val (.ref b3), .unset, .unset, .unset, .unset, .unset, .unset, .unset, .unset, .unset, .unset, .unset, .unset] [(.ref b521)]))
      refine GoW.st (fun _ k' => XS.astore X612.here hx rfl (hb hby at_63) rfl rfl (l' := #[.val (.int sa), .val (.long va), .second, .val (.int sb), .val (.long vb), .second, .val (.int ia), .val (.int ib), .val (.long wa), .second, .val (.long wb), .second, .val (.ref b3), .val (.ref b521), .unset, .unset, .unset, .unset, .unset, .unset, .unset, .unset, .unset, .unset, .unset]) rfl k') ?_
      show GoW p e below s _ _ _ _ _ (T612.setTop (mkF m 65 #[.val (.int sa), .val (.long va), .second, .val (.int sb), .val (.long vb), .second, .val (.int ia), .val (.int ib), .val (.long wa), .second, .val (.long wb), .second, .val (.ref b3), .val (.ref b521), .unset, .unset, .unset, .unset, .unset, .unset, .unset, .unset, .unset, .unset, .unset] []))
      obtain ⟨T623, h623, X623, e623, E623, A623, D623, -, st623⟩ := newO X612 hx hZ612 hown612 (wdx hw 52 rfl) (wdx hw 53 rfl) (wdx hw 54 rfl) rfl (g := (mkF m 65 #[.val (.int sa), .val (.long va), .second, .val (.int sb), .val (.long vb), .second, .val (.int ia), .val (.int ib), .val (.long wa), .second, .val (.long wb), .second, .val (.ref b3), .val (.ref b521), .unset, .unset, .unset, .unset, .unset, .unset, .unset, .unset, .unset, .unset, .unset] [])) rfl (hb hby at_65) (by decide) (by decide)
      obtain ⟨b623, g623⟩ : ∃ z, z = T612.heap.size := ⟨_, rfl⟩
      rw [← g623] at A623 D623 st623
      refine GoW.st st623 ?_
      have g_b623 : n0 ≤ b623 := Nat.le_trans (own_le O612) (Nat.le_of_eq g623.symm)
      have sf_b623 : Safe Z EL T612.vm T612.heap b623 := Safe.new (Nat.le_of_eq g623.symm)
      have ne624 : b3 ≠ b623 := Nat.ne_of_lt (Nat.lt_of_lt_of_le f616.lt (Nat.le_of_eq g623.symm))
      have ne625 : hsa ≠ b623 := Nat.ne_of_lt (Nat.lt_of_lt_of_le f617.lt (Nat.le_of_eq g623.symm))
      have ne626 : b521 ≠ b623 := Nat.ne_of_lt (Nat.lt_of_lt_of_le f621.lt (Nat.le_of_eq g623.symm))
      have ne627 : hsb ≠ b623 := Nat.ne_of_lt (Nat.lt_of_lt_of_le f622.lt (Nat.le_of_eq g623.symm))
      have f628 : Safe Z EL T612.vm h623 b3 := Safe.ext E623 CH612.1 f615
      have f629 : Exa Z h623 b3 "com/example/spillway/spillway/assignment/Endpoint" := f616.ext E623
      have f630 : Exa Z h623 hsa "com/example/spillway/spillway/assignment/HealthStatus" := f617.ext E623
      have f631 : Fld Z h623 b3 "com/example/spillway/spillway/assignment/Endpoint" "health" "Lcom/example/spillway/spillway/assignment/HealthStatus;" (.ref hsa) := f618.ext E623
      have f632 : Fld Z h623 b3 "com/example/spillway/spillway/assignment/Endpoint" "loadBalancingWeight" "J" (.long wa) := f619.ext E623
      have f633 : Safe Z EL T612.vm h623 b521 := Safe.ext E623 CH612.1 f620
      have f634 : Exa Z h623 b521 "com/example/spillway/spillway/assignment/Endpoint" := f621.ext E623
      have f635 : Exa Z h623 hsb "com/example/spillway/spillway/assignment/HealthStatus" := f622.ext E623
      have f636 : Fld Z h623 b521 "com/example/spillway/spillway/assignment/Endpoint" "health" "Lcom/example/spillway/spillway/assignment/HealthStatus;" (.ref hsb) := f613.ext E623
      have f637 : Fld Z h623 b521 "com/example/spillway/spillway/assignment/Endpoint" "loadBalancingWeight" "J" (.long wb) := f614.ext E623
      have f638 : Safe Z EL T612.vm h623 b623 := Safe.ext E623 CH612.1 sf_b623
      have CH623 : CHr Z EL s.vm s.heap T612.vm h623 := CH612.trans (CHr.ext E623 CH612.1)
      have hk623 : Array.size T612.heap ≤ Array.size h623 := Nat.le_trans (Nat.le_refl _) E623.1
      have O623 : Old Z n0 h623 := O612.ext E623
      have f639 : Fld Z h623 b623 "com/example/spillway/spillway/assignment/HealthTally" "hosts" "I" (.int 0) := D623 (Or.inl (wdx hw 74 rfl)) (ty := .int) (by decide)
      have f640 : Fld Z h623 b623 "com/example/spillway/spillway/assignment/HealthTally" "hostWeight" "J" (.long 0) := D623 (Or.inl (wdx hw 76 rfl)) (ty := .long) (by decide)
      have f641 : Fld Z h623 b623 "com/example/spillway/spillway/assignment/HealthTally" "healthy" "I" (.int 0) := D623 (Or.inl (wdx hw 90 rfl)) (ty := .int) (by decide)
      have f642 : Fld Z h623 b623 "com/example/spillway/spillway/assignment/HealthTally" "healthyWeight" "J" (.long 0) := D623 (Or.inl (wdx hw 92 rfl)) (ty := .long) (by decide)
      have f643 : Fld Z h623 b623 "com/example/spillway/spillway/assignment/HealthTally" "degraded" "I" (.int 0) := D623 (Or.inl (wdx hw 109 rfl)) (ty := .int) (by decide)
      have f644 : Fld Z h623 b623 "com/example/spillway/spillway/assignment/HealthTally" "degradedWeight" "J" (.long 0) := D623 (Or.inl (wdx hw 126 rfl)) (ty := .long) (by decide)
      show GoW p e below s _ _ _ _ _ (T623.setTop (mkF m 68 #[.val (.int sa), .val (.long va), .second, .val (.int sb), .val (.long vb), .second, .val (.int ia), .val (.int ib), .val (.long wa), .second, .val (.long wb), .second, .val (.ref b3), .val (.ref b521), .unset, .unset, .unset, .unset, .unset, .unset, .unset, .unset, .unset, .unset, .unset] [(.ref b623)]))
      refine GoW.st (fun _ k' => XS.dup X623.here hx rfl (hb hby at_68) rfl rfl k') ?_
      show GoW p e below s _ _ _ _ _ (T623.setTop (mkF m 69 #[.val (.int sa), .val (.long va), .second, .val (.int sb), .val (.long vb), .second, .val (.int ia), .val (.int ib), .val (.long wa), .second, .val (.long wb), .second, .val (.ref b3), .val (.ref b521), .unset, .unset, .unset, .unset, .unset, .unset, .unset, .unset, .unset, .unset, .unset] [(.ref b623), (.ref b623)]))
      obtain ⟨_, _, ⟨T645, L645, k645, n645⟩, -, X645, ⟨Lc645, hQ645, l645, y645, z645⟩, st645⟩ := X623.specialBack hx (y := mn9) rfl hown612 (mvT hZ612 (wdx hw 55 rfl)) (mvT hZ612 (wdx hw 56 rfl)) (mvT hZ612 (wdx hw 57 rfl)) (by decide) (backOf (W := 1) (rm8 l Z a0 hw [] b623 h623 n0 O623 ) hZ612 (wdx hw 57 rfl) (wdx hw 54 rfl) (by decide) (by decide)) (g := (mkF m 69 #[.val (.int sa), .val (.long va), .second, .val (.int sb), .val (.long vb), .second, .val (.int ia), .val (.int ib), .val (.long wa), .second, .val (.long wb), .second, .val (.ref b3), .val (.ref b521), .unset, .unset, .unset, .unset, .unset, .unset, .unset, .unset, .unset, .unset, .unset] [(.ref b623), (.ref b623)])) rfl (by rw [hml]; rfl) (Steps.refl _) (a := b623) (argsL := []) (rest := [(.ref b623)]) (lenOf pd___V rfl) rfl (by show 2 * 0 + _ ≤ _; exact Nat.le_of_eq rfl) (hb hby at_69) (fun _ _ => ⟨rfl, e623, (by exact lee rfl), (by exact lee rfl)⟩)
      dsimp only [Pt.U, Pt.locs, Pt.cells, Pt.slots] at X645 l645 y645 z645 st645 hQ645
      subst l645 y645 z645
      obtain ⟨rfl, Nq645, eq645⟩ := hQ645
      have N645 := Fr.app N612 Nq645
      refine GoW.tr st645 ?_
      show GoW p e below s _ _ _ _ _ (T645.setTop (mkF m 72 #[.val (.int sa), .val (.long va), .second, .val (.int sb), .val (.long vb), .second, .val (.int ia), .val (.int ib), .val (.long wa), .second, .val (.long wb), .second, .val (.ref b3), .val (.ref b521), .unset, .unset, .unset, .unset, .unset, .unset, .unset, .unset, .unset, .unset, .unset] [(.ref b623)]))
      refine GoW.st (fun _ k' => XS.astore X645.here hx rfl (hb hby at_72) rfl rfl (l' := #[.val (.int sa), .val (.long va), .second, .val (.int sb), .val (.long vb), .second, .val (.int ia), .val (.int ib), .val (.long wa), .second, .val (.long wb), .second, .val (.ref b3), .val (.ref b521), .val (.ref b623), .unset, .unset, .unset, .unset, .unset, .unset, .unset, .unset, .unset, .unset]) rfl k') ?_
      refine GoW.st (fun _ k' => XS.aload X645.here hx rfl (hb hby at_74) rfl rfl k') ?_
      refine GoW.st (fun _ k' => XS.aload X645.here hx rfl (hb hby at_76) rfl rfl k') ?_
      show GoW p e below s _ _ _ _ _ (T645.setTop (mkF m 78 #[.val (.int sa), .val (.long va), .second, .val (.int sb), .val (.long vb), .second, .val (.int ia), .val (.int ib), .val (.long wa), .second, .val (.long wb), .second, .val (.ref b3), .val (.ref b521), .val (.ref b623), .unset, .unset, .unset, .unset, .unset, .unset, .unset, .unset, .unset, .unset] [(.ref b3), (.ref b623)]))
      obtain ⟨cq646, kq646, q646a, q646b, q646c⟩ := isOf hZ612 eq645 A623
      obtain ⟨_, _, ⟨T646, L646, k646, n646⟩, -, X646, ⟨Lc646, hQ646, l646, y646, z646⟩, st646⟩ := X645.virtualBack hx (y := mn0) (z := mn0) hown612 (mvT hZ612 (wdx hw 59 rfl)) (mvT hZ612 (wdx hw 60 rfl)) (notFace_of_selects (args := #[]) (mvT hZ612 (wdx hw 62 rfl))) (mvT hZ612 (wdx hw 62 rfl)) (mvT hZ612 (wdx hw 61 rfl)) (by decide) (backOf (W := 0) (rm9_o l Z a0 hw [] b623 b3 (0 : Int32) (0 : Int32) (0 : Int32) (0 : Int64) (0 : Int64) (0 : Int64) hsa wa a_UNKNOWN a_HEALTHY a_DEGRADED h623 n0 O623 A623 f639 f641 f643 f640 f642 f644 f629 f631 f632 f630 S_UNKNOWN S_HEALTHY S_DEGRADED g_b623 (Ne.symm ne624) khsa_2 khsa_3) hZ612 (wdx hw 63 rfl) (wdx hw 54 rfl) (by decide) (by decide)) q646a q646c (g := (mkF m 78 #[.val (.int sa), .val (.long va), .second, .val (.int sb), .val (.long vb), .second, .val (.int ia), .val (.int ib), .val (.long wa), .second, .val (.long wb), .second, .val (.ref b3), .val (.ref b521), .val (.ref b623), .unset, .unset, .unset, .unset, .unset, .unset, .unset, .unset, .unset, .unset] [(.ref b3), (.ref b623)])) rfl (by rw [hml]; rfl) (Steps.refl _) (argsL := [(.ref b3)]) (rest := []) (lenOf pd__Lcom_example_spillway_spillway_assignment_Endpoint__V rfl) rfl (by show 2 * 0 + _ ≤ _; exact Nat.le_of_eq rfl) (hb hby at_78) (fun _ _ => ⟨rfl, eq645, (by exact lee rfl), (by exact lee rfl)⟩)
      dsimp only [Pt.U, Pt.locs, Pt.cells, Pt.slots] at X646 l646 y646 z646 st646 hQ646
      subst l646 y646 z646
      obtain ⟨rfl, Nq646, Kq646, f647, f648, f649, f650, f651, f652⟩ := hQ646
      have N646 := Fr.app N645 Nq646
      refine GoW.tr st646 ?_
      have f653 : Safe Z EL T612.vm T646.heap b3 := Safe.keep Kq646 (allS f638 all0) CH623.1 f628
      have f654 : Exa Z T646.heap b3 "com/example/spillway/spillway/assignment/Endpoint" := f629.keep Kq646
      have f655 : Exa Z T646.heap hsa "com/example/spillway/spillway/assignment/HealthStatus" := f630.keep Kq646
      have f656 : Fld Z T646.heap b3 "com/example/spillway/spillway/assignment/Endpoint" "health" "Lcom/example/spillway/spillway/assignment/HealthStatus;" (.ref hsa) := f631.keep Kq646 (ninS ne624 nin0)
      have f657 : Fld Z T646.heap b3 "com/example/spillway/spillway/assignment/Endpoint" "loadBalancingWeight" "J" (.long wa) := f632.keep Kq646 (ninS ne624 nin0)
      have f658 : Safe Z EL T612.vm T646.heap b521 := Safe.keep Kq646 (allS f638 all0) CH623.1 f633
      have f659 : Exa Z T646.heap b521 "com/example/spillway/spillway/assignment/Endpoint" := f634.keep Kq646
      have f660 : Exa Z T646.heap hsb "com/example/spillway/spillway/assignment/HealthStatus" := f635.keep Kq646
      have f661 : Fld Z T646.heap b521 "com/example/spillway/spillway/assignment/Endpoint" "health" "Lcom/example/spillway/spillway/assignment/HealthStatus;" (.ref hsb) := f636.keep Kq646 (ninS ne626 nin0)
      have f662 : Fld Z T646.heap b521 "com/example/spillway/spillway/assignment/Endpoint" "loadBalancingWeight" "J" (.long wb) := f637.keep Kq646 (ninS ne626 nin0)
      have f663 : Safe Z EL T612.vm T646.heap b623 := Safe.keep Kq646 (allS f638 all0) CH623.1 f638
      have f664 : Exa Z T646.heap b623 "com/example/spillway/spillway/assignment/HealthTally" := A623.keep Kq646
      have CH646 : CHr Z EL s.vm s.heap T612.vm T646.heap := CH623.trans (CHr.keep Kq646 (allS f638 all0) CH623.1)
      have hk646 : Array.size T612.heap ≤ Array.size T646.heap := Nat.le_trans hk623 Kq646.1
      have O646 : Old Z n0 T646.heap := O623.keep Kq646 (allS g_b623 all0)
      show GoW p e below s _ _ _ _ _ (T646.setTop (mkF m 81 #[.val (.int sa), .val (.long va), .second, .val (.int sb), .val (.long vb), .second, .val (.int ia), .val (.int ib), .val (.long wa), .second, .val (.long wb), .second, .val (.ref b3), .val (.ref b521), .val (.ref b623), .unset, .unset, .unset, .unset, .unset, .unset, .unset, .unset, .unset, .unset] []))
      refine GoW.st (fun _ k' => XS.aload X646.here hx rfl (hb hby at_81) rfl rfl k') ?_
      refine GoW.st (fun _ k' => XS.aload X646.here hx rfl (hb hby at_83) rfl rfl k') ?_
      show GoW p e below s _ _ _ _ _ (T646.setTop (mkF m 85 #[.val (.int sa), .val (.long va), .second, .val (.int sb), .val (.long vb), .second, .val (.int ia), .val (.int ib), .val (.long wa), .second, .val (.long wb), .second, .val (.ref b3), .val (.ref b521), .val (.ref b623), .unset, .unset, .unset, .unset, .unset, .unset, .unset, .unset, .unset, .unset] [(.ref b521), (.ref b623)]))
      obtain ⟨cq665, kq665, q665a, q665b, q665c⟩ := isOf hZ612 rfl f664
      obtain ⟨_, _, ⟨T665, L665, k665, n665⟩, -, X665, ⟨Lc665, hQ665, l665, y665, z665⟩, st665⟩ := X646.virtualBack hx (y := mn0) (z := mn0) hown612 (mvT hZ612 (wdx hw 59 rfl)) (mvT hZ612 (wdx hw 60 rfl)) (notFace_of_selects (args := #[]) (mvT hZ612 (wdx hw 62 rfl))) (mvT hZ612 (wdx hw 62 rfl)) (mvT hZ612 (wdx hw 61 rfl)) (by decide) (backOf (W := 0) (rm9_d l Z a0 hw [] b623 b521 ((0 : Int32) + (1 : Int32)) (0 : Int32) (0 : Int32) ((0 : Int64) + (((1 : Int32).toInt64) * wa)) (0 : Int64) (0 : Int64) hsb wb a_UNKNOWN a_HEALTHY a_DEGRADED T646.heap n0 O646 f664 f647 f648 f649 f650 f651 f652 f659 f661 f662 f660 S_UNKNOWN S_HEALTHY S_DEGRADED g_b623 (Ne.symm ne626) khsb_2 khsb_3) hZ612 (wdx hw 63 rfl) (wdx hw 54 rfl) (by decide) (by decide)) q665a q665c (g := (mkF m 85 #[.val (.int sa), .val (.long va), .second, .val (.int sb), .val (.long vb), .second, .val (.int ia), .val (.int ib), .val (.long wa), .second, .val (.long wb), .second, .val (.ref b3), .val (.ref b521), .val (.ref b623), .unset, .unset, .unset, .unset, .unset, .unset, .unset, .unset, .unset, .unset] [(.ref b521), (.ref b623)])) rfl (by rw [hml]; rfl) (Steps.refl _) (argsL := [(.ref b521)]) (rest := []) (lenOf pd__Lcom_example_spillway_spillway_assignment_Endpoint__V rfl) rfl (by show 2 * 0 + _ ≤ _; exact Nat.le_of_eq rfl) (hb hby at_85) (fun _ _ => ⟨rfl, rfl, (by exact lee rfl), (by exact lee rfl)⟩)
      dsimp only [Pt.U, Pt.locs, Pt.cells, Pt.slots] at X665 l665 y665 z665 st665 hQ665
      subst l665 y665 z665
      obtain ⟨rfl, Nq665, Kq665, f666, f667, f668, f669, f670, f671⟩ := hQ665
      have N665 := Fr.app N646 Nq665
      refine GoW.tr st665 ?_
      have f672 : Safe Z EL T612.vm T665.heap b3 := Safe.keep Kq665 (allS f663 all0) CH646.1 f653
      have f673 : Exa Z T665.heap b3 "com/example/spillway/spillway/assignment/Endpoint" := f654.keep Kq665
      have f674 : Exa Z T665.heap hsa "com/example/spillway/spillway/assignment/HealthStatus" := f655.keep Kq665
      have f675 : Fld Z T665.heap b3 "com/example/spillway/spillway/assignment/Endpoint" "health" "Lcom/example/spillway/spillway/assignment/HealthStatus;" (.ref hsa) := f656.keep Kq665 (ninS ne624 nin0)
      have f676 : Fld Z T665.heap b3 "com/example/spillway/spillway/assignment/Endpoint" "loadBalancingWeight" "J" (.long wa) := f657.keep Kq665 (ninS ne624 nin0)
      have f677 : Safe Z EL T612.vm T665.heap b521 := Safe.keep Kq665 (allS f663 all0) CH646.1 f658
      have f678 : Exa Z T665.heap b521 "com/example/spillway/spillway/assignment/Endpoint" := f659.keep Kq665
      have f679 : Exa Z T665.heap hsb "com/example/spillway/spillway/assignment/HealthStatus" := f660.keep Kq665
      have f680 : Fld Z T665.heap b521 "com/example/spillway/spillway/assignment/Endpoint" "health" "Lcom/example/spillway/spillway/assignment/HealthStatus;" (.ref hsb) := f661.keep Kq665 (ninS ne626 nin0)
      have f681 : Fld Z T665.heap b521 "com/example/spillway/spillway/assignment/Endpoint" "loadBalancingWeight" "J" (.long wb) := f662.keep Kq665 (ninS ne626 nin0)
      have f682 : Safe Z EL T612.vm T665.heap b623 := Safe.keep Kq665 (allS f663 all0) CH646.1 f663
      have f683 : Exa Z T665.heap b623 "com/example/spillway/spillway/assignment/HealthTally" := f664.keep Kq665
      have CH665 : CHr Z EL s.vm s.heap T612.vm T665.heap := CH646.trans (CHr.keep Kq665 (allS f663 all0) CH646.1)
      have hk665 : Array.size T612.heap ≤ Array.size T665.heap := Nat.le_trans hk646 Kq665.1
      have O665 : Old Z n0 T665.heap := O646.keep Kq665 (allS g_b623 all0)
      show GoW p e below s _ _ _ _ _ (T665.setTop (mkF m 88 #[.val (.int sa), .val (.long va), .second, .val (.int sb), .val (.long vb), .second, .val (.int ia), .val (.int ib), .val (.long wa), .second, .val (.long wb), .second, .val (.ref b3), .val (.ref b521), .val (.ref b623), .unset, .unset, .unset, .unset, .unset, .unset, .unset, .unset, .unset, .unset] []))
      refine GoW.st (fun _ k' => XS.iload X665.here hx rfl (hb hby at_88) rfl k') ?_
      refine GoW.st (fun _ k' => XS.iconst X665.here hx rfl (hb hby at_90) k') ?_
      show GoW p e below s _ _ _ _ _ (T665.setTop (mkF m 91 #[.val (.int sa), .val (.long va), .second, .val (.int sb), .val (.long vb), .second, .val (.int ia), .val (.int ib), .val (.long wa), .second, .val (.long wb), .second, .val (.ref b3), .val (.ref b521), .val (.ref b623), .unset, .unset, .unset, .unset, .unset, .unset, .unset, .unset, .unset, .unset] [(.int 1), (.int ia)]))
      refine GoW.st (fun _ k' => XS.icmpYes X665.here hx rfl (pc0 := 91) (pc' := 98) rfl (hb hby at_91) rfl (XT.ii_gt_t khsa_0) (by decide) (by decide) k') ?_
      show GoW p e below s _ _ _ _ _ (T665.setTop (mkF m 98 #[.val (.int sa), .val (.long va), .second, .val (.int sb), .val (.long vb), .second, .val (.int ia), .val (.int ib), .val (.long wa), .second, .val (.long wb), .second, .val (.ref b3), .val (.ref b521), .val (.ref b623), .unset, .unset, .unset, .unset, .unset, .unset, .unset, .unset, .unset, .unset] []))
      refine GoW.st (fun _ k' => XS.iconst X665.here hx rfl (hb hby at_98) k') ?_
      refine GoW.st (fun _ k' => XS.istore X665.here hx rfl (hb hby at_99) rfl (l' := #[.val (.int sa), .val (.long va), .second, .val (.int sb), .val (.long vb), .second, .val (.int ia), .val (.int ib), .val (.long wa), .second, .val (.long wb), .second, .val (.ref b3), .val (.ref b521), .val (.ref b623), .val (.int 0), .unset, .unset, .unset, .unset, .unset, .unset, .unset, .unset, .unset]) rfl k') ?_
      refine GoW.st (fun _ k' => XS.iload X665.here hx rfl (hb hby at_101) rfl k') ?_
      refine GoW.st (fun _ k' => XS.iconst X665.here hx rfl (hb hby at_103) k') ?_
      show GoW p e below s _ _ _ _ _ (T665.setTop (mkF m 104 #[.val (.int sa), .val (.long va), .second, .val (.int sb), .val (.long vb), .second, .val (.int ia), .val (.int ib), .val (.long wa), .second, .val (.long wb), .second, .val (.ref b3), .val (.ref b521), .val (.ref b623), .val (.int 0), .unset, .unset, .unset, .unset, .unset, .unset, .unset, .unset, .unset] [(.int 1), (.int ib)]))
      refine GoW.st (fun _ k' => XS.icmpYes X665.here hx rfl (pc0 := 104) (pc' := 111) rfl (hb hby at_104) rfl (XT.ii_gt_t khsb_0) (by decide) (by decide) k') ?_
      show GoW p e below s _ _ _ _ _ (T665.setTop (mkF m 111 #[.val (.int sa), .val (.long va), .second, .val (.int sb), .val (.long vb), .second, .val (.int ia), .val (.int ib), .val (.long wa), .second, .val (.long wb), .second, .val (.ref b3), .val (.ref b521), .val (.ref b623), .val (.int 0), .unset, .unset, .unset, .unset, .unset, .unset, .unset, .unset, .unset] []))
      refine GoW.st (fun _ k' => XS.iconst X665.here hx rfl (hb hby at_111) k') ?_
      refine GoW.st (fun _ k' => XS.istore X665.here hx rfl (hb hby at_112) rfl (l' := #[.val (.int sa), .val (.long va), .second, .val (.int sb), .val (.long vb), .second, .val (.int ia), .val (.int ib), .val (.long wa), .second, .val (.long wb), .second, .val (.ref b3), .val (.ref b521), .val (.ref b623), .val (.int 0), .val (.int 0), .unset, .unset, .unset, .unset, .unset, .unset, .unset, .unset]) rfl k') ?_
      refine GoW.st (fun _ k' => XS.iload X665.here hx rfl (hb hby at_114) rfl k') ?_
      refine GoW.st (fun _ k' => XS.iconst X665.here hx rfl (hb hby at_116) k') ?_
      show GoW p e below s _ _ _ _ _ (T665.setTop (mkF m 117 #[.val (.int sa), .val (.long va), .second, .val (.int sb), .val (.long vb), .second, .val (.int ia), .val (.int ib), .val (.long wa), .second, .val (.long wb), .second, .val (.ref b3), .val (.ref b521), .val (.ref b623), .val (.int 0), .val (.int 0), .unset, .unset, .unset, .unset, .unset, .unset, .unset, .unset] [(.int 5), (.int ia)]))
      refine GoW.st (fun _ k' => XS.icmpYes X665.here hx rfl (pc0 := 117) (pc' := 124) rfl (hb hby at_117) rfl (XT.ii_ne_t khsa_1) (by decide) (by decide) k') ?_
      show GoW p e below s _ _ _ _ _ (T665.setTop (mkF m 124 #[.val (.int sa), .val (.long va), .second, .val (.int sb), .val (.long vb), .second, .val (.int ia), .val (.int ib), .val (.long wa), .second, .val (.long wb), .second, .val (.ref b3), .val (.ref b521), .val (.ref b623), .val (.int 0), .val (.int 0), .unset, .unset, .unset, .unset, .unset, .unset, .unset, .unset] []))
      refine GoW.st (fun _ k' => XS.iconst X665.here hx rfl (hb hby at_124) k') ?_
      refine GoW.st (fun _ k' => XS.istore X665.here hx rfl (hb hby at_125) rfl (l' := #[.val (.int sa), .val (.long va), .second, .val (.int sb), .val (.long vb), .second, .val (.int ia), .val (.int ib), .val (.long wa), .second, .val (.long wb), .second, .val (.ref b3), .val (.ref b521), .val (.ref b623), .val (.int 0), .val (.int 0), .val (.int 0), .unset, .unset, .unset, .unset, .unset, .unset, .unset]) rfl k') ?_
      refine GoW.st (fun _ k' => XS.iload X665.here hx rfl (hb hby at_127) rfl k') ?_
      refine GoW.st (fun _ k' => XS.iconst X665.here hx rfl (hb hby at_129) k') ?_
      show GoW p e below s _ _ _ _ _ (T665.setTop (mkF m 130 #[.val (.int sa), .val (.long va), .second, .val (.int sb), .val (.long vb), .second, .val (.int ia), .val (.int ib), .val (.long wa), .second, .val (.long wb), .second, .val (.ref b3), .val (.ref b521), .val (.ref b623), .val (.int 0), .val (.int 0), .val (.int 0), .unset, .unset, .unset, .unset, .unset, .unset, .unset] [(.int 5), (.int ib)]))
      refine GoW.st (fun _ k' => XS.icmpNo X665.here hx rfl (hb hby at_130) rfl (XT.ii_ne_f khsb_1) k') ?_
      show GoW p e below s _ _ _ _ _ (T665.setTop (mkF m 133 #[.val (.int sa), .val (.long va), .second, .val (.int sb), .val (.long vb), .second, .val (.int ia), .val (.int ib), .val (.long wa), .second, .val (.long wb), .second, .val (.ref b3), .val (.ref b521), .val (.ref b623), .val (.int 0), .val (.int 0), .val (.int 0), .unset, .unset, .unset, .unset, .unset, .unset, .unset] []))
      refine GoW.st (fun _ k' => XS.iconst X665.here hx rfl (hb hby at_133) k') ?_
      show GoW p e below s _ _ _ _ _ (T665.setTop (mkF m 134 #[.val (.int sa), .val (.long va), .second, .val (.int sb), .val (.long vb), .second, .val (.int ia), .val (.int ib), .val (.long wa), .second, .val (.long wb), .second, .val (.ref b3), .val (.ref b521), .val (.ref b623), .val (.int 0), .val (.int 0), .val (.int 0), .unset, .unset, .unset, .unset, .unset, .unset, .unset] [(.int 1)]))
      refine GoW.st (fun _ k' => XS.goto X665.here hx rfl (pc0 := 134) (pc' := 138) rfl (hb hby at_134) (by decide) (by decide) k') ?_
      show GoW p e below s _ _ _ _ _ (T665.setTop (mkF m 138 #[.val (.int sa), .val (.long va), .second, .val (.int sb), .val (.long vb), .second, .val (.int ia), .val (.int ib), .val (.long wa), .second, .val (.long wb), .second, .val (.ref b3), .val (.ref b521), .val (.ref b623), .val (.int 0), .val (.int 0), .val (.int 0), .unset, .unset, .unset, .unset, .unset, .unset, .unset] [(.int 1)]))
      refine GoW.st (fun _ k' => XS.istore X665.here hx rfl (hb hby at_138) rfl (l' := #[.val (.int sa), .val (.long va), .second, .val (.int sb), .val (.long vb), .second, .val (.int ia), .val (.int ib), .val (.long wa), .second, .val (.long wb), .second, .val (.ref b3), .val (.ref b521), .val (.ref b623), .val (.int 0), .val (.int 0), .val (.int 0), .val (.int 1), .unset, .unset, .unset, .unset, .unset, .unset]) rfl k') ?_
      refine GoW.st (fun _ k' => XS.iload X665.here hx rfl (hb hby at_140) rfl k') ?_
      show GoW p e below s _ _ _ _ _ (T665.setTop (mkF m 142 #[.val (.int sa), .val (.long va), .second, .val (.int sb), .val (.long vb), .second, .val (.int ia), .val (.int ib), .val (.long wa), .second, .val (.long wb), .second, .val (.ref b3), .val (.ref b521), .val (.ref b623), .val (.int 0), .val (.int 0), .val (.int 0), .val (.int 1), .unset, .unset, .unset, .unset, .unset, .unset] [(.int 0)]))
      refine GoW.st (fun _ k' => XS.ifYes X665.here hx rfl (pc0 := 142) (pc' := 149) rfl (hb hby at_142) rfl (XT.i0_eq_t (by decide)) (by decide) (by decide) k') ?_
      show GoW p e below s _ _ _ _ _ (T665.setTop (mkF m 149 #[.val (.int sa), .val (.long va), .second, .val (.int sb), .val (.long vb), .second, .val (.int ia), .val (.int ib), .val (.long wa), .second, .val (.long wb), .second, .val (.ref b3), .val (.ref b521), .val (.ref b623), .val (.int 0), .val (.int 0), .val (.int 0), .val (.int 1), .unset, .unset, .unset, .unset, .unset, .unset] []))
      refine GoW.st (fun _ k' => XS.iconst X665.here hx rfl (hb hby at_149) k') ?_
      refine GoW.st (fun _ k' => XS.iload X665.here hx rfl (hb hby at_150) rfl k') ?_
      show GoW p e below s _ _ _ _ _ (T665.setTop (mkF m 152 #[.val (.int sa), .val (.long va), .second, .val (.int sb), .val (.long vb), .second, .val (.int ia), .val (.int ib), .val (.long wa), .second, .val (.long wb), .second, .val (.ref b3), .val (.ref b521), .val (.ref b623), .val (.int 0), .val (.int 0), .val (.int 0), .val (.int 1), .unset, .unset, .unset, .unset, .unset, .unset] [(.int 0), (.int 0)]))
      refine GoW.st (fun _ k' => XS.ifYes X665.here hx rfl (pc0 := 152) (pc' := 159) rfl (hb hby at_152) rfl (XT.i0_eq_t (by decide)) (by decide) (by decide) k') ?_
      show GoW p e below s _ _ _ _ _ (T665.setTop (mkF m 159 #[.val (.int sa), .val (.long va), .second, .val (.int sb), .val (.long vb), .second, .val (.int ia), .val (.int ib), .val (.long wa), .second, .val (.long wb), .second, .val (.ref b3), .val (.ref b521), .val (.ref b623), .val (.int 0), .val (.int 0), .val (.int 0), .val (.int 1), .unset, .unset, .unset, .unset, .unset, .unset] [(.int 0)]))
      refine GoW.st (fun _ k' => XS.iconst X665.here hx rfl (hb hby at_159) k') ?_
      refine GoW.st (fun _ k' => XS.iadd X665.here hx rfl (hb hby at_160) rfl k') ?_
      refine GoW.st (fun _ k' => XS.istore X665.here hx rfl (hb hby at_161) rfl (l' := #[.val (.int sa), .val (.long va), .second, .val (.int sb), .val (.long vb), .second, .val (.int ia), .val (.int ib), .val (.long wa), .second, .val (.long wb), .second, .val (.ref b3), .val (.ref b521), .val (.ref b623), .val (.int 0), .val (.int 0), .val (.int 0), .val (.int 1), .val (.int 0), .unset, .unset, .unset, .unset, .unset]) rfl k') ?_
      refine GoW.st (fun _ k' => XS.iload X665.here hx rfl (hb hby at_163) rfl k') ?_
      show GoW p e below s _ _ _ _ _ (T665.setTop (mkF m 165 #[.val (.int sa), .val (.long va), .second, .val (.int sb), .val (.long vb), .second, .val (.int ia), .val (.int ib), .val (.long wa), .second, .val (.long wb), .second, .val (.ref b3), .val (.ref b521), .val (.ref b623), .val (.int 0), .val (.int 0), .val (.int 0), .val (.int 1), .val (.int 0), .unset, .unset, .unset, .unset, .unset] [(.int 0)]))
      refine GoW.st (fun _ k' => XS.ifYes X665.here hx rfl (pc0 := 165) (pc' := 172) rfl (hb hby at_165) rfl (XT.i0_eq_t (by decide)) (by decide) (by decide) k') ?_
      show GoW p e below s _ _ _ _ _ (T665.setTop (mkF m 172 #[.val (.int sa), .val (.long va), .second, .val (.int sb), .val (.long vb), .second, .val (.int ia), .val (.int ib), .val (.long wa), .second, .val (.long wb), .second, .val (.ref b3), .val (.ref b521), .val (.ref b623), .val (.int 0), .val (.int 0), .val (.int 0), .val (.int 1), .val (.int 0), .unset, .unset, .unset, .unset, .unset] []))
      refine GoW.st (fun _ k' => XS.iconst X665.here hx rfl (hb hby at_172) k') ?_
      refine GoW.st (fun _ k' => XS.iload X665.here hx rfl (hb hby at_173) rfl k') ?_
      show GoW p e below s _ _ _ _ _ (T665.setTop (mkF m 175 #[.val (.int sa), .val (.long va), .second, .val (.int sb), .val (.long vb), .second, .val (.int ia), .val (.int ib), .val (.long wa), .second, .val (.long wb), .second, .val (.ref b3), .val (.ref b521), .val (.ref b623), .val (.int 0), .val (.int 0), .val (.int 0), .val (.int 1), .val (.int 0), .unset, .unset, .unset, .unset, .unset] [(.int 1), (.int 0)]))
      refine GoW.st (fun _ k' => XS.ifNo X665.here hx rfl (hb hby at_175) rfl (XT.i0_eq_f (by decide)) k') ?_
      show GoW p e below s _ _ _ _ _ (T665.setTop (mkF m 178 #[.val (.int sa), .val (.long va), .second, .val (.int sb), .val (.long vb), .second, .val (.int ia), .val (.int ib), .val (.long wa), .second, .val (.long wb), .second, .val (.ref b3), .val (.ref b521), .val (.ref b623), .val (.int 0), .val (.int 0), .val (.int 0), .val (.int 1), .val (.int 0), .unset, .unset, .unset, .unset, .unset] [(.int 0)]))
      refine GoW.st (fun _ k' => XS.iconst X665.here hx rfl (hb hby at_178) k') ?_
      show GoW p e below s _ _ _ _ _ (T665.setTop (mkF m 179 #[.val (.int sa), .val (.long va), .second, .val (.int sb), .val (.long vb), .second, .val (.int ia), .val (.int ib), .val (.long wa), .second, .val (.long wb), .second, .val (.ref b3), .val (.ref b521), .val (.ref b623), .val (.int 0), .val (.int 0), .val (.int 0), .val (.int 1), .val (.int 0), .unset, .unset, .unset, .unset, .unset] [(.int 1), (.int 0)]))
      refine GoW.st (fun _ k' => XS.goto X665.here hx rfl (pc0 := 179) (pc' := 183) rfl (hb hby at_179) (by decide) (by decide) k') ?_
      show GoW p e below s _ _ _ _ _ (T665.setTop (mkF m 183 #[.val (.int sa), .val (.long va), .second, .val (.int sb), .val (.long vb), .second, .val (.int ia), .val (.int ib), .val (.long wa), .second, .val (.long wb), .second, .val (.ref b3), .val (.ref b521), .val (.ref b623), .val (.int 0), .val (.int 0), .val (.int 0), .val (.int 1), .val (.int 0), .unset, .unset, .unset, .unset, .unset] [(.int 1), (.int 0)]))
      refine GoW.st (fun _ k' => XS.iadd X665.here hx rfl (hb hby at_183) rfl k') ?_
      refine GoW.st (fun _ k' => XS.istore X665.here hx rfl (hb hby at_184) rfl (l' := #[.val (.int sa), .val (.long va), .second, .val (.int sb), .val (.long vb), .second, .val (.int ia), .val (.int ib), .val (.long wa), .second, .val (.long wb), .second, .val (.ref b3), .val (.ref b521), .val (.ref b623), .val (.int 0), .val (.int 0), .val (.int 0), .val (.int 1), .val (.int 0), .val (.int 1), .unset, .unset, .unset, .unset]) rfl k') ?_
      refine GoW.st (fun _ k' => XS.iload X665.here hx rfl (hb hby at_186) rfl k') ?_
      show GoW p e below s _ _ _ _ _ (T665.setTop (mkF m 188 #[.val (.int sa), .val (.long va), .second, .val (.int sb), .val (.long vb), .second, .val (.int ia), .val (.int ib), .val (.long wa), .second, .val (.long wb), .second, .val (.ref b3), .val (.ref b521), .val (.ref b623), .val (.int 0), .val (.int 0), .val (.int 0), .val (.int 1), .val (.int 0), .val (.int 1), .unset, .unset, .unset, .unset] [(.int 0)]))
      refine GoW.st (fun _ k' => XS.ifYes X665.here hx rfl (pc0 := 188) (pc' := 196) rfl (hb hby at_188) rfl (XT.i0_eq_t (by decide)) (by decide) (by decide) k') ?_
      show GoW p e below s _ _ _ _ _ (T665.setTop (mkF m 196 #[.val (.int sa), .val (.long va), .second, .val (.int sb), .val (.long vb), .second, .val (.int ia), .val (.int ib), .val (.long wa), .second, .val (.long wb), .second, .val (.ref b3), .val (.ref b521), .val (.ref b623), .val (.int 0), .val (.int 0), .val (.int 0), .val (.int 1), .val (.int 0), .val (.int 1), .unset, .unset, .unset, .unset] []))
      refine GoW.st (fun _ k' => XS.lconst X665.here hx rfl (hb hby at_196) k') ?_
      refine GoW.st (fun _ k' => XS.iload X665.here hx rfl (hb hby at_197) rfl k') ?_
      show GoW p e below s _ _ _ _ _ (T665.setTop (mkF m 199 #[.val (.int sa), .val (.long va), .second, .val (.int sb), .val (.long vb), .second, .val (.int ia), .val (.int ib), .val (.long wa), .second, .val (.long wb), .second, .val (.ref b3), .val (.ref b521), .val (.ref b623), .val (.int 0), .val (.int 0), .val (.int 0), .val (.int 1), .val (.int 0), .val (.int 1), .unset, .unset, .unset, .unset] [(.int 0), (.long 0)]))
      refine GoW.st (fun _ k' => XS.ifYes X665.here hx rfl (pc0 := 199) (pc' := 207) rfl (hb hby at_199) rfl (XT.i0_eq_t (by decide)) (by decide) (by decide) k') ?_
      show GoW p e below s _ _ _ _ _ (T665.setTop (mkF m 207 #[.val (.int sa), .val (.long va), .second, .val (.int sb), .val (.long vb), .second, .val (.int ia), .val (.int ib), .val (.long wa), .second, .val (.long wb), .second, .val (.ref b3), .val (.ref b521), .val (.ref b623), .val (.int 0), .val (.int 0), .val (.int 0), .val (.int 1), .val (.int 0), .val (.int 1), .unset, .unset, .unset, .unset] [(.long 0)]))
      refine GoW.st (fun _ k' => XS.lconst X665.here hx rfl (hb hby at_207) k') ?_
      refine GoW.st (fun _ k' => XS.ladd X665.here hx rfl (hb hby at_208) rfl k') ?_
      refine GoW.st (fun _ k' => XS.lstore X665.here hx rfl (hb hby at_209) rfl (l' := #[.val (.int sa), .val (.long va), .second, .val (.int sb), .val (.long vb), .second, .val (.int ia), .val (.int ib), .val (.long wa), .second, .val (.long wb), .second, .val (.ref b3), .val (.ref b521), .val (.ref b623), .val (.int 0), .val (.int 0), .val (.int 0), .val (.int 1), .val (.int 0), .val (.int 1), .val (.long ((0 : Int64) + (0 : Int64))), .second, .unset, .unset]) rfl k') ?_
      refine GoW.st (fun _ k' => XS.iload X665.here hx rfl (hb hby at_211) rfl k') ?_
      show GoW p e below s _ _ _ _ _ (T665.setTop (mkF m 213 #[.val (.int sa), .val (.long va), .second, .val (.int sb), .val (.long vb), .second, .val (.int ia), .val (.int ib), .val (.long wa), .second, .val (.long wb), .second, .val (.ref b3), .val (.ref b521), .val (.ref b623), .val (.int 0), .val (.int 0), .val (.int 0), .val (.int 1), .val (.int 0), .val (.int 1), .val (.long ((0 : Int64) + (0 : Int64))), .second, .unset, .unset] [(.int 0)]))
      refine GoW.st (fun _ k' => XS.ifYes X665.here hx rfl (pc0 := 213) (pc' := 221) rfl (hb hby at_213) rfl (XT.i0_eq_t (by decide)) (by decide) (by decide) k') ?_
      show GoW p e below s _ _ _ _ _ (T665.setTop (mkF m 221 #[.val (.int sa), .val (.long va), .second, .val (.int sb), .val (.long vb), .second, .val (.int ia), .val (.int ib), .val (.long wa), .second, .val (.long wb), .second, .val (.ref b3), .val (.ref b521), .val (.ref b623), .val (.int 0), .val (.int 0), .val (.int 0), .val (.int 1), .val (.int 0), .val (.int 1), .val (.long ((0 : Int64) + (0 : Int64))), .second, .unset, .unset] []))
      refine GoW.st (fun _ k' => XS.lconst X665.here hx rfl (hb hby at_221) k') ?_
      refine GoW.st (fun _ k' => XS.iload X665.here hx rfl (hb hby at_222) rfl k') ?_
      show GoW p e below s _ _ _ _ _ (T665.setTop (mkF m 224 #[.val (.int sa), .val (.long va), .second, .val (.int sb), .val (.long vb), .second, .val (.int ia), .val (.int ib), .val (.long wa), .second, .val (.long wb), .second, .val (.ref b3), .val (.ref b521), .val (.ref b623), .val (.int 0), .val (.int 0), .val (.int 0), .val (.int 1), .val (.int 0), .val (.int 1), .val (.long ((0 : Int64) + (0 : Int64))), .second, .unset, .unset] [(.int 1), (.long 0)]))
      refine GoW.st (fun _ k' => XS.ifNo X665.here hx rfl (hb hby at_224) rfl (XT.i0_eq_f (by decide)) k') ?_
      show GoW p e below s _ _ _ _ _ (T665.setTop (mkF m 227 #[.val (.int sa), .val (.long va), .second, .val (.int sb), .val (.long vb), .second, .val (.int ia), .val (.int ib), .val (.long wa), .second, .val (.long wb), .second, .val (.ref b3), .val (.ref b521), .val (.ref b623), .val (.int 0), .val (.int 0), .val (.int 0), .val (.int 1), .val (.int 0), .val (.int 1), .val (.long ((0 : Int64) + (0 : Int64))), .second, .unset, .unset] [(.long 0)]))
      refine GoW.st (fun _ k' => XS.lload X665.here hx rfl (hb hby at_227) rfl k') ?_
      show GoW p e below s _ _ _ _ _ (T665.setTop (mkF m 229 #[.val (.int sa), .val (.long va), .second, .val (.int sb), .val (.long vb), .second, .val (.int ia), .val (.int ib), .val (.long wa), .second, .val (.long wb), .second, .val (.ref b3), .val (.ref b521), .val (.ref b623), .val (.int 0), .val (.int 0), .val (.int 0), .val (.int 1), .val (.int 0), .val (.int 1), .val (.long ((0 : Int64) + (0 : Int64))), .second, .unset, .unset] [(.long wb), (.long 0)]))
      refine GoW.st (fun _ k' => XS.goto X665.here hx rfl (pc0 := 229) (pc' := 233) rfl (hb hby at_229) (by decide) (by decide) k') ?_
      show GoW p e below s _ _ _ _ _ (T665.setTop (mkF m 233 #[.val (.int sa), .val (.long va), .second, .val (.int sb), .val (.long vb), .second, .val (.int ia), .val (.int ib), .val (.long wa), .second, .val (.long wb), .second, .val (.ref b3), .val (.ref b521), .val (.ref b623), .val (.int 0), .val (.int 0), .val (.int 0), .val (.int 1), .val (.int 0), .val (.int 1), .val (.long ((0 : Int64) + (0 : Int64))), .second, .unset, .unset] [(.long wb), (.long 0)]))
      refine GoW.st (fun _ k' => XS.ladd X665.here hx rfl (hb hby at_233) rfl k') ?_
      refine GoW.st (fun _ k' => XS.lstore X665.here hx rfl (hb hby at_234) rfl (l' := #[.val (.int sa), .val (.long va), .second, .val (.int sb), .val (.long vb), .second, .val (.int ia), .val (.int ib), .val (.long wa), .second, .val (.long wb), .second, .val (.ref b3), .val (.ref b521), .val (.ref b623), .val (.int 0), .val (.int 0), .val (.int 0), .val (.int 1), .val (.int 0), .val (.int 1), .val (.long ((0 : Int64) + (0 : Int64))), .second, .val (.long ((0 : Int64) + wb)), .second]) rfl k') ?_
      refine GoW.st (fun _ k' => XS.aload X665.here hx rfl (hb hby at_236) rfl rfl k') ?_
      show GoW p e below s _ _ _ _ _ (T665.setTop (mkF m 238 #[.val (.int sa), .val (.long va), .second, .val (.int sb), .val (.long vb), .second, .val (.int ia), .val (.int ib), .val (.long wa), .second, .val (.long wb), .second, .val (.ref b3), .val (.ref b521), .val (.ref b623), .val (.int 0), .val (.int 0), .val (.int 0), .val (.int 1), .val (.int 0), .val (.int 1), .val (.long ((0 : Int64) + (0 : Int64))), .second, .val (.long ((0 : Int64) + wb)), .second] [(.ref b623)]))
      obtain ⟨cq684, kq684, q684a, q684b, q684c⟩ := isOf hZ612 rfl f683
      obtain ⟨_, _, ⟨T684, L684, k684, n684⟩, -, X684, ⟨Lc684, hQ684, l684, y684, z684⟩, st684⟩ := X665.virtualBack hx (y := mn1) (z := mn1) hown612 (mvT hZ612 (wdx hw 93 rfl)) (mvT hZ612 (wdx hw 94 rfl)) (notFace_of_selects (args := #[]) (mvT hZ612 (wdx hw 96 rfl))) (mvT hZ612 (wdx hw 96 rfl)) (mvT hZ612 (wdx hw 95 rfl)) (by decide) (backOf (W := 0) (rm14 l Z a0 hw [] b623 (((0 : Int32) + (1 : Int32)) + (1 : Int32)) T665.heap n0 O665 f666) hZ612 (wdx hw 97 rfl) (wdx hw 54 rfl) (by decide) (by decide)) q684a q684c (g := (mkF m 238 #[.val (.int sa), .val (.long va), .second, .val (.int sb), .val (.long vb), .second, .val (.int ia), .val (.int ib), .val (.long wa), .second, .val (.long wb), .second, .val (.ref b3), .val (.ref b521), .val (.ref b623), .val (.int 0), .val (.int 0), .val (.int 0), .val (.int 1), .val (.int 0), .val (.int 1), .val (.long ((0 : Int64) + (0 : Int64))), .second, .val (.long ((0 : Int64) + wb)), .second] [(.ref b623)])) rfl (by rw [hml]; rfl) (Steps.refl _) (argsL := []) (rest := []) (lenOf pd___I rfl) rfl (by show 2 * 0 + _ ≤ _; exact Nat.le_of_eq rfl) (hb hby at_238) (fun _ _ => ⟨rfl, rfl, (by exact lee rfl), (by exact lee rfl)⟩)
      dsimp only [Pt.U, Pt.locs, Pt.cells, Pt.slots] at X684 l684 y684 z684 st684 hQ684
      subst l684 y684 z684
      obtain ⟨rfl, Nq684, eq684⟩ := hQ684
      have N684 := Fr.app N665 Nq684
      refine GoW.tr st684 ?_
      show GoW p e below s _ _ _ _ _ (T684.setTop (mkF m 241 #[.val (.int sa), .val (.long va), .second, .val (.int sb), .val (.long vb), .second, .val (.int ia), .val (.int ib), .val (.long wa), .second, .val (.long wb), .second, .val (.ref b3), .val (.ref b521), .val (.ref b623), .val (.int 0), .val (.int 0), .val (.int 0), .val (.int 1), .val (.int 0), .val (.int 1), .val (.long ((0 : Int64) + (0 : Int64))), .second, .val (.long ((0 : Int64) + wb)), .second] [(.int (((0 : Int32) + (1 : Int32)) + (1 : Int32)))]))
      refine GoW.st (fun _ k' => XS.iconst X684.here hx rfl (hb hby at_241) k') ?_
      show GoW p e below s _ _ _ _ _ (T684.setTop (mkF m 242 #[.val (.int sa), .val (.long va), .second, .val (.int sb), .val (.long vb), .second, .val (.int ia), .val (.int ib), .val (.long wa), .second, .val (.long wb), .second, .val (.ref b3), .val (.ref b521), .val (.ref b623), .val (.int 0), .val (.int 0), .val (.int 0), .val (.int 1), .val (.int 0), .val (.int 1), .val (.long ((0 : Int64) + (0 : Int64))), .second, .val (.long ((0 : Int64) + wb)), .second] [(.int 2), (.int (((0 : Int32) + (1 : Int32)) + (1 : Int32)))]))
      refine GoW.st (fun _ k' => XS.icmpNo X684.here hx rfl (hb hby at_242) rfl (XT.ii_ne_f (by simp [own_one])) k') ?_
      show GoW p e below s _ _ _ _ _ (T684.setTop (mkF m 245 #[.val (.int sa), .val (.long va), .second, .val (.int sb), .val (.long vb), .second, .val (.int ia), .val (.int ib), .val (.long wa), .second, .val (.long wb), .second, .val (.ref b3), .val (.ref b521), .val (.ref b623), .val (.int 0), .val (.int 0), .val (.int 0), .val (.int 1), .val (.int 0), .val (.int 1), .val (.long ((0 : Int64) + (0 : Int64))), .second, .val (.long ((0 : Int64) + wb)), .second] []))
      refine GoW.st (fun _ k' => XS.aload X684.here hx rfl (hb hby at_245) rfl rfl k') ?_
      show GoW p e below s _ _ _ _ _ (T684.setTop (mkF m 247 #[.val (.int sa), .val (.long va), .second, .val (.int sb), .val (.long vb), .second, .val (.int ia), .val (.int ib), .val (.long wa), .second, .val (.long wb), .second, .val (.ref b3), .val (.ref b521), .val (.ref b623), .val (.int 0), .val (.int 0), .val (.int 0), .val (.int 1), .val (.int 0), .val (.int 1), .val (.long ((0 : Int64) + (0 : Int64))), .second, .val (.long ((0 : Int64) + wb)), .second] [(.ref b623)]))
      obtain ⟨cq685, kq685, q685a, q685b, q685c⟩ := isOf hZ612 eq684 f683
      obtain ⟨_, _, ⟨T685, L685, k685, n685⟩, -, X685, ⟨Lc685, hQ685, l685, y685, z685⟩, st685⟩ := X684.virtualBack hx (y := mn2) (z := mn2) hown612 (mvT hZ612 (wdx hw 98 rfl)) (mvT hZ612 (wdx hw 99 rfl)) (notFace_of_selects (args := #[]) (mvT hZ612 (wdx hw 101 rfl))) (mvT hZ612 (wdx hw 101 rfl)) (mvT hZ612 (wdx hw 100 rfl)) (by decide) (backOf (W := 0) (rm15 l Z a0 hw [] b623 (0 : Int32) T665.heap n0 O665 f667) hZ612 (wdx hw 102 rfl) (wdx hw 54 rfl) (by decide) (by decide)) q685a q685c (g := (mkF m 247 #[.val (.int sa), .val (.long va), .second, .val (.int sb), .val (.long vb), .second, .val (.int ia), .val (.int ib), .val (.long wa), .second, .val (.long wb), .second, .val (.ref b3), .val (.ref b521), .val (.ref b623), .val (.int 0), .val (.int 0), .val (.int 0), .val (.int 1), .val (.int 0), .val (.int 1), .val (.long ((0 : Int64) + (0 : Int64))), .second, .val (.long ((0 : Int64) + wb)), .second] [(.ref b623)])) rfl (by rw [hml]; rfl) (Steps.refl _) (argsL := []) (rest := []) (lenOf pd___I rfl) rfl (by show 2 * 0 + _ ≤ _; exact Nat.le_of_eq rfl) (hb hby at_247) (fun _ _ => ⟨rfl, eq684, (by exact lee rfl), (by exact lee rfl)⟩)
      dsimp only [Pt.U, Pt.locs, Pt.cells, Pt.slots] at X685 l685 y685 z685 st685 hQ685
      subst l685 y685 z685
      obtain ⟨rfl, Nq685, eq685⟩ := hQ685
      have N685 := Fr.app N684 Nq685
      refine GoW.tr st685 ?_
      show GoW p e below s _ _ _ _ _ (T685.setTop (mkF m 250 #[.val (.int sa), .val (.long va), .second, .val (.int sb), .val (.long vb), .second, .val (.int ia), .val (.int ib), .val (.long wa), .second, .val (.long wb), .second, .val (.ref b3), .val (.ref b521), .val (.ref b623), .val (.int 0), .val (.int 0), .val (.int 0), .val (.int 1), .val (.int 0), .val (.int 1), .val (.long ((0 : Int64) + (0 : Int64))), .second, .val (.long ((0 : Int64) + wb)), .second] [(.int 0)]))
      refine GoW.st (fun _ k' => XS.iload X685.here hx rfl (hb hby at_250) rfl k') ?_
      show GoW p e below s _ _ _ _ _ (T685.setTop (mkF m 252 #[.val (.int sa), .val (.long va), .second, .val (.int sb), .val (.long vb), .second, .val (.int ia), .val (.int ib), .val (.long wa), .second, .val (.long wb), .second, .val (.ref b3), .val (.ref b521), .val (.ref b623), .val (.int 0), .val (.int 0), .val (.int 0), .val (.int 1), .val (.int 0), .val (.int 1), .val (.long ((0 : Int64) + (0 : Int64))), .second, .val (.long ((0 : Int64) + wb)), .second] [(.int 0), (.int 0)]))
      refine GoW.st (fun _ k' => XS.icmpNo X685.here hx rfl (hb hby at_252) rfl (XT.ii_ne_f (by simp [own_one])) k') ?_
      show GoW p e below s _ _ _ _ _ (T685.setTop (mkF m 255 #[.val (.int sa), .val (.long va), .second, .val (.int sb), .val (.long vb), .second, .val (.int ia), .val (.int ib), .val (.long wa), .second, .val (.long wb), .second, .val (.ref b3), .val (.ref b521), .val (.ref b623), .val (.int 0), .val (.int 0), .val (.int 0), .val (.int 1), .val (.int 0), .val (.int 1), .val (.long ((0 : Int64) + (0 : Int64))), .second, .val (.long ((0 : Int64) + wb)), .second] []))
      refine GoW.st (fun _ k' => XS.aload X685.here hx rfl (hb hby at_255) rfl rfl k') ?_
      show GoW p e below s _ _ _ _ _ (T685.setTop (mkF m 257 #[.val (.int sa), .val (.long va), .second, .val (.int sb), .val (.long vb), .second, .val (.int ia), .val (.int ib), .val (.long wa), .second, .val (.long wb), .second, .val (.ref b3), .val (.ref b521), .val (.ref b623), .val (.int 0), .val (.int 0), .val (.int 0), .val (.int 1), .val (.int 0), .val (.int 1), .val (.long ((0 : Int64) + (0 : Int64))), .second, .val (.long ((0 : Int64) + wb)), .second] [(.ref b623)]))
      obtain ⟨cq686, kq686, q686a, q686b, q686c⟩ := isOf hZ612 eq685 f683
      obtain ⟨_, _, ⟨T686, L686, k686, n686⟩, -, X686, ⟨Lc686, hQ686, l686, y686, z686⟩, st686⟩ := X685.virtualBack hx (y := mn3) (z := mn3) hown612 (mvT hZ612 (wdx hw 103 rfl)) (mvT hZ612 (wdx hw 104 rfl)) (notFace_of_selects (args := #[]) (mvT hZ612 (wdx hw 106 rfl))) (mvT hZ612 (wdx hw 106 rfl)) (mvT hZ612 (wdx hw 105 rfl)) (by decide) (backOf (W := 0) (rm16 l Z a0 hw [] b623 ((0 : Int32) + (1 : Int32)) T665.heap n0 O665 f668) hZ612 (wdx hw 107 rfl) (wdx hw 54 rfl) (by decide) (by decide)) q686a q686c (g := (mkF m 257 #[.val (.int sa), .val (.long va), .second, .val (.int sb), .val (.long vb), .second, .val (.int ia), .val (.int ib), .val (.long wa), .second, .val (.long wb), .second, .val (.ref b3), .val (.ref b521), .val (.ref b623), .val (.int 0), .val (.int 0), .val (.int 0), .val (.int 1), .val (.int 0), .val (.int 1), .val (.long ((0 : Int64) + (0 : Int64))), .second, .val (.long ((0 : Int64) + wb)), .second] [(.ref b623)])) rfl (by rw [hml]; rfl) (Steps.refl _) (argsL := []) (rest := []) (lenOf pd___I rfl) rfl (by show 2 * 0 + _ ≤ _; exact Nat.le_of_eq rfl) (hb hby at_257) (fun _ _ => ⟨rfl, eq685, (by exact lee rfl), (by exact lee rfl)⟩)
      dsimp only [Pt.U, Pt.locs, Pt.cells, Pt.slots] at X686 l686 y686 z686 st686 hQ686
      subst l686 y686 z686
      obtain ⟨rfl, Nq686, eq686⟩ := hQ686
      have N686 := Fr.app N685 Nq686
      refine GoW.tr st686 ?_
      show GoW p e below s _ _ _ _ _ (T686.setTop (mkF m 260 #[.val (.int sa), .val (.long va), .second, .val (.int sb), .val (.long vb), .second, .val (.int ia), .val (.int ib), .val (.long wa), .second, .val (.long wb), .second, .val (.ref b3), .val (.ref b521), .val (.ref b623), .val (.int 0), .val (.int 0), .val (.int 0), .val (.int 1), .val (.int 0), .val (.int 1), .val (.long ((0 : Int64) + (0 : Int64))), .second, .val (.long ((0 : Int64) + wb)), .second] [(.int ((0 : Int32) + (1 : Int32)))]))
      refine GoW.st (fun _ k' => XS.iload X686.here hx rfl (hb hby at_260) rfl k') ?_
      show GoW p e below s _ _ _ _ _ (T686.setTop (mkF m 262 #[.val (.int sa), .val (.long va), .second, .val (.int sb), .val (.long vb), .second, .val (.int ia), .val (.int ib), .val (.long wa), .second, .val (.long wb), .second, .val (.ref b3), .val (.ref b521), .val (.ref b623), .val (.int 0), .val (.int 0), .val (.int 0), .val (.int 1), .val (.int 0), .val (.int 1), .val (.long ((0 : Int64) + (0 : Int64))), .second, .val (.long ((0 : Int64) + wb)), .second] [(.int 1), (.int ((0 : Int32) + (1 : Int32)))]))
      refine GoW.st (fun _ k' => XS.icmpNo X686.here hx rfl (hb hby at_262) rfl (XT.ii_ne_f (by simp [own_one])) k') ?_
      show GoW p e below s _ _ _ _ _ (T686.setTop (mkF m 265 #[.val (.int sa), .val (.long va), .second, .val (.int sb), .val (.long vb), .second, .val (.int ia), .val (.int ib), .val (.long wa), .second, .val (.long wb), .second, .val (.ref b3), .val (.ref b521), .val (.ref b623), .val (.int 0), .val (.int 0), .val (.int 0), .val (.int 1), .val (.int 0), .val (.int 1), .val (.long ((0 : Int64) + (0 : Int64))), .second, .val (.long ((0 : Int64) + wb)), .second] []))
      refine GoW.st (fun _ k' => XS.aload X686.here hx rfl (hb hby at_265) rfl rfl k') ?_
      show GoW p e below s _ _ _ _ _ (T686.setTop (mkF m 267 #[.val (.int sa), .val (.long va), .second, .val (.int sb), .val (.long vb), .second, .val (.int ia), .val (.int ib), .val (.long wa), .second, .val (.long wb), .second, .val (.ref b3), .val (.ref b521), .val (.ref b623), .val (.int 0), .val (.int 0), .val (.int 0), .val (.int 1), .val (.int 0), .val (.int 1), .val (.long ((0 : Int64) + (0 : Int64))), .second, .val (.long ((0 : Int64) + wb)), .second] [(.ref b623)]))
      obtain ⟨cq687, kq687, q687a, q687b, q687c⟩ := isOf hZ612 eq686 f683
      obtain ⟨_, _, ⟨T687, L687, k687, n687⟩, -, X687, ⟨Lc687, hQ687, l687, y687, z687⟩, st687⟩ := X686.virtualBack hx (y := mn4) (z := mn4) hown612 (mvT hZ612 (wdx hw 110 rfl)) (mvT hZ612 (wdx hw 111 rfl)) (notFace_of_selects (args := #[]) (mvT hZ612 (wdx hw 113 rfl))) (mvT hZ612 (wdx hw 113 rfl)) (mvT hZ612 (wdx hw 112 rfl)) (by decide) (backOf (W := 0) (rm17 l Z a0 hw [] b623 (((0 : Int64) + (((1 : Int32).toInt64) * wa)) + (((1 : Int32).toInt64) * wb)) T665.heap n0 O665 f669) hZ612 (wdx hw 114 rfl) (wdx hw 54 rfl) (by decide) (by decide)) q687a q687c (g := (mkF m 267 #[.val (.int sa), .val (.long va), .second, .val (.int sb), .val (.long vb), .second, .val (.int ia), .val (.int ib), .val (.long wa), .second, .val (.long wb), .second, .val (.ref b3), .val (.ref b521), .val (.ref b623), .val (.int 0), .val (.int 0), .val (.int 0), .val (.int 1), .val (.int 0), .val (.int 1), .val (.long ((0 : Int64) + (0 : Int64))), .second, .val (.long ((0 : Int64) + wb)), .second] [(.ref b623)])) rfl (by rw [hml]; rfl) (Steps.refl _) (argsL := []) (rest := []) (lenOf pd___J rfl) rfl (by show 2 * 0 + _ ≤ _; exact Nat.le_of_eq rfl) (hb hby at_267) (fun _ _ => ⟨rfl, eq686, (by exact lee rfl), (by exact lee rfl)⟩)
      dsimp only [Pt.U, Pt.locs, Pt.cells, Pt.slots] at X687 l687 y687 z687 st687 hQ687
      subst l687 y687 z687
      obtain ⟨rfl, Nq687, eq687⟩ := hQ687
      have N687 := Fr.app N686 Nq687
      refine GoW.tr st687 ?_
      show GoW p e below s _ _ _ _ _ (T687.setTop (mkF m 270 #[.val (.int sa), .val (.long va), .second, .val (.int sb), .val (.long vb), .second, .val (.int ia), .val (.int ib), .val (.long wa), .second, .val (.long wb), .second, .val (.ref b3), .val (.ref b521), .val (.ref b623), .val (.int 0), .val (.int 0), .val (.int 0), .val (.int 1), .val (.int 0), .val (.int 1), .val (.long ((0 : Int64) + (0 : Int64))), .second, .val (.long ((0 : Int64) + wb)), .second] [(.long (((0 : Int64) + (((1 : Int32).toInt64) * wa)) + (((1 : Int32).toInt64) * wb)))]))
      refine GoW.st (fun _ k' => XS.lload X687.here hx rfl (hb hby at_270) rfl k') ?_
      refine GoW.st (fun _ k' => XS.lload X687.here hx rfl (hb hby at_272) rfl k') ?_
      refine GoW.st (fun _ k' => XS.ladd X687.here hx rfl (hb hby at_274) rfl k') ?_
      show GoW p e below s _ _ _ _ _ (T687.setTop (mkF m 275 #[.val (.int sa), .val (.long va), .second, .val (.int sb), .val (.long vb), .second, .val (.int ia), .val (.int ib), .val (.long wa), .second, .val (.long wb), .second, .val (.ref b3), .val (.ref b521), .val (.ref b623), .val (.int 0), .val (.int 0), .val (.int 0), .val (.int 1), .val (.int 0), .val (.int 1), .val (.long ((0 : Int64) + (0 : Int64))), .second, .val (.long ((0 : Int64) + wb)), .second] [(.long (wa + wb)), (.long (((0 : Int64) + (((1 : Int32).toInt64) * wa)) + (((1 : Int32).toInt64) * wb)))]))
      refine GoW.st (fun _ k' => XT.lcmp X687.here hx rfl (hb hby at_275) rfl k') ?_
      show GoW p e below s _ _ _ _ _ (T687.setTop (mkF m 276 #[.val (.int sa), .val (.long va), .second, .val (.int sb), .val (.long vb), .second, .val (.int ia), .val (.int ib), .val (.long wa), .second, .val (.long wb), .second, .val (.ref b3), .val (.ref b521), .val (.ref b623), .val (.int 0), .val (.int 0), .val (.int 0), .val (.int 1), .val (.int 0), .val (.int 1), .val (.long ((0 : Int64) + (0 : Int64))), .second, .val (.long ((0 : Int64) + wb)), .second] [(.int (XT.cmpL (((0 : Int64) + (((1 : Int32).toInt64) * wa)) + (((1 : Int32).toInt64) * wb)) (wa + wb)))]))
      refine GoW.st (fun _ k' => XS.ifNo X687.here hx rfl (hb hby at_276) rfl (XT.ll_ne_f (by simp [own_one])) k') ?_
      show GoW p e below s _ _ _ _ _ (T687.setTop (mkF m 279 #[.val (.int sa), .val (.long va), .second, .val (.int sb), .val (.long vb), .second, .val (.int ia), .val (.int ib), .val (.long wa), .second, .val (.long wb), .second, .val (.ref b3), .val (.ref b521), .val (.ref b623), .val (.int 0), .val (.int 0), .val (.int 0), .val (.int 1), .val (.int 0), .val (.int 1), .val (.long ((0 : Int64) + (0 : Int64))), .second, .val (.long ((0 : Int64) + wb)), .second] []))
      refine GoW.st (fun _ k' => XS.aload X687.here hx rfl (hb hby at_279) rfl rfl k') ?_
      show GoW p e below s _ _ _ _ _ (T687.setTop (mkF m 281 #[.val (.int sa), .val (.long va), .second, .val (.int sb), .val (.long vb), .second, .val (.int ia), .val (.int ib), .val (.long wa), .second, .val (.long wb), .second, .val (.ref b3), .val (.ref b521), .val (.ref b623), .val (.int 0), .val (.int 0), .val (.int 0), .val (.int 1), .val (.int 0), .val (.int 1), .val (.long ((0 : Int64) + (0 : Int64))), .second, .val (.long ((0 : Int64) + wb)), .second] [(.ref b623)]))
      obtain ⟨cq688, kq688, q688a, q688b, q688c⟩ := isOf hZ612 eq687 f683
      obtain ⟨_, _, ⟨T688, L688, k688, n688⟩, -, X688, ⟨Lc688, hQ688, l688, y688, z688⟩, st688⟩ := X687.virtualBack hx (y := mn5) (z := mn5) hown612 (mvT hZ612 (wdx hw 115 rfl)) (mvT hZ612 (wdx hw 116 rfl)) (notFace_of_selects (args := #[]) (mvT hZ612 (wdx hw 118 rfl))) (mvT hZ612 (wdx hw 118 rfl)) (mvT hZ612 (wdx hw 117 rfl)) (by decide) (backOf (W := 0) (rm18 l Z a0 hw [] b623 (0 : Int64) T665.heap n0 O665 f670) hZ612 (wdx hw 119 rfl) (wdx hw 54 rfl) (by decide) (by decide)) q688a q688c (g := (mkF m 281 #[.val (.int sa), .val (.long va), .second, .val (.int sb), .val (.long vb), .second, .val (.int ia), .val (.int ib), .val (.long wa), .second, .val (.long wb), .second, .val (.ref b3), .val (.ref b521), .val (.ref b623), .val (.int 0), .val (.int 0), .val (.int 0), .val (.int 1), .val (.int 0), .val (.int 1), .val (.long ((0 : Int64) + (0 : Int64))), .second, .val (.long ((0 : Int64) + wb)), .second] [(.ref b623)])) rfl (by rw [hml]; rfl) (Steps.refl _) (argsL := []) (rest := []) (lenOf pd___J rfl) rfl (by show 2 * 0 + _ ≤ _; exact Nat.le_of_eq rfl) (hb hby at_281) (fun _ _ => ⟨rfl, eq687, (by exact lee rfl), (by exact lee rfl)⟩)
      dsimp only [Pt.U, Pt.locs, Pt.cells, Pt.slots] at X688 l688 y688 z688 st688 hQ688
      subst l688 y688 z688
      obtain ⟨rfl, Nq688, eq688⟩ := hQ688
      have N688 := Fr.app N687 Nq688
      refine GoW.tr st688 ?_
      show GoW p e below s _ _ _ _ _ (T688.setTop (mkF m 284 #[.val (.int sa), .val (.long va), .second, .val (.int sb), .val (.long vb), .second, .val (.int ia), .val (.int ib), .val (.long wa), .second, .val (.long wb), .second, .val (.ref b3), .val (.ref b521), .val (.ref b623), .val (.int 0), .val (.int 0), .val (.int 0), .val (.int 1), .val (.int 0), .val (.int 1), .val (.long ((0 : Int64) + (0 : Int64))), .second, .val (.long ((0 : Int64) + wb)), .second] [(.long 0)]))
      refine GoW.st (fun _ k' => XS.lload X688.here hx rfl (hb hby at_284) rfl k') ?_
      show GoW p e below s _ _ _ _ _ (T688.setTop (mkF m 286 #[.val (.int sa), .val (.long va), .second, .val (.int sb), .val (.long vb), .second, .val (.int ia), .val (.int ib), .val (.long wa), .second, .val (.long wb), .second, .val (.ref b3), .val (.ref b521), .val (.ref b623), .val (.int 0), .val (.int 0), .val (.int 0), .val (.int 1), .val (.int 0), .val (.int 1), .val (.long ((0 : Int64) + (0 : Int64))), .second, .val (.long ((0 : Int64) + wb)), .second] [(.long ((0 : Int64) + (0 : Int64))), (.long 0)]))
      refine GoW.st (fun _ k' => XT.lcmp X688.here hx rfl (hb hby at_286) rfl k') ?_
      show GoW p e below s _ _ _ _ _ (T688.setTop (mkF m 287 #[.val (.int sa), .val (.long va), .second, .val (.int sb), .val (.long vb), .second, .val (.int ia), .val (.int ib), .val (.long wa), .second, .val (.long wb), .second, .val (.ref b3), .val (.ref b521), .val (.ref b623), .val (.int 0), .val (.int 0), .val (.int 0), .val (.int 1), .val (.int 0), .val (.int 1), .val (.long ((0 : Int64) + (0 : Int64))), .second, .val (.long ((0 : Int64) + wb)), .second] [(.int (XT.cmpL (0 : Int64) ((0 : Int64) + (0 : Int64))))]))
      refine GoW.st (fun _ k' => XS.ifNo X688.here hx rfl (hb hby at_287) rfl (XT.ll_ne_f (by simp [own_one])) k') ?_
      show GoW p e below s _ _ _ _ _ (T688.setTop (mkF m 290 #[.val (.int sa), .val (.long va), .second, .val (.int sb), .val (.long vb), .second, .val (.int ia), .val (.int ib), .val (.long wa), .second, .val (.long wb), .second, .val (.ref b3), .val (.ref b521), .val (.ref b623), .val (.int 0), .val (.int 0), .val (.int 0), .val (.int 1), .val (.int 0), .val (.int 1), .val (.long ((0 : Int64) + (0 : Int64))), .second, .val (.long ((0 : Int64) + wb)), .second] []))
      refine GoW.st (fun _ k' => XS.aload X688.here hx rfl (hb hby at_290) rfl rfl k') ?_
      show GoW p e below s _ _ _ _ _ (T688.setTop (mkF m 292 #[.val (.int sa), .val (.long va), .second, .val (.int sb), .val (.long vb), .second, .val (.int ia), .val (.int ib), .val (.long wa), .second, .val (.long wb), .second, .val (.ref b3), .val (.ref b521), .val (.ref b623), .val (.int 0), .val (.int 0), .val (.int 0), .val (.int 1), .val (.int 0), .val (.int 1), .val (.long ((0 : Int64) + (0 : Int64))), .second, .val (.long ((0 : Int64) + wb)), .second] [(.ref b623)]))
      obtain ⟨cq689, kq689, q689a, q689b, q689c⟩ := isOf hZ612 eq688 f683
      obtain ⟨_, _, ⟨T689, L689, k689, n689⟩, -, X689, ⟨Lc689, hQ689, l689, y689, z689⟩, st689⟩ := X688.virtualBack hx (y := mn6) (z := mn6) hown612 (mvT hZ612 (wdx hw 120 rfl)) (mvT hZ612 (wdx hw 121 rfl)) (notFace_of_selects (args := #[]) (mvT hZ612 (wdx hw 123 rfl))) (mvT hZ612 (wdx hw 123 rfl)) (mvT hZ612 (wdx hw 122 rfl)) (by decide) (backOf (W := 0) (rm19 l Z a0 hw [] b623 ((0 : Int64) + (((1 : Int32).toInt64) * wb)) T665.heap n0 O665 f671) hZ612 (wdx hw 124 rfl) (wdx hw 54 rfl) (by decide) (by decide)) q689a q689c (g := (mkF m 292 #[.val (.int sa), .val (.long va), .second, .val (.int sb), .val (.long vb), .second, .val (.int ia), .val (.int ib), .val (.long wa), .second, .val (.long wb), .second, .val (.ref b3), .val (.ref b521), .val (.ref b623), .val (.int 0), .val (.int 0), .val (.int 0), .val (.int 1), .val (.int 0), .val (.int 1), .val (.long ((0 : Int64) + (0 : Int64))), .second, .val (.long ((0 : Int64) + wb)), .second] [(.ref b623)])) rfl (by rw [hml]; rfl) (Steps.refl _) (argsL := []) (rest := []) (lenOf pd___J rfl) rfl (by show 2 * 0 + _ ≤ _; exact Nat.le_of_eq rfl) (hb hby at_292) (fun _ _ => ⟨rfl, eq688, (by exact lee rfl), (by exact lee rfl)⟩)
      dsimp only [Pt.U, Pt.locs, Pt.cells, Pt.slots] at X689 l689 y689 z689 st689 hQ689
      subst l689 y689 z689
      obtain ⟨rfl, Nq689, eq689⟩ := hQ689
      have N689 := Fr.app N688 Nq689
      refine GoW.tr st689 ?_
      show GoW p e below s _ _ _ _ _ (T689.setTop (mkF m 295 #[.val (.int sa), .val (.long va), .second, .val (.int sb), .val (.long vb), .second, .val (.int ia), .val (.int ib), .val (.long wa), .second, .val (.long wb), .second, .val (.ref b3), .val (.ref b521), .val (.ref b623), .val (.int 0), .val (.int 0), .val (.int 0), .val (.int 1), .val (.int 0), .val (.int 1), .val (.long ((0 : Int64) + (0 : Int64))), .second, .val (.long ((0 : Int64) + wb)), .second] [(.long ((0 : Int64) + (((1 : Int32).toInt64) * wb)))]))
      refine GoW.st (fun _ k' => XS.lload X689.here hx rfl (hb hby at_295) rfl k') ?_
      show GoW p e below s _ _ _ _ _ (T689.setTop (mkF m 297 #[.val (.int sa), .val (.long va), .second, .val (.int sb), .val (.long vb), .second, .val (.int ia), .val (.int ib), .val (.long wa), .second, .val (.long wb), .second, .val (.ref b3), .val (.ref b521), .val (.ref b623), .val (.int 0), .val (.int 0), .val (.int 0), .val (.int 1), .val (.int 0), .val (.int 1), .val (.long ((0 : Int64) + (0 : Int64))), .second, .val (.long ((0 : Int64) + wb)), .second] [(.long ((0 : Int64) + wb)), (.long ((0 : Int64) + (((1 : Int32).toInt64) * wb)))]))
      refine GoW.st (fun _ k' => XT.lcmp X689.here hx rfl (hb hby at_297) rfl k') ?_
      show GoW p e below s _ _ _ _ _ (T689.setTop (mkF m 298 #[.val (.int sa), .val (.long va), .second, .val (.int sb), .val (.long vb), .second, .val (.int ia), .val (.int ib), .val (.long wa), .second, .val (.long wb), .second, .val (.ref b3), .val (.ref b521), .val (.ref b623), .val (.int 0), .val (.int 0), .val (.int 0), .val (.int 1), .val (.int 0), .val (.int 1), .val (.long ((0 : Int64) + (0 : Int64))), .second, .val (.long ((0 : Int64) + wb)), .second] [(.int (XT.cmpL ((0 : Int64) + (((1 : Int32).toInt64) * wb)) ((0 : Int64) + wb)))]))
      refine GoW.st (fun _ k' => XS.ifNo X689.here hx rfl (hb hby at_298) rfl (XT.ll_ne_f (by simp [own_one])) k') ?_
      show GoW p e below s _ _ _ _ _ (T689.setTop (mkF m 301 #[.val (.int sa), .val (.long va), .second, .val (.int sb), .val (.long vb), .second, .val (.int ia), .val (.int ib), .val (.long wa), .second, .val (.long wb), .second, .val (.ref b3), .val (.ref b521), .val (.ref b623), .val (.int 0), .val (.int 0), .val (.int 0), .val (.int 1), .val (.int 0), .val (.int 1), .val (.long ((0 : Int64) + (0 : Int64))), .second, .val (.long ((0 : Int64) + wb)), .second] []))
      refine GoW.st (fun _ k' => XS.iconst X689.here hx rfl (hb hby at_301) k') ?_
      show GoW p e below s _ _ _ _ _ (T689.setTop (mkF m 302 #[.val (.int sa), .val (.long va), .second, .val (.int sb), .val (.long vb), .second, .val (.int ia), .val (.int ib), .val (.long wa), .second, .val (.long wb), .second, .val (.ref b3), .val (.ref b521), .val (.ref b623), .val (.int 0), .val (.int 0), .val (.int 0), .val (.int 1), .val (.int 0), .val (.int 1), .val (.long ((0 : Int64) + (0 : Int64))), .second, .val (.long ((0 : Int64) + wb)), .second] [(.int 1)]))
      refine GoW.st (fun _ k' => XS.goto X689.here hx rfl (pc0 := 302) (pc' := 306) rfl (hb hby at_302) (by decide) (by decide) k') ?_
      show GoW p e below s _ _ _ _ _ (T689.setTop (mkF m 306 #[.val (.int sa), .val (.long va), .second, .val (.int sb), .val (.long vb), .second, .val (.int ia), .val (.int ib), .val (.long wa), .second, .val (.long wb), .second, .val (.ref b3), .val (.ref b521), .val (.ref b623), .val (.int 0), .val (.int 0), .val (.int 0), .val (.int 1), .val (.int 0), .val (.int 1), .val (.long ((0 : Int64) + (0 : Int64))), .second, .val (.long ((0 : Int64) + wb)), .second] [(.int 1)]))
      refine GoW.retB X689 hx hlk hS612 (by rw [eq689]; exact hk665) hZ612 hEL CH665 (t := .boolean) Bd.returns (by simp) (hb hby at_306) (by decide) (by decide) eq689 ?_
      exact ⟨rfl, N689, trivial⟩
    · show GoW p e below s _ _ _ _ _ (T533.setTop (mkF m 58 #[.val (.int sa), .val (.long va), .second, .val (.int sb), .val (.long vb), .second, .val (.int ia), .val (.int ib), .val (.long wa), .second, .val (.long wb), .second, .val (.ref b3), .unset, .unset, .unset, .unset, .unset, .unset, .unset, .unset, .unset, .unset, .unset, .unset] [(.ref hsb), .null, (.ref b521), (.ref b521)]))
      refine GoW.st (fun _ k' => XS.lload X533.here hx rfl (hb hby at_58) rfl k') ?_
      show GoW p e below s _ _ _ _ _ (T533.setTop (mkF m 60 #[.val (.int sa), .val (.long va), .second, .val (.int sb), .val (.long vb), .second, .val (.int ia), .val (.int ib), .val (.long wa), .second, .val (.long wb), .second, .val (.ref b3), .unset, .unset, .unset, .unset, .unset, .unset, .unset, .unset, .unset, .unset, .unset, .unset] [(.long wb), (.ref hsb), .null, (.ref b521), (.ref b521)]))
      obtain ⟨_, _, ⟨T690, L690, k690, n690⟩, -, Xr690, hSr690, hgr690, ⟨Lc690, hQ690, l690, y690, z690, C690⟩, st690⟩ := X533.specialBackS hx (y := mn7) rfl hown515 (mvT hZ515 (wdx hw 19 rfl)) (mvT hZ515 (wdx hw 20 rfl)) (mvT hZ515 (wdx hw 21 rfl)) (by decide) (own_back (W := 1) (rm4 l Z a0 hw [] b521 hsb wb h521 n0 O521 A521 f530 f531 f532 E_hsb g_b521 qwb rwb) hZ515 (wdx hw 21 rfl) (wdx hw 12 rfl) (by decide) (by decide) hEL CH521.1 (allS ⟨A521.lt, f529⟩ all0)) (g := (mkF m 60 #[.val (.int sa), .val (.long va), .second, .val (.int sb), .val (.long vb), .second, .val (.int ia), .val (.int ib), .val (.long wa), .second, .val (.long wb), .second, .val (.ref b3), .unset, .unset, .unset, .unset, .unset, .unset, .unset, .unset, .unset, .unset, .unset, .unset] [(.long wb), (.ref hsb), .null, (.ref b521), (.ref b521)])) rfl (by rw [hml]; rfl) (Steps.refl _) (a := b521) (argsL := [.null, (.ref hsb), (.long wb)]) (rest := [(.ref b521)]) (lenOf pd__Lcom_example_spillway_spillway_assignment_EndpointAddress_Lcom_example_spillway_spillway_assignment_HealthStatus_J_V rfl) rfl (by show 2 * 0 + _ ≤ _; exact Nat.le_of_eq rfl) (hb hby at_60) (fun _ _ => ⟨rfl, eq533, (by exact lee rfl), (by exact lee rfl)⟩)
      dsimp only [Pt.U, Pt.locs, Pt.cells, Pt.slots] at Xr690 hSr690 hgr690 l690 y690 z690 C690 st690 hQ690
      subst l690 y690 z690
      obtain ⟨X690, hS690, hZ690, hown690⟩ := rebS hS515 (by rw [eq533]; exact hk521) Xr690 hSr690 hgr690 hZ515 hown515
      obtain ⟨rfl, Nq690, Kq690, f691, f692⟩ := hQ690
      have N690 := Fr.app N533 Nq690
      refine GoW.tr st690 ?_
      have f693 : Safe Z EL T690.vm T690.heap b3 := C690.safe f525.lt f524
      have f694 : Exa Z T690.heap b3 "com/example/spillway/spillway/assignment/Endpoint" := f525.keep Kq690
      have f695 : Exa Z T690.heap hsa "com/example/spillway/spillway/assignment/HealthStatus" := f526.keep Kq690
      have f696 : Fld Z T690.heap b3 "com/example/spillway/spillway/assignment/Endpoint" "health" "Lcom/example/spillway/spillway/assignment/HealthStatus;" (.ref hsa) := f527.keep Kq690 (ninS ne522 nin0)
      have f697 : Fld Z T690.heap b3 "com/example/spillway/spillway/assignment/Endpoint" "loadBalancingWeight" "J" (.long wa) := f528.keep Kq690 (ninS ne522 nin0)
      have f698 : Safe Z EL T690.vm T690.heap b521 := C690.safe A521.lt f529
      have f699 : Exa Z T690.heap b521 "com/example/spillway/spillway/assignment/Endpoint" := A521.keep Kq690
      have f700 : Exa Z T690.heap hsb "com/example/spillway/spillway/assignment/HealthStatus" := E_hsb.keep Kq690
      have CH690 : CHr Z EL s.vm s.heap T690.vm T690.heap := CH521.trans C690
      have O690 : Old Z n0 T690.heap := O521.keep Kq690 (allS g_b521 all0)
      show GoW p e below s _ _ _ _ _ (T690.setTop (mkF m 63 #[.val (.int sa), .val (.long va), .second, .val (.int sb), .val (.long vb), .second, .val (.int ia), .val (.int ib), .val (.long wa), .second, .val (.long wb), .second, .val (.ref b3), .unset, .unset, .unset, .unset, .unset, .unset, .unset, .unset, .unset, .unset, .unset, .unset] [(.ref b521)]))
      refine GoW.st (fun _ k' => XS.astore X690.here hx rfl (hb hby at_63) rfl rfl (l' := #[.val (.int sa), .val (.long va), .second, .val (.int sb), .val (.long vb), .second, .val (.int ia), .val (.int ib), .val (.long wa), .second, .val (.long wb), .second, .val (.ref b3), .val (.ref b521), .unset, .unset, .unset, .unset, .unset, .unset, .unset, .unset, .unset, .unset, .unset]) rfl k') ?_
      show GoW p e below s _ _ _ _ _ (T690.setTop (mkF m 65 #[.val (.int sa), .val (.long va), .second, .val (.int sb), .val (.long vb), .second, .val (.int ia), .val (.int ib), .val (.long wa), .second, .val (.long wb), .second, .val (.ref b3), .val (.ref b521), .unset, .unset, .unset, .unset, .unset, .unset, .unset, .unset, .unset, .unset, .unset] []))
      obtain ⟨T701, h701, X701, e701, E701, A701, D701, -, st701⟩ := newO X690 hx hZ690 hown690 (wdx hw 52 rfl) (wdx hw 53 rfl) (wdx hw 54 rfl) rfl (g := (mkF m 65 #[.val (.int sa), .val (.long va), .second, .val (.int sb), .val (.long vb), .second, .val (.int ia), .val (.int ib), .val (.long wa), .second, .val (.long wb), .second, .val (.ref b3), .val (.ref b521), .unset, .unset, .unset, .unset, .unset, .unset, .unset, .unset, .unset, .unset, .unset] [])) rfl (hb hby at_65) (by decide) (by decide)
      obtain ⟨b701, g701⟩ : ∃ z, z = T690.heap.size := ⟨_, rfl⟩
      rw [← g701] at A701 D701 st701
      refine GoW.st st701 ?_
      have g_b701 : n0 ≤ b701 := Nat.le_trans (own_le O690) (Nat.le_of_eq g701.symm)
      have sf_b701 : Safe Z EL T690.vm T690.heap b701 := Safe.new (Nat.le_of_eq g701.symm)
      have ne702 : b3 ≠ b701 := Nat.ne_of_lt (Nat.lt_of_lt_of_le f694.lt (Nat.le_of_eq g701.symm))
      have ne703 : hsa ≠ b701 := Nat.ne_of_lt (Nat.lt_of_lt_of_le f695.lt (Nat.le_of_eq g701.symm))
      have ne704 : b521 ≠ b701 := Nat.ne_of_lt (Nat.lt_of_lt_of_le f699.lt (Nat.le_of_eq g701.symm))
      have ne705 : hsb ≠ b701 := Nat.ne_of_lt (Nat.lt_of_lt_of_le f700.lt (Nat.le_of_eq g701.symm))
      have f706 : Safe Z EL T690.vm h701 b3 := Safe.ext E701 CH690.1 f693
      have f707 : Exa Z h701 b3 "com/example/spillway/spillway/assignment/Endpoint" := f694.ext E701
      have f708 : Exa Z h701 hsa "com/example/spillway/spillway/assignment/HealthStatus" := f695.ext E701
      have f709 : Fld Z h701 b3 "com/example/spillway/spillway/assignment/Endpoint" "health" "Lcom/example/spillway/spillway/assignment/HealthStatus;" (.ref hsa) := f696.ext E701
      have f710 : Fld Z h701 b3 "com/example/spillway/spillway/assignment/Endpoint" "loadBalancingWeight" "J" (.long wa) := f697.ext E701
      have f711 : Safe Z EL T690.vm h701 b521 := Safe.ext E701 CH690.1 f698
      have f712 : Exa Z h701 b521 "com/example/spillway/spillway/assignment/Endpoint" := f699.ext E701
      have f713 : Exa Z h701 hsb "com/example/spillway/spillway/assignment/HealthStatus" := f700.ext E701
      have f714 : Fld Z h701 b521 "com/example/spillway/spillway/assignment/Endpoint" "health" "Lcom/example/spillway/spillway/assignment/HealthStatus;" (.ref hsb) := f691.ext E701
      have f715 : Fld Z h701 b521 "com/example/spillway/spillway/assignment/Endpoint" "loadBalancingWeight" "J" (.long wb) := f692.ext E701
      have f716 : Safe Z EL T690.vm h701 b701 := Safe.ext E701 CH690.1 sf_b701
      have CH701 : CHr Z EL s.vm s.heap T690.vm h701 := CH690.trans (CHr.ext E701 CH690.1)
      have hk701 : Array.size T690.heap ≤ Array.size h701 := Nat.le_trans (Nat.le_refl _) E701.1
      have O701 : Old Z n0 h701 := O690.ext E701
      have f717 : Fld Z h701 b701 "com/example/spillway/spillway/assignment/HealthTally" "hosts" "I" (.int 0) := D701 (Or.inl (wdx hw 74 rfl)) (ty := .int) (by decide)
      have f718 : Fld Z h701 b701 "com/example/spillway/spillway/assignment/HealthTally" "hostWeight" "J" (.long 0) := D701 (Or.inl (wdx hw 76 rfl)) (ty := .long) (by decide)
      have f719 : Fld Z h701 b701 "com/example/spillway/spillway/assignment/HealthTally" "healthy" "I" (.int 0) := D701 (Or.inl (wdx hw 90 rfl)) (ty := .int) (by decide)
      have f720 : Fld Z h701 b701 "com/example/spillway/spillway/assignment/HealthTally" "healthyWeight" "J" (.long 0) := D701 (Or.inl (wdx hw 92 rfl)) (ty := .long) (by decide)
      have f721 : Fld Z h701 b701 "com/example/spillway/spillway/assignment/HealthTally" "degraded" "I" (.int 0) := D701 (Or.inl (wdx hw 109 rfl)) (ty := .int) (by decide)
      have f722 : Fld Z h701 b701 "com/example/spillway/spillway/assignment/HealthTally" "degradedWeight" "J" (.long 0) := D701 (Or.inl (wdx hw 126 rfl)) (ty := .long) (by decide)
      show GoW p e below s _ _ _ _ _ (T701.setTop (mkF m 68 #[.val (.int sa), .val (.long va), .second, .val (.int sb), .val (.long vb), .second, .val (.int ia), .val (.int ib), .val (.long wa), .second, .val (.long wb), .second, .val (.ref b3), .val (.ref b521), .unset, .unset, .unset, .unset, .unset, .unset, .unset, .unset, .unset, .unset, .unset] [(.ref b701)]))
      refine GoW.st (fun _ k' => XS.dup X701.here hx rfl (hb hby at_68) rfl rfl k') ?_
      show GoW p e below s _ _ _ _ _ (T701.setTop (mkF m 69 #[.val (.int sa), .val (.long va), .second, .val (.int sb), .val (.long vb), .second, .val (.int ia), .val (.int ib), .val (.long wa), .second, .val (.long wb), .second, .val (.ref b3), .val (.ref b521), .unset, .unset, .unset, .unset, .unset, .unset, .unset, .unset, .unset, .unset, .unset] [(.ref b701), (.ref b701)]))
      obtain ⟨_, _, ⟨T723, L723, k723, n723⟩, -, X723, ⟨Lc723, hQ723, l723, y723, z723⟩, st723⟩ := X701.specialBack hx (y := mn9) rfl hown690 (mvT hZ690 (wdx hw 55 rfl)) (mvT hZ690 (wdx hw 56 rfl)) (mvT hZ690 (wdx hw 57 rfl)) (by decide) (backOf (W := 1) (rm8 l Z a0 hw [] b701 h701 n0 O701 ) hZ690 (wdx hw 57 rfl) (wdx hw 54 rfl) (by decide) (by decide)) (g := (mkF m 69 #[.val (.int sa), .val (.long va), .second, .val (.int sb), .val (.long vb), .second, .val (.int ia), .val (.int ib), .val (.long wa), .second, .val (.long wb), .second, .val (.ref b3), .val (.ref b521), .unset, .unset, .unset, .unset, .unset, .unset, .unset, .unset, .unset, .unset, .unset] [(.ref b701), (.ref b701)])) rfl (by rw [hml]; rfl) (Steps.refl _) (a := b701) (argsL := []) (rest := [(.ref b701)]) (lenOf pd___V rfl) rfl (by show 2 * 0 + _ ≤ _; exact Nat.le_of_eq rfl) (hb hby at_69) (fun _ _ => ⟨rfl, e701, (by exact lee rfl), (by exact lee rfl)⟩)
      dsimp only [Pt.U, Pt.locs, Pt.cells, Pt.slots] at X723 l723 y723 z723 st723 hQ723
      subst l723 y723 z723
      obtain ⟨rfl, Nq723, eq723⟩ := hQ723
      have N723 := Fr.app N690 Nq723
      refine GoW.tr st723 ?_
      show GoW p e below s _ _ _ _ _ (T723.setTop (mkF m 72 #[.val (.int sa), .val (.long va), .second, .val (.int sb), .val (.long vb), .second, .val (.int ia), .val (.int ib), .val (.long wa), .second, .val (.long wb), .second, .val (.ref b3), .val (.ref b521), .unset, .unset, .unset, .unset, .unset, .unset, .unset, .unset, .unset, .unset, .unset] [(.ref b701)]))
      refine GoW.st (fun _ k' => XS.astore X723.here hx rfl (hb hby at_72) rfl rfl (l' := #[.val (.int sa), .val (.long va), .second, .val (.int sb), .val (.long vb), .second, .val (.int ia), .val (.int ib), .val (.long wa), .second, .val (.long wb), .second, .val (.ref b3), .val (.ref b521), .val (.ref b701), .unset, .unset, .unset, .unset, .unset, .unset, .unset, .unset, .unset, .unset]) rfl k') ?_
      refine GoW.st (fun _ k' => XS.aload X723.here hx rfl (hb hby at_74) rfl rfl k') ?_
      refine GoW.st (fun _ k' => XS.aload X723.here hx rfl (hb hby at_76) rfl rfl k') ?_
      show GoW p e below s _ _ _ _ _ (T723.setTop (mkF m 78 #[.val (.int sa), .val (.long va), .second, .val (.int sb), .val (.long vb), .second, .val (.int ia), .val (.int ib), .val (.long wa), .second, .val (.long wb), .second, .val (.ref b3), .val (.ref b521), .val (.ref b701), .unset, .unset, .unset, .unset, .unset, .unset, .unset, .unset, .unset, .unset] [(.ref b3), (.ref b701)]))
      obtain ⟨cq724, kq724, q724a, q724b, q724c⟩ := isOf hZ690 eq723 A701
      obtain ⟨_, _, ⟨T724, L724, k724, n724⟩, -, X724, ⟨Lc724, hQ724, l724, y724, z724⟩, st724⟩ := X723.virtualBack hx (y := mn0) (z := mn0) hown690 (mvT hZ690 (wdx hw 59 rfl)) (mvT hZ690 (wdx hw 60 rfl)) (notFace_of_selects (args := #[]) (mvT hZ690 (wdx hw 62 rfl))) (mvT hZ690 (wdx hw 62 rfl)) (mvT hZ690 (wdx hw 61 rfl)) (by decide) (backOf (W := 0) (rm9_o l Z a0 hw [] b701 b3 (0 : Int32) (0 : Int32) (0 : Int32) (0 : Int64) (0 : Int64) (0 : Int64) hsa wa a_UNKNOWN a_HEALTHY a_DEGRADED h701 n0 O701 A701 f717 f719 f721 f718 f720 f722 f707 f709 f710 f708 S_UNKNOWN S_HEALTHY S_DEGRADED g_b701 (Ne.symm ne702) khsa_2 khsa_3) hZ690 (wdx hw 63 rfl) (wdx hw 54 rfl) (by decide) (by decide)) q724a q724c (g := (mkF m 78 #[.val (.int sa), .val (.long va), .second, .val (.int sb), .val (.long vb), .second, .val (.int ia), .val (.int ib), .val (.long wa), .second, .val (.long wb), .second, .val (.ref b3), .val (.ref b521), .val (.ref b701), .unset, .unset, .unset, .unset, .unset, .unset, .unset, .unset, .unset, .unset] [(.ref b3), (.ref b701)])) rfl (by rw [hml]; rfl) (Steps.refl _) (argsL := [(.ref b3)]) (rest := []) (lenOf pd__Lcom_example_spillway_spillway_assignment_Endpoint__V rfl) rfl (by show 2 * 0 + _ ≤ _; exact Nat.le_of_eq rfl) (hb hby at_78) (fun _ _ => ⟨rfl, eq723, (by exact lee rfl), (by exact lee rfl)⟩)
      dsimp only [Pt.U, Pt.locs, Pt.cells, Pt.slots] at X724 l724 y724 z724 st724 hQ724
      subst l724 y724 z724
      obtain ⟨rfl, Nq724, Kq724, f725, f726, f727, f728, f729, f730⟩ := hQ724
      have N724 := Fr.app N723 Nq724
      refine GoW.tr st724 ?_
      have f731 : Safe Z EL T690.vm T724.heap b3 := Safe.keep Kq724 (allS f716 all0) CH701.1 f706
      have f732 : Exa Z T724.heap b3 "com/example/spillway/spillway/assignment/Endpoint" := f707.keep Kq724
      have f733 : Exa Z T724.heap hsa "com/example/spillway/spillway/assignment/HealthStatus" := f708.keep Kq724
      have f734 : Fld Z T724.heap b3 "com/example/spillway/spillway/assignment/Endpoint" "health" "Lcom/example/spillway/spillway/assignment/HealthStatus;" (.ref hsa) := f709.keep Kq724 (ninS ne702 nin0)
      have f735 : Fld Z T724.heap b3 "com/example/spillway/spillway/assignment/Endpoint" "loadBalancingWeight" "J" (.long wa) := f710.keep Kq724 (ninS ne702 nin0)
      have f736 : Safe Z EL T690.vm T724.heap b521 := Safe.keep Kq724 (allS f716 all0) CH701.1 f711
      have f737 : Exa Z T724.heap b521 "com/example/spillway/spillway/assignment/Endpoint" := f712.keep Kq724
      have f738 : Exa Z T724.heap hsb "com/example/spillway/spillway/assignment/HealthStatus" := f713.keep Kq724
      have f739 : Fld Z T724.heap b521 "com/example/spillway/spillway/assignment/Endpoint" "health" "Lcom/example/spillway/spillway/assignment/HealthStatus;" (.ref hsb) := f714.keep Kq724 (ninS ne704 nin0)
      have f740 : Fld Z T724.heap b521 "com/example/spillway/spillway/assignment/Endpoint" "loadBalancingWeight" "J" (.long wb) := f715.keep Kq724 (ninS ne704 nin0)
      have f741 : Safe Z EL T690.vm T724.heap b701 := Safe.keep Kq724 (allS f716 all0) CH701.1 f716
      have f742 : Exa Z T724.heap b701 "com/example/spillway/spillway/assignment/HealthTally" := A701.keep Kq724
      have CH724 : CHr Z EL s.vm s.heap T690.vm T724.heap := CH701.trans (CHr.keep Kq724 (allS f716 all0) CH701.1)
      have hk724 : Array.size T690.heap ≤ Array.size T724.heap := Nat.le_trans hk701 Kq724.1
      have O724 : Old Z n0 T724.heap := O701.keep Kq724 (allS g_b701 all0)
      show GoW p e below s _ _ _ _ _ (T724.setTop (mkF m 81 #[.val (.int sa), .val (.long va), .second, .val (.int sb), .val (.long vb), .second, .val (.int ia), .val (.int ib), .val (.long wa), .second, .val (.long wb), .second, .val (.ref b3), .val (.ref b521), .val (.ref b701), .unset, .unset, .unset, .unset, .unset, .unset, .unset, .unset, .unset, .unset] []))
      refine GoW.st (fun _ k' => XS.aload X724.here hx rfl (hb hby at_81) rfl rfl k') ?_
      refine GoW.st (fun _ k' => XS.aload X724.here hx rfl (hb hby at_83) rfl rfl k') ?_
      show GoW p e below s _ _ _ _ _ (T724.setTop (mkF m 85 #[.val (.int sa), .val (.long va), .second, .val (.int sb), .val (.long vb), .second, .val (.int ia), .val (.int ib), .val (.long wa), .second, .val (.long wb), .second, .val (.ref b3), .val (.ref b521), .val (.ref b701), .unset, .unset, .unset, .unset, .unset, .unset, .unset, .unset, .unset, .unset] [(.ref b521), (.ref b701)]))
      obtain ⟨cq743, kq743, q743a, q743b, q743c⟩ := isOf hZ690 rfl f742
      obtain ⟨_, _, ⟨T743, L743, k743, n743⟩, -, X743, ⟨Lc743, hQ743, l743, y743, z743⟩, st743⟩ := X724.virtualBack hx (y := mn0) (z := mn0) hown690 (mvT hZ690 (wdx hw 59 rfl)) (mvT hZ690 (wdx hw 60 rfl)) (notFace_of_selects (args := #[]) (mvT hZ690 (wdx hw 62 rfl))) (mvT hZ690 (wdx hw 62 rfl)) (mvT hZ690 (wdx hw 61 rfl)) (by decide) (backOf (W := 0) (rm9_o l Z a0 hw [] b701 b521 ((0 : Int32) + (1 : Int32)) (0 : Int32) (0 : Int32) ((0 : Int64) + (((1 : Int32).toInt64) * wa)) (0 : Int64) (0 : Int64) hsb wb a_UNKNOWN a_HEALTHY a_DEGRADED T724.heap n0 O724 f742 f725 f726 f727 f728 f729 f730 f737 f739 f740 f738 S_UNKNOWN S_HEALTHY S_DEGRADED g_b701 (Ne.symm ne704) khsb_2 khsb_3) hZ690 (wdx hw 63 rfl) (wdx hw 54 rfl) (by decide) (by decide)) q743a q743c (g := (mkF m 85 #[.val (.int sa), .val (.long va), .second, .val (.int sb), .val (.long vb), .second, .val (.int ia), .val (.int ib), .val (.long wa), .second, .val (.long wb), .second, .val (.ref b3), .val (.ref b521), .val (.ref b701), .unset, .unset, .unset, .unset, .unset, .unset, .unset, .unset, .unset, .unset] [(.ref b521), (.ref b701)])) rfl (by rw [hml]; rfl) (Steps.refl _) (argsL := [(.ref b521)]) (rest := []) (lenOf pd__Lcom_example_spillway_spillway_assignment_Endpoint__V rfl) rfl (by show 2 * 0 + _ ≤ _; exact Nat.le_of_eq rfl) (hb hby at_85) (fun _ _ => ⟨rfl, rfl, (by exact lee rfl), (by exact lee rfl)⟩)
      dsimp only [Pt.U, Pt.locs, Pt.cells, Pt.slots] at X743 l743 y743 z743 st743 hQ743
      subst l743 y743 z743
      obtain ⟨rfl, Nq743, Kq743, f744, f745, f746, f747, f748, f749⟩ := hQ743
      have N743 := Fr.app N724 Nq743
      refine GoW.tr st743 ?_
      have f750 : Safe Z EL T690.vm T743.heap b3 := Safe.keep Kq743 (allS f741 all0) CH724.1 f731
      have f751 : Exa Z T743.heap b3 "com/example/spillway/spillway/assignment/Endpoint" := f732.keep Kq743
      have f752 : Exa Z T743.heap hsa "com/example/spillway/spillway/assignment/HealthStatus" := f733.keep Kq743
      have f753 : Fld Z T743.heap b3 "com/example/spillway/spillway/assignment/Endpoint" "health" "Lcom/example/spillway/spillway/assignment/HealthStatus;" (.ref hsa) := f734.keep Kq743 (ninS ne702 nin0)
      have f754 : Fld Z T743.heap b3 "com/example/spillway/spillway/assignment/Endpoint" "loadBalancingWeight" "J" (.long wa) := f735.keep Kq743 (ninS ne702 nin0)
      have f755 : Safe Z EL T690.vm T743.heap b521 := Safe.keep Kq743 (allS f741 all0) CH724.1 f736
      have f756 : Exa Z T743.heap b521 "com/example/spillway/spillway/assignment/Endpoint" := f737.keep Kq743
      have f757 : Exa Z T743.heap hsb "com/example/spillway/spillway/assignment/HealthStatus" := f738.keep Kq743
      have f758 : Fld Z T743.heap b521 "com/example/spillway/spillway/assignment/Endpoint" "health" "Lcom/example/spillway/spillway/assignment/HealthStatus;" (.ref hsb) := f739.keep Kq743 (ninS ne704 nin0)
      have f759 : Fld Z T743.heap b521 "com/example/spillway/spillway/assignment/Endpoint" "loadBalancingWeight" "J" (.long wb) := f740.keep Kq743 (ninS ne704 nin0)
      have f760 : Safe Z EL T690.vm T743.heap b701 := Safe.keep Kq743 (allS f741 all0) CH724.1 f741
      have f761 : Exa Z T743.heap b701 "com/example/spillway/spillway/assignment/HealthTally" := f742.keep Kq743
      have CH743 : CHr Z EL s.vm s.heap T690.vm T743.heap := CH724.trans (CHr.keep Kq743 (allS f741 all0) CH724.1)
      have hk743 : Array.size T690.heap ≤ Array.size T743.heap := Nat.le_trans hk724 Kq743.1
      have O743 : Old Z n0 T743.heap := O724.keep Kq743 (allS g_b701 all0)
      show GoW p e below s _ _ _ _ _ (T743.setTop (mkF m 88 #[.val (.int sa), .val (.long va), .second, .val (.int sb), .val (.long vb), .second, .val (.int ia), .val (.int ib), .val (.long wa), .second, .val (.long wb), .second, .val (.ref b3), .val (.ref b521), .val (.ref b701), .unset, .unset, .unset, .unset, .unset, .unset, .unset, .unset, .unset, .unset] []))
      refine GoW.st (fun _ k' => XS.iload X743.here hx rfl (hb hby at_88) rfl k') ?_
      refine GoW.st (fun _ k' => XS.iconst X743.here hx rfl (hb hby at_90) k') ?_
      show GoW p e below s _ _ _ _ _ (T743.setTop (mkF m 91 #[.val (.int sa), .val (.long va), .second, .val (.int sb), .val (.long vb), .second, .val (.int ia), .val (.int ib), .val (.long wa), .second, .val (.long wb), .second, .val (.ref b3), .val (.ref b521), .val (.ref b701), .unset, .unset, .unset, .unset, .unset, .unset, .unset, .unset, .unset, .unset] [(.int 1), (.int ia)]))
      refine GoW.st (fun _ k' => XS.icmpYes X743.here hx rfl (pc0 := 91) (pc' := 98) rfl (hb hby at_91) rfl (XT.ii_gt_t khsa_0) (by decide) (by decide) k') ?_
      show GoW p e below s _ _ _ _ _ (T743.setTop (mkF m 98 #[.val (.int sa), .val (.long va), .second, .val (.int sb), .val (.long vb), .second, .val (.int ia), .val (.int ib), .val (.long wa), .second, .val (.long wb), .second, .val (.ref b3), .val (.ref b521), .val (.ref b701), .unset, .unset, .unset, .unset, .unset, .unset, .unset, .unset, .unset, .unset] []))
      refine GoW.st (fun _ k' => XS.iconst X743.here hx rfl (hb hby at_98) k') ?_
      refine GoW.st (fun _ k' => XS.istore X743.here hx rfl (hb hby at_99) rfl (l' := #[.val (.int sa), .val (.long va), .second, .val (.int sb), .val (.long vb), .second, .val (.int ia), .val (.int ib), .val (.long wa), .second, .val (.long wb), .second, .val (.ref b3), .val (.ref b521), .val (.ref b701), .val (.int 0), .unset, .unset, .unset, .unset, .unset, .unset, .unset, .unset, .unset]) rfl k') ?_
      refine GoW.st (fun _ k' => XS.iload X743.here hx rfl (hb hby at_101) rfl k') ?_
      refine GoW.st (fun _ k' => XS.iconst X743.here hx rfl (hb hby at_103) k') ?_
      show GoW p e below s _ _ _ _ _ (T743.setTop (mkF m 104 #[.val (.int sa), .val (.long va), .second, .val (.int sb), .val (.long vb), .second, .val (.int ia), .val (.int ib), .val (.long wa), .second, .val (.long wb), .second, .val (.ref b3), .val (.ref b521), .val (.ref b701), .val (.int 0), .unset, .unset, .unset, .unset, .unset, .unset, .unset, .unset, .unset] [(.int 1), (.int ib)]))
      refine GoW.st (fun _ k' => XS.icmpYes X743.here hx rfl (pc0 := 104) (pc' := 111) rfl (hb hby at_104) rfl (XT.ii_gt_t khsb_0) (by decide) (by decide) k') ?_
      show GoW p e below s _ _ _ _ _ (T743.setTop (mkF m 111 #[.val (.int sa), .val (.long va), .second, .val (.int sb), .val (.long vb), .second, .val (.int ia), .val (.int ib), .val (.long wa), .second, .val (.long wb), .second, .val (.ref b3), .val (.ref b521), .val (.ref b701), .val (.int 0), .unset, .unset, .unset, .unset, .unset, .unset, .unset, .unset, .unset] []))
      refine GoW.st (fun _ k' => XS.iconst X743.here hx rfl (hb hby at_111) k') ?_
      refine GoW.st (fun _ k' => XS.istore X743.here hx rfl (hb hby at_112) rfl (l' := #[.val (.int sa), .val (.long va), .second, .val (.int sb), .val (.long vb), .second, .val (.int ia), .val (.int ib), .val (.long wa), .second, .val (.long wb), .second, .val (.ref b3), .val (.ref b521), .val (.ref b701), .val (.int 0), .val (.int 0), .unset, .unset, .unset, .unset, .unset, .unset, .unset, .unset]) rfl k') ?_
      refine GoW.st (fun _ k' => XS.iload X743.here hx rfl (hb hby at_114) rfl k') ?_
      refine GoW.st (fun _ k' => XS.iconst X743.here hx rfl (hb hby at_116) k') ?_
      show GoW p e below s _ _ _ _ _ (T743.setTop (mkF m 117 #[.val (.int sa), .val (.long va), .second, .val (.int sb), .val (.long vb), .second, .val (.int ia), .val (.int ib), .val (.long wa), .second, .val (.long wb), .second, .val (.ref b3), .val (.ref b521), .val (.ref b701), .val (.int 0), .val (.int 0), .unset, .unset, .unset, .unset, .unset, .unset, .unset, .unset] [(.int 5), (.int ia)]))
      refine GoW.st (fun _ k' => XS.icmpYes X743.here hx rfl (pc0 := 117) (pc' := 124) rfl (hb hby at_117) rfl (XT.ii_ne_t khsa_1) (by decide) (by decide) k') ?_
      show GoW p e below s _ _ _ _ _ (T743.setTop (mkF m 124 #[.val (.int sa), .val (.long va), .second, .val (.int sb), .val (.long vb), .second, .val (.int ia), .val (.int ib), .val (.long wa), .second, .val (.long wb), .second, .val (.ref b3), .val (.ref b521), .val (.ref b701), .val (.int 0), .val (.int 0), .unset, .unset, .unset, .unset, .unset, .unset, .unset, .unset] []))
      refine GoW.st (fun _ k' => XS.iconst X743.here hx rfl (hb hby at_124) k') ?_
      refine GoW.st (fun _ k' => XS.istore X743.here hx rfl (hb hby at_125) rfl (l' := #[.val (.int sa), .val (.long va), .second, .val (.int sb), .val (.long vb), .second, .val (.int ia), .val (.int ib), .val (.long wa), .second, .val (.long wb), .second, .val (.ref b3), .val (.ref b521), .val (.ref b701), .val (.int 0), .val (.int 0), .val (.int 0), .unset, .unset, .unset, .unset, .unset, .unset, .unset]) rfl k') ?_
      refine GoW.st (fun _ k' => XS.iload X743.here hx rfl (hb hby at_127) rfl k') ?_
      refine GoW.st (fun _ k' => XS.iconst X743.here hx rfl (hb hby at_129) k') ?_
      show GoW p e below s _ _ _ _ _ (T743.setTop (mkF m 130 #[.val (.int sa), .val (.long va), .second, .val (.int sb), .val (.long vb), .second, .val (.int ia), .val (.int ib), .val (.long wa), .second, .val (.long wb), .second, .val (.ref b3), .val (.ref b521), .val (.ref b701), .val (.int 0), .val (.int 0), .val (.int 0), .unset, .unset, .unset, .unset, .unset, .unset, .unset] [(.int 5), (.int ib)]))
      refine GoW.st (fun _ k' => XS.icmpYes X743.here hx rfl (pc0 := 130) (pc' := 137) rfl (hb hby at_130) rfl (XT.ii_ne_t khsb_1) (by decide) (by decide) k') ?_
      show GoW p e below s _ _ _ _ _ (T743.setTop (mkF m 137 #[.val (.int sa), .val (.long va), .second, .val (.int sb), .val (.long vb), .second, .val (.int ia), .val (.int ib), .val (.long wa), .second, .val (.long wb), .second, .val (.ref b3), .val (.ref b521), .val (.ref b701), .val (.int 0), .val (.int 0), .val (.int 0), .unset, .unset, .unset, .unset, .unset, .unset, .unset] []))
      refine GoW.st (fun _ k' => XS.iconst X743.here hx rfl (hb hby at_137) k') ?_
      refine GoW.st (fun _ k' => XS.istore X743.here hx rfl (hb hby at_138) rfl (l' := #[.val (.int sa), .val (.long va), .second, .val (.int sb), .val (.long vb), .second, .val (.int ia), .val (.int ib), .val (.long wa), .second, .val (.long wb), .second, .val (.ref b3), .val (.ref b521), .val (.ref b701), .val (.int 0), .val (.int 0), .val (.int 0), .val (.int 0), .unset, .unset, .unset, .unset, .unset, .unset]) rfl k') ?_
      refine GoW.st (fun _ k' => XS.iload X743.here hx rfl (hb hby at_140) rfl k') ?_
      show GoW p e below s _ _ _ _ _ (T743.setTop (mkF m 142 #[.val (.int sa), .val (.long va), .second, .val (.int sb), .val (.long vb), .second, .val (.int ia), .val (.int ib), .val (.long wa), .second, .val (.long wb), .second, .val (.ref b3), .val (.ref b521), .val (.ref b701), .val (.int 0), .val (.int 0), .val (.int 0), .val (.int 0), .unset, .unset, .unset, .unset, .unset, .unset] [(.int 0)]))
      refine GoW.st (fun _ k' => XS.ifYes X743.here hx rfl (pc0 := 142) (pc' := 149) rfl (hb hby at_142) rfl (XT.i0_eq_t (by decide)) (by decide) (by decide) k') ?_
      show GoW p e below s _ _ _ _ _ (T743.setTop (mkF m 149 #[.val (.int sa), .val (.long va), .second, .val (.int sb), .val (.long vb), .second, .val (.int ia), .val (.int ib), .val (.long wa), .second, .val (.long wb), .second, .val (.ref b3), .val (.ref b521), .val (.ref b701), .val (.int 0), .val (.int 0), .val (.int 0), .val (.int 0), .unset, .unset, .unset, .unset, .unset, .unset] []))
      refine GoW.st (fun _ k' => XS.iconst X743.here hx rfl (hb hby at_149) k') ?_
      refine GoW.st (fun _ k' => XS.iload X743.here hx rfl (hb hby at_150) rfl k') ?_
      show GoW p e below s _ _ _ _ _ (T743.setTop (mkF m 152 #[.val (.int sa), .val (.long va), .second, .val (.int sb), .val (.long vb), .second, .val (.int ia), .val (.int ib), .val (.long wa), .second, .val (.long wb), .second, .val (.ref b3), .val (.ref b521), .val (.ref b701), .val (.int 0), .val (.int 0), .val (.int 0), .val (.int 0), .unset, .unset, .unset, .unset, .unset, .unset] [(.int 0), (.int 0)]))
      refine GoW.st (fun _ k' => XS.ifYes X743.here hx rfl (pc0 := 152) (pc' := 159) rfl (hb hby at_152) rfl (XT.i0_eq_t (by decide)) (by decide) (by decide) k') ?_
      show GoW p e below s _ _ _ _ _ (T743.setTop (mkF m 159 #[.val (.int sa), .val (.long va), .second, .val (.int sb), .val (.long vb), .second, .val (.int ia), .val (.int ib), .val (.long wa), .second, .val (.long wb), .second, .val (.ref b3), .val (.ref b521), .val (.ref b701), .val (.int 0), .val (.int 0), .val (.int 0), .val (.int 0), .unset, .unset, .unset, .unset, .unset, .unset] [(.int 0)]))
      refine GoW.st (fun _ k' => XS.iconst X743.here hx rfl (hb hby at_159) k') ?_
      refine GoW.st (fun _ k' => XS.iadd X743.here hx rfl (hb hby at_160) rfl k') ?_
      refine GoW.st (fun _ k' => XS.istore X743.here hx rfl (hb hby at_161) rfl (l' := #[.val (.int sa), .val (.long va), .second, .val (.int sb), .val (.long vb), .second, .val (.int ia), .val (.int ib), .val (.long wa), .second, .val (.long wb), .second, .val (.ref b3), .val (.ref b521), .val (.ref b701), .val (.int 0), .val (.int 0), .val (.int 0), .val (.int 0), .val (.int 0), .unset, .unset, .unset, .unset, .unset]) rfl k') ?_
      refine GoW.st (fun _ k' => XS.iload X743.here hx rfl (hb hby at_163) rfl k') ?_
      show GoW p e below s _ _ _ _ _ (T743.setTop (mkF m 165 #[.val (.int sa), .val (.long va), .second, .val (.int sb), .val (.long vb), .second, .val (.int ia), .val (.int ib), .val (.long wa), .second, .val (.long wb), .second, .val (.ref b3), .val (.ref b521), .val (.ref b701), .val (.int 0), .val (.int 0), .val (.int 0), .val (.int 0), .val (.int 0), .unset, .unset, .unset, .unset, .unset] [(.int 0)]))
      refine GoW.st (fun _ k' => XS.ifYes X743.here hx rfl (pc0 := 165) (pc' := 172) rfl (hb hby at_165) rfl (XT.i0_eq_t (by decide)) (by decide) (by decide) k') ?_
      show GoW p e below s _ _ _ _ _ (T743.setTop (mkF m 172 #[.val (.int sa), .val (.long va), .second, .val (.int sb), .val (.long vb), .second, .val (.int ia), .val (.int ib), .val (.long wa), .second, .val (.long wb), .second, .val (.ref b3), .val (.ref b521), .val (.ref b701), .val (.int 0), .val (.int 0), .val (.int 0), .val (.int 0), .val (.int 0), .unset, .unset, .unset, .unset, .unset] []))
      refine GoW.st (fun _ k' => XS.iconst X743.here hx rfl (hb hby at_172) k') ?_
      refine GoW.st (fun _ k' => XS.iload X743.here hx rfl (hb hby at_173) rfl k') ?_
      show GoW p e below s _ _ _ _ _ (T743.setTop (mkF m 175 #[.val (.int sa), .val (.long va), .second, .val (.int sb), .val (.long vb), .second, .val (.int ia), .val (.int ib), .val (.long wa), .second, .val (.long wb), .second, .val (.ref b3), .val (.ref b521), .val (.ref b701), .val (.int 0), .val (.int 0), .val (.int 0), .val (.int 0), .val (.int 0), .unset, .unset, .unset, .unset, .unset] [(.int 0), (.int 0)]))
      refine GoW.st (fun _ k' => XS.ifYes X743.here hx rfl (pc0 := 175) (pc' := 182) rfl (hb hby at_175) rfl (XT.i0_eq_t (by decide)) (by decide) (by decide) k') ?_
      show GoW p e below s _ _ _ _ _ (T743.setTop (mkF m 182 #[.val (.int sa), .val (.long va), .second, .val (.int sb), .val (.long vb), .second, .val (.int ia), .val (.int ib), .val (.long wa), .second, .val (.long wb), .second, .val (.ref b3), .val (.ref b521), .val (.ref b701), .val (.int 0), .val (.int 0), .val (.int 0), .val (.int 0), .val (.int 0), .unset, .unset, .unset, .unset, .unset] [(.int 0)]))
      refine GoW.st (fun _ k' => XS.iconst X743.here hx rfl (hb hby at_182) k') ?_
      refine GoW.st (fun _ k' => XS.iadd X743.here hx rfl (hb hby at_183) rfl k') ?_
      refine GoW.st (fun _ k' => XS.istore X743.here hx rfl (hb hby at_184) rfl (l' := #[.val (.int sa), .val (.long va), .second, .val (.int sb), .val (.long vb), .second, .val (.int ia), .val (.int ib), .val (.long wa), .second, .val (.long wb), .second, .val (.ref b3), .val (.ref b521), .val (.ref b701), .val (.int 0), .val (.int 0), .val (.int 0), .val (.int 0), .val (.int 0), .val (.int 0), .unset, .unset, .unset, .unset]) rfl k') ?_
      refine GoW.st (fun _ k' => XS.iload X743.here hx rfl (hb hby at_186) rfl k') ?_
      show GoW p e below s _ _ _ _ _ (T743.setTop (mkF m 188 #[.val (.int sa), .val (.long va), .second, .val (.int sb), .val (.long vb), .second, .val (.int ia), .val (.int ib), .val (.long wa), .second, .val (.long wb), .second, .val (.ref b3), .val (.ref b521), .val (.ref b701), .val (.int 0), .val (.int 0), .val (.int 0), .val (.int 0), .val (.int 0), .val (.int 0), .unset, .unset, .unset, .unset] [(.int 0)]))
      refine GoW.st (fun _ k' => XS.ifYes X743.here hx rfl (pc0 := 188) (pc' := 196) rfl (hb hby at_188) rfl (XT.i0_eq_t (by decide)) (by decide) (by decide) k') ?_
      show GoW p e below s _ _ _ _ _ (T743.setTop (mkF m 196 #[.val (.int sa), .val (.long va), .second, .val (.int sb), .val (.long vb), .second, .val (.int ia), .val (.int ib), .val (.long wa), .second, .val (.long wb), .second, .val (.ref b3), .val (.ref b521), .val (.ref b701), .val (.int 0), .val (.int 0), .val (.int 0), .val (.int 0), .val (.int 0), .val (.int 0), .unset, .unset, .unset, .unset] []))
      refine GoW.st (fun _ k' => XS.lconst X743.here hx rfl (hb hby at_196) k') ?_
      refine GoW.st (fun _ k' => XS.iload X743.here hx rfl (hb hby at_197) rfl k') ?_
      show GoW p e below s _ _ _ _ _ (T743.setTop (mkF m 199 #[.val (.int sa), .val (.long va), .second, .val (.int sb), .val (.long vb), .second, .val (.int ia), .val (.int ib), .val (.long wa), .second, .val (.long wb), .second, .val (.ref b3), .val (.ref b521), .val (.ref b701), .val (.int 0), .val (.int 0), .val (.int 0), .val (.int 0), .val (.int 0), .val (.int 0), .unset, .unset, .unset, .unset] [(.int 0), (.long 0)]))
      refine GoW.st (fun _ k' => XS.ifYes X743.here hx rfl (pc0 := 199) (pc' := 207) rfl (hb hby at_199) rfl (XT.i0_eq_t (by decide)) (by decide) (by decide) k') ?_
      show GoW p e below s _ _ _ _ _ (T743.setTop (mkF m 207 #[.val (.int sa), .val (.long va), .second, .val (.int sb), .val (.long vb), .second, .val (.int ia), .val (.int ib), .val (.long wa), .second, .val (.long wb), .second, .val (.ref b3), .val (.ref b521), .val (.ref b701), .val (.int 0), .val (.int 0), .val (.int 0), .val (.int 0), .val (.int 0), .val (.int 0), .unset, .unset, .unset, .unset] [(.long 0)]))
      refine GoW.st (fun _ k' => XS.lconst X743.here hx rfl (hb hby at_207) k') ?_
      refine GoW.st (fun _ k' => XS.ladd X743.here hx rfl (hb hby at_208) rfl k') ?_
      refine GoW.st (fun _ k' => XS.lstore X743.here hx rfl (hb hby at_209) rfl (l' := #[.val (.int sa), .val (.long va), .second, .val (.int sb), .val (.long vb), .second, .val (.int ia), .val (.int ib), .val (.long wa), .second, .val (.long wb), .second, .val (.ref b3), .val (.ref b521), .val (.ref b701), .val (.int 0), .val (.int 0), .val (.int 0), .val (.int 0), .val (.int 0), .val (.int 0), .val (.long ((0 : Int64) + (0 : Int64))), .second, .unset, .unset]) rfl k') ?_
      refine GoW.st (fun _ k' => XS.iload X743.here hx rfl (hb hby at_211) rfl k') ?_
      show GoW p e below s _ _ _ _ _ (T743.setTop (mkF m 213 #[.val (.int sa), .val (.long va), .second, .val (.int sb), .val (.long vb), .second, .val (.int ia), .val (.int ib), .val (.long wa), .second, .val (.long wb), .second, .val (.ref b3), .val (.ref b521), .val (.ref b701), .val (.int 0), .val (.int 0), .val (.int 0), .val (.int 0), .val (.int 0), .val (.int 0), .val (.long ((0 : Int64) + (0 : Int64))), .second, .unset, .unset] [(.int 0)]))
      refine GoW.st (fun _ k' => XS.ifYes X743.here hx rfl (pc0 := 213) (pc' := 221) rfl (hb hby at_213) rfl (XT.i0_eq_t (by decide)) (by decide) (by decide) k') ?_
      show GoW p e below s _ _ _ _ _ (T743.setTop (mkF m 221 #[.val (.int sa), .val (.long va), .second, .val (.int sb), .val (.long vb), .second, .val (.int ia), .val (.int ib), .val (.long wa), .second, .val (.long wb), .second, .val (.ref b3), .val (.ref b521), .val (.ref b701), .val (.int 0), .val (.int 0), .val (.int 0), .val (.int 0), .val (.int 0), .val (.int 0), .val (.long ((0 : Int64) + (0 : Int64))), .second, .unset, .unset] []))
      refine GoW.st (fun _ k' => XS.lconst X743.here hx rfl (hb hby at_221) k') ?_
      refine GoW.st (fun _ k' => XS.iload X743.here hx rfl (hb hby at_222) rfl k') ?_
      show GoW p e below s _ _ _ _ _ (T743.setTop (mkF m 224 #[.val (.int sa), .val (.long va), .second, .val (.int sb), .val (.long vb), .second, .val (.int ia), .val (.int ib), .val (.long wa), .second, .val (.long wb), .second, .val (.ref b3), .val (.ref b521), .val (.ref b701), .val (.int 0), .val (.int 0), .val (.int 0), .val (.int 0), .val (.int 0), .val (.int 0), .val (.long ((0 : Int64) + (0 : Int64))), .second, .unset, .unset] [(.int 0), (.long 0)]))
      refine GoW.st (fun _ k' => XS.ifYes X743.here hx rfl (pc0 := 224) (pc' := 232) rfl (hb hby at_224) rfl (XT.i0_eq_t (by decide)) (by decide) (by decide) k') ?_
      show GoW p e below s _ _ _ _ _ (T743.setTop (mkF m 232 #[.val (.int sa), .val (.long va), .second, .val (.int sb), .val (.long vb), .second, .val (.int ia), .val (.int ib), .val (.long wa), .second, .val (.long wb), .second, .val (.ref b3), .val (.ref b521), .val (.ref b701), .val (.int 0), .val (.int 0), .val (.int 0), .val (.int 0), .val (.int 0), .val (.int 0), .val (.long ((0 : Int64) + (0 : Int64))), .second, .unset, .unset] [(.long 0)]))
      refine GoW.st (fun _ k' => XS.lconst X743.here hx rfl (hb hby at_232) k') ?_
      refine GoW.st (fun _ k' => XS.ladd X743.here hx rfl (hb hby at_233) rfl k') ?_
      refine GoW.st (fun _ k' => XS.lstore X743.here hx rfl (hb hby at_234) rfl (l' := #[.val (.int sa), .val (.long va), .second, .val (.int sb), .val (.long vb), .second, .val (.int ia), .val (.int ib), .val (.long wa), .second, .val (.long wb), .second, .val (.ref b3), .val (.ref b521), .val (.ref b701), .val (.int 0), .val (.int 0), .val (.int 0), .val (.int 0), .val (.int 0), .val (.int 0), .val (.long ((0 : Int64) + (0 : Int64))), .second, .val (.long ((0 : Int64) + (0 : Int64))), .second]) rfl k') ?_
      refine GoW.st (fun _ k' => XS.aload X743.here hx rfl (hb hby at_236) rfl rfl k') ?_
      show GoW p e below s _ _ _ _ _ (T743.setTop (mkF m 238 #[.val (.int sa), .val (.long va), .second, .val (.int sb), .val (.long vb), .second, .val (.int ia), .val (.int ib), .val (.long wa), .second, .val (.long wb), .second, .val (.ref b3), .val (.ref b521), .val (.ref b701), .val (.int 0), .val (.int 0), .val (.int 0), .val (.int 0), .val (.int 0), .val (.int 0), .val (.long ((0 : Int64) + (0 : Int64))), .second, .val (.long ((0 : Int64) + (0 : Int64))), .second] [(.ref b701)]))
      obtain ⟨cq762, kq762, q762a, q762b, q762c⟩ := isOf hZ690 rfl f761
      obtain ⟨_, _, ⟨T762, L762, k762, n762⟩, -, X762, ⟨Lc762, hQ762, l762, y762, z762⟩, st762⟩ := X743.virtualBack hx (y := mn1) (z := mn1) hown690 (mvT hZ690 (wdx hw 93 rfl)) (mvT hZ690 (wdx hw 94 rfl)) (notFace_of_selects (args := #[]) (mvT hZ690 (wdx hw 96 rfl))) (mvT hZ690 (wdx hw 96 rfl)) (mvT hZ690 (wdx hw 95 rfl)) (by decide) (backOf (W := 0) (rm14 l Z a0 hw [] b701 (((0 : Int32) + (1 : Int32)) + (1 : Int32)) T743.heap n0 O743 f744) hZ690 (wdx hw 97 rfl) (wdx hw 54 rfl) (by decide) (by decide)) q762a q762c (g := (mkF m 238 #[.val (.int sa), .val (.long va), .second, .val (.int sb), .val (.long vb), .second, .val (.int ia), .val (.int ib), .val (.long wa), .second, .val (.long wb), .second, .val (.ref b3), .val (.ref b521), .val (.ref b701), .val (.int 0), .val (.int 0), .val (.int 0), .val (.int 0), .val (.int 0), .val (.int 0), .val (.long ((0 : Int64) + (0 : Int64))), .second, .val (.long ((0 : Int64) + (0 : Int64))), .second] [(.ref b701)])) rfl (by rw [hml]; rfl) (Steps.refl _) (argsL := []) (rest := []) (lenOf pd___I rfl) rfl (by show 2 * 0 + _ ≤ _; exact Nat.le_of_eq rfl) (hb hby at_238) (fun _ _ => ⟨rfl, rfl, (by exact lee rfl), (by exact lee rfl)⟩)
      dsimp only [Pt.U, Pt.locs, Pt.cells, Pt.slots] at X762 l762 y762 z762 st762 hQ762
      subst l762 y762 z762
      obtain ⟨rfl, Nq762, eq762⟩ := hQ762
      have N762 := Fr.app N743 Nq762
      refine GoW.tr st762 ?_
      show GoW p e below s _ _ _ _ _ (T762.setTop (mkF m 241 #[.val (.int sa), .val (.long va), .second, .val (.int sb), .val (.long vb), .second, .val (.int ia), .val (.int ib), .val (.long wa), .second, .val (.long wb), .second, .val (.ref b3), .val (.ref b521), .val (.ref b701), .val (.int 0), .val (.int 0), .val (.int 0), .val (.int 0), .val (.int 0), .val (.int 0), .val (.long ((0 : Int64) + (0 : Int64))), .second, .val (.long ((0 : Int64) + (0 : Int64))), .second] [(.int (((0 : Int32) + (1 : Int32)) + (1 : Int32)))]))
      refine GoW.st (fun _ k' => XS.iconst X762.here hx rfl (hb hby at_241) k') ?_
      show GoW p e below s _ _ _ _ _ (T762.setTop (mkF m 242 #[.val (.int sa), .val (.long va), .second, .val (.int sb), .val (.long vb), .second, .val (.int ia), .val (.int ib), .val (.long wa), .second, .val (.long wb), .second, .val (.ref b3), .val (.ref b521), .val (.ref b701), .val (.int 0), .val (.int 0), .val (.int 0), .val (.int 0), .val (.int 0), .val (.int 0), .val (.long ((0 : Int64) + (0 : Int64))), .second, .val (.long ((0 : Int64) + (0 : Int64))), .second] [(.int 2), (.int (((0 : Int32) + (1 : Int32)) + (1 : Int32)))]))
      refine GoW.st (fun _ k' => XS.icmpNo X762.here hx rfl (hb hby at_242) rfl (XT.ii_ne_f (by simp [own_one])) k') ?_
      show GoW p e below s _ _ _ _ _ (T762.setTop (mkF m 245 #[.val (.int sa), .val (.long va), .second, .val (.int sb), .val (.long vb), .second, .val (.int ia), .val (.int ib), .val (.long wa), .second, .val (.long wb), .second, .val (.ref b3), .val (.ref b521), .val (.ref b701), .val (.int 0), .val (.int 0), .val (.int 0), .val (.int 0), .val (.int 0), .val (.int 0), .val (.long ((0 : Int64) + (0 : Int64))), .second, .val (.long ((0 : Int64) + (0 : Int64))), .second] []))
      refine GoW.st (fun _ k' => XS.aload X762.here hx rfl (hb hby at_245) rfl rfl k') ?_
      show GoW p e below s _ _ _ _ _ (T762.setTop (mkF m 247 #[.val (.int sa), .val (.long va), .second, .val (.int sb), .val (.long vb), .second, .val (.int ia), .val (.int ib), .val (.long wa), .second, .val (.long wb), .second, .val (.ref b3), .val (.ref b521), .val (.ref b701), .val (.int 0), .val (.int 0), .val (.int 0), .val (.int 0), .val (.int 0), .val (.int 0), .val (.long ((0 : Int64) + (0 : Int64))), .second, .val (.long ((0 : Int64) + (0 : Int64))), .second] [(.ref b701)]))
      obtain ⟨cq763, kq763, q763a, q763b, q763c⟩ := isOf hZ690 eq762 f761
      obtain ⟨_, _, ⟨T763, L763, k763, n763⟩, -, X763, ⟨Lc763, hQ763, l763, y763, z763⟩, st763⟩ := X762.virtualBack hx (y := mn2) (z := mn2) hown690 (mvT hZ690 (wdx hw 98 rfl)) (mvT hZ690 (wdx hw 99 rfl)) (notFace_of_selects (args := #[]) (mvT hZ690 (wdx hw 101 rfl))) (mvT hZ690 (wdx hw 101 rfl)) (mvT hZ690 (wdx hw 100 rfl)) (by decide) (backOf (W := 0) (rm15 l Z a0 hw [] b701 (0 : Int32) T743.heap n0 O743 f745) hZ690 (wdx hw 102 rfl) (wdx hw 54 rfl) (by decide) (by decide)) q763a q763c (g := (mkF m 247 #[.val (.int sa), .val (.long va), .second, .val (.int sb), .val (.long vb), .second, .val (.int ia), .val (.int ib), .val (.long wa), .second, .val (.long wb), .second, .val (.ref b3), .val (.ref b521), .val (.ref b701), .val (.int 0), .val (.int 0), .val (.int 0), .val (.int 0), .val (.int 0), .val (.int 0), .val (.long ((0 : Int64) + (0 : Int64))), .second, .val (.long ((0 : Int64) + (0 : Int64))), .second] [(.ref b701)])) rfl (by rw [hml]; rfl) (Steps.refl _) (argsL := []) (rest := []) (lenOf pd___I rfl) rfl (by show 2 * 0 + _ ≤ _; exact Nat.le_of_eq rfl) (hb hby at_247) (fun _ _ => ⟨rfl, eq762, (by exact lee rfl), (by exact lee rfl)⟩)
      dsimp only [Pt.U, Pt.locs, Pt.cells, Pt.slots] at X763 l763 y763 z763 st763 hQ763
      subst l763 y763 z763
      obtain ⟨rfl, Nq763, eq763⟩ := hQ763
      have N763 := Fr.app N762 Nq763
      refine GoW.tr st763 ?_
      show GoW p e below s _ _ _ _ _ (T763.setTop (mkF m 250 #[.val (.int sa), .val (.long va), .second, .val (.int sb), .val (.long vb), .second, .val (.int ia), .val (.int ib), .val (.long wa), .second, .val (.long wb), .second, .val (.ref b3), .val (.ref b521), .val (.ref b701), .val (.int 0), .val (.int 0), .val (.int 0), .val (.int 0), .val (.int 0), .val (.int 0), .val (.long ((0 : Int64) + (0 : Int64))), .second, .val (.long ((0 : Int64) + (0 : Int64))), .second] [(.int 0)]))
      refine GoW.st (fun _ k' => XS.iload X763.here hx rfl (hb hby at_250) rfl k') ?_
      show GoW p e below s _ _ _ _ _ (T763.setTop (mkF m 252 #[.val (.int sa), .val (.long va), .second, .val (.int sb), .val (.long vb), .second, .val (.int ia), .val (.int ib), .val (.long wa), .second, .val (.long wb), .second, .val (.ref b3), .val (.ref b521), .val (.ref b701), .val (.int 0), .val (.int 0), .val (.int 0), .val (.int 0), .val (.int 0), .val (.int 0), .val (.long ((0 : Int64) + (0 : Int64))), .second, .val (.long ((0 : Int64) + (0 : Int64))), .second] [(.int 0), (.int 0)]))
      refine GoW.st (fun _ k' => XS.icmpNo X763.here hx rfl (hb hby at_252) rfl (XT.ii_ne_f (by simp [own_one])) k') ?_
      show GoW p e below s _ _ _ _ _ (T763.setTop (mkF m 255 #[.val (.int sa), .val (.long va), .second, .val (.int sb), .val (.long vb), .second, .val (.int ia), .val (.int ib), .val (.long wa), .second, .val (.long wb), .second, .val (.ref b3), .val (.ref b521), .val (.ref b701), .val (.int 0), .val (.int 0), .val (.int 0), .val (.int 0), .val (.int 0), .val (.int 0), .val (.long ((0 : Int64) + (0 : Int64))), .second, .val (.long ((0 : Int64) + (0 : Int64))), .second] []))
      refine GoW.st (fun _ k' => XS.aload X763.here hx rfl (hb hby at_255) rfl rfl k') ?_
      show GoW p e below s _ _ _ _ _ (T763.setTop (mkF m 257 #[.val (.int sa), .val (.long va), .second, .val (.int sb), .val (.long vb), .second, .val (.int ia), .val (.int ib), .val (.long wa), .second, .val (.long wb), .second, .val (.ref b3), .val (.ref b521), .val (.ref b701), .val (.int 0), .val (.int 0), .val (.int 0), .val (.int 0), .val (.int 0), .val (.int 0), .val (.long ((0 : Int64) + (0 : Int64))), .second, .val (.long ((0 : Int64) + (0 : Int64))), .second] [(.ref b701)]))
      obtain ⟨cq764, kq764, q764a, q764b, q764c⟩ := isOf hZ690 eq763 f761
      obtain ⟨_, _, ⟨T764, L764, k764, n764⟩, -, X764, ⟨Lc764, hQ764, l764, y764, z764⟩, st764⟩ := X763.virtualBack hx (y := mn3) (z := mn3) hown690 (mvT hZ690 (wdx hw 103 rfl)) (mvT hZ690 (wdx hw 104 rfl)) (notFace_of_selects (args := #[]) (mvT hZ690 (wdx hw 106 rfl))) (mvT hZ690 (wdx hw 106 rfl)) (mvT hZ690 (wdx hw 105 rfl)) (by decide) (backOf (W := 0) (rm16 l Z a0 hw [] b701 (0 : Int32) T743.heap n0 O743 f746) hZ690 (wdx hw 107 rfl) (wdx hw 54 rfl) (by decide) (by decide)) q764a q764c (g := (mkF m 257 #[.val (.int sa), .val (.long va), .second, .val (.int sb), .val (.long vb), .second, .val (.int ia), .val (.int ib), .val (.long wa), .second, .val (.long wb), .second, .val (.ref b3), .val (.ref b521), .val (.ref b701), .val (.int 0), .val (.int 0), .val (.int 0), .val (.int 0), .val (.int 0), .val (.int 0), .val (.long ((0 : Int64) + (0 : Int64))), .second, .val (.long ((0 : Int64) + (0 : Int64))), .second] [(.ref b701)])) rfl (by rw [hml]; rfl) (Steps.refl _) (argsL := []) (rest := []) (lenOf pd___I rfl) rfl (by show 2 * 0 + _ ≤ _; exact Nat.le_of_eq rfl) (hb hby at_257) (fun _ _ => ⟨rfl, eq763, (by exact lee rfl), (by exact lee rfl)⟩)
      dsimp only [Pt.U, Pt.locs, Pt.cells, Pt.slots] at X764 l764 y764 z764 st764 hQ764
      subst l764 y764 z764
      obtain ⟨rfl, Nq764, eq764⟩ := hQ764
      have N764 := Fr.app N763 Nq764
      refine GoW.tr st764 ?_
      show GoW p e below s _ _ _ _ _ (T764.setTop (mkF m 260 #[.val (.int sa), .val (.long va), .second, .val (.int sb), .val (.long vb), .second, .val (.int ia), .val (.int ib), .val (.long wa), .second, .val (.long wb), .second, .val (.ref b3), .val (.ref b521), .val (.ref b701), .val (.int 0), .val (.int 0), .val (.int 0), .val (.int 0), .val (.int 0), .val (.int 0), .val (.long ((0 : Int64) + (0 : Int64))), .second, .val (.long ((0 : Int64) + (0 : Int64))), .second] [(.int 0)]))
      refine GoW.st (fun _ k' => XS.iload X764.here hx rfl (hb hby at_260) rfl k') ?_
      show GoW p e below s _ _ _ _ _ (T764.setTop (mkF m 262 #[.val (.int sa), .val (.long va), .second, .val (.int sb), .val (.long vb), .second, .val (.int ia), .val (.int ib), .val (.long wa), .second, .val (.long wb), .second, .val (.ref b3), .val (.ref b521), .val (.ref b701), .val (.int 0), .val (.int 0), .val (.int 0), .val (.int 0), .val (.int 0), .val (.int 0), .val (.long ((0 : Int64) + (0 : Int64))), .second, .val (.long ((0 : Int64) + (0 : Int64))), .second] [(.int 0), (.int 0)]))
      refine GoW.st (fun _ k' => XS.icmpNo X764.here hx rfl (hb hby at_262) rfl (XT.ii_ne_f (by simp [own_one])) k') ?_
      show GoW p e below s _ _ _ _ _ (T764.setTop (mkF m 265 #[.val (.int sa), .val (.long va), .second, .val (.int sb), .val (.long vb), .second, .val (.int ia), .val (.int ib), .val (.long wa), .second, .val (.long wb), .second, .val (.ref b3), .val (.ref b521), .val (.ref b701), .val (.int 0), .val (.int 0), .val (.int 0), .val (.int 0), .val (.int 0), .val (.int 0), .val (.long ((0 : Int64) + (0 : Int64))), .second, .val (.long ((0 : Int64) + (0 : Int64))), .second] []))
      refine GoW.st (fun _ k' => XS.aload X764.here hx rfl (hb hby at_265) rfl rfl k') ?_
      show GoW p e below s _ _ _ _ _ (T764.setTop (mkF m 267 #[.val (.int sa), .val (.long va), .second, .val (.int sb), .val (.long vb), .second, .val (.int ia), .val (.int ib), .val (.long wa), .second, .val (.long wb), .second, .val (.ref b3), .val (.ref b521), .val (.ref b701), .val (.int 0), .val (.int 0), .val (.int 0), .val (.int 0), .val (.int 0), .val (.int 0), .val (.long ((0 : Int64) + (0 : Int64))), .second, .val (.long ((0 : Int64) + (0 : Int64))), .second] [(.ref b701)]))
      obtain ⟨cq765, kq765, q765a, q765b, q765c⟩ := isOf hZ690 eq764 f761
      obtain ⟨_, _, ⟨T765, L765, k765, n765⟩, -, X765, ⟨Lc765, hQ765, l765, y765, z765⟩, st765⟩ := X764.virtualBack hx (y := mn4) (z := mn4) hown690 (mvT hZ690 (wdx hw 110 rfl)) (mvT hZ690 (wdx hw 111 rfl)) (notFace_of_selects (args := #[]) (mvT hZ690 (wdx hw 113 rfl))) (mvT hZ690 (wdx hw 113 rfl)) (mvT hZ690 (wdx hw 112 rfl)) (by decide) (backOf (W := 0) (rm17 l Z a0 hw [] b701 (((0 : Int64) + (((1 : Int32).toInt64) * wa)) + (((1 : Int32).toInt64) * wb)) T743.heap n0 O743 f747) hZ690 (wdx hw 114 rfl) (wdx hw 54 rfl) (by decide) (by decide)) q765a q765c (g := (mkF m 267 #[.val (.int sa), .val (.long va), .second, .val (.int sb), .val (.long vb), .second, .val (.int ia), .val (.int ib), .val (.long wa), .second, .val (.long wb), .second, .val (.ref b3), .val (.ref b521), .val (.ref b701), .val (.int 0), .val (.int 0), .val (.int 0), .val (.int 0), .val (.int 0), .val (.int 0), .val (.long ((0 : Int64) + (0 : Int64))), .second, .val (.long ((0 : Int64) + (0 : Int64))), .second] [(.ref b701)])) rfl (by rw [hml]; rfl) (Steps.refl _) (argsL := []) (rest := []) (lenOf pd___J rfl) rfl (by show 2 * 0 + _ ≤ _; exact Nat.le_of_eq rfl) (hb hby at_267) (fun _ _ => ⟨rfl, eq764, (by exact lee rfl), (by exact lee rfl)⟩)
      dsimp only [Pt.U, Pt.locs, Pt.cells, Pt.slots] at X765 l765 y765 z765 st765 hQ765
      subst l765 y765 z765
      obtain ⟨rfl, Nq765, eq765⟩ := hQ765
      have N765 := Fr.app N764 Nq765
      refine GoW.tr st765 ?_
      show GoW p e below s _ _ _ _ _ (T765.setTop (mkF m 270 #[.val (.int sa), .val (.long va), .second, .val (.int sb), .val (.long vb), .second, .val (.int ia), .val (.int ib), .val (.long wa), .second, .val (.long wb), .second, .val (.ref b3), .val (.ref b521), .val (.ref b701), .val (.int 0), .val (.int 0), .val (.int 0), .val (.int 0), .val (.int 0), .val (.int 0), .val (.long ((0 : Int64) + (0 : Int64))), .second, .val (.long ((0 : Int64) + (0 : Int64))), .second] [(.long (((0 : Int64) + (((1 : Int32).toInt64) * wa)) + (((1 : Int32).toInt64) * wb)))]))
      refine GoW.st (fun _ k' => XS.lload X765.here hx rfl (hb hby at_270) rfl k') ?_
      refine GoW.st (fun _ k' => XS.lload X765.here hx rfl (hb hby at_272) rfl k') ?_
      refine GoW.st (fun _ k' => XS.ladd X765.here hx rfl (hb hby at_274) rfl k') ?_
      show GoW p e below s _ _ _ _ _ (T765.setTop (mkF m 275 #[.val (.int sa), .val (.long va), .second, .val (.int sb), .val (.long vb), .second, .val (.int ia), .val (.int ib), .val (.long wa), .second, .val (.long wb), .second, .val (.ref b3), .val (.ref b521), .val (.ref b701), .val (.int 0), .val (.int 0), .val (.int 0), .val (.int 0), .val (.int 0), .val (.int 0), .val (.long ((0 : Int64) + (0 : Int64))), .second, .val (.long ((0 : Int64) + (0 : Int64))), .second] [(.long (wa + wb)), (.long (((0 : Int64) + (((1 : Int32).toInt64) * wa)) + (((1 : Int32).toInt64) * wb)))]))
      refine GoW.st (fun _ k' => XT.lcmp X765.here hx rfl (hb hby at_275) rfl k') ?_
      show GoW p e below s _ _ _ _ _ (T765.setTop (mkF m 276 #[.val (.int sa), .val (.long va), .second, .val (.int sb), .val (.long vb), .second, .val (.int ia), .val (.int ib), .val (.long wa), .second, .val (.long wb), .second, .val (.ref b3), .val (.ref b521), .val (.ref b701), .val (.int 0), .val (.int 0), .val (.int 0), .val (.int 0), .val (.int 0), .val (.int 0), .val (.long ((0 : Int64) + (0 : Int64))), .second, .val (.long ((0 : Int64) + (0 : Int64))), .second] [(.int (XT.cmpL (((0 : Int64) + (((1 : Int32).toInt64) * wa)) + (((1 : Int32).toInt64) * wb)) (wa + wb)))]))
      refine GoW.st (fun _ k' => XS.ifNo X765.here hx rfl (hb hby at_276) rfl (XT.ll_ne_f (by simp [own_one])) k') ?_
      show GoW p e below s _ _ _ _ _ (T765.setTop (mkF m 279 #[.val (.int sa), .val (.long va), .second, .val (.int sb), .val (.long vb), .second, .val (.int ia), .val (.int ib), .val (.long wa), .second, .val (.long wb), .second, .val (.ref b3), .val (.ref b521), .val (.ref b701), .val (.int 0), .val (.int 0), .val (.int 0), .val (.int 0), .val (.int 0), .val (.int 0), .val (.long ((0 : Int64) + (0 : Int64))), .second, .val (.long ((0 : Int64) + (0 : Int64))), .second] []))
      refine GoW.st (fun _ k' => XS.aload X765.here hx rfl (hb hby at_279) rfl rfl k') ?_
      show GoW p e below s _ _ _ _ _ (T765.setTop (mkF m 281 #[.val (.int sa), .val (.long va), .second, .val (.int sb), .val (.long vb), .second, .val (.int ia), .val (.int ib), .val (.long wa), .second, .val (.long wb), .second, .val (.ref b3), .val (.ref b521), .val (.ref b701), .val (.int 0), .val (.int 0), .val (.int 0), .val (.int 0), .val (.int 0), .val (.int 0), .val (.long ((0 : Int64) + (0 : Int64))), .second, .val (.long ((0 : Int64) + (0 : Int64))), .second] [(.ref b701)]))
      obtain ⟨cq766, kq766, q766a, q766b, q766c⟩ := isOf hZ690 eq765 f761
      obtain ⟨_, _, ⟨T766, L766, k766, n766⟩, -, X766, ⟨Lc766, hQ766, l766, y766, z766⟩, st766⟩ := X765.virtualBack hx (y := mn5) (z := mn5) hown690 (mvT hZ690 (wdx hw 115 rfl)) (mvT hZ690 (wdx hw 116 rfl)) (notFace_of_selects (args := #[]) (mvT hZ690 (wdx hw 118 rfl))) (mvT hZ690 (wdx hw 118 rfl)) (mvT hZ690 (wdx hw 117 rfl)) (by decide) (backOf (W := 0) (rm18 l Z a0 hw [] b701 (0 : Int64) T743.heap n0 O743 f748) hZ690 (wdx hw 119 rfl) (wdx hw 54 rfl) (by decide) (by decide)) q766a q766c (g := (mkF m 281 #[.val (.int sa), .val (.long va), .second, .val (.int sb), .val (.long vb), .second, .val (.int ia), .val (.int ib), .val (.long wa), .second, .val (.long wb), .second, .val (.ref b3), .val (.ref b521), .val (.ref b701), .val (.int 0), .val (.int 0), .val (.int 0), .val (.int 0), .val (.int 0), .val (.int 0), .val (.long ((0 : Int64) + (0 : Int64))), .second, .val (.long ((0 : Int64) + (0 : Int64))), .second] [(.ref b701)])) rfl (by rw [hml]; rfl) (Steps.refl _) (argsL := []) (rest := []) (lenOf pd___J rfl) rfl (by show 2 * 0 + _ ≤ _; exact Nat.le_of_eq rfl) (hb hby at_281) (fun _ _ => ⟨rfl, eq765, (by exact lee rfl), (by exact lee rfl)⟩)
      dsimp only [Pt.U, Pt.locs, Pt.cells, Pt.slots] at X766 l766 y766 z766 st766 hQ766
      subst l766 y766 z766
      obtain ⟨rfl, Nq766, eq766⟩ := hQ766
      have N766 := Fr.app N765 Nq766
      refine GoW.tr st766 ?_
      show GoW p e below s _ _ _ _ _ (T766.setTop (mkF m 284 #[.val (.int sa), .val (.long va), .second, .val (.int sb), .val (.long vb), .second, .val (.int ia), .val (.int ib), .val (.long wa), .second, .val (.long wb), .second, .val (.ref b3), .val (.ref b521), .val (.ref b701), .val (.int 0), .val (.int 0), .val (.int 0), .val (.int 0), .val (.int 0), .val (.int 0), .val (.long ((0 : Int64) + (0 : Int64))), .second, .val (.long ((0 : Int64) + (0 : Int64))), .second] [(.long 0)]))
      refine GoW.st (fun _ k' => XS.lload X766.here hx rfl (hb hby at_284) rfl k') ?_
      show GoW p e below s _ _ _ _ _ (T766.setTop (mkF m 286 #[.val (.int sa), .val (.long va), .second, .val (.int sb), .val (.long vb), .second, .val (.int ia), .val (.int ib), .val (.long wa), .second, .val (.long wb), .second, .val (.ref b3), .val (.ref b521), .val (.ref b701), .val (.int 0), .val (.int 0), .val (.int 0), .val (.int 0), .val (.int 0), .val (.int 0), .val (.long ((0 : Int64) + (0 : Int64))), .second, .val (.long ((0 : Int64) + (0 : Int64))), .second] [(.long ((0 : Int64) + (0 : Int64))), (.long 0)]))
      refine GoW.st (fun _ k' => XT.lcmp X766.here hx rfl (hb hby at_286) rfl k') ?_
      show GoW p e below s _ _ _ _ _ (T766.setTop (mkF m 287 #[.val (.int sa), .val (.long va), .second, .val (.int sb), .val (.long vb), .second, .val (.int ia), .val (.int ib), .val (.long wa), .second, .val (.long wb), .second, .val (.ref b3), .val (.ref b521), .val (.ref b701), .val (.int 0), .val (.int 0), .val (.int 0), .val (.int 0), .val (.int 0), .val (.int 0), .val (.long ((0 : Int64) + (0 : Int64))), .second, .val (.long ((0 : Int64) + (0 : Int64))), .second] [(.int (XT.cmpL (0 : Int64) ((0 : Int64) + (0 : Int64))))]))
      refine GoW.st (fun _ k' => XS.ifNo X766.here hx rfl (hb hby at_287) rfl (XT.ll_ne_f (by simp [own_one])) k') ?_
      show GoW p e below s _ _ _ _ _ (T766.setTop (mkF m 290 #[.val (.int sa), .val (.long va), .second, .val (.int sb), .val (.long vb), .second, .val (.int ia), .val (.int ib), .val (.long wa), .second, .val (.long wb), .second, .val (.ref b3), .val (.ref b521), .val (.ref b701), .val (.int 0), .val (.int 0), .val (.int 0), .val (.int 0), .val (.int 0), .val (.int 0), .val (.long ((0 : Int64) + (0 : Int64))), .second, .val (.long ((0 : Int64) + (0 : Int64))), .second] []))
      refine GoW.st (fun _ k' => XS.aload X766.here hx rfl (hb hby at_290) rfl rfl k') ?_
      show GoW p e below s _ _ _ _ _ (T766.setTop (mkF m 292 #[.val (.int sa), .val (.long va), .second, .val (.int sb), .val (.long vb), .second, .val (.int ia), .val (.int ib), .val (.long wa), .second, .val (.long wb), .second, .val (.ref b3), .val (.ref b521), .val (.ref b701), .val (.int 0), .val (.int 0), .val (.int 0), .val (.int 0), .val (.int 0), .val (.int 0), .val (.long ((0 : Int64) + (0 : Int64))), .second, .val (.long ((0 : Int64) + (0 : Int64))), .second] [(.ref b701)]))
      obtain ⟨cq767, kq767, q767a, q767b, q767c⟩ := isOf hZ690 eq766 f761
      obtain ⟨_, _, ⟨T767, L767, k767, n767⟩, -, X767, ⟨Lc767, hQ767, l767, y767, z767⟩, st767⟩ := X766.virtualBack hx (y := mn6) (z := mn6) hown690 (mvT hZ690 (wdx hw 120 rfl)) (mvT hZ690 (wdx hw 121 rfl)) (notFace_of_selects (args := #[]) (mvT hZ690 (wdx hw 123 rfl))) (mvT hZ690 (wdx hw 123 rfl)) (mvT hZ690 (wdx hw 122 rfl)) (by decide) (backOf (W := 0) (rm19 l Z a0 hw [] b701 (0 : Int64) T743.heap n0 O743 f749) hZ690 (wdx hw 124 rfl) (wdx hw 54 rfl) (by decide) (by decide)) q767a q767c (g := (mkF m 292 #[.val (.int sa), .val (.long va), .second, .val (.int sb), .val (.long vb), .second, .val (.int ia), .val (.int ib), .val (.long wa), .second, .val (.long wb), .second, .val (.ref b3), .val (.ref b521), .val (.ref b701), .val (.int 0), .val (.int 0), .val (.int 0), .val (.int 0), .val (.int 0), .val (.int 0), .val (.long ((0 : Int64) + (0 : Int64))), .second, .val (.long ((0 : Int64) + (0 : Int64))), .second] [(.ref b701)])) rfl (by rw [hml]; rfl) (Steps.refl _) (argsL := []) (rest := []) (lenOf pd___J rfl) rfl (by show 2 * 0 + _ ≤ _; exact Nat.le_of_eq rfl) (hb hby at_292) (fun _ _ => ⟨rfl, eq766, (by exact lee rfl), (by exact lee rfl)⟩)
      dsimp only [Pt.U, Pt.locs, Pt.cells, Pt.slots] at X767 l767 y767 z767 st767 hQ767
      subst l767 y767 z767
      obtain ⟨rfl, Nq767, eq767⟩ := hQ767
      have N767 := Fr.app N766 Nq767
      refine GoW.tr st767 ?_
      show GoW p e below s _ _ _ _ _ (T767.setTop (mkF m 295 #[.val (.int sa), .val (.long va), .second, .val (.int sb), .val (.long vb), .second, .val (.int ia), .val (.int ib), .val (.long wa), .second, .val (.long wb), .second, .val (.ref b3), .val (.ref b521), .val (.ref b701), .val (.int 0), .val (.int 0), .val (.int 0), .val (.int 0), .val (.int 0), .val (.int 0), .val (.long ((0 : Int64) + (0 : Int64))), .second, .val (.long ((0 : Int64) + (0 : Int64))), .second] [(.long 0)]))
      refine GoW.st (fun _ k' => XS.lload X767.here hx rfl (hb hby at_295) rfl k') ?_
      show GoW p e below s _ _ _ _ _ (T767.setTop (mkF m 297 #[.val (.int sa), .val (.long va), .second, .val (.int sb), .val (.long vb), .second, .val (.int ia), .val (.int ib), .val (.long wa), .second, .val (.long wb), .second, .val (.ref b3), .val (.ref b521), .val (.ref b701), .val (.int 0), .val (.int 0), .val (.int 0), .val (.int 0), .val (.int 0), .val (.int 0), .val (.long ((0 : Int64) + (0 : Int64))), .second, .val (.long ((0 : Int64) + (0 : Int64))), .second] [(.long ((0 : Int64) + (0 : Int64))), (.long 0)]))
      refine GoW.st (fun _ k' => XT.lcmp X767.here hx rfl (hb hby at_297) rfl k') ?_
      show GoW p e below s _ _ _ _ _ (T767.setTop (mkF m 298 #[.val (.int sa), .val (.long va), .second, .val (.int sb), .val (.long vb), .second, .val (.int ia), .val (.int ib), .val (.long wa), .second, .val (.long wb), .second, .val (.ref b3), .val (.ref b521), .val (.ref b701), .val (.int 0), .val (.int 0), .val (.int 0), .val (.int 0), .val (.int 0), .val (.int 0), .val (.long ((0 : Int64) + (0 : Int64))), .second, .val (.long ((0 : Int64) + (0 : Int64))), .second] [(.int (XT.cmpL (0 : Int64) ((0 : Int64) + (0 : Int64))))]))
      refine GoW.st (fun _ k' => XS.ifNo X767.here hx rfl (hb hby at_298) rfl (XT.ll_ne_f (by simp [own_one])) k') ?_
      show GoW p e below s _ _ _ _ _ (T767.setTop (mkF m 301 #[.val (.int sa), .val (.long va), .second, .val (.int sb), .val (.long vb), .second, .val (.int ia), .val (.int ib), .val (.long wa), .second, .val (.long wb), .second, .val (.ref b3), .val (.ref b521), .val (.ref b701), .val (.int 0), .val (.int 0), .val (.int 0), .val (.int 0), .val (.int 0), .val (.int 0), .val (.long ((0 : Int64) + (0 : Int64))), .second, .val (.long ((0 : Int64) + (0 : Int64))), .second] []))
      refine GoW.st (fun _ k' => XS.iconst X767.here hx rfl (hb hby at_301) k') ?_
      show GoW p e below s _ _ _ _ _ (T767.setTop (mkF m 302 #[.val (.int sa), .val (.long va), .second, .val (.int sb), .val (.long vb), .second, .val (.int ia), .val (.int ib), .val (.long wa), .second, .val (.long wb), .second, .val (.ref b3), .val (.ref b521), .val (.ref b701), .val (.int 0), .val (.int 0), .val (.int 0), .val (.int 0), .val (.int 0), .val (.int 0), .val (.long ((0 : Int64) + (0 : Int64))), .second, .val (.long ((0 : Int64) + (0 : Int64))), .second] [(.int 1)]))
      refine GoW.st (fun _ k' => XS.goto X767.here hx rfl (pc0 := 302) (pc' := 306) rfl (hb hby at_302) (by decide) (by decide) k') ?_
      show GoW p e below s _ _ _ _ _ (T767.setTop (mkF m 306 #[.val (.int sa), .val (.long va), .second, .val (.int sb), .val (.long vb), .second, .val (.int ia), .val (.int ib), .val (.long wa), .second, .val (.long wb), .second, .val (.ref b3), .val (.ref b521), .val (.ref b701), .val (.int 0), .val (.int 0), .val (.int 0), .val (.int 0), .val (.int 0), .val (.int 0), .val (.long ((0 : Int64) + (0 : Int64))), .second, .val (.long ((0 : Int64) + (0 : Int64))), .second] [(.int 1)]))
      refine GoW.retB X767 hx hlk hS690 (by rw [eq767]; exact hk743) hZ690 hEL CH743 (t := .boolean) Bd.returns (by simp) (hb hby at_306) (by decide) (by decide) eq767 ?_
      exact ⟨rfl, N767, trivial⟩
set_option maxRecDepth 65536 in
set_option maxHeartbeats 40000000 in
theorem comes_1 {Post : Tables → Env → Array Value → State → Outcome → State → Prop} (hpost : ∀ tb e args s v u, (limb_1_1.after args s (.returned v) u = true ∧ limb_1_2.after args s (.returned v) u = true ∧ True) → ReturnedEndW s (.returned v) u (Jvm.fieldLocs frame_1_writes args s ++ Jvm.arrayLocs frame_1_arrays args s ++ Jvm.staticLocs frame_1_statics s) 16 1152 → Post tb e args s (.returned v) u) :
    ArmFor flags0 classFile x code maxLocals ret World_1 tables_1 room_1 Calls_1 rest_1 Pre_1 Post := by
  intro l hfl _ _ p e ha hc hk s m args below hf hA hF happ hP
  obtain ⟨hcalls, hrest, hpre⟩ := hP
  obtain ⟨-, -, -, hnamed, -, -, -, hat⟩ := (Spec.applies_iff hf).mp happ
  obtain ⟨hg, hn⟩ := and_e (Cond.before_iff.mp (show (Jvm.Cond.and given_1 narrow_1).before args s = true from hpre))
  obtain ⟨hcnt, hg0⟩ := and_e hg
  obtain ⟨ha0, hg1⟩ := and_e hg0
  obtain ⟨ha1, hg2⟩ := and_e hg1
  obtain ⟨ha2, hg3⟩ := and_e hg2
  have ha3 := hg3
  obtain ⟨w0, w1, w2, w3, rfl⟩ : ∃ w0 w1 w2 w3 : Value, args = #[w0, w1, w2, w3] := by
    have hs : args.size = 4 := by simpa [Cond.value, given_1] using hcnt
    obtain ⟨L⟩ := args
    match L, hs with
    | [w0, w1, w2, w3], _ => exact ⟨w0, w1, w2, w3, rfl⟩
  have hw := fun d (hd : d ∈ tables_1) => atoms_spec (ws := Jvm.Cond.code x code maxLocals ret :: tables_1) hat d (List.mem_cons_of_mem _ hd)
  have hfit : Fit s := fun {y c} hc i hi => by
    obtain ⟨ha, rfl⟩ := Array.getElem?_eq_some_iff.mp hc
    have q := List.all_eq_true.mp ((Array.all_eq_true_iff_forall_mem.mp hF) _ (Array.getElem_mem ha)) i (List.mem_range.mpr hi)
    simpa [Array.getElem?_eq_getElem hi] using q
  obtain ⟨i0, ei0⟩ := is_v ha0
  obtain rfl : w0 = (.int i0) := Option.some.inj ei0
  obtain ⟨i1, ei1⟩ := isL_v ha1
  obtain rfl : w1 = (.long i1) := Option.some.inj ei1
  obtain ⟨i2, ei2⟩ := is_v ha2
  obtain rfl : w2 = (.int i2) := Option.some.inj ei2
  obtain ⟨i3, ei3⟩ := isL_v ha3
  obtain rfl : w3 = (.long i3) := Option.some.inj ei3
  obtain ⟨hn0, hm0⟩ := and_e hn
  obtain ⟨hn1, hm1⟩ := and_e hm0
  obtain ⟨hn2, hm2⟩ := and_e hm1
  obtain ⟨hn3, hm3⟩ := and_e hm2
  obtain ⟨hn4, hm4⟩ := and_e hm3
  obtain ⟨hn5, hm5⟩ := and_e hm4
  obtain ⟨hn6, hm6⟩ := and_e hm5
  obtain ⟨hn7, hm7⟩ := and_e hm6
  obtain ⟨hn8, hm8⟩ := and_e hm7
  obtain ⟨hn9, hm9⟩ := and_e hm8
  obtain ⟨hn10, hm10⟩ := and_e hm9
  have hn11 := hm10
  obtain ⟨a_UNKNOWN, ev_UNKNOWN, S_UNKNOWN, E_UNKNOWN⟩ := own_en hn0 (wdx hw 17 rfl) (wdx hw 18 rfl)
  obtain ⟨a_HEALTHY, ev_HEALTHY, S_HEALTHY, E_HEALTHY⟩ := own_en hn1 (wdx hw 17 rfl) (wdx hw 51 rfl)
  obtain ⟨a_TIMEOUT, ev_TIMEOUT, S_TIMEOUT, E_TIMEOUT⟩ := own_en hn4 (wdx hw 17 rfl) (wdx hw 128 rfl)
  obtain ⟨a_UNHEALTHY, ev_UNHEALTHY, S_UNHEALTHY, E_UNHEALTHY⟩ := own_en hn5 (wdx hw 17 rfl) (wdx hw 130 rfl)
  obtain ⟨a_DEGRADED, ev_DEGRADED, S_DEGRADED, E_DEGRADED⟩ := own_en hn7 (wdx hw 17 rfl) (wdx hw 137 rfl)
  obtain ⟨a_DRAINING, ev_DRAINING, S_DRAINING, E_DRAINING⟩ := own_en hn10 (wdx hw 17 rfl) (wdx hw 140 rfl)
  have F_UNKNOWN_ordinal := own_ef ev_UNKNOWN hn2
  have F_HEALTHY_ordinal := own_ef ev_HEALTHY hn3
  have F_TIMEOUT_ordinal := own_ef ev_TIMEOUT hn6
  have F_DEGRADED_ordinal := own_ef ev_DEGRADED hn8
  have F_UNHEALTHY_ordinal := own_ef ev_UNHEALTHY hn9
  have F_DRAINING_ordinal := own_ef ev_DRAINING hn11
  have hCH0 : CHv s EL s.vm s.heap := fun p hp => nomatch hp
  obtain ⟨n, o, h1, h2, h3, _, L, rfl, ⟨rfl, N, -⟩, -, hq⟩ := rm0 l s _ hw tables_1 i0 i1 i2 i3 a_UNKNOWN a_HEALTHY a_UNHEALTHY a_DRAINING a_TIMEOUT a_DEGRADED s.heap s.heap.size (Old.start s) S_UNKNOWN S_HEALTHY S_UNHEALTHY S_DRAINING S_TIMEOUT S_DEGRADED E_UNKNOWN E_HEALTHY E_UNHEALTHY E_DRAINING E_TIMEOUT E_DEGRADED (own_fne F_UNKNOWN_ordinal F_HEALTHY_ordinal (by decide)) (own_fne F_UNKNOWN_ordinal F_DEGRADED_ordinal (by decide)) (own_fne F_HEALTHY_ordinal F_UNKNOWN_ordinal (by decide)) (own_fne F_HEALTHY_ordinal F_DEGRADED_ordinal (by decide)) (own_fne F_UNHEALTHY_ordinal F_HEALTHY_ordinal (by decide)) (own_fne F_UNHEALTHY_ordinal F_UNKNOWN_ordinal (by decide)) (own_fne F_UNHEALTHY_ordinal F_DEGRADED_ordinal (by decide)) (own_fne F_DRAINING_ordinal F_HEALTHY_ordinal (by decide)) (own_fne F_DRAINING_ordinal F_UNKNOWN_ordinal (by decide)) (own_fne F_DRAINING_ordinal F_DEGRADED_ordinal (by decide)) (own_fne F_TIMEOUT_ordinal F_HEALTHY_ordinal (by decide)) (own_fne F_TIMEOUT_ordinal F_UNKNOWN_ordinal (by decide)) (own_fne F_TIMEOUT_ordinal F_DEGRADED_ordinal (by decide)) (own_fne F_DEGRADED_ordinal F_HEALTHY_ordinal (by decide)) (own_fne F_DEGRADED_ordinal F_UNKNOWN_ordinal (by decide)) p e ha hc hk s m _ below hf ((Spec.applies_iff_loose hf).mp happ).1 ⟨rfl, State.Warmed39.refl s, rfl, hCH0, all0⟩ trivial
  refine ⟨n, _, h1, h2, h3, hpost _ _ _ _ _ _ ⟨Cond.after_iff.mpr rfl, Cond.after_iff.mpr (eq_i res_at (Term.int_eval (1)) rfl), trivial⟩ ⟨hq.1, hq.2.1, hq.2.2.1, (hq.2.2.2.sift fun y hy => Or.inr (N y hy)).mono (by decide) (by decide)⟩⟩
theorem main_1_1 : Claimed_1_1 := comes_1 fun _ _ _ _ _ _ h hF => ⟨h.1, hF⟩
theorem main_1_2 : Claimed_1_2 := comes_1 fun _ _ _ _ _ _ h hF => ⟨h.2.1, hF⟩
end Jvm.Pilot.@@N@@
namespace Jvm.Pilot.@@N@@
open Jvm Jvm.ClassFile Sem Op Lib Jvm.Free Jvm.Stand Jvm.Pilot.@@N@@.Jvm.D
/-! MADE BY PROGRAM (witnessworld.py) out of the Statement's table words and the real class files: 20 classes; the members and pool entries that the words name. The judged class is class 1, her method 3. -/
namespace start1
open Jvm.ClassFile
def u (s : String) : CpInfo := .utf8 (stringToUtf16 s)
/-- a pool by its gaps: so many unusable entries, then the entry; so many at the end -/
def gap : Nat → List CpInfo → List CpInfo
  | 0, r => r
  | n + 1, r => .unusable :: gap n r
def poolList (es : List (Nat × CpInfo)) (last : Nat) : List CpInfo := es.foldr (fun e r => gap e.1 (e.2 :: r)) (gap last [])
def pool (es : List (Nat × CpInfo)) (last : Nat) : Array CpInfo := ⟨poolList es last⟩
def fileOf (pool : Array CpInfo) (this : Nat) (attrs : Array Attribute := #[]) (ms : Array MethodInfo := #[]) (fl : Nat := 33) (sup : Nat := 0) (ifs : Array Nat := #[]) (fds : Array FieldInfo := #[]) : ClassFile where
  minorVersion := 0
  majorVersion := 65
  constantPool := pool
  accessFlags := fl
  thisClass := this
  superClass := sup
  interfaces := ifs
  fields := fds
  methods := ms
  attributes := attrs
def plain (name : String) (sup : Option ClassId) : Class where
  name := name
  kind := .ordinary
  loader := none
  accessFlags := 33
  super := sup
  interfaces := #[]
  cf := none
  fields := #[]
  methods := #[]
  instanceTypes := #[]
  staticTypes := #[]
  resolved := #[]
  callSites := []
  init := .initialized
  statics := none
  mirror := none

def pool0 : Array CpInfo := pool [(5, u "<init>"), (0, u "()V"), (1, .class_ 10), (1, u "java/lang/Object")] 113

def k0c0 : Code := { maxStack := 0, maxLocals := 1, code := object_method_1_code, exceptionTable := #[], attributes := #[] }
def k0m0 : Method := { name := "<init>", desc := "()V", sig := { parameters := [], returnType := none }, accessFlags := 1, code := some k0c0 }
/-- java/lang/Object -/
def k0 : Class := { plain "java/lang/Object" none with
  accessFlags := 33
  interfaces := #[]
  cf := some (fileOf pool0 8 #[] #[{ accessFlags := 1, nameIndex := 5, descriptorIndex := 6, attributes := #[] }] 33 0 #[] #[])
  fields := #[]
  methods := #[k0m0]
  instanceTypes := #[]
  staticTypes := #[]
  resolved := Array.replicate 124 none
  statics := none }

def pool1 : Array CpInfo := pool [(2, .class_ 4), (0, .nameAndType 5 6), (0, u "java/lang/Object"), (0, u "<init>"), (0, u "()V"), (0, .fieldref 8 9), (0, .class_ 10), (0, .nameAndType 11 12), (0, u "com/example/spillway/spillway/assignment/HealthStatus"), (0, u "UNKNOWN"), (0, u "Lcom/example/spillway/spillway/assignment/HealthStatus;"), (0, .fieldref 8 14), (0, .nameAndType 15 12), (0, u "HEALTHY"), (0, .fieldref 8 17), (0, .nameAndType 18 12), (0, u "UNHEALTHY"), (0, .fieldref 8 20), (0, .nameAndType 21 12), (0, u "DRAINING"), (0, .fieldref 8 23), (0, .nameAndType 24 12), (0, u "TIMEOUT"), (0, .fieldref 8 26), (0, .nameAndType 27 12), (0, u "DEGRADED"), (0, .long 4294967295), (1, .methodref 31 32), (0, .class_ 33), (0, .nameAndType 34 35), (0, u "java/lang/Math"), (0, u "max"), (0, u "(JJ)J"), (0, .integer 2147483647), (0, .methodref 38 39), (0, .class_ 40), (0, .nameAndType 41 42), (0, u "com/example/spillway/spillway/assignment/HealthTallyAddPinLaw"), (0, u "weight"), (0, u "(J)J"), (0, .class_ 44), (0, u "com/example/spillway/spillway/assignment/Endpoint"), (0, .methodref 38 46), (0, .nameAndType 47 48), (0, u "status"), (0, u "(I)Lcom/example/spillway/spillway/assignment/HealthStatus;"), (0, .methodref 43 50), (0, .nameAndType 5 51), (0, u "(Lcom/example/spillway/spillway/assignment/EndpointAddress;Lcom/example/spillway/spillway/assignment/HealthStatus;J)V"), (0, .class_ 53), (0, u "com/example/spillway/spillway/assignment/HealthTally"), (0, .methodref 52 3), (0, .methodref 52 56), (0, .nameAndType 57 58), (0, u "add"), (0, u "(Lcom/example/spillway/spillway/assignment/Endpoint;)V"), (0, .methodref 52 60), (0, .nameAndType 61 62), (0, u "getHosts"), (0, u "()I"), (0, .methodref 52 64), (0, .nameAndType 65 62), (0, u "getHealthy"), (0, .methodref 52 67), (0, .nameAndType 68 62), (0, u "getDegraded"), (0, .methodref 52 70), (0, .nameAndType 71 72), (0, u "getHostWeight"), (0, u "()J"), (0, .methodref 52 74), (0, .nameAndType 75 72), (0, u "getHealthyWeight"), (0, .methodref 52 77), (0, .nameAndType 78 72), (0, u "getDegradedWeight"), (3, u "law"), (0, u "(IJIJ)Z")] 2

def k1m0 : Method := { name := "<init>", desc := "()V", sig := { parameters := [], returnType := none }, accessFlags := 1, code := none }
def k1c1 : Code := { maxStack := 2, maxLocals := 1, code := method_2_code, exceptionTable := #[], attributes := #[] }
def k1m1 : Method := { name := "status", desc := "(I)Lcom/example/spillway/spillway/assignment/HealthStatus;", sig := { parameters := [.int], returnType := some (.object "com/example/spillway/spillway/assignment/HealthStatus") }, accessFlags := 10, code := some k1c1 }
def k1c2 : Code := { maxStack := 6, maxLocals := 2, code := method_3_code, exceptionTable := #[], attributes := #[] }
def k1m2 : Method := { name := "weight", desc := "(J)J", sig := { parameters := [.long], returnType := some .long }, accessFlags := 10, code := some k1c2 }
def k1c3 : Code := { maxStack := 6, maxLocals := 25, code := code, exceptionTable := #[], attributes := #[] }
def k1m3 : Method := { name := "law", desc := "(IJIJ)Z", sig := { parameters := [.int, .long, .int, .long], returnType := some .boolean }, accessFlags := 9, code := some k1c3 }
/-- com/example/spillway/spillway/assignment/HealthTallyAddPinLaw -/
def k1 : Class := { plain "com/example/spillway/spillway/assignment/HealthTallyAddPinLaw" (some 0) with
  accessFlags := 49
  interfaces := #[]
  cf := some (fileOf pool1 38 #[] #[{ accessFlags := 1, nameIndex := 5, descriptorIndex := 6, attributes := #[] }, { accessFlags := 10, nameIndex := 47, descriptorIndex := 48, attributes := #[] }, { accessFlags := 10, nameIndex := 41, descriptorIndex := 42, attributes := #[] }, { accessFlags := 9, nameIndex := 82, descriptorIndex := 83, attributes := #[] }] 49 2 #[] #[])
  fields := #[]
  methods := #[k1m0, k1m1, k1m2, k1m3]
  instanceTypes := #[]
  staticTypes := #[]
  resolved := Array.replicate 86 none
  statics := none }

def pool2 : Array CpInfo := pool [(1, .class_ 2), (0, u "java/lang/Math"), (1, .class_ 6), (1, u "java/lang/Object"), (0, u "<init>"), (0, u "()V"), (89, .class_ 100), (1, u "java/lang/Math$RandomNumberGeneratorHolder"), (20, u "(JJ)J"), (50, u "negativeZeroFloatBits"), (0, u "J"), (2, u "negativeZeroDoubleBits"), (21, u "max"), (46, u "$assertionsDisabled"), (0, u "Z"), (91, u "twoToTheDoubleScaleDown"), (0, u "D"), (4, u "twoToTheDoubleScaleUp"), (9, u "E"), (3, u "PI"), (2, u "TAU"), (2, u "DEGREES_TO_RADIANS"), (0, u "RADIANS_TO_DEGREES")] 94

def k2m0 : Method := { name := "<init>", desc := "()V", sig := { parameters := [], returnType := none }, accessFlags := 2, code := none }
def k2c1 : Code := { maxStack := 4, maxLocals := 4, code := jdk_29_method_66_code, exceptionTable := #[], attributes := #[] }
def k2m1 : Method := { name := "max", desc := "(JJ)J", sig := { parameters := [.long, .long], returnType := some .long }, accessFlags := 9, code := some k2c1 }
/-- java/lang/Math -/
def k2 : Class := { plain "java/lang/Math" (some 0) with
  accessFlags := 49
  interfaces := #[]
  cf := some (fileOf pool2 1 #[.nestMembers #[98]] #[{ accessFlags := 2, nameIndex := 7, descriptorIndex := 8, attributes := #[] }, { accessFlags := 9, nameIndex := 198, descriptorIndex := 121, attributes := #[] }] 49 4 #[] #[{ accessFlags := 25, nameIndex := 354, descriptorIndex := 339, attributes := #[] }, { accessFlags := 25, nameIndex := 358, descriptorIndex := 339, attributes := #[] }, { accessFlags := 25, nameIndex := 361, descriptorIndex := 339, attributes := #[] }, { accessFlags := 26, nameIndex := 364, descriptorIndex := 339, attributes := #[] }, { accessFlags := 26, nameIndex := 365, descriptorIndex := 339, attributes := #[] }, { accessFlags := 26, nameIndex := 172, descriptorIndex := 173, attributes := #[] }, { accessFlags := 26, nameIndex := 176, descriptorIndex := 173, attributes := #[] }, { accessFlags := 8, nameIndex := 344, descriptorIndex := 339, attributes := #[] }, { accessFlags := 8, nameIndex := 338, descriptorIndex := 339, attributes := #[] }, { accessFlags := 4120, nameIndex := 245, descriptorIndex := 246, attributes := #[] }])
  fields := #[{ name := "E", type := .double, accessFlags := 25, slot := 0, constantValue := 0 }, { name := "PI", type := .double, accessFlags := 25, slot := 1, constantValue := 0 }, { name := "TAU", type := .double, accessFlags := 25, slot := 2, constantValue := 0 }, { name := "DEGREES_TO_RADIANS", type := .double, accessFlags := 26, slot := 3, constantValue := 0 }, { name := "RADIANS_TO_DEGREES", type := .double, accessFlags := 26, slot := 4, constantValue := 0 }, { name := "negativeZeroFloatBits", type := .long, accessFlags := 26, slot := 5, constantValue := 0 }, { name := "negativeZeroDoubleBits", type := .long, accessFlags := 26, slot := 6, constantValue := 0 }, { name := "twoToTheDoubleScaleUp", type := .double, accessFlags := 8, slot := 7, constantValue := 0 }, { name := "twoToTheDoubleScaleDown", type := .double, accessFlags := 8, slot := 8, constantValue := 0 }, { name := "$assertionsDisabled", type := .boolean, accessFlags := 4120, slot := 9, constantValue := 0 }]
  methods := #[k2m0, k2m1]
  instanceTypes := #[]
  staticTypes := #[.double, .double, .double, .double, .double, .long, .long, .double, .double, .boolean]
  resolved := Array.replicate 460 none
  statics := none }

def pool3 : Array CpInfo := pool [(1, .methodref 2 3), (0, .class_ 4), (0, .nameAndType 5 6), (0, u "java/lang/Object"), (0, u "<init>"), (0, u "()V"), (0, .methodref 8 9), (0, .class_ 10), (0, .nameAndType 11 12), (0, u "com/example/spillway/spillway/assignment/Assignment"), (0, u "requireWeight"), (0, u "(J)V"), (0, .fieldref 14 15), (0, .class_ 16), (0, .nameAndType 17 18), (0, u "com/example/spillway/spillway/assignment/Endpoint"), (0, u "address"), (0, u "Lcom/example/spillway/spillway/assignment/EndpointAddress;"), (0, .string 20), (0, u "health"), (0, .methodref 22 23), (0, .class_ 24), (0, .nameAndType 25 26), (0, u "java/util/Objects"), (0, u "requireNonNull"), (0, u "(Ljava/lang/Object;Ljava/lang/String;)Ljava/lang/Object;"), (0, .class_ 28), (0, u "com/example/spillway/spillway/assignment/HealthStatus"), (0, .fieldref 14 30), (0, .nameAndType 20 31), (0, u "Lcom/example/spillway/spillway/assignment/HealthStatus;"), (0, .fieldref 14 33), (0, .nameAndType 34 35), (0, u "loadBalancingWeight"), (0, u "J"), (0, u "DEFAULT_WEIGHT"), (3, u "(Lcom/example/spillway/spillway/assignment/EndpointAddress;Lcom/example/spillway/spillway/assignment/HealthStatus;J)V"), (4, u "getHealth"), (0, u "()Lcom/example/spillway/spillway/assignment/HealthStatus;"), (0, u "getLoadBalancingWeight"), (0, u "()J")] 2

def k3c0 : Code := { maxStack := 3, maxLocals := 5, code := prog_10_method_1_code, exceptionTable := #[], attributes := #[] }
def k3m0 : Method := { name := "<init>", desc := "(Lcom/example/spillway/spillway/assignment/EndpointAddress;Lcom/example/spillway/spillway/assignment/HealthStatus;J)V", sig := { parameters := [(.object "com/example/spillway/spillway/assignment/EndpointAddress"), (.object "com/example/spillway/spillway/assignment/HealthStatus"), .long], returnType := none }, accessFlags := 1, code := some k3c0 }
def k3c1 : Code := { maxStack := 1, maxLocals := 1, code := prog_10_method_3_code, exceptionTable := #[], attributes := #[] }
def k3m1 : Method := { name := "getHealth", desc := "()Lcom/example/spillway/spillway/assignment/HealthStatus;", sig := { parameters := [], returnType := some (.object "com/example/spillway/spillway/assignment/HealthStatus") }, accessFlags := 1, code := some k3c1 }
def k3c2 : Code := { maxStack := 2, maxLocals := 1, code := prog_10_method_4_code, exceptionTable := #[], attributes := #[] }
def k3m2 : Method := { name := "getLoadBalancingWeight", desc := "()J", sig := { parameters := [], returnType := some .long }, accessFlags := 1, code := some k3c2 }
/-- com/example/spillway/spillway/assignment/Endpoint -/
def k3 : Class := { plain "com/example/spillway/spillway/assignment/Endpoint" (some 0) with
  accessFlags := 49
  interfaces := #[]
  cf := some (fileOf pool3 14 #[] #[{ accessFlags := 1, nameIndex := 5, descriptorIndex := 40, attributes := #[] }, { accessFlags := 1, nameIndex := 45, descriptorIndex := 46, attributes := #[] }, { accessFlags := 1, nameIndex := 47, descriptorIndex := 48, attributes := #[] }] 49 2 #[] #[{ accessFlags := 25, nameIndex := 36, descriptorIndex := 35, attributes := #[] }, { accessFlags := 18, nameIndex := 17, descriptorIndex := 18, attributes := #[] }, { accessFlags := 18, nameIndex := 20, descriptorIndex := 31, attributes := #[] }, { accessFlags := 18, nameIndex := 34, descriptorIndex := 35, attributes := #[] }])
  fields := #[{ name := "DEFAULT_WEIGHT", type := .long, accessFlags := 25, slot := 0, constantValue := 0 }, { name := "address", type := (.object "com/example/spillway/spillway/assignment/EndpointAddress"), accessFlags := 18, slot := 0, constantValue := 0 }, { name := "health", type := (.object "com/example/spillway/spillway/assignment/HealthStatus"), accessFlags := 18, slot := 1, constantValue := 0 }, { name := "loadBalancingWeight", type := .long, accessFlags := 18, slot := 2, constantValue := 0 }]
  methods := #[k3m0, k3m1, k3m2]
  instanceTypes := #[(.object "com/example/spillway/spillway/assignment/EndpointAddress"), (.object "com/example/spillway/spillway/assignment/HealthStatus"), .long]
  staticTypes := #[.long]
  resolved := Array.replicate 51 none
  statics := none }

def pool4 : Array CpInfo := pool [(1, .class_ 2), (0, u "java/lang/constant/Constable"), (0, .class_ 4), (0, u "java/lang/Object")] 6

/-- java/lang/constant/Constable -/
def k4 : Class := { plain "java/lang/constant/Constable" (some 0) with
  accessFlags := 1537
  interfaces := #[]
  cf := some (fileOf pool4 1 #[] #[] 1537 3 #[] #[])
  fields := #[]
  methods := #[]
  instanceTypes := #[]
  staticTypes := #[]
  resolved := Array.replicate 11 none
  statics := none }

def pool5 : Array CpInfo := pool [(1, .class_ 2), (0, u "java/lang/Comparable"), (0, .class_ 4), (0, u "java/lang/Object")] 7

/-- java/lang/Comparable -/
def k5 : Class := { plain "java/lang/Comparable" (some 0) with
  accessFlags := 1537
  interfaces := #[]
  cf := some (fileOf pool5 1 #[] #[] 1537 3 #[] #[])
  fields := #[]
  methods := #[]
  instanceTypes := #[]
  staticTypes := #[]
  resolved := Array.replicate 12 none
  statics := none }

def pool6 : Array CpInfo := pool [(1, .class_ 2), (0, u "java/io/Serializable"), (0, .class_ 4), (0, u "java/lang/Object")] 2

/-- java/io/Serializable -/
def k6 : Class := { plain "java/io/Serializable" (some 0) with
  accessFlags := 1537
  interfaces := #[]
  cf := some (fileOf pool6 1 #[] #[] 1537 3 #[] #[])
  fields := #[]
  methods := #[]
  instanceTypes := #[]
  staticTypes := #[]
  resolved := Array.replicate 7 none
  statics := none }

def pool7 : Array CpInfo := pool [(2, .class_ 4), (1, u "java/lang/Enum"), (0, u "name"), (0, u "Ljava/lang/String;"), (2, u "ordinal"), (0, u "I"), (1, .class_ 14), (1, u "java/lang/Object"), (4, u "hash"), (86, .class_ 108), (1, u "java/lang/Enum$EnumDesc"), (2, .class_ 112), (0, u "java/lang/constant/Constable"), (0, .class_ 114), (0, u "java/lang/Comparable"), (0, .class_ 116), (0, u "java/io/Serializable")] 87

/-- java/lang/Enum -/
def k7 : Class := { plain "java/lang/Enum" (some 0) with
  accessFlags := 1057
  interfaces := #[4, 5, 6]
  cf := some (fileOf pool7 2 #[.nestMembers #[106]] #[] 1057 12 #[111, 113, 115] #[{ accessFlags := 18, nameIndex := 5, descriptorIndex := 6, attributes := #[] }, { accessFlags := 18, nameIndex := 9, descriptorIndex := 10, attributes := #[] }, { accessFlags := 2, nameIndex := 19, descriptorIndex := 10, attributes := #[] }])
  fields := #[{ name := "name", type := (.object "java/lang/String"), accessFlags := 18, slot := 0, constantValue := 0 }, { name := "ordinal", type := .int, accessFlags := 18, slot := 1, constantValue := 0 }, { name := "hash", type := .int, accessFlags := 2, slot := 2, constantValue := 0 }]
  methods := #[]
  instanceTypes := #[(.object "java/lang/String"), .int, .int]
  staticTypes := #[]
  resolved := Array.replicate 204 none
  statics := none }

def pool8 : Array CpInfo := pool [(1, .class_ 2), (0, u "com/example/spillway/spillway/assignment/HealthStatus"), (0, .fieldref 1 4), (0, .nameAndType 5 6), (0, u "UNKNOWN"), (0, u "Lcom/example/spillway/spillway/assignment/HealthStatus;"), (0, .fieldref 1 8), (0, .nameAndType 9 6), (0, u "HEALTHY"), (2, u "UNHEALTHY"), (2, u "DRAINING"), (2, u "TIMEOUT"), (0, .fieldref 1 20), (0, .nameAndType 21 6), (0, u "DEGRADED"), (2, u "$VALUES"), (0, u "[Lcom/example/spillway/spillway/assignment/HealthStatus;"), (6, .class_ 34), (1, u "java/lang/Enum"), (24, u "isHealthy"), (0, u "()Z"), (1, u "isDegraded")] 4

def k8c0 : Code := { maxStack := 2, maxLocals := 1, code := prog_12_method_4_code, exceptionTable := #[], attributes := #[] }
def k8m0 : Method := { name := "isHealthy", desc := "()Z", sig := { parameters := [], returnType := some .boolean }, accessFlags := 1, code := some k8c0 }
def k8c1 : Code := { maxStack := 2, maxLocals := 1, code := prog_12_method_5_code, exceptionTable := #[], attributes := #[] }
def k8m1 : Method := { name := "isDegraded", desc := "()Z", sig := { parameters := [], returnType := some .boolean }, accessFlags := 1, code := some k8c1 }
/-- com/example/spillway/spillway/assignment/HealthStatus -/
def k8 : Class := { plain "com/example/spillway/spillway/assignment/HealthStatus" (some 7) with
  accessFlags := 16433
  interfaces := #[]
  cf := some (fileOf pool8 1 #[] #[{ accessFlags := 1, nameIndex := 59, descriptorIndex := 60, attributes := #[] }, { accessFlags := 1, nameIndex := 62, descriptorIndex := 60, attributes := #[] }] 16433 32 #[] #[{ accessFlags := 16409, nameIndex := 5, descriptorIndex := 6, attributes := #[] }, { accessFlags := 16409, nameIndex := 9, descriptorIndex := 6, attributes := #[] }, { accessFlags := 16409, nameIndex := 12, descriptorIndex := 6, attributes := #[] }, { accessFlags := 16409, nameIndex := 15, descriptorIndex := 6, attributes := #[] }, { accessFlags := 16409, nameIndex := 18, descriptorIndex := 6, attributes := #[] }, { accessFlags := 16409, nameIndex := 21, descriptorIndex := 6, attributes := #[] }, { accessFlags := 4122, nameIndex := 24, descriptorIndex := 25, attributes := #[] }])
  fields := #[{ name := "UNKNOWN", type := (.object "com/example/spillway/spillway/assignment/HealthStatus"), accessFlags := 16409, slot := 0, constantValue := 0 }, { name := "HEALTHY", type := (.object "com/example/spillway/spillway/assignment/HealthStatus"), accessFlags := 16409, slot := 1, constantValue := 0 }, { name := "UNHEALTHY", type := (.object "com/example/spillway/spillway/assignment/HealthStatus"), accessFlags := 16409, slot := 2, constantValue := 0 }, { name := "DRAINING", type := (.object "com/example/spillway/spillway/assignment/HealthStatus"), accessFlags := 16409, slot := 3, constantValue := 0 }, { name := "TIMEOUT", type := (.object "com/example/spillway/spillway/assignment/HealthStatus"), accessFlags := 16409, slot := 4, constantValue := 0 }, { name := "DEGRADED", type := (.object "com/example/spillway/spillway/assignment/HealthStatus"), accessFlags := 16409, slot := 5, constantValue := 0 }, { name := "$VALUES", type := (.array (.object "com/example/spillway/spillway/assignment/HealthStatus")), accessFlags := 4122, slot := 6, constantValue := 0 }]
  methods := #[k8m0, k8m1]
  instanceTypes := #[(.object "java/lang/String"), .int, .int]
  staticTypes := #[(.object "com/example/spillway/spillway/assignment/HealthStatus"), (.object "com/example/spillway/spillway/assignment/HealthStatus"), (.object "com/example/spillway/spillway/assignment/HealthStatus"), (.object "com/example/spillway/spillway/assignment/HealthStatus"), (.object "com/example/spillway/spillway/assignment/HealthStatus"), (.object "com/example/spillway/spillway/assignment/HealthStatus"), (.array (.object "com/example/spillway/spillway/assignment/HealthStatus"))]
  resolved := Array.replicate 67 none
  statics := some 0 }

def pool9 : Array CpInfo := pool [(2, .class_ 4), (1, u "com/example/spillway/spillway/assignment/Assignment"), (3, .class_ 10), (1, u "java/lang/Object"), (57, u "clusterName"), (10, u "Ljava/lang/String;"), (2, u "overprovisioningFactor"), (0, u "J"), (2, u "dropOverloads"), (0, u "Ljava/util/List;"), (6, u "dropShare"), (0, u "Ljava/math/BigDecimal;"), (2, u "weightedPriorityHealth"), (0, u "Z"), (2, u "groupsByPriority"), (4, u "levelTallies"), (0, u "[Lcom/example/spillway/spillway/assignment/HealthTally;"), (10, u "groupPriorities"), (0, u "[I"), (6, u "addressIndex"), (0, u "Lcom/example/spillway/spillway/assignment/AddressIndex;"), (26, u "DROP_SHARE_PRECISION"), (0, u "Ljava/math/MathContext;"), (36, .long 4294967295), (73, u "DEFAULT_OVERPROVISIONING_FACTOR"), (3, u "MIN_OVERPROVISIONING_FACTOR"), (2, u "MAX_OVERPROVISIONING_FACTOR"), (0, u "MAX_WEIGHT"), (15, u "requireWeight"), (0, u "(J)V")] 50

def k9c0 : Code := { maxStack := 4, maxLocals := 2, code := prog_7_method_8_code, exceptionTable := #[], attributes := #[] }
def k9m0 : Method := { name := "requireWeight", desc := "(J)V", sig := { parameters := [.long], returnType := none }, accessFlags := 8, code := some k9c0 }
/-- com/example/spillway/spillway/assignment/Assignment -/
def k9 : Class := { plain "com/example/spillway/spillway/assignment/Assignment" (some 0) with
  accessFlags := 49
  interfaces := #[]
  cf := some (fileOf pool9 2 #[] #[{ accessFlags := 8, nameIndex := 291, descriptorIndex := 292, attributes := #[] }] 49 8 #[] #[{ accessFlags := 25, nameIndex := 267, descriptorIndex := 83, attributes := #[] }, { accessFlags := 25, nameIndex := 271, descriptorIndex := 83, attributes := #[] }, { accessFlags := 25, nameIndex := 274, descriptorIndex := 83, attributes := #[] }, { accessFlags := 25, nameIndex := 275, descriptorIndex := 83, attributes := #[] }, { accessFlags := 26, nameIndex := 155, descriptorIndex := 156, attributes := #[] }, { accessFlags := 18, nameIndex := 68, descriptorIndex := 79, attributes := #[] }, { accessFlags := 18, nameIndex := 82, descriptorIndex := 83, attributes := #[] }, { accessFlags := 18, nameIndex := 86, descriptorIndex := 87, attributes := #[] }, { accessFlags := 18, nameIndex := 94, descriptorIndex := 95, attributes := #[] }, { accessFlags := 18, nameIndex := 98, descriptorIndex := 99, attributes := #[] }, { accessFlags := 18, nameIndex := 102, descriptorIndex := 87, attributes := #[] }, { accessFlags := 18, nameIndex := 107, descriptorIndex := 108, attributes := #[] }, { accessFlags := 18, nameIndex := 119, descriptorIndex := 120, attributes := #[] }, { accessFlags := 66, nameIndex := 127, descriptorIndex := 128, attributes := #[] }])
  fields := #[{ name := "DEFAULT_OVERPROVISIONING_FACTOR", type := .long, accessFlags := 25, slot := 0, constantValue := 0 }, { name := "MIN_OVERPROVISIONING_FACTOR", type := .long, accessFlags := 25, slot := 1, constantValue := 0 }, { name := "MAX_OVERPROVISIONING_FACTOR", type := .long, accessFlags := 25, slot := 2, constantValue := 0 }, { name := "MAX_WEIGHT", type := .long, accessFlags := 25, slot := 3, constantValue := 0 }, { name := "DROP_SHARE_PRECISION", type := (.object "java/math/MathContext"), accessFlags := 26, slot := 4, constantValue := 0 }, { name := "clusterName", type := (.object "java/lang/String"), accessFlags := 18, slot := 0, constantValue := 0 }, { name := "overprovisioningFactor", type := .long, accessFlags := 18, slot := 1, constantValue := 0 }, { name := "dropOverloads", type := (.object "java/util/List"), accessFlags := 18, slot := 2, constantValue := 0 }, { name := "dropShare", type := (.object "java/math/BigDecimal"), accessFlags := 18, slot := 3, constantValue := 0 }, { name := "weightedPriorityHealth", type := .boolean, accessFlags := 18, slot := 4, constantValue := 0 }, { name := "groupsByPriority", type := (.object "java/util/List"), accessFlags := 18, slot := 5, constantValue := 0 }, { name := "levelTallies", type := (.array (.object "com/example/spillway/spillway/assignment/HealthTally")), accessFlags := 18, slot := 6, constantValue := 0 }, { name := "groupPriorities", type := (.array .int), accessFlags := 18, slot := 7, constantValue := 0 }, { name := "addressIndex", type := (.object "com/example/spillway/spillway/assignment/AddressIndex"), accessFlags := 66, slot := 8, constantValue := 0 }]
  methods := #[k9m0]
  instanceTypes := #[(.object "java/lang/String"), .long, (.object "java/util/List"), (.object "java/math/BigDecimal"), .boolean, (.object "java/util/List"), (.array (.object "com/example/spillway/spillway/assignment/HealthTally")), (.array .int), (.object "com/example/spillway/spillway/assignment/AddressIndex")]
  staticTypes := #[.long, .long, .long, .long, (.object "java/math/MathContext")]
  resolved := Array.replicate 343 none
  statics := none }

def pool10 : Array CpInfo := pool [(2, .class_ 4), (1, u "java/lang/CharSequence"), (42, .class_ 48), (0, u "java/lang/CharSequence$1CodePointIterator"), (10, .class_ 60), (0, u "java/lang/CharSequence$1CharIterator"), (5, .class_ 67), (0, u "java/lang/Object")] 63

/-- java/lang/CharSequence -/
def k10 : Class := { plain "java/lang/CharSequence" (some 0) with
  accessFlags := 1537
  interfaces := #[]
  cf := some (fileOf pool10 2 #[.nestMembers #[47, 59]] #[] 1537 66 #[] #[])
  fields := #[]
  methods := #[]
  instanceTypes := #[]
  staticTypes := #[]
  resolved := Array.replicate 131 none
  statics := none }

def pool11 : Array CpInfo := pool [(1, .class_ 2), (0, u "java/lang/constant/ConstantDesc"), (0, .class_ 4), (0, u "java/lang/Object")] 32

/-- java/lang/constant/ConstantDesc -/
def k11 : Class := { plain "java/lang/constant/ConstantDesc" (some 0) with
  accessFlags := 1537
  interfaces := #[]
  cf := some (fileOf pool11 1 #[] #[] 1537 3 #[] #[])
  fields := #[]
  methods := #[]
  instanceTypes := #[]
  staticTypes := #[]
  resolved := Array.replicate 37 none
  statics := none }

def pool12 : Array CpInfo := pool [(2, .class_ 4), (1, u "java/lang/Object"), (0, u "<init>"), (0, u "()V"), (3, .class_ 12), (1, u "java/lang/String"), (0, u "value"), (0, u "[B"), (2, u "coder"), (0, u "B"), (2, u "hash"), (0, u "I"), (2, u "hashIsZero"), (0, u "Z"), (13, u "COMPACT_STRINGS"), (534, .class_ 576), (0, u "java/lang/CharSequence"), (22, u "CASE_INSENSITIVE_ORDER"), (0, u "Ljava/util/Comparator;"), (500, u "serialPersistentFields"), (0, u "[Ljava/io/ObjectStreamField;"), (0, .class_ 1104), (0, u "java/lang/String$CaseInsensitiveComparator"), (1, .class_ 1107), (0, u "java/io/Serializable"), (0, .class_ 1109), (0, u "java/lang/Comparable"), (0, .class_ 1111), (0, u "java/lang/constant/Constable"), (0, .class_ 1113), (0, u "java/lang/constant/ConstantDesc"), (2, u "serialVersionUID"), (0, u "J"), (3, u "REPL"), (0, u "C"), (2, u "LATIN1"), (1, u "UTF16")] 323

def k12m0 : Method := { name := "<init>", desc := "()V", sig := { parameters := [], returnType := none }, accessFlags := 1, code := none }
/-- java/lang/String -/
def k12 : Class := { plain "java/lang/String" (some 0) with
  accessFlags := 49
  interfaces := #[6, 5, 10, 4, 11]
  cf := some (fileOf pool12 10 #[.nestMembers #[1103]] #[{ accessFlags := 1, nameIndex := 5, descriptorIndex := 6, attributes := #[] }] 49 2 #[1106, 1108, 575, 1110, 1112] #[{ accessFlags := 18, nameIndex := 13, descriptorIndex := 14, attributes := #[] }, { accessFlags := 18, nameIndex := 17, descriptorIndex := 18, attributes := #[] }, { accessFlags := 2, nameIndex := 21, descriptorIndex := 22, attributes := #[] }, { accessFlags := 2, nameIndex := 25, descriptorIndex := 26, attributes := #[] }, { accessFlags := 26, nameIndex := 1116, descriptorIndex := 1117, attributes := #[] }, { accessFlags := 24, nameIndex := 40, descriptorIndex := 26, attributes := #[] }, { accessFlags := 26, nameIndex := 1101, descriptorIndex := 1102, attributes := #[] }, { accessFlags := 26, nameIndex := 1121, descriptorIndex := 1122, attributes := #[] }, { accessFlags := 25, nameIndex := 599, descriptorIndex := 600, attributes := #[] }, { accessFlags := 24, nameIndex := 1125, descriptorIndex := 18, attributes := #[] }, { accessFlags := 24, nameIndex := 1127, descriptorIndex := 18, attributes := #[] }])
  fields := #[{ name := "value", type := (.array .byte), accessFlags := 18, slot := 0, constantValue := 0 }, { name := "coder", type := .byte, accessFlags := 18, slot := 1, constantValue := 0 }, { name := "hash", type := .int, accessFlags := 2, slot := 2, constantValue := 0 }, { name := "hashIsZero", type := .boolean, accessFlags := 2, slot := 3, constantValue := 0 }, { name := "serialVersionUID", type := .long, accessFlags := 26, slot := 0, constantValue := 0 }, { name := "COMPACT_STRINGS", type := .boolean, accessFlags := 24, slot := 1, constantValue := 0 }, { name := "serialPersistentFields", type := (.array (.object "java/io/ObjectStreamField")), accessFlags := 26, slot := 2, constantValue := 0 }, { name := "REPL", type := .char, accessFlags := 26, slot := 3, constantValue := 0 }, { name := "CASE_INSENSITIVE_ORDER", type := (.object "java/util/Comparator"), accessFlags := 25, slot := 4, constantValue := 0 }, { name := "LATIN1", type := .byte, accessFlags := 24, slot := 5, constantValue := 0 }, { name := "UTF16", type := .byte, accessFlags := 24, slot := 6, constantValue := 0 }]
  methods := #[k12m0]
  instanceTypes := #[(.array .byte), .byte, .int, .boolean]
  staticTypes := #[.long, .boolean, (.array (.object "java/io/ObjectStreamField")), .char, (.object "java/util/Comparator"), .byte, .byte]
  resolved := Array.replicate 1451 none
  statics := none }

def pool13 : Array CpInfo := pool [(2, .class_ 4), (1, u "java/lang/Object"), (0, u "<init>"), (0, u "()V"), (35, .class_ 44), (1, u "java/util/Objects"), (0, u "requireNonNull"), (48, u "(Ljava/lang/Object;Ljava/lang/String;)Ljava/lang/Object;")] 89

def k13m0 : Method := { name := "<init>", desc := "()V", sig := { parameters := [], returnType := none }, accessFlags := 2, code := none }
def k13c1 : Code := { maxStack := 3, maxLocals := 2, code := jdk_31_method_11_code, exceptionTable := #[], attributes := #[] }
def k13m1 : Method := { name := "requireNonNull", desc := "(Ljava/lang/Object;Ljava/lang/String;)Ljava/lang/Object;", sig := { parameters := [(.object "java/lang/Object"), (.object "java/lang/String")], returnType := some (.object "java/lang/Object") }, accessFlags := 9, code := some k13c1 }
/-- java/util/Objects -/
def k13 : Class := { plain "java/util/Objects" (some 0) with
  accessFlags := 49
  interfaces := #[]
  cf := some (fileOf pool13 42 #[] #[{ accessFlags := 2, nameIndex := 5, descriptorIndex := 6, attributes := #[] }, { accessFlags := 9, nameIndex := 45, descriptorIndex := 94, attributes := #[] }] 49 2 #[] #[])
  fields := #[]
  methods := #[k13m0, k13m1]
  instanceTypes := #[]
  staticTypes := #[]
  resolved := Array.replicate 184 none
  statics := none }

def pool14 : Array CpInfo := pool [(1, .methodref 2 3), (0, .class_ 4), (0, .nameAndType 5 6), (0, u "java/lang/Object"), (0, u "<init>"), (0, u "()V"), (0, .class_ 8), (0, u "com/example/spillway/spillway/assignment/HealthTally"), (3, u "add"), (1, .methodref 7 15), (0, .nameAndType 16 17), (0, u "count"), (0, u "(Lcom/example/spillway/spillway/assignment/Endpoint;I)V"), (0, .fieldref 7 19), (0, .nameAndType 20 21), (0, u "hosts"), (0, u "I"), (0, .fieldref 7 23), (0, .nameAndType 24 21), (0, u "healthy"), (0, .fieldref 7 26), (0, .nameAndType 27 21), (0, u "degraded"), (0, .fieldref 7 29), (0, .nameAndType 30 31), (0, u "hostWeight"), (0, u "J"), (0, .fieldref 7 33), (0, .nameAndType 34 31), (0, u "healthyWeight"), (0, .fieldref 7 36), (0, .nameAndType 37 31), (0, u "degradedWeight"), (0, .methodref 39 40), (0, .class_ 41), (0, .nameAndType 42 43), (0, u "com/example/spillway/spillway/assignment/Endpoint"), (0, u "getLoadBalancingWeight"), (0, u "()J"), (0, .methodref 39 45), (0, .nameAndType 46 47), (0, u "getHealth"), (0, u "()Lcom/example/spillway/spillway/assignment/HealthStatus;"), (0, .methodref 49 50), (0, .class_ 51), (0, .nameAndType 52 53), (0, u "com/example/spillway/spillway/assignment/HealthStatus"), (0, u "isHealthy"), (0, u "()Z"), (0, .methodref 49 55), (0, .nameAndType 56 53), (0, u "isDegraded"), (4, u "(Lcom/example/spillway/spillway/assignment/Endpoint;)V"), (2, u "getHosts"), (0, u "()I"), (0, u "getHealthy"), (0, u "getDegraded"), (0, u "getHostWeight"), (0, u "getHealthyWeight"), (0, u "getDegradedWeight")] 2

def k14c0 : Code := { maxStack := 1, maxLocals := 1, code := prog_13_method_1_code, exceptionTable := #[], attributes := #[] }
def k14m0 : Method := { name := "<init>", desc := "()V", sig := { parameters := [], returnType := none }, accessFlags := 0, code := some k14c0 }
def k14c1 : Code := { maxStack := 3, maxLocals := 2, code := prog_13_method_3_code, exceptionTable := #[], attributes := #[] }
def k14m1 : Method := { name := "add", desc := "(Lcom/example/spillway/spillway/assignment/Endpoint;)V", sig := { parameters := [(.object "com/example/spillway/spillway/assignment/Endpoint")], returnType := none }, accessFlags := 0, code := some k14c1 }
def k14c2 : Code := { maxStack := 5, maxLocals := 5, code := prog_13_method_6_code, exceptionTable := #[], attributes := #[] }
def k14m2 : Method := { name := "count", desc := "(Lcom/example/spillway/spillway/assignment/Endpoint;I)V", sig := { parameters := [(.object "com/example/spillway/spillway/assignment/Endpoint"), .int], returnType := none }, accessFlags := 2, code := some k14c2 }
def k14c3 : Code := { maxStack := 1, maxLocals := 1, code := prog_13_method_7_code, exceptionTable := #[], attributes := #[] }
def k14m3 : Method := { name := "getHosts", desc := "()I", sig := { parameters := [], returnType := some .int }, accessFlags := 0, code := some k14c3 }
def k14c4 : Code := { maxStack := 1, maxLocals := 1, code := prog_13_method_8_code, exceptionTable := #[], attributes := #[] }
def k14m4 : Method := { name := "getHealthy", desc := "()I", sig := { parameters := [], returnType := some .int }, accessFlags := 0, code := some k14c4 }
def k14c5 : Code := { maxStack := 1, maxLocals := 1, code := prog_13_method_9_code, exceptionTable := #[], attributes := #[] }
def k14m5 : Method := { name := "getDegraded", desc := "()I", sig := { parameters := [], returnType := some .int }, accessFlags := 0, code := some k14c5 }
def k14c6 : Code := { maxStack := 2, maxLocals := 1, code := prog_13_method_10_code, exceptionTable := #[], attributes := #[] }
def k14m6 : Method := { name := "getHostWeight", desc := "()J", sig := { parameters := [], returnType := some .long }, accessFlags := 0, code := some k14c6 }
def k14c7 : Code := { maxStack := 2, maxLocals := 1, code := prog_13_method_11_code, exceptionTable := #[], attributes := #[] }
def k14m7 : Method := { name := "getHealthyWeight", desc := "()J", sig := { parameters := [], returnType := some .long }, accessFlags := 0, code := some k14c7 }
def k14c8 : Code := { maxStack := 2, maxLocals := 1, code := prog_13_method_12_code, exceptionTable := #[], attributes := #[] }
def k14m8 : Method := { name := "getDegradedWeight", desc := "()J", sig := { parameters := [], returnType := some .long }, accessFlags := 0, code := some k14c8 }
/-- com/example/spillway/spillway/assignment/HealthTally -/
def k14 : Class := { plain "com/example/spillway/spillway/assignment/HealthTally" (some 0) with
  accessFlags := 48
  interfaces := #[]
  cf := some (fileOf pool14 7 #[] #[{ accessFlags := 0, nameIndex := 5, descriptorIndex := 6, attributes := #[] }, { accessFlags := 0, nameIndex := 12, descriptorIndex := 61, attributes := #[] }, { accessFlags := 2, nameIndex := 16, descriptorIndex := 17, attributes := #[] }, { accessFlags := 0, nameIndex := 64, descriptorIndex := 65, attributes := #[] }, { accessFlags := 0, nameIndex := 66, descriptorIndex := 65, attributes := #[] }, { accessFlags := 0, nameIndex := 67, descriptorIndex := 65, attributes := #[] }, { accessFlags := 0, nameIndex := 68, descriptorIndex := 43, attributes := #[] }, { accessFlags := 0, nameIndex := 69, descriptorIndex := 43, attributes := #[] }, { accessFlags := 0, nameIndex := 70, descriptorIndex := 43, attributes := #[] }] 48 2 #[] #[{ accessFlags := 2, nameIndex := 20, descriptorIndex := 21, attributes := #[] }, { accessFlags := 2, nameIndex := 24, descriptorIndex := 21, attributes := #[] }, { accessFlags := 2, nameIndex := 27, descriptorIndex := 21, attributes := #[] }, { accessFlags := 2, nameIndex := 30, descriptorIndex := 31, attributes := #[] }, { accessFlags := 2, nameIndex := 34, descriptorIndex := 31, attributes := #[] }, { accessFlags := 2, nameIndex := 37, descriptorIndex := 31, attributes := #[] }])
  fields := #[{ name := "hosts", type := .int, accessFlags := 2, slot := 0, constantValue := 0 }, { name := "healthy", type := .int, accessFlags := 2, slot := 1, constantValue := 0 }, { name := "degraded", type := .int, accessFlags := 2, slot := 2, constantValue := 0 }, { name := "hostWeight", type := .long, accessFlags := 2, slot := 3, constantValue := 0 }, { name := "healthyWeight", type := .long, accessFlags := 2, slot := 4, constantValue := 0 }, { name := "degradedWeight", type := .long, accessFlags := 2, slot := 5, constantValue := 0 }]
  methods := #[k14m0, k14m1, k14m2, k14m3, k14m4, k14m5, k14m6, k14m7, k14m8]
  instanceTypes := #[.int, .int, .int, .long, .long, .long]
  staticTypes := #[]
  resolved := Array.replicate 73 none
  statics := none }

def pool15 : Array CpInfo := pool [(1, u "java/lang/Cloneable"), (0, .class_ 1), (0, u "java/lang/Object"), (0, .class_ 3)] 3

/-- java/lang/Cloneable -/
def k15 : Class := { plain "java/lang/Cloneable" (some 0) with
  accessFlags := 1537
  interfaces := #[]
  cf := some (fileOf pool15 2 #[] #[] 1537 4 #[] #[])
  fields := #[]
  methods := #[]
  instanceTypes := #[]
  staticTypes := #[]
  resolved := Array.replicate 8 none
  statics := none }

/-- the primitive byte -/
def k16 : Class := { plain "byte" none with kind := .primitive 'B', accessFlags := 0x411 }
/-- [B -/
def k17 : Class := { plain "[B" (some 0) with kind := .array 16 .byte, interfaces := #[15, 6], accessFlags := 1041 }

/-- the primitive int -/
def k18 : Class := { plain "int" none with kind := .primitive 'I', accessFlags := 0x411 }
/-- [I -/
def k19 : Class := { plain "[I" (some 0) with kind := .array 18 .int, interfaces := #[15, 6], accessFlags := 1041 }

def heap : Heap := #[{ cls := 8, slots := #[.ref 1, .ref 2, .ref 4, .ref 6, .ref 3, .ref 5, .null], vm := .statics 8 },
  { cls := 8, slots := #[.null, .int 0, .int 0], vm := .none },
  { cls := 8, slots := #[.null, .int 1, .int 0], vm := .none },
  { cls := 8, slots := #[.null, .int 4, .int 0], vm := .none },
  { cls := 8, slots := #[.null, .int 2, .int 0], vm := .none },
  { cls := 8, slots := #[.null, .int 5, .int 0], vm := .none },
  { cls := 8, slots := #[.null, .int 3, .int 0], vm := .none }]
def classes : Array Class := #[k0, k1, k2, k3, k4, k5, k6, k7, k8, k9, k10, k11, k12, k13, k14, k15, k16, k17, k18, k19]
def interned : List (Array UInt16 × Addr) := []
def slotsUsed : Nat := 25
def theMethod : MethodId := ⟨1, 3⟩
def args0 : Array Value := #[.int 5, .long 5, .int 5, .long 5]
def aboutOver (below : List Frame) : State where
  vm := { classes := classes, interned := interned.toArray }
  heap := heap
  slotsUsed := slotsUsed
  threads := #[{ frames := .invoking theMethod args0 :: below }]
def below0 : List Frame := [.native { method := ⟨0, 0⟩, args := #[] }]
def about1 : State := aboutOver below0
def p0 : Program := .bare "" "" ""
def e0 : Env := launch0.env 0 0 0
theorem w_frames : about1.frames = Frame.invoking theMethod args0 :: below0 := rfl
set_option maxRecDepth 65536 in
theorem w_args : argsFit about1.vm theMethod args0 = true := by decide +kernel
set_option maxRecDepth 65536 in
theorem w_heap : heapFits about1 = true := by decide +kernel
set_option maxRecDepth 65536 in
theorem w_runnable : about1.curStatus? = some .runnable := by decide +kernel
set_option maxRecDepth 65536 in
theorem w_alone : about1.alone = true := by decide +kernel
set_option maxRecDepth 65536 in
theorem w_named : about1.methodNamed? x = some theMethod := by decide +kernel
set_option maxRecDepth 65536 in
theorem w_hears : about1.hears theMethod below0 = true := by decide +kernel
set_option maxRecDepth 65536 in
theorem w_ripe : about1.ripe theMethod args0 below0 = true := by decide +kernel
theorem w_running : about1.status = .running := rfl
set_option maxRecDepth 65536 in
theorem w_room : about1.hasRoom e0.platform room_1 = true :=
  launch0.hasRoom_least _ room_1 (by decide +kernel) (by decide +kernel) (by decide +kernel) (by decide +kernel) (by decide +kernel) (by decide +kernel)
theorem allAtoms_all (ts : List Jvm.Cond) (a : Array Jvm.Value) (st : Jvm.State) : (allAtoms ts).before a st = ts.all (fun c => c.before a st) := by
  induction ts with
  | nil => rfl
  | cons c t ih =>
    show (Jvm.Cond.and c (allAtoms t)).before a st = _
    rw [Jvm.Cond.before_and, ih, List.all_cons]
def words1 : List Jvm.Cond := Jvm.Cond.code x code maxLocals ret :: tables_1
/-- a 'code' word, met by the world's own term for the bytes: nothing is compared byte by byte -/
theorem code_word {y : MethodName} {bytes : ByteArray} {mx : Nat} {rt : Option FieldType} {a : Array Value} {s : State} {m : MethodId} {meth : Method} {c : Code} (h1 : s.methodNamed? y = some m) (h2 : s.vm.method? m = some meth) (h3 : meth.code = some c) (h4 : c.code = bytes)
    (h5 : (c.maxLocals == mx && c.exceptionTable.isEmpty && decide (c.maxStack ≤ mostOperands) && decide (meth.sig.returnType = rt) && !meth.locks && decide (parseMethodDescriptor y.desc = some meth.sig)) = true) : (Jvm.Cond.code y bytes mx rt).before a s = true := by
  simp only [Bool.and_eq_true, beq_iff_eq, Bool.not_eq_true', decide_eq_true_eq] at h5
  obtain ⟨⟨⟨⟨⟨g1, g2⟩, g3⟩, g4⟩, g5⟩, g6⟩ := h5
  simp [Cond.before, Cond.holds, Cond.value, h1, h2, h3, h4, g1, g2, g3, g4, g5, g6]
def isCode : Jvm.Cond → Bool
  | .code _ _ _ _ => true
  | _ => false
theorem all_split {L : List Jvm.Cond} {P : Jvm.Cond → Bool} (h1 : L.all (fun c => isCode c || P c) = true) (h2 : ∀ c ∈ L.filter isCode, P c = true) : L.all P = true := by
  refine List.all_eq_true.mpr fun c hc => ?_
  have h := List.all_eq_true.mp h1 c hc
  rcases Bool.eq_false_or_eq_true (isCode c) with hi | hi
  · exact h2 c (List.mem_filter.mpr ⟨hc, hi⟩)
  · simpa [hi] using h
set_option maxRecDepth 65536 in
theorem w_c0 : (Jvm.Cond.code x code maxLocals ret).before args0 about1 = true := code_word (m := ⟨1, 3⟩) (meth := k1m3) (c := k1c3) (by decide +kernel) rfl rfl rfl (by decide +kernel)
set_option maxRecDepth 65536 in
theorem w_c1 : (Jvm.Cond.code ({ cls := "com/example/spillway/spillway/assignment/HealthTallyAddPinLaw", name := "weight", desc := "(J)J" } : Jvm.MethodName) method_3_code (2 : Nat) (Option.some Jvm.ClassFile.FieldType.long)).before args0 about1 = true := code_word (m := ⟨1, 2⟩) (meth := k1m2) (c := k1c2) (by decide +kernel) rfl rfl rfl (by decide +kernel)
set_option maxRecDepth 65536 in
theorem w_c2 : (Jvm.Cond.code ({ cls := "java/lang/Math", name := "max", desc := "(JJ)J" } : Jvm.MethodName) jdk_29_method_66_code (4 : Nat) (Option.some Jvm.ClassFile.FieldType.long)).before args0 about1 = true := code_word (m := ⟨2, 1⟩) (meth := k2m1) (c := k2c1) (by decide +kernel) rfl rfl rfl (by decide +kernel)
set_option maxRecDepth 65536 in
theorem w_c3 : (Jvm.Cond.code ({ cls := "com/example/spillway/spillway/assignment/HealthTallyAddPinLaw", name := "status", desc := "(I)Lcom/example/spillway/spillway/assignment/HealthStatus;" } : Jvm.MethodName) method_2_code (1 : Nat) (Option.some (Jvm.ClassFile.FieldType.object "com/example/spillway/spillway/assignment/HealthStatus"))).before args0 about1 = true := code_word (m := ⟨1, 1⟩) (meth := k1m1) (c := k1c1) (by decide +kernel) rfl rfl rfl (by decide +kernel)
set_option maxRecDepth 65536 in
theorem w_c4 : (Jvm.Cond.code ({ cls := "com/example/spillway/spillway/assignment/Endpoint", name := "<init>", desc := "(Lcom/example/spillway/spillway/assignment/EndpointAddress;Lcom/example/spillway/spillway/assignment/HealthStatus;J)V" } : Jvm.MethodName) prog_10_method_1_code (5 : Nat) (Option.none : Option Jvm.ClassFile.FieldType)).before args0 about1 = true := code_word (m := ⟨3, 0⟩) (meth := k3m0) (c := k3c0) (by decide +kernel) rfl rfl rfl (by decide +kernel)
set_option maxRecDepth 65536 in
theorem w_c5 : (Jvm.Cond.code ({ cls := "java/lang/Object", name := "<init>", desc := "()V" } : Jvm.MethodName) object_method_1_code (1 : Nat) (Option.none : Option Jvm.ClassFile.FieldType)).before args0 about1 = true := code_word (m := ⟨0, 0⟩) (meth := k0m0) (c := k0c0) (by decide +kernel) rfl rfl rfl (by decide +kernel)
set_option maxRecDepth 65536 in
theorem w_c6 : (Jvm.Cond.code ({ cls := "com/example/spillway/spillway/assignment/Assignment", name := "requireWeight", desc := "(J)V" } : Jvm.MethodName) prog_7_method_8_code (2 : Nat) (Option.none : Option Jvm.ClassFile.FieldType)).before args0 about1 = true := code_word (m := ⟨9, 0⟩) (meth := k9m0) (c := k9c0) (by decide +kernel) rfl rfl rfl (by decide +kernel)
set_option maxRecDepth 65536 in
theorem w_c7 : (Jvm.Cond.code ({ cls := "java/util/Objects", name := "requireNonNull", desc := "(Ljava/lang/Object;Ljava/lang/String;)Ljava/lang/Object;" } : Jvm.MethodName) jdk_31_method_11_code (2 : Nat) (Option.some (Jvm.ClassFile.FieldType.object "java/lang/Object"))).before args0 about1 = true := code_word (m := ⟨13, 1⟩) (meth := k13m1) (c := k13c1) (by decide +kernel) rfl rfl rfl (by decide +kernel)
set_option maxRecDepth 65536 in
theorem w_c8 : (Jvm.Cond.code ({ cls := "com/example/spillway/spillway/assignment/HealthTally", name := "<init>", desc := "()V" } : Jvm.MethodName) prog_13_method_1_code (1 : Nat) (Option.none : Option Jvm.ClassFile.FieldType)).before args0 about1 = true := code_word (m := ⟨14, 0⟩) (meth := k14m0) (c := k14c0) (by decide +kernel) rfl rfl rfl (by decide +kernel)
set_option maxRecDepth 65536 in
theorem w_c9 : (Jvm.Cond.code ({ cls := "com/example/spillway/spillway/assignment/HealthTally", name := "add", desc := "(Lcom/example/spillway/spillway/assignment/Endpoint;)V" } : Jvm.MethodName) prog_13_method_3_code (2 : Nat) (Option.none : Option Jvm.ClassFile.FieldType)).before args0 about1 = true := code_word (m := ⟨14, 1⟩) (meth := k14m1) (c := k14c1) (by decide +kernel) rfl rfl rfl (by decide +kernel)
set_option maxRecDepth 65536 in
theorem w_c10 : (Jvm.Cond.code ({ cls := "com/example/spillway/spillway/assignment/HealthTally", name := "count", desc := "(Lcom/example/spillway/spillway/assignment/Endpoint;I)V" } : Jvm.MethodName) prog_13_method_6_code (5 : Nat) (Option.none : Option Jvm.ClassFile.FieldType)).before args0 about1 = true := code_word (m := ⟨14, 2⟩) (meth := k14m2) (c := k14c2) (by decide +kernel) rfl rfl rfl (by decide +kernel)
set_option maxRecDepth 65536 in
theorem w_c11 : (Jvm.Cond.code ({ cls := "com/example/spillway/spillway/assignment/Endpoint", name := "getLoadBalancingWeight", desc := "()J" } : Jvm.MethodName) prog_10_method_4_code (1 : Nat) (Option.some Jvm.ClassFile.FieldType.long)).before args0 about1 = true := code_word (m := ⟨3, 2⟩) (meth := k3m2) (c := k3c2) (by decide +kernel) rfl rfl rfl (by decide +kernel)
set_option maxRecDepth 65536 in
theorem w_c12 : (Jvm.Cond.code ({ cls := "com/example/spillway/spillway/assignment/Endpoint", name := "getHealth", desc := "()Lcom/example/spillway/spillway/assignment/HealthStatus;" } : Jvm.MethodName) prog_10_method_3_code (1 : Nat) (Option.some (Jvm.ClassFile.FieldType.object "com/example/spillway/spillway/assignment/HealthStatus"))).before args0 about1 = true := code_word (m := ⟨3, 1⟩) (meth := k3m1) (c := k3c1) (by decide +kernel) rfl rfl rfl (by decide +kernel)
set_option maxRecDepth 65536 in
theorem w_c13 : (Jvm.Cond.code ({ cls := "com/example/spillway/spillway/assignment/HealthStatus", name := "isHealthy", desc := "()Z" } : Jvm.MethodName) prog_12_method_4_code (1 : Nat) (Option.some Jvm.ClassFile.FieldType.boolean)).before args0 about1 = true := code_word (m := ⟨8, 0⟩) (meth := k8m0) (c := k8c0) (by decide +kernel) rfl rfl rfl (by decide +kernel)
set_option maxRecDepth 65536 in
theorem w_c14 : (Jvm.Cond.code ({ cls := "com/example/spillway/spillway/assignment/HealthTally", name := "getHosts", desc := "()I" } : Jvm.MethodName) prog_13_method_7_code (1 : Nat) (Option.some Jvm.ClassFile.FieldType.int)).before args0 about1 = true := code_word (m := ⟨14, 3⟩) (meth := k14m3) (c := k14c3) (by decide +kernel) rfl rfl rfl (by decide +kernel)
set_option maxRecDepth 65536 in
theorem w_c15 : (Jvm.Cond.code ({ cls := "com/example/spillway/spillway/assignment/HealthTally", name := "getHealthy", desc := "()I" } : Jvm.MethodName) prog_13_method_8_code (1 : Nat) (Option.some Jvm.ClassFile.FieldType.int)).before args0 about1 = true := code_word (m := ⟨14, 4⟩) (meth := k14m4) (c := k14c4) (by decide +kernel) rfl rfl rfl (by decide +kernel)
set_option maxRecDepth 65536 in
theorem w_c16 : (Jvm.Cond.code ({ cls := "com/example/spillway/spillway/assignment/HealthTally", name := "getDegraded", desc := "()I" } : Jvm.MethodName) prog_13_method_9_code (1 : Nat) (Option.some Jvm.ClassFile.FieldType.int)).before args0 about1 = true := code_word (m := ⟨14, 5⟩) (meth := k14m5) (c := k14c5) (by decide +kernel) rfl rfl rfl (by decide +kernel)
set_option maxRecDepth 65536 in
theorem w_c17 : (Jvm.Cond.code ({ cls := "com/example/spillway/spillway/assignment/HealthTally", name := "getHostWeight", desc := "()J" } : Jvm.MethodName) prog_13_method_10_code (1 : Nat) (Option.some Jvm.ClassFile.FieldType.long)).before args0 about1 = true := code_word (m := ⟨14, 6⟩) (meth := k14m6) (c := k14c6) (by decide +kernel) rfl rfl rfl (by decide +kernel)
set_option maxRecDepth 65536 in
theorem w_c18 : (Jvm.Cond.code ({ cls := "com/example/spillway/spillway/assignment/HealthTally", name := "getHealthyWeight", desc := "()J" } : Jvm.MethodName) prog_13_method_11_code (1 : Nat) (Option.some Jvm.ClassFile.FieldType.long)).before args0 about1 = true := code_word (m := ⟨14, 7⟩) (meth := k14m7) (c := k14c7) (by decide +kernel) rfl rfl rfl (by decide +kernel)
set_option maxRecDepth 65536 in
theorem w_c19 : (Jvm.Cond.code ({ cls := "com/example/spillway/spillway/assignment/HealthTally", name := "getDegradedWeight", desc := "()J" } : Jvm.MethodName) prog_13_method_12_code (1 : Nat) (Option.some Jvm.ClassFile.FieldType.long)).before args0 about1 = true := code_word (m := ⟨14, 8⟩) (meth := k14m8) (c := k14c8) (by decide +kernel) rfl rfl rfl (by decide +kernel)
set_option maxRecDepth 65536 in
theorem w_c20 : (Jvm.Cond.code ({ cls := "com/example/spillway/spillway/assignment/HealthStatus", name := "isDegraded", desc := "()Z" } : Jvm.MethodName) prog_12_method_5_code (1 : Nat) (Option.some Jvm.ClassFile.FieldType.boolean)).before args0 about1 = true := code_word (m := ⟨8, 1⟩) (meth := k8m1) (c := k8c1) (by decide +kernel) rfl rfl rfl (by decide +kernel)
def codes1 : List Jvm.Cond := [Jvm.Cond.code x code maxLocals ret, Jvm.Cond.code ({ cls := "com/example/spillway/spillway/assignment/HealthTallyAddPinLaw", name := "weight", desc := "(J)J" } : Jvm.MethodName) method_3_code (2 : Nat) (Option.some Jvm.ClassFile.FieldType.long), Jvm.Cond.code ({ cls := "java/lang/Math", name := "max", desc := "(JJ)J" } : Jvm.MethodName) jdk_29_method_66_code (4 : Nat) (Option.some Jvm.ClassFile.FieldType.long), Jvm.Cond.code ({ cls := "com/example/spillway/spillway/assignment/HealthTallyAddPinLaw", name := "status", desc := "(I)Lcom/example/spillway/spillway/assignment/HealthStatus;" } : Jvm.MethodName) method_2_code (1 : Nat) (Option.some (Jvm.ClassFile.FieldType.object "com/example/spillway/spillway/assignment/HealthStatus")), Jvm.Cond.code ({ cls := "com/example/spillway/spillway/assignment/Endpoint", name := "<init>", desc := "(Lcom/example/spillway/spillway/assignment/EndpointAddress;Lcom/example/spillway/spillway/assignment/HealthStatus;J)V" } : Jvm.MethodName) prog_10_method_1_code (5 : Nat) (Option.none : Option Jvm.ClassFile.FieldType), Jvm.Cond.code ({ cls := "java/lang/Object", name := "<init>", desc := "()V" } : Jvm.MethodName) object_method_1_code (1 : Nat) (Option.none : Option Jvm.ClassFile.FieldType), Jvm.Cond.code ({ cls := "com/example/spillway/spillway/assignment/Assignment", name := "requireWeight", desc := "(J)V" } : Jvm.MethodName) prog_7_method_8_code (2 : Nat) (Option.none : Option Jvm.ClassFile.FieldType), Jvm.Cond.code ({ cls := "java/util/Objects", name := "requireNonNull", desc := "(Ljava/lang/Object;Ljava/lang/String;)Ljava/lang/Object;" } : Jvm.MethodName) jdk_31_method_11_code (2 : Nat) (Option.some (Jvm.ClassFile.FieldType.object "java/lang/Object")), Jvm.Cond.code ({ cls := "com/example/spillway/spillway/assignment/HealthTally", name := "<init>", desc := "()V" } : Jvm.MethodName) prog_13_method_1_code (1 : Nat) (Option.none : Option Jvm.ClassFile.FieldType), Jvm.Cond.code ({ cls := "com/example/spillway/spillway/assignment/HealthTally", name := "add", desc := "(Lcom/example/spillway/spillway/assignment/Endpoint;)V" } : Jvm.MethodName) prog_13_method_3_code (2 : Nat) (Option.none : Option Jvm.ClassFile.FieldType), Jvm.Cond.code ({ cls := "com/example/spillway/spillway/assignment/HealthTally", name := "count", desc := "(Lcom/example/spillway/spillway/assignment/Endpoint;I)V" } : Jvm.MethodName) prog_13_method_6_code (5 : Nat) (Option.none : Option Jvm.ClassFile.FieldType), Jvm.Cond.code ({ cls := "com/example/spillway/spillway/assignment/Endpoint", name := "getLoadBalancingWeight", desc := "()J" } : Jvm.MethodName) prog_10_method_4_code (1 : Nat) (Option.some Jvm.ClassFile.FieldType.long), Jvm.Cond.code ({ cls := "com/example/spillway/spillway/assignment/Endpoint", name := "getHealth", desc := "()Lcom/example/spillway/spillway/assignment/HealthStatus;" } : Jvm.MethodName) prog_10_method_3_code (1 : Nat) (Option.some (Jvm.ClassFile.FieldType.object "com/example/spillway/spillway/assignment/HealthStatus")), Jvm.Cond.code ({ cls := "com/example/spillway/spillway/assignment/HealthStatus", name := "isHealthy", desc := "()Z" } : Jvm.MethodName) prog_12_method_4_code (1 : Nat) (Option.some Jvm.ClassFile.FieldType.boolean), Jvm.Cond.code ({ cls := "com/example/spillway/spillway/assignment/HealthTally", name := "getHosts", desc := "()I" } : Jvm.MethodName) prog_13_method_7_code (1 : Nat) (Option.some Jvm.ClassFile.FieldType.int), Jvm.Cond.code ({ cls := "com/example/spillway/spillway/assignment/HealthTally", name := "getHealthy", desc := "()I" } : Jvm.MethodName) prog_13_method_8_code (1 : Nat) (Option.some Jvm.ClassFile.FieldType.int), Jvm.Cond.code ({ cls := "com/example/spillway/spillway/assignment/HealthTally", name := "getDegraded", desc := "()I" } : Jvm.MethodName) prog_13_method_9_code (1 : Nat) (Option.some Jvm.ClassFile.FieldType.int), Jvm.Cond.code ({ cls := "com/example/spillway/spillway/assignment/HealthTally", name := "getHostWeight", desc := "()J" } : Jvm.MethodName) prog_13_method_10_code (1 : Nat) (Option.some Jvm.ClassFile.FieldType.long), Jvm.Cond.code ({ cls := "com/example/spillway/spillway/assignment/HealthTally", name := "getHealthyWeight", desc := "()J" } : Jvm.MethodName) prog_13_method_11_code (1 : Nat) (Option.some Jvm.ClassFile.FieldType.long), Jvm.Cond.code ({ cls := "com/example/spillway/spillway/assignment/HealthTally", name := "getDegradedWeight", desc := "()J" } : Jvm.MethodName) prog_13_method_12_code (1 : Nat) (Option.some Jvm.ClassFile.FieldType.long), Jvm.Cond.code ({ cls := "com/example/spillway/spillway/assignment/HealthStatus", name := "isDegraded", desc := "()Z" } : Jvm.MethodName) prog_12_method_5_code (1 : Nat) (Option.some Jvm.ClassFile.FieldType.boolean)]
set_option maxRecDepth 65536 in
theorem codes_eq : words1.filter isCode = codes1 := rfl
theorem w_codes : ∀ c ∈ words1.filter isCode, c.before args0 about1 = true := by
  rw [codes_eq]
  intro c hc
  simp only [codes1, List.mem_cons, List.not_mem_nil, or_false] at hc
  rcases hc with rfl | rfl | rfl | rfl | rfl | rfl | rfl | rfl | rfl | rfl | rfl | rfl | rfl | rfl | rfl | rfl | rfl | rfl | rfl | rfl | rfl
  · exact w_c0
  · exact w_c1
  · exact w_c2
  · exact w_c3
  · exact w_c4
  · exact w_c5
  · exact w_c6
  · exact w_c7
  · exact w_c8
  · exact w_c9
  · exact w_c10
  · exact w_c11
  · exact w_c12
  · exact w_c13
  · exact w_c14
  · exact w_c15
  · exact w_c16
  · exact w_c17
  · exact w_c18
  · exact w_c19
  · exact w_c20
set_option maxRecDepth 65536 in
theorem w_t1 : (words1.take 24).all (fun c => isCode c || c.before args0 about1) = true := by decide +kernel
set_option maxRecDepth 65536 in
theorem w_t2 : ((words1.drop 24).take 24).all (fun c => isCode c || c.before args0 about1) = true := by decide +kernel
set_option maxRecDepth 65536 in
theorem w_t3 : (((words1.drop 24).drop 24).take 24).all (fun c => isCode c || c.before args0 about1) = true := by decide +kernel
set_option maxRecDepth 65536 in
theorem w_t4 : ((((words1.drop 24).drop 24).drop 24).take 24).all (fun c => isCode c || c.before args0 about1) = true := by decide +kernel
set_option maxRecDepth 65536 in
theorem w_t5 : (((((words1.drop 24).drop 24).drop 24).drop 24).take 24).all (fun c => isCode c || c.before args0 about1) = true := by decide +kernel
set_option maxRecDepth 65536 in
theorem w_t6 : (((((words1.drop 24).drop 24).drop 24).drop 24).drop 24).all (fun c => isCode c || c.before args0 about1) = true := by decide +kernel
theorem w_tables : (allAtoms (Jvm.Cond.code x code maxLocals ret :: tables_1)).before args0 about1 = true := by
  rw [allAtoms_all]
  show words1.all (fun c => c.before args0 about1) = true
  refine all_split ?_ w_codes
  rw [← List.take_append_drop 24 words1, List.all_append, w_t1, ← List.take_append_drop 24 (words1.drop 24), List.all_append, w_t2, ← List.take_append_drop 24 ((words1.drop 24).drop 24), List.all_append, w_t3, ← List.take_append_drop 24 (((words1.drop 24).drop 24).drop 24), List.all_append, w_t4, ← List.take_append_drop 24 ((((words1.drop 24).drop 24).drop 24).drop 24), List.all_append, w_t5, w_t6]
  rfl
set_option maxRecDepth 65536 in
theorem w_case : (Jvm.Cond.and given_1 narrow_1).before args0 about1 = true := by decide +kernel
theorem w_applies : (headSpec (Jvm.Cond.code x code maxLocals ret :: tables_1) room_1).applies x e0.platform about1 = true :=
  (Spec.applies_iff w_frames).mpr ⟨w_running, w_runnable, w_alone, w_named, w_hears, w_ripe, w_room, w_tables⟩
theorem atStart : AtStart classFile x code maxLocals ret World_1 tables_1 room_1 Calls_1 rest_1 Pre_1 launch0 p0 e0 about1 theMethod args0 below0 :=
  ⟨lists_1, trivial, launch0.admits_env _ _ _, launch0.least_env, fairChoices_fair.cas, fairChoices_fair.clock, w_frames, w_args, w_heap, w_applies, trivial, trivial, w_case⟩
end start1
theorem witness_1 : WitnessClaimed_1 := ⟨start1.p0, start1.e0, start1.about1, start1.theMethod, start1.args0, start1.below0, start1.atStart⟩
end Jvm.Pilot.@@N@@
