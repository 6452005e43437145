import JvmDerived
import JvmDerived.Pilot.@@N@@Statement
import JvmDerived.Pilot.@@N@@Code
set_option linter.unusedVariables false
set_option linter.unusedSimpArgs false
namespace Jvm.Pilot.@@N@@
open Jvm Jvm.ClassFile Sem Op Lib Jvm.Free Jvm.Stand Jvm.LawKit Jvm.RoadKit Bundle Jvm.Pilot.@@N@@.Jvm.D
theorem wdx {a0 : Array Value} {Z : State} (hw : ∀ d ∈ tables_1, d.before a0 Z = true) (i : Nat) {d : Jvm.Cond} (h : tables_1[i]? = some d) : d.before a0 Z = true := hw d (List.mem_of_getElem? h)
/-! the walk in one predicate: from S the run comes to an end at which Q holds -/
def Go (p : Program) (e : Env) (below : List Frame) (s : State) (rc rs : Nat) (Q : Option Value → Heap → List Loc → Prop) (S : State) : Prop :=
  ∃ t o, Steps p.tables e below S t ∧ t.status = .running ∧ Ended t below o ∧ ∃ v L, o = .returned v ∧ Q v t.heap L ∧ FrameEnd s o t L rc rs
section Pre
variable {p : Program} {l : Launch} {e : Env} {R : Room} {s : State} {m : MethodId} {args : Array Value} {below : List Frame} {meth : Method} {c : Code} {T : State} {locs : List Loc} {cells slots rc rs : Nat} {Q : Option Value → Heap → List Loc → Prop} {S S' : State} {h : Heap} {Z : State} {n0 : Nat}
theorem Go.st (k : ∀ t, Steps p.tables e below S' t → Steps p.tables e below S t) (g : Go p e below s rc rs Q S') : Go p e below s rc rs Q S := by
  obtain ⟨t, o, h, r⟩ := g; exact ⟨t, o, k t h, r⟩
theorem Go.tr (k : Steps p.tables e below S S') (g : Go p e below s rc rs Q S') : Go p e below s rc rs Q S := by
  obtain ⟨t, o, h, r⟩ := g; exact ⟨t, o, k.trans h, r⟩
theorem Go.ret (X : Stand p l e R s m args below meth c T locs cells slots) (hx : p.tables.exec = Jvm.exec) (hlk : meth.locks = false) {pc : Nat} {Ls : Array Slot} {w : Value} {t : FieldType} {i : Instr} {rest : List Value} (hret : meth.sig.returnType = some t) (hn : narrow t w = w)
    (hi : (i = .ireturn ∧ (t = .int ∨ t = .boolean ∨ t = .byte ∨ t = .char ∨ t = .short) ∧ ∃ z, w = .int z) ∨ (i = .lreturn ∧ t = .long ∧ ∃ z, w = .long z) ∨ (i = .dreturn ∧ t = .double ∧ ∃ z, w = .double z) ∨ (i = .freturn ∧ t = .float ∧ ∃ z, w = .float z) ∨ (i = .areturn ∧ t.isReference = true ∧ w.isRef = true))
    (hd : decode c.code pc = .ok (i, 1)) (hc : cells ≤ rc) (hs : slots ≤ rs) (hh : T.heap = h) (hq : Q (some w) h locs) : Go p e below s rc rs Q (T.setTop (mkF m pc Ls (w :: rest))) := by
  obtain ⟨fs, hr, hrun, hended, hW, hsame⟩ := X.leave (v := some w) (fun h => by rw [hret] at h; cases h) hlk
  subst hh
  exact ⟨_, _, retOut X hx hret hn hi hd hr, hrun, hended, _, _, rfl, hq, ⟨_, rfl⟩, hW, hsame.mono hc hs⟩
theorem Go.retB (X : Stand p l e R s m args below meth c T locs cells slots) (hx : p.tables.exec = Jvm.exec) (hlk : meth.locks = false) {pc : Nat} {Ls : Array Slot} {z : Int32} {t : FieldType} {rest : List Value} (hret : meth.sig.returnType = some t) (ht : t = .boolean ∨ t = .byte ∨ t = .char ∨ t = .short)
    (hd : decode c.code pc = .ok (.ireturn, 1)) (hc : cells ≤ rc) (hs : slots ≤ rs) (hh : T.heap = h) (hq : Q (some (.int (nar t z))) h locs) : Go p e below s rc rs Q (T.setTop (mkF m pc Ls (.int z :: rest))) := by
  obtain ⟨fs, hr, hrun, hended, hW, hsame⟩ := X.leave (v := some (.int (nar t z))) (fun h => by rw [hret] at h; cases h) hlk
  subst hh
  exact ⟨_, _, retN X hx hret ht hd hr, hrun, hended, _, _, rfl, hq, ⟨_, rfl⟩, hW, hsame.mono hc hs⟩
theorem Go.retV (X : Stand p l e R s m args below meth c T locs cells slots) (hx : p.tables.exec = Jvm.exec) (hlk : meth.locks = false) {pc : Nat} {Ls : Array Slot} (hret : meth.sig.returnType = none)
    (hd : decode c.code pc = .ok (.return_, 1)) (hc : cells ≤ rc) (hs : slots ≤ rs) (hh : T.heap = h) (hq : Q none h locs) : Go p e below s rc rs Q (T.setTop (mkF m pc Ls [])) := by
  obtain ⟨fs, hr, hrun, hended, hW, hsame⟩ := X.leave (v := none) (fun _ => rfl) hlk
  subst hh
  exact ⟨_, _, X.returnOut hx hret hd hr, hrun, hended, _, _, rfl, hq, ⟨_, rfl⟩, hW, hsame.mono hc hs⟩
theorem own_le (O : Old Z n0 h) : n0 ≤ h.size := O.1 ▸ O.2.1
theorem own_nb (b : Bool) : nar .boolean (if b then 1 else 0) = if b then 1 else 0 := by cases b <;> rfl
end Pre
/-! the same where String constants may be loaded for the first time: the tables go on -/
def GoW (p : Program) (e : Env) (below : List Frame) (s : State) (rc rs : Nat) (Z : State) (EL : List (String × Nat)) (Q : Option Value → Heap → List Loc → Prop) (S : State) : Prop :=
  ∃ t o, Steps p.tables e below S t ∧ t.status = .running ∧ Ended t below o ∧ ∃ v L, o = .returned v ∧ Q v t.heap L ∧ CHr Z EL s.vm s.heap t.vm t.heap ∧ ReturnedEndW s o t L rc rs
section PreW
variable {p : Program} {l : Launch} {e : Env} {R : Room} {s : State} {m : MethodId} {args : Array Value} {below : List Frame} {meth : Method} {c : Code} {T : State} {locs : List Loc} {cells slots rc rs : Nat} {Q : Option Value → Heap → List Loc → Prop} {S S' : State} {h : Heap} {Z : State} {n0 k0 : Nat} {vm0 : Vm} {EL : List (String × Nat)} {a0 : Array Value}
theorem GoW.st (k : ∀ t, Steps p.tables e below S' t → Steps p.tables e below S t) (g : GoW p e below s rc rs Z EL Q S') : GoW p e below s rc rs Z EL Q S := by
  obtain ⟨t, o, h, r⟩ := g; exact ⟨t, o, k t h, r⟩
theorem GoW.tr (k : Steps p.tables e below S S') (g : GoW p e below s rc rs Z EL Q S') : GoW p e below s rc rs Z EL Q S := by
  obtain ⟨t, o, h, r⟩ := g; exact ⟨t, o, k.trans h, r⟩
theorem own_rm {o : Outcome} {t : State} {L : List Loc} {k n k' n' : Nat} (h : ReturnedEndW s o t L k n) (h1 : k ≤ k') (h2 : n ≤ n') : ReturnedEndW s o t L k' n' := ⟨h.1, h.2.1, h.2.2.1, h.2.2.2.mono h1 h2⟩
theorem GoW.ret (X : Stand p l e R (s.setVm vm0) m args below meth c T locs cells slots) (hx : p.tables.exec = Jvm.exec) (hlk : meth.locks = false) (hS : s.Since vm0 k0) (hk : k0 ≤ T.heap.size) (hZ : Z.Warmed39 vm0) (hEL : EW Z a0 EL) (hCH : CHr Z EL s.vm s.heap vm0 h) {pc : Nat} {Ls : Array Slot} {w : Value} {t : FieldType} {i : Instr} {rest : List Value} (hret : meth.sig.returnType = some t) (hn : narrow t w = w)
    (hi : (i = .ireturn ∧ (t = .int ∨ t = .boolean ∨ t = .byte ∨ t = .char ∨ t = .short) ∧ ∃ z, w = .int z) ∨ (i = .lreturn ∧ t = .long ∧ ∃ z, w = .long z) ∨ (i = .dreturn ∧ t = .double ∧ ∃ z, w = .double z) ∨ (i = .freturn ∧ t = .float ∧ ∃ z, w = .float z) ∨ (i = .areturn ∧ t.isReference = true ∧ w.isRef = true))
    (hd : decode c.code pc = .ok (i, 1)) (hc : cells ≤ rc) (hs : slots ≤ rs) (hh : T.heap = h) (hq : Q (some w) h locs) : GoW p e below s rc rs Z EL Q (T.setTop (mkF m pc Ls (w :: rest))) := by
  obtain ⟨fs, hr, hrun, hended, hW⟩ := X.leaveW hS hk (v := some w) (fun h => by rw [hret] at h; cases h) hlk
  subst hh
  have hCHt := hCH.trans (CHv.at X hZ hEL hCH.1)
  exact ⟨_, _, retOut X hx hret hn hi hd hr, hrun, hended, _, _, rfl, hq, hCHt, own_rm hW hc hs⟩
theorem GoW.retB (X : Stand p l e R (s.setVm vm0) m args below meth c T locs cells slots) (hx : p.tables.exec = Jvm.exec) (hlk : meth.locks = false) (hS : s.Since vm0 k0) (hk : k0 ≤ T.heap.size) (hZ : Z.Warmed39 vm0) (hEL : EW Z a0 EL) (hCH : CHr Z EL s.vm s.heap vm0 h) {pc : Nat} {Ls : Array Slot} {z : Int32} {t : FieldType} {rest : List Value} (hret : meth.sig.returnType = some t) (ht : t = .boolean ∨ t = .byte ∨ t = .char ∨ t = .short)
    (hd : decode c.code pc = .ok (.ireturn, 1)) (hc : cells ≤ rc) (hs : slots ≤ rs) (hh : T.heap = h) (hq : Q (some (.int (nar t z))) h locs) : GoW p e below s rc rs Z EL Q (T.setTop (mkF m pc Ls (.int z :: rest))) := by
  obtain ⟨fs, hr, hrun, hended, hW⟩ := X.leaveW hS hk (v := some (.int (nar t z))) (fun h => by rw [hret] at h; cases h) hlk
  subst hh
  have hCHt := hCH.trans (CHv.at X hZ hEL hCH.1)
  exact ⟨_, _, retN X hx hret ht hd hr, hrun, hended, _, _, rfl, hq, hCHt, own_rm hW hc hs⟩
theorem GoW.retV (X : Stand p l e R (s.setVm vm0) m args below meth c T locs cells slots) (hx : p.tables.exec = Jvm.exec) (hlk : meth.locks = false) (hS : s.Since vm0 k0) (hk : k0 ≤ T.heap.size) (hZ : Z.Warmed39 vm0) (hEL : EW Z a0 EL) (hCH : CHr Z EL s.vm s.heap vm0 h) {pc : Nat} {Ls : Array Slot} (hret : meth.sig.returnType = none)
    (hd : decode c.code pc = .ok (.return_, 1)) (hc : cells ≤ rc) (hs : slots ≤ rs) (hh : T.heap = h) (hq : Q none h locs) : GoW p e below s rc rs Z EL Q (T.setTop (mkF m pc Ls [])) := by
  obtain ⟨fs, hr, hrun, hended, hW⟩ := X.leaveW hS hk (v := none) (fun _ => rfl) hlk
  subst hh
  have hCHt := hCH.trans (CHv.at X hZ hEL hCH.1)
  exact ⟨_, _, X.returnOut hx hret hd hr, hrun, hended, _, _, rfl, hq, hCHt, own_rm hW hc hs⟩
theorem own_back {y : MethodName} {bytes : ByteArray} {maxL : Nat} {ret : Option FieldType} {rm : Room} {len W : Nat} {as' : Array Value} {Q : Option Value → Heap → List Loc → Prop} {xs : List Addr}
    (hM : MetFree l y (head1 [Jvm.Cond.code y bytes maxL ret] rm) (fun a U => a = as' ∧ Z.Warmed39 U.vm ∧ U.heap = h ∧ CHv Z EL U.vm h ∧ ∀ y ∈ xs, Safe Z EL U.vm h y) (fun _ _ _ _ _ => True) (fun _ U o U' => ∃ v L, o = .returned v ∧ Q v U'.heap L ∧ CHr Z EL U.vm U.heap U'.vm U'.heap ∧ ReturnedEndW U o U' L rm.cells rm.slots))
    (hZ : Z.Warmed39 vm0) (wc : (Jvm.Cond.code y bytes maxL ret).before a0 Z = true) (wz : (Jvm.Cond.initialized y.cls).before a0 Z = true) (hf : rm.frames + 1 ≤ R.frames) (hl : W + (maxL + 11) + rm.locals ≤ R.locals) (hEL : EW Z a0 EL) (H : CHv Z EL vm0 h) (hs : ∀ y ∈ xs, y < h.size ∧ Safe Z EL vm0 h y) :
    BackS l R p e below (s.setVm vm0) args y len W (fun A a => a = as' ∧ A.U.heap = h ∧ A.cells + rm.cells ≤ R.cells ∧ A.slots + rm.slots ≤ R.slots)
      (fun A _ v B => ∃ L, Q v B.U.heap L ∧ B.locs = A.locs ++ L ∧ B.cells = A.cells + rm.cells ∧ B.slots = A.slots + rm.slots ∧ CHr Z EL vm0 h B.U.vm B.U.heap) :=
  BackS.of_freeW (bytes := bytes) (maxL := maxL) (ret := ret) (E := fun _ first o t L k n => k = rm.cells ∧ n = rm.slots ∧ (∃ v, o = .returned v ∧ Q v t.heap L) ∧ CHr Z EL first.vm first.heap t.vm t.heap) hM hf hl
    (fun m meth c A a Y hp => have hU : Z.Warmed39 A.U.vm := wtrans (s := s.setVm vm0) hZ Y.warmed
      ⟨by show (Jvm.Cond.and _ .tt).before a A.U = true; rw [Cond.before_and, mv hU wc]; rfl, mv hU wc, mv hU wz, hp.2.2.1, hp.2.2.2⟩)
    (fun m meth c A a g mk Y hp => ⟨hp.1, wtrans (s := s.setVm vm0) hZ Y.warmed, hp.2.1, (CHv.at Y hZ hEL H).1, fun y hy => (CHv.at Y hZ hEL H).safe (hs y hy).1 (hs y hy).2⟩) (fun _ _ _ _ _ _ _ _ _ => trivial)
    (fun _ _ _ _ ⟨v, L, h1, h2, h3, h4⟩ => ⟨L, _, _, h4, rfl, rfl, ⟨v, h1, h2⟩, h3⟩)
    (fun m meth c A a g mk v t L k n Y hp _ _ ⟨e1, e2, ⟨v', e3, e4⟩, e5⟩ => by
      cases e3; subst e1 e2
      refine ⟨L, e4, rfl, rfl, rfl, (CHv.at Y hZ hEL H).trans ?_⟩
      rw [← hp.2.1]; exact e5)
end PreW
def EL : List (String × Nat) := [("java/lang/String", 7), ("com/example/indenture/indenture/model/Identifier", 39)]
theorem own_wS {a0 : Array Value} {Z : State} (hw : ∀ d ∈ tables_1, d.before a0 Z = true) : ∀ d ∈ Bundle.stringAtoms, d.before a0 Z = true := fun d hd => by
  simp only [Bundle.stringAtoms, List.mem_cons, List.not_mem_nil, or_false] at hd
  rcases hd with rfl | rfl | rfl | rfl | rfl | rfl | rfl
  · exact (wdx hw 9 rfl)
  · exact (wdx hw 10 rfl)
  · exact (wdx hw 11 rfl)
  · exact (wdx hw 12 rfl)
  · exact (wdx hw 13 rfl)
  · exact (wdx hw 14 rfl)
  · exact (wdx hw 15 rfl)
theorem own_EW {a0 : Array Value} {Z : State} (hw : ∀ d ∈ tables_1, d.before a0 Z = true) : EW Z a0 EL := (EW.cons (wdx hw 27 rfl) (by decide) (EW.cons (wdx hw 74 rfl) (by decide) EW.nil))
theorem own_ch (u : Int32) : ¬ (255 : Int32) < (u &&& (255 : Int32)).toUInt32.toUInt16.toUInt32.toInt32 := by
  rw [i2c_mask, Int32.lt_iff_toInt_lt]
  have := c_mask u 255 8 (by decide) (by decide)
  have e : (255 : Int32).toInt = 255 := rfl
  omega
theorem own_cn (u : Int32) : ¬ (255 : Int32) < nar .char ((u &&& (255 : Int32)).toUInt32.toUInt16.toUInt32.toInt32) := by
  have e : nar .char ((u &&& (255 : Int32)).toUInt32.toUInt16.toUInt32.toInt32) = (u &&& (255 : Int32)).toUInt32.toUInt16.toUInt32.toInt32 := by
    rw [i2c_mask]; exact i2c_mask u
  rw [e]; exact own_ch u
theorem own_cs {s : State} {args : Array Value} {C n d : String} (h1 : (Jvm.Cond.isInt (Term.static C n d)).value args s none s [] = some true) (h2 : (Jvm.Cond.not (Jvm.Cond.eq (Term.static C n d) (Term.int 0))).value args s none s [] = some true) (hi : (Jvm.Cond.initializedFor C n d).before args s = true) : ∃ z : Int32, Sta s s.heap C n d (.int z) ∧ ¬ z = 0 := by
  obtain ⟨z, ev⟩ := is_v h1
  refine ⟨z, Sta.start ev (Or.inl hi), fun q => ?_⟩
  subst q
  have h3 : (Jvm.Cond.eq (Term.static C n d) (Term.int 0)).value args s none s [] = some true := eq_i ev rfl rfl
  rw [Cond.value, h3] at h2
  cases h2
theorem own_c4 (u : Int32) : u &&& (3 : Int32) = 0 ∨ u &&& (3 : Int32) = 1 ∨ u &&& (3 : Int32) = 2 ∨ u &&& (3 : Int32) = 3 := by
  have h := c_mask u 3 2 (by decide) (by decide)
  generalize u &&& (3 : Int32) = y at *
  have : y.toInt = 0 ∨ y.toInt = 1 ∨ y.toInt = 2 ∨ y.toInt = 3 := by omega
  rcases this with h | h | h | h
  · exact Or.inl (Int32.toInt_inj.mp h)
  · exact Or.inr (Or.inl (Int32.toInt_inj.mp h))
  · exact Or.inr (Or.inr (Or.inl (Int32.toInt_inj.mp h)))
  · exact Or.inr (Or.inr (Or.inr (Int32.toInt_inj.mp h)))
theorem own_vs {Z : State} {h : Heap} {b : Addr} {k : ClassId} {la lb : List Int32} {d : Value} (e : la = lb) (F : Arv Z h b k .byte (Int32.ofNat (List.length lb)) (List.map Value.int lb) d) : Arv Z h b k .byte (Int32.ofNat (List.length la)) (List.map Value.int la) d := e ▸ F
theorem own_l2 (la : List Int32) (h : la.length ≤ 2) : la = [] ∨ (∃ u, la = [u]) ∨ ∃ u v, la = [u, v] := by
  match la, h with
  | [], _ => exact Or.inl rfl
  | [u], _ => exact Or.inr (Or.inl ⟨u, rfl⟩)
  | [u, v], _ => exact Or.inr (Or.inr ⟨u, v, rfl⟩)
  | _ :: _ :: _ :: _, h => simp at h
theorem own_b1 {P : Prop} [Decidable P] (h : ¬ (if P then (1 : Int32) else 0) = 0) : (if P then (1 : Int32) else 0) = 1 := by
  by_cases q : P
  · exact if_pos q
  · exact absurd (if_neg q) h
theorem own_by (u v : Int32) (hu : 0 ≤ u.toInt ∧ u.toInt ≤ 255) (hv : 0 ≤ v.toInt ∧ v.toInt ≤ 255) : (nar .byte (u.toInt8.toInt32) = nar .byte (v.toInt8.toInt32)) = (u = v) := by
  refine propext ⟨fun h => ?_, fun h => by rw [h]⟩
  change u.toInt8.toInt32.toInt8.toInt32 = v.toInt8.toInt32.toInt8.toInt32 at h
  have h1 := c_i2b u; have h2 := c_i2b v; have h3 := c_i2b (u.toInt8.toInt32); have h4 := c_i2b (v.toInt8.toInt32)
  rw [h] at h3
  apply Int32.toInt_inj.mp
  omega
theorem own_m8 (u : Int32) : 0 ≤ (u &&& (255 : Int32)).toInt ∧ (u &&& (255 : Int32)).toInt ≤ 255 := by
  have := c_mask u 255 8 (by decide) (by decide)
  omega
theorem own_nc (u : Int32) : nar .char (u &&& (255 : Int32)) = u &&& (255 : Int32) := i2c_mask u
theorem own_ncc (u : Int32) : nar .char ((u &&& (255 : Int32)).toUInt32.toUInt16.toUInt32.toInt32) = u &&& (255 : Int32) := by rw [i2c_mask]; exact i2c_mask u
theorem own_le8 (u : Int32) : ¬ (255 : Int32) < nar .char (u &&& (255 : Int32)) := by
  rw [own_nc, Int32.lt_iff_toInt_lt]
  have := own_m8 u
  have e : (255 : Int32).toInt = 255 := rfl
  omega
def fbl (la : List Int32) : List Int32 := la.map fun c => nar .byte (c.toInt8.toInt32)
theorem own_fbl (la : List Int32) : (fbl la).length = la.length := by simp [fbl]
def fl (u : Int32) : Int32 := (u &&& (3 : Int32)) % (3 : Int32)
def fx0 (u : Int32) : Int32 := if (((u.toUInt32 >>> ((18 : Int32) &&& 31).toUInt32).toInt32) &&& (1 : Int32)) = (0 : Int32) then nar .char ((((u.toUInt32 >>> ((2 : Int32) &&& 31).toUInt32).toInt32) &&& (255 : Int32)).toUInt32.toUInt16.toUInt32.toInt32) else nar .char (37 : Int32)
def fx1 (u : Int32) : Int32 := nar .char ((((u.toUInt32 >>> ((10 : Int32) &&& 31).toUInt32).toInt32) &&& (255 : Int32)).toUInt32.toUInt16.toUInt32.toInt32)
def fch (u : Int32) : List Int32 := if fl u = 0 then [] else if fl u = 1 then [fx0 u] else [fx0 u, fx1 u]
theorem own_fl (u : Int32) : (u &&& (3 : Int32)) % (3 : Int32) = 0 ∨ (u &&& (3 : Int32)) % (3 : Int32) = 1 ∨ (u &&& (3 : Int32)) % (3 : Int32) = 2 := by
  have hp := c_mask u 3 2 (by decide) (by decide)
  have hm := (c_irem (u &&& (3 : Int32)) 3 3 rfl).1 (by omega)
  generalize (u &&& (3 : Int32)) % (3 : Int32) = y at *
  have : y.toInt = 0 ∨ y.toInt = 1 ∨ y.toInt = 2 := by omega
  rcases this with h | h | h
  · exact Or.inl (Int32.toInt_inj.mp h)
  · exact Or.inr (Or.inl (Int32.toInt_inj.mp h))
  · exact Or.inr (Or.inr (Int32.toInt_inj.mp h))
theorem own_x0 (u : Int32) : 0 ≤ (fx0 u).toInt ∧ (fx0 u).toInt ≤ 255 := by
  unfold fx0
  split
  · rw [own_ncc]; exact own_m8 _
  · decide
theorem own_x1 (u : Int32) : 0 ≤ (fx1 u).toInt ∧ (fx1 u).toInt ≤ 255 := by unfold fx1; rw [own_ncc]; exact own_m8 _
theorem own_lq (u : Int32) (h : 0 ≤ u.toInt ∧ u.toInt ≤ 255) : ¬ (255 : Int32) < u := by
  rw [Int32.lt_iff_toInt_lt]; have e : (255 : Int32).toInt = 255 := rfl; omega
theorem own_chl (u : Int32) : (fch u).length ≤ 2 := by
  unfold fch
  split
  · simp
  · split <;> simp
theorem own_chr (u : Int32) : ∀ y ∈ fch u, 0 ≤ y.toInt ∧ y.toInt ≤ 255 := by
  unfold fch
  intro y hy
  split at hy
  · simp at hy
  · split at hy
    · simp at hy; subst hy; exact own_x0 u
    · simp at hy; rcases hy with rfl | rfl
      · exact own_x0 u
      · exact own_x1 u
theorem own_inj : ∀ (la lb : List Int32), (∀ y ∈ la, 0 ≤ y.toInt ∧ y.toInt ≤ 255) → (∀ y ∈ lb, 0 ≤ y.toInt ∧ y.toInt ≤ 255) → (fbl la = fbl lb ↔ la = lb)
  | [], [], _, _ => by simp [fbl]
  | [], _ :: _, _, _ => by simp [fbl]
  | _ :: _, [], _, _ => by simp [fbl]
  | a :: la, b :: lb, ha, hb => by
    have ih := own_inj la lb (fun y hy => ha y (List.mem_cons_of_mem _ hy)) (fun y hy => hb y (List.mem_cons_of_mem _ hy))
    have e := own_by a b (ha a List.mem_cons_self) (hb b List.mem_cons_self)
    simp only [fbl, List.map_cons, List.cons.injEq, e] at ih ⊢
    rw [ih]
def fm (la lb : List Int32) : Int32 := if la = [(37 : Int32)] then 1 else if la = lb then 1 else 0
theorem own_fm (la lb : List Int32) (ha : ∀ y ∈ la, 0 ≤ y.toInt ∧ y.toInt ≤ 255) (hb : ∀ y ∈ lb, 0 ≤ y.toInt ∧ y.toInt ≤ 255) : fm (fbl la) (fbl lb) = fm la lb := by
  have h1 : (fbl la = [(37 : Int32)]) = (la = [(37 : Int32)]) := by
    have e : [(37 : Int32)] = fbl [(37 : Int32)] := rfl
    rw [e]; exact propext ((own_inj la [37] ha (by decide)).trans (by rw [← e]))
  have h2 : (fbl la = fbl lb) = (la = lb) := propext (own_inj la lb ha hb)
  simp only [fm, h1, h2]
def fa3 (x y z : Int32) : Int32 := if x = 0 then 0 else if y = 0 then 0 else if z = 0 then 0 else 1
theorem own_fm1 (la lb : List Int32) (h : ¬ fm la lb = 0) : fm la lb = 1 := by unfold fm at *; split <;> simp_all
theorem d6_0 : decode jdk_52_method_21_code 0 = .ok (.iconst 0, 1) := by decide +kernel
theorem d6_1 : decode jdk_52_method_21_code 1 = .ok (.istore 5, 2) := by decide +kernel
theorem d6_3 : decode jdk_52_method_21_code 3 = .ok (.iload 5, 2) := by decide +kernel
theorem d6_5 : decode jdk_52_method_21_code 5 = .ok (.iload 4, 2) := by decide +kernel
theorem d6_7 : decode jdk_52_method_21_code 7 = .ok (.if_icmp .ge 37, 3) := by decide +kernel
theorem d6_10 : decode jdk_52_method_21_code 10 = .ok (.aload_n 0, 1) := by decide +kernel
theorem d6_11 : decode jdk_52_method_21_code 11 = .ok (.iload_n 1, 1) := by decide +kernel
theorem d6_12 : decode jdk_52_method_21_code 12 = .ok (.caload, 1) := by decide +kernel
theorem d6_13 : decode jdk_52_method_21_code 13 = .ok (.istore 6, 2) := by decide +kernel
theorem d6_15 : decode jdk_52_method_21_code 15 = .ok (.iload 6, 2) := by decide +kernel
theorem d6_17 : decode jdk_52_method_21_code 17 = .ok (.sipush 255, 3) := by decide +kernel
theorem d6_20 : decode jdk_52_method_21_code 20 = .ok (.if_icmp .le 6, 3) := by decide +kernel
theorem d6_26 : decode jdk_52_method_21_code 26 = .ok (.aload_n 2, 1) := by decide +kernel
theorem d6_27 : decode jdk_52_method_21_code 27 = .ok (.iload_n 3, 1) := by decide +kernel
theorem d6_28 : decode jdk_52_method_21_code 28 = .ok (.iload 6, 2) := by decide +kernel
theorem d6_30 : decode jdk_52_method_21_code 30 = .ok (.i2b, 1) := by decide +kernel
theorem d6_31 : decode jdk_52_method_21_code 31 = .ok (.bastore, 1) := by decide +kernel
theorem d6_32 : decode jdk_52_method_21_code 32 = .ok (.iinc 1 1, 3) := by decide +kernel
theorem d6_35 : decode jdk_52_method_21_code 35 = .ok (.iinc 3 1, 3) := by decide +kernel
theorem d6_38 : decode jdk_52_method_21_code 38 = .ok (.iinc 5 1, 3) := by decide +kernel
theorem d6_41 : decode jdk_52_method_21_code 41 = .ok (.goto (-38), 3) := by decide +kernel
theorem d6_44 : decode jdk_52_method_21_code 44 = .ok (.iload 4, 2) := by decide +kernel
theorem d6_46 : decode jdk_52_method_21_code 46 = .ok (.ireturn, 1) := by decide +kernel
theorem pn_java_lang_StringUTF16 : plainName "java/lang/StringUTF16" = true := by first | (simp [plainName, overriddenIn]; done) | decide +kernel
theorem ef_rm6_1 (m : MethodId) (aa : Addr) (bb : Addr) : entryFrame m #[(.ref aa), (.int (0 : Int32)), (.ref bb), (.int (0 : Int32)), (.int (1 : Int32))] 7 = mkF m 0 #[.val (.ref aa), .val (.int (0 : Int32)), .val (.ref bb), .val (.int (0 : Int32)), .val (.int (1 : Int32)), .unset, .unset] [] := by first | (simp [entryFrame, mkF, argsToLocals, Value.category]; done) | rfl
def Q6_1 (Z : State) (aa : Addr) (bb : Addr) (ka : ClassId) (kb : ClassId) (ca : Int32) (h0 : Heap) (n0 : Nat) (v : Option Value) (h : Heap) (L : List Loc) : Prop := v = some (.int (1 : Int32)) ∧ Fr n0 L ∧ Keep h0 h [bb] ∧ Arv Z h bb kb .byte (1 : Int32) [(.int (nar .byte (ca.toInt8.toInt32)))] (.int (0 : Int32))
set_option maxRecDepth 65536 in
set_option maxHeartbeats 40000000 in
theorem rm6_1 (l : Launch) (Z : State) (a0 : Array Value) (hw : ∀ d ∈ tables_1, d.before a0 Z = true) (ws : List Jvm.Cond) (aa : Addr) (bb : Addr) (ka : ClassId) (kb : ClassId) (ca : Int32) (h0 : Heap) (n0 : Nat) (O0 : Old Z n0 h0) (Va : Arv Z h0 aa ka .char (1 : Int32) [(.int ca)] (.int (0 : Int32))) (Vb : Arv Z h0 bb kb .byte (1 : Int32) [(.int (0 : Int32))] (.int (0 : Int32))) (q_ca : ¬ (255 : Int32) < ca) (g_b : n0 ≤ bb) (ne_ab : aa ≠ bb) :
    MetFree l (⟨"java/lang/StringUTF16", "compress", "([CI[BII)I"⟩ : MethodName) (head1 (Jvm.Cond.code (⟨"java/lang/StringUTF16", "compress", "([CI[BII)I"⟩ : MethodName) jdk_52_method_21_code 7 (some .int) :: ws) ({ frames := 0, cells := 0, slots := 0, locals := 0 } : Room)) (fun ay U => ay = #[(.ref aa), (.int (0 : Int32)), (.ref bb), (.int (0 : Int32)), (.int (1 : Int32))] ∧ Z.Warmed39 U.vm ∧ U.heap = h0) (fun _ _ _ _ _ => True) (fun _ U o U' => ∃ v L, o = .returned v ∧ Q6_1 Z aa bb ka kb ca h0 n0 v U'.heap L ∧ FrameEnd U o U' L ({ frames := 0, cells := 0, slots := 0, locals := 0 } : Room).cells ({ frames := 0, cells := 0, slots := 0, locals := 0 } : Room).slots) := by
  refine MetFree.of_bodySF (plainFor_of_name pn_java_lang_StringUTF16) hisR ?_
  intro p e s m args below meth c s₁ Bd hml0 hP hK
  obtain ⟨rfl, hZ, hh⟩ := hP
  have hx := Bd.exec
  have hby := Bd.bytes
  have hlk : meth.locks = false := BodyLoose.notSynchronized Bd
  have hml : c.maxLocals = 7 := hml0
  have hown : s.vm.findClass "java/lang/StringUTF16" = some m.cls := findClass_of_methodNamed Bd.named
  have hnm := (name_of_methodNamed Bd.named Bd.method).1
  have X0 : Stand p l e ({ frames := 0, cells := 0, slots := 0, locals := 0 } : Room) s m #[(.ref aa), (.int (0 : Int32)), (.ref bb), (.int (0 : Int32)), (.int (1 : Int32))] below meth c s₁ [] 0 0 := Stand.of_body Bd
  have e0 : s₁.heap = h0 := by rw [← hh, Bd.state]; rfl
  have N0 := Fr.nil n0
  suffices hgo : Go p e below s 0 0 (Q6_1 Z aa bb ka kb ca h0 n0) (s₁.setTop (mkF m 0 #[.val (.ref aa), .val (.int (0 : Int32)), .val (.ref bb), .val (.int (0 : Int32)), .val (.int (1 : Int32)), .unset, .unset] [])) by
    obtain ⟨t, o, h1, h2⟩ := hgo; exact ⟨t, o, castTop (ef_rm6_1 m aa bb) h1, h2⟩
  show Go p e below s _ _ _ (s₁.setTop (mkF m 0 #[.val (.ref aa), .val (.int (0 : Int32)), .val (.ref bb), .val (.int (0 : Int32)), .val (.int (1 : Int32)), .unset, .unset] []))
  refine Go.st (fun _ k' => XS.iconst X0.here hx rfl (hb hby d6_0) k') ?_
  show Go p e below s _ _ _ (s₁.setTop (mkF m 1 #[.val (.ref aa), .val (.int (0 : Int32)), .val (.ref bb), .val (.int (0 : Int32)), .val (.int (1 : Int32)), .unset, .unset] [(.int (0 : Int32))]))
  refine Go.st (fun _ k' => XS.istore X0.here hx rfl (hb hby d6_1) rfl (l' := #[.val (.ref aa), .val (.int (0 : Int32)), .val (.ref bb), .val (.int (0 : Int32)), .val (.int (1 : Int32)), .val (.int (0 : Int32)), .unset]) rfl k') ?_
  show Go p e below s _ _ _ (s₁.setTop (mkF m 3 #[.val (.ref aa), .val (.int (0 : Int32)), .val (.ref bb), .val (.int (0 : Int32)), .val (.int (1 : Int32)), .val (.int (0 : Int32)), .unset] []))
  refine Go.st (fun _ k' => XS.iload X0.here hx rfl (hb hby d6_3) rfl k') ?_
  show Go p e below s _ _ _ (s₁.setTop (mkF m 5 #[.val (.ref aa), .val (.int (0 : Int32)), .val (.ref bb), .val (.int (0 : Int32)), .val (.int (1 : Int32)), .val (.int (0 : Int32)), .unset] [(.int (0 : Int32))]))
  refine Go.st (fun _ k' => XS.iload X0.here hx rfl (hb hby d6_5) rfl k') ?_
  show Go p e below s _ _ _ (s₁.setTop (mkF m 7 #[.val (.ref aa), .val (.int (0 : Int32)), .val (.ref bb), .val (.int (0 : Int32)), .val (.int (1 : Int32)), .val (.int (0 : Int32)), .unset] [(.int (1 : Int32)), (.int (0 : Int32))]))
  refine Go.st (fun _ k' => XS.icmpNo X0.here hx rfl (hb hby d6_7) rfl (XT.ii_ge_f (by decide)) k') ?_
  show Go p e below s _ _ _ (s₁.setTop (mkF m 10 #[.val (.ref aa), .val (.int (0 : Int32)), .val (.ref bb), .val (.int (0 : Int32)), .val (.int (1 : Int32)), .val (.int (0 : Int32)), .unset] []))
  refine Go.st (fun _ k' => XS.aloadN X0.here hx rfl (hb hby d6_10) rfl rfl k') ?_
  show Go p e below s _ _ _ (s₁.setTop (mkF m 11 #[.val (.ref aa), .val (.int (0 : Int32)), .val (.ref bb), .val (.int (0 : Int32)), .val (.int (1 : Int32)), .val (.int (0 : Int32)), .unset] [(.ref aa)]))
  refine Go.st (fun _ k' => XS.iloadN X0.here hx rfl (hb hby d6_11) rfl k') ?_
  show Go p e below s _ _ _ (s₁.setTop (mkF m 12 #[.val (.ref aa), .val (.int (0 : Int32)), .val (.ref bb), .val (.int (0 : Int32)), .val (.int (1 : Int32)), .val (.int (0 : Int32)), .unset] [(.int (0 : Int32)), (.ref aa)]))
  obtain ⟨cl1, Ar1, qc1, Sz1, Nn1, Ha1, Gf1⟩ := id Va
  refine Go.st (fun _ k' => X0.caload hx (j := (0 : Int32)) (v := (.int ca)) (by rw [e0]; exact Ar1.1) (State.isArrayOf_alike hZ.alike Ar1.2.1) Ar1.2.2 (inb_of Sz1 ⟨by decide, by decide⟩) (Ha1.at (inb_of Sz1 ⟨by decide, by decide⟩) rfl) (g := (mkF m 12 #[.val (.ref aa), .val (.int (0 : Int32)), .val (.ref bb), .val (.int (0 : Int32)), .val (.int (1 : Int32)), .val (.int (0 : Int32)), .unset] [(.int (0 : Int32)), (.ref aa)])) rfl rfl (hb hby d6_12) _ k') ?_
  show Go p e below s _ _ _ (s₁.setTop (mkF m 13 #[.val (.ref aa), .val (.int (0 : Int32)), .val (.ref bb), .val (.int (0 : Int32)), .val (.int (1 : Int32)), .val (.int (0 : Int32)), .unset] [(.int ca)]))
  refine Go.st (fun _ k' => XS.istore X0.here hx rfl (hb hby d6_13) rfl (l' := #[.val (.ref aa), .val (.int (0 : Int32)), .val (.ref bb), .val (.int (0 : Int32)), .val (.int (1 : Int32)), .val (.int (0 : Int32)), .val (.int ca)]) rfl k') ?_
  show Go p e below s _ _ _ (s₁.setTop (mkF m 15 #[.val (.ref aa), .val (.int (0 : Int32)), .val (.ref bb), .val (.int (0 : Int32)), .val (.int (1 : Int32)), .val (.int (0 : Int32)), .val (.int ca)] []))
  refine Go.st (fun _ k' => XS.iload X0.here hx rfl (hb hby d6_15) rfl k') ?_
  show Go p e below s _ _ _ (s₁.setTop (mkF m 17 #[.val (.ref aa), .val (.int (0 : Int32)), .val (.ref bb), .val (.int (0 : Int32)), .val (.int (1 : Int32)), .val (.int (0 : Int32)), .val (.int ca)] [(.int ca)]))
  refine Go.st (fun _ k' => XS.sipush X0.here hx rfl (hb hby d6_17) k') ?_
  show Go p e below s _ _ _ (s₁.setTop (mkF m 20 #[.val (.ref aa), .val (.int (0 : Int32)), .val (.ref bb), .val (.int (0 : Int32)), .val (.int (1 : Int32)), .val (.int (0 : Int32)), .val (.int ca)] [(.int (255 : Int32)), (.int ca)]))
  refine Go.st (fun _ k' => XS.icmpYes X0.here hx rfl (pc0 := 20) (pc' := 26) rfl (hb hby d6_20) rfl (XT.ii_le_t q_ca) (by decide) (by decide) k') ?_
  show Go p e below s _ _ _ (s₁.setTop (mkF m 26 #[.val (.ref aa), .val (.int (0 : Int32)), .val (.ref bb), .val (.int (0 : Int32)), .val (.int (1 : Int32)), .val (.int (0 : Int32)), .val (.int ca)] []))
  refine Go.st (fun _ k' => XS.aloadN X0.here hx rfl (hb hby d6_26) rfl rfl k') ?_
  show Go p e below s _ _ _ (s₁.setTop (mkF m 27 #[.val (.ref aa), .val (.int (0 : Int32)), .val (.ref bb), .val (.int (0 : Int32)), .val (.int (1 : Int32)), .val (.int (0 : Int32)), .val (.int ca)] [(.ref bb)]))
  refine Go.st (fun _ k' => XS.iloadN X0.here hx rfl (hb hby d6_27) rfl k') ?_
  show Go p e below s _ _ _ (s₁.setTop (mkF m 28 #[.val (.ref aa), .val (.int (0 : Int32)), .val (.ref bb), .val (.int (0 : Int32)), .val (.int (1 : Int32)), .val (.int (0 : Int32)), .val (.int ca)] [(.int (0 : Int32)), (.ref bb)]))
  refine Go.st (fun _ k' => XS.iload X0.here hx rfl (hb hby d6_28) rfl k') ?_
  show Go p e below s _ _ _ (s₁.setTop (mkF m 30 #[.val (.ref aa), .val (.int (0 : Int32)), .val (.ref bb), .val (.int (0 : Int32)), .val (.int (1 : Int32)), .val (.int (0 : Int32)), .val (.int ca)] [(.int ca), (.int (0 : Int32)), (.ref bb)]))
  refine Go.st (fun _ k' => XS.i2b X0.here hx rfl (hb hby d6_30) rfl k') ?_
  show Go p e below s _ _ _ (s₁.setTop (mkF m 31 #[.val (.ref aa), .val (.int (0 : Int32)), .val (.ref bb), .val (.int (0 : Int32)), .val (.int (1 : Int32)), .val (.int (0 : Int32)), .val (.int ca)] [(.int (ca.toInt8.toInt32)), (.int (0 : Int32)), (.ref bb)]))
  obtain ⟨cl2, Ar2, qc2, Sz2, Nn2, Ha2, Gf2⟩ := id Vb
  obtain ⟨T2, h2, X2, e2, W2, st2⟩ := stB X0 hx hZ e0 Ar2 (j := (0 : Int32)) (inb_of Sz2 ⟨by decide, by decide⟩) (g := (mkF m 31 #[.val (.ref aa), .val (.int (0 : Int32)), .val (.ref bb), .val (.int (0 : Int32)), .val (.int (1 : Int32)), .val (.int (0 : Int32)), .val (.int ca)] [(.int (ca.toInt8.toInt32)), (.int (0 : Int32)), (.ref bb)])) rfl rfl (hb hby d6_31)
  refine Go.st st2 ?_
  have f4 : Arv Z h2 aa ka .char (1 : Int32) [(.int ca)] (.int (0 : Int32)) := Va.other W2 ne_ab
  have O2 : Old Z n0 h2 := O0.wr W2 g_b
  have N2 := Fr.snoc X2 N0 g_b
  have K2 : Keep h0 h2 [bb] := (Keep.refl h0 [bb]).wr W2 (Or.inl (by simp))
  have f3 : Arv Z h2 bb kb .byte (1 : Int32) [(.int (nar .byte (ca.toInt8.toInt32)))] (.int (0 : Int32)) := Arv.set Ar2 qc2 Sz2 Nn2 Ha2 Gf2 (fits_nar_byte _) W2 0 rfl (Nat.le_of_ble_eq_true rfl)
  show Go p e below s _ _ _ (T2.setTop (mkF m 32 #[.val (.ref aa), .val (.int (0 : Int32)), .val (.ref bb), .val (.int (0 : Int32)), .val (.int (1 : Int32)), .val (.int (0 : Int32)), .val (.int ca)] []))
  refine Go.st (fun _ k' => XS.iinc X2.here hx rfl (hb hby d6_32) rfl (l' := #[.val (.ref aa), .val (.int (1 : Int32)), .val (.ref bb), .val (.int (0 : Int32)), .val (.int (1 : Int32)), .val (.int (0 : Int32)), .val (.int ca)]) rfl k') ?_
  show Go p e below s _ _ _ (T2.setTop (mkF m 35 #[.val (.ref aa), .val (.int (1 : Int32)), .val (.ref bb), .val (.int (0 : Int32)), .val (.int (1 : Int32)), .val (.int (0 : Int32)), .val (.int ca)] []))
  refine Go.st (fun _ k' => XS.iinc X2.here hx rfl (hb hby d6_35) rfl (l' := #[.val (.ref aa), .val (.int (1 : Int32)), .val (.ref bb), .val (.int (1 : Int32)), .val (.int (1 : Int32)), .val (.int (0 : Int32)), .val (.int ca)]) rfl k') ?_
  show Go p e below s _ _ _ (T2.setTop (mkF m 38 #[.val (.ref aa), .val (.int (1 : Int32)), .val (.ref bb), .val (.int (1 : Int32)), .val (.int (1 : Int32)), .val (.int (0 : Int32)), .val (.int ca)] []))
  refine Go.st (fun _ k' => XS.iinc X2.here hx rfl (hb hby d6_38) rfl (l' := #[.val (.ref aa), .val (.int (1 : Int32)), .val (.ref bb), .val (.int (1 : Int32)), .val (.int (1 : Int32)), .val (.int (1 : Int32)), .val (.int ca)]) rfl k') ?_
  show Go p e below s _ _ _ (T2.setTop (mkF m 41 #[.val (.ref aa), .val (.int (1 : Int32)), .val (.ref bb), .val (.int (1 : Int32)), .val (.int (1 : Int32)), .val (.int (1 : Int32)), .val (.int ca)] []))
  refine Go.st (fun _ k' => XS.goto X2.here hx rfl (pc0 := 41) (pc' := 3) rfl (hb hby d6_41) (by decide) (by decide) k') ?_
  show Go p e below s _ _ _ (T2.setTop (mkF m 3 #[.val (.ref aa), .val (.int (1 : Int32)), .val (.ref bb), .val (.int (1 : Int32)), .val (.int (1 : Int32)), .val (.int (1 : Int32)), .val (.int ca)] []))
  refine Go.st (fun _ k' => XS.iload X2.here hx rfl (hb hby d6_3) rfl k') ?_
  show Go p e below s _ _ _ (T2.setTop (mkF m 5 #[.val (.ref aa), .val (.int (1 : Int32)), .val (.ref bb), .val (.int (1 : Int32)), .val (.int (1 : Int32)), .val (.int (1 : Int32)), .val (.int ca)] [(.int (1 : Int32))]))
  refine Go.st (fun _ k' => XS.iload X2.here hx rfl (hb hby d6_5) rfl k') ?_
  show Go p e below s _ _ _ (T2.setTop (mkF m 7 #[.val (.ref aa), .val (.int (1 : Int32)), .val (.ref bb), .val (.int (1 : Int32)), .val (.int (1 : Int32)), .val (.int (1 : Int32)), .val (.int ca)] [(.int (1 : Int32)), (.int (1 : Int32))]))
  refine Go.st (fun _ k' => XS.icmpYes X2.here hx rfl (pc0 := 7) (pc' := 44) rfl (hb hby d6_7) rfl (XT.ii_ge_t (by decide)) (by decide) (by decide) k') ?_
  show Go p e below s _ _ _ (T2.setTop (mkF m 44 #[.val (.ref aa), .val (.int (1 : Int32)), .val (.ref bb), .val (.int (1 : Int32)), .val (.int (1 : Int32)), .val (.int (1 : Int32)), .val (.int ca)] []))
  refine Go.st (fun _ k' => XS.iload X2.here hx rfl (hb hby d6_44) rfl k') ?_
  show Go p e below s _ _ _ (T2.setTop (mkF m 46 #[.val (.ref aa), .val (.int (1 : Int32)), .val (.ref bb), .val (.int (1 : Int32)), .val (.int (1 : Int32)), .val (.int (1 : Int32)), .val (.int ca)] [(.int (1 : Int32))]))
  refine Go.ret X2 hx hlk (t := .int) Bd.returns rfl (Or.inl ⟨rfl, Or.inl rfl, _, rfl⟩) (hb hby d6_46) (by decide) (by decide) e2 ?_
  exact ⟨rfl, N2, K2, f3⟩
theorem d5_0 : decode jdk_52_method_16_code 0 = .ok (.iload_n 2, 1) := by decide +kernel
theorem d5_1 : decode jdk_52_method_16_code 1 = .ok (.newarray .byte, 2) := by decide +kernel
theorem d5_3 : decode jdk_52_method_16_code 3 = .ok (.astore_n 3, 1) := by decide +kernel
theorem d5_4 : decode jdk_52_method_16_code 4 = .ok (.aload_n 0, 1) := by decide +kernel
theorem d5_5 : decode jdk_52_method_16_code 5 = .ok (.iload_n 1, 1) := by decide +kernel
theorem d5_6 : decode jdk_52_method_16_code 6 = .ok (.aload_n 3, 1) := by decide +kernel
theorem d5_7 : decode jdk_52_method_16_code 7 = .ok (.iconst 0, 1) := by decide +kernel
theorem d5_8 : decode jdk_52_method_16_code 8 = .ok (.iload_n 2, 1) := by decide +kernel
theorem pd___CI_BII_I : parseMethodDescriptor "([CI[BII)I" = some ⟨[(.array .char), .int, (.array .byte), .int, .int], some .int⟩ := by decide +kernel
theorem d5_9 : decode jdk_52_method_16_code 9 = .ok (.invokestatic 115, 3) := by decide +kernel
theorem d5_12 : decode jdk_52_method_16_code 12 = .ok (.istore 4, 2) := by decide +kernel
theorem d5_14 : decode jdk_52_method_16_code 14 = .ok (.iload 4, 2) := by decide +kernel
theorem d5_16 : decode jdk_52_method_16_code 16 = .ok (.iload_n 2, 1) := by decide +kernel
theorem d5_17 : decode jdk_52_method_16_code 17 = .ok (.if_icmp .eq 40, 3) := by decide +kernel
theorem d5_57 : decode jdk_52_method_16_code 57 = .ok (.aload_n 3, 1) := by decide +kernel
theorem d5_58 : decode jdk_52_method_16_code 58 = .ok (.areturn, 1) := by decide +kernel
theorem ef_rm5_1 (m : MethodId) (aa : Addr) : entryFrame m #[(.ref aa), (.int (0 : Int32)), (.int (1 : Int32))] 6 = mkF m 0 #[.val (.ref aa), .val (.int (0 : Int32)), .val (.int (1 : Int32)), .unset, .unset, .unset] [] := by first | (simp [entryFrame, mkF, argsToLocals, Value.category]; done) | rfl
def Q5_1 (Z : State) (aa : Addr) (ka : ClassId) (ca : Int32) (h0 : Heap) (n0 : Nat) (v : Option Value) (h : Heap) (L : List Loc) : Prop := ∃ (rr : Addr) (kr : ClassId), v = some (.ref rr) ∧ Fr n0 L ∧ Keep h0 h [] ∧ Arv Z h rr kr .byte (1 : Int32) [(.int (nar .byte (ca.toInt8.toInt32)))] (.int (0 : Int32)) ∧ h0.size ≤ rr
set_option maxRecDepth 65536 in
set_option maxHeartbeats 40000000 in
theorem rm5_1 (l : Launch) (Z : State) (a0 : Array Value) (hw : ∀ d ∈ tables_1, d.before a0 Z = true) (ws : List Jvm.Cond) (aa : Addr) (ka : ClassId) (ca : Int32) (h0 : Heap) (n0 : Nat) (O0 : Old Z n0 h0) (Va : Arv Z h0 aa ka .char (1 : Int32) [(.int ca)] (.int (0 : Int32))) (q_ca : ¬ (255 : Int32) < ca) :
    MetFree l (⟨"java/lang/StringUTF16", "compress", "([CII)[B"⟩ : MethodName) (head1 (Jvm.Cond.code (⟨"java/lang/StringUTF16", "compress", "([CII)[B"⟩ : MethodName) jdk_52_method_16_code 6 (some (.array .byte)) :: ws) ({ frames := 1, cells := 1, slots := 1, locals := 18 } : Room)) (fun ay U => ay = #[(.ref aa), (.int (0 : Int32)), (.int (1 : Int32))] ∧ Z.Warmed39 U.vm ∧ U.heap = h0) (fun _ _ _ _ _ => True) (fun _ U o U' => ∃ v L, o = .returned v ∧ Q5_1 Z aa ka ca h0 n0 v U'.heap L ∧ FrameEnd U o U' L ({ frames := 1, cells := 1, slots := 1, locals := 18 } : Room).cells ({ frames := 1, cells := 1, slots := 1, locals := 18 } : Room).slots) := by
  refine MetFree.of_bodySF (plainFor_of_name pn_java_lang_StringUTF16) hisR ?_
  intro p e s m args below meth c s₁ Bd hml0 hP hK
  obtain ⟨rfl, hZ, hh⟩ := hP
  have hx := Bd.exec
  have hby := Bd.bytes
  have hlk : meth.locks = false := BodyLoose.notSynchronized Bd
  have hml : c.maxLocals = 6 := hml0
  have hown : s.vm.findClass "java/lang/StringUTF16" = some m.cls := findClass_of_methodNamed Bd.named
  have hnm := (name_of_methodNamed Bd.named Bd.method).1
  have X0 : Stand p l e ({ frames := 1, cells := 1, slots := 1, locals := 18 } : Room) s m #[(.ref aa), (.int (0 : Int32)), (.int (1 : Int32))] below meth c s₁ [] 0 0 := Stand.of_body Bd
  have e0 : s₁.heap = h0 := by rw [← hh, Bd.state]; rfl
  have N0 := Fr.nil n0
  suffices hgo : Go p e below s 1 1 (Q5_1 Z aa ka ca h0 n0) (s₁.setTop (mkF m 0 #[.val (.ref aa), .val (.int (0 : Int32)), .val (.int (1 : Int32)), .unset, .unset, .unset] [])) by
    obtain ⟨t, o, h1, h2⟩ := hgo; exact ⟨t, o, castTop (ef_rm5_1 m aa) h1, h2⟩
  show Go p e below s _ _ _ (s₁.setTop (mkF m 0 #[.val (.ref aa), .val (.int (0 : Int32)), .val (.int (1 : Int32)), .unset, .unset, .unset] []))
  refine Go.st (fun _ k' => XS.iloadN X0.here hx rfl (hb hby d5_0) rfl k') ?_
  show Go p e below s _ _ _ (s₁.setTop (mkF m 1 #[.val (.ref aa), .val (.int (0 : Int32)), .val (.int (1 : Int32)), .unset, .unset, .unset] [(.int (1 : Int32))]))
  obtain ⟨T1, h1, k1, X1, e1, E1, A1, st1⟩ := newP X0 hx hZ (wdx hw 11 rfl) e0 (g := (mkF m 1 #[.val (.ref aa), .val (.int (0 : Int32)), .val (.int (1 : Int32)), .unset, .unset, .unset] [(.int (1 : Int32))])) rfl (hb hby d5_1) rfl (by decide) (cap := 1) (by decide) (by decide) (by decide) (by decide)
  obtain ⟨b1, g1⟩ : ∃ z, z = h0.size := ⟨_, rfl⟩
  rw [← g1] at A1 st1
  refine Go.st st1 ?_
  have g_b1 : n0 ≤ b1 := Nat.le_trans (own_le O0) (Nat.le_of_eq g1.symm)
  have z_b1 : h0.size ≤ b1 := Nat.le_of_eq g1.symm
  have ne2 : aa ≠ b1 := Nat.ne_of_lt (Nat.lt_of_lt_of_le Va.lt (Nat.le_of_eq g1.symm))
  have f3 : Arv Z h1 aa ka .char (1 : Int32) [(.int ca)] (.int (0 : Int32)) := Va.ext E1
  have O1 : Old Z n0 h1 := O0.ext E1
  have K1 : Keep h0 h1 [] := (Keep.refl h0 []).ext E1
  have f4 : Arv Z h1 b1 k1 .byte (1 : Int32) [(.int (0 : Int32))] (.int (0 : Int32)) := (Arv.new A1 (by decide)).pad (pad_rep [] (.int (0 : Int32)) 1)
  show Go p e below s _ _ _ (T1.setTop (mkF m 3 #[.val (.ref aa), .val (.int (0 : Int32)), .val (.int (1 : Int32)), .unset, .unset, .unset] [(.ref b1)]))
  refine Go.st (fun _ k' => XS.astoreN X1.here hx rfl (hb hby d5_3) rfl rfl (l' := #[.val (.ref aa), .val (.int (0 : Int32)), .val (.int (1 : Int32)), .val (.ref b1), .unset, .unset]) rfl k') ?_
  show Go p e below s _ _ _ (T1.setTop (mkF m 4 #[.val (.ref aa), .val (.int (0 : Int32)), .val (.int (1 : Int32)), .val (.ref b1), .unset, .unset] []))
  refine Go.st (fun _ k' => XS.aloadN X1.here hx rfl (hb hby d5_4) rfl rfl k') ?_
  show Go p e below s _ _ _ (T1.setTop (mkF m 5 #[.val (.ref aa), .val (.int (0 : Int32)), .val (.int (1 : Int32)), .val (.ref b1), .unset, .unset] [(.ref aa)]))
  refine Go.st (fun _ k' => XS.iloadN X1.here hx rfl (hb hby d5_5) rfl k') ?_
  show Go p e below s _ _ _ (T1.setTop (mkF m 6 #[.val (.ref aa), .val (.int (0 : Int32)), .val (.int (1 : Int32)), .val (.ref b1), .unset, .unset] [(.int (0 : Int32)), (.ref aa)]))
  refine Go.st (fun _ k' => XS.aloadN X1.here hx rfl (hb hby d5_6) rfl rfl k') ?_
  show Go p e below s _ _ _ (T1.setTop (mkF m 7 #[.val (.ref aa), .val (.int (0 : Int32)), .val (.int (1 : Int32)), .val (.ref b1), .unset, .unset] [(.ref b1), (.int (0 : Int32)), (.ref aa)]))
  refine Go.st (fun _ k' => XS.iconst X1.here hx rfl (hb hby d5_7) k') ?_
  show Go p e below s _ _ _ (T1.setTop (mkF m 8 #[.val (.ref aa), .val (.int (0 : Int32)), .val (.int (1 : Int32)), .val (.ref b1), .unset, .unset] [(.int (0 : Int32)), (.ref b1), (.int (0 : Int32)), (.ref aa)]))
  refine Go.st (fun _ k' => XS.iloadN X1.here hx rfl (hb hby d5_8) rfl k') ?_
  show Go p e below s _ _ _ (T1.setTop (mkF m 9 #[.val (.ref aa), .val (.int (0 : Int32)), .val (.int (1 : Int32)), .val (.ref b1), .unset, .unset] [(.int (1 : Int32)), (.int (0 : Int32)), (.ref b1), (.int (0 : Int32)), (.ref aa)]))
  obtain ⟨_, _, ⟨T5, L5, k5, n5⟩, -, X5, ⟨Lc5, hQ5, l5, y5, z5⟩, st5⟩ := Jvm.LawKit.callS X1 hx (y := (⟨"java/lang/StringUTF16", "compress", "([CI[BII)I"⟩ : MethodName)) hown (mvT hZ (wdx hw 35 rfl)) (mvT hZ (wdx hw 36 rfl)) (mvT hZ (wdx hw 33 rfl)) (mvT hZ (wdx hw 37 rfl)) (by decide) (backOf (W := 0) (rm6_1 l Z a0 hw [] aa b1 ka k1 ca h1 n0 O1 f3 f4 q_ca g_b1 ne2) hZ (wdx hw 37 rfl) (wdx hw 33 rfl) (by decide) (by decide)) (g := (mkF m 9 #[.val (.ref aa), .val (.int (0 : Int32)), .val (.int (1 : Int32)), .val (.ref b1), .unset, .unset] [(.int (1 : Int32)), (.int (0 : Int32)), (.ref b1), (.int (0 : Int32)), (.ref aa)])) rfl (by rw [hml]; rfl) (argsL := [(.ref aa), (.int (0 : Int32)), (.ref b1), (.int (0 : Int32)), (.int (1 : Int32))]) (rest := []) (lenOf pd___CI_BII_I rfl) rfl (by show 2 * 0 + _ ≤ _; exact Nat.le_of_eq rfl) (hb hby d5_9) (fun _ _ => ⟨rfl, e1, (by exact Nat.le_of_ble_eq_true rfl), (by exact Nat.le_of_ble_eq_true rfl)⟩)
  dsimp only [Pt.U, Pt.locs, Pt.cells, Pt.slots] at X5 l5 y5 z5 st5 hQ5
  subst l5 y5 z5
  obtain ⟨rfl, Nq5, Kq5, f6⟩ := hQ5
  have N5 := Fr.app N0 Nq5
  refine Go.st st5 ?_
  have f7 : Arv Z T5.heap aa ka .char (1 : Int32) [(.int ca)] (.int (0 : Int32)) := f3.keep Kq5 (ninS ne2 nin0)
  have O5 : Old Z n0 T5.heap := O1.keep Kq5 (allS g_b1 all0)
  have K5 : Keep h0 T5.heap [] := K1.trans Kq5 (allS (Or.inr z_b1) all0)
  show Go p e below s _ _ _ (T5.setTop (mkF m 12 #[.val (.ref aa), .val (.int (0 : Int32)), .val (.int (1 : Int32)), .val (.ref b1), .unset, .unset] [(.int (1 : Int32))]))
  refine Go.st (fun _ k' => XS.istore X5.here hx rfl (hb hby d5_12) rfl (l' := #[.val (.ref aa), .val (.int (0 : Int32)), .val (.int (1 : Int32)), .val (.ref b1), .val (.int (1 : Int32)), .unset]) rfl k') ?_
  show Go p e below s _ _ _ (T5.setTop (mkF m 14 #[.val (.ref aa), .val (.int (0 : Int32)), .val (.int (1 : Int32)), .val (.ref b1), .val (.int (1 : Int32)), .unset] []))
  refine Go.st (fun _ k' => XS.iload X5.here hx rfl (hb hby d5_14) rfl k') ?_
  show Go p e below s _ _ _ (T5.setTop (mkF m 16 #[.val (.ref aa), .val (.int (0 : Int32)), .val (.int (1 : Int32)), .val (.ref b1), .val (.int (1 : Int32)), .unset] [(.int (1 : Int32))]))
  refine Go.st (fun _ k' => XS.iloadN X5.here hx rfl (hb hby d5_16) rfl k') ?_
  show Go p e below s _ _ _ (T5.setTop (mkF m 17 #[.val (.ref aa), .val (.int (0 : Int32)), .val (.int (1 : Int32)), .val (.ref b1), .val (.int (1 : Int32)), .unset] [(.int (1 : Int32)), (.int (1 : Int32))]))
  refine Go.st (fun _ k' => XS.icmpYes X5.here hx rfl (pc0 := 17) (pc' := 57) rfl (hb hby d5_17) rfl (XT.ii_eq_t (by decide)) (by decide) (by decide) k') ?_
  show Go p e below s _ _ _ (T5.setTop (mkF m 57 #[.val (.ref aa), .val (.int (0 : Int32)), .val (.int (1 : Int32)), .val (.ref b1), .val (.int (1 : Int32)), .unset] []))
  refine Go.st (fun _ k' => XS.aloadN X5.here hx rfl (hb hby d5_57) rfl rfl k') ?_
  show Go p e below s _ _ _ (T5.setTop (mkF m 58 #[.val (.ref aa), .val (.int (0 : Int32)), .val (.int (1 : Int32)), .val (.ref b1), .val (.int (1 : Int32)), .unset] [(.ref b1)]))
  refine Go.ret X5 hx hlk (t := (.array .byte)) Bd.returns rfl (Or.inr (Or.inr (Or.inr (Or.inr ⟨rfl, rfl, rfl⟩)))) (hb hby d5_58) (by decide) (by decide) rfl ?_
  exact ⟨b1, k1, rfl, N5, K5, f6, z_b1⟩
theorem d7_0 : decode jdk_52_method_15_code 0 = .ok (.iload_n 1, 1) := by decide +kernel
theorem d7_1 : decode jdk_52_method_15_code 1 = .ok (.aload_n 0, 1) := by decide +kernel
theorem d7_2 : decode jdk_52_method_15_code 2 = .ok (.arraylength, 1) := by decide +kernel
theorem d7_3 : decode jdk_52_method_15_code 3 = .ok (.isub, 1) := by decide +kernel
theorem d7_4 : decode jdk_52_method_15_code 4 = .ok (.bipush 31, 2) := by decide +kernel
theorem d7_6 : decode jdk_52_method_15_code 6 = .ok (.iushr, 1) := by decide +kernel
theorem d7_7 : decode jdk_52_method_15_code 7 = .ok (.i2b, 1) := by decide +kernel
theorem d7_8 : decode jdk_52_method_15_code 8 = .ok (.ireturn, 1) := by decide +kernel
theorem ef_rm7_1 (m : MethodId) (bb : Addr) : entryFrame m #[(.ref bb), (.int (1 : Int32))] 2 = mkF m 0 #[.val (.ref bb), .val (.int (1 : Int32))] [] := by first | (simp [entryFrame, mkF, argsToLocals, Value.category]; done) | rfl
def Q7_1 (Z : State) (bb : Addr) (kb : ClassId) (ca : Int32) (h0 : Heap) (n0 : Nat) (v : Option Value) (h : Heap) (L : List Loc) : Prop := v = some (.int (0 : Int32)) ∧ Fr n0 L ∧ h = h0
set_option maxRecDepth 65536 in
set_option maxHeartbeats 40000000 in
theorem rm7_1 (l : Launch) (Z : State) (a0 : Array Value) (hw : ∀ d ∈ tables_1, d.before a0 Z = true) (ws : List Jvm.Cond) (bb : Addr) (kb : ClassId) (ca : Int32) (h0 : Heap) (n0 : Nat) (O0 : Old Z n0 h0) (Vb : Arv Z h0 bb kb .byte (1 : Int32) [(.int ca)] (.int (0 : Int32))) :
    MetFree l (⟨"java/lang/StringUTF16", "coderFromArrayLen", "([BI)B"⟩ : MethodName) (head1 (Jvm.Cond.code (⟨"java/lang/StringUTF16", "coderFromArrayLen", "([BI)B"⟩ : MethodName) jdk_52_method_15_code 2 (some .byte) :: ws) ({ frames := 0, cells := 0, slots := 0, locals := 0 } : Room)) (fun ay U => ay = #[(.ref bb), (.int (1 : Int32))] ∧ Z.Warmed39 U.vm ∧ U.heap = h0) (fun _ _ _ _ _ => True) (fun _ U o U' => ∃ v L, o = .returned v ∧ Q7_1 Z bb kb ca h0 n0 v U'.heap L ∧ FrameEnd U o U' L ({ frames := 0, cells := 0, slots := 0, locals := 0 } : Room).cells ({ frames := 0, cells := 0, slots := 0, locals := 0 } : Room).slots) := by
  refine MetFree.of_bodySF (plainFor_of_name pn_java_lang_StringUTF16) hisR ?_
  intro p e s m args below meth c s₁ Bd hml0 hP hK
  obtain ⟨rfl, hZ, hh⟩ := hP
  have hx := Bd.exec
  have hby := Bd.bytes
  have hlk : meth.locks = false := BodyLoose.notSynchronized Bd
  have hml : c.maxLocals = 2 := hml0
  have hown : s.vm.findClass "java/lang/StringUTF16" = some m.cls := findClass_of_methodNamed Bd.named
  have hnm := (name_of_methodNamed Bd.named Bd.method).1
  have X0 : Stand p l e ({ frames := 0, cells := 0, slots := 0, locals := 0 } : Room) s m #[(.ref bb), (.int (1 : Int32))] below meth c s₁ [] 0 0 := Stand.of_body Bd
  have e0 : s₁.heap = h0 := by rw [← hh, Bd.state]; rfl
  have N0 := Fr.nil n0
  suffices hgo : Go p e below s 0 0 (Q7_1 Z bb kb ca h0 n0) (s₁.setTop (mkF m 0 #[.val (.ref bb), .val (.int (1 : Int32))] [])) by
    obtain ⟨t, o, h1, h2⟩ := hgo; exact ⟨t, o, castTop (ef_rm7_1 m bb) h1, h2⟩
  show Go p e below s _ _ _ (s₁.setTop (mkF m 0 #[.val (.ref bb), .val (.int (1 : Int32))] []))
  refine Go.st (fun _ k' => XS.iloadN X0.here hx rfl (hb hby d7_0) rfl k') ?_
  show Go p e below s _ _ _ (s₁.setTop (mkF m 1 #[.val (.ref bb), .val (.int (1 : Int32))] [(.int (1 : Int32))]))
  refine Go.st (fun _ k' => XS.aloadN X0.here hx rfl (hb hby d7_1) rfl rfl k') ?_
  show Go p e below s _ _ _ (s₁.setTop (mkF m 2 #[.val (.ref bb), .val (.int (1 : Int32))] [(.ref bb), (.int (1 : Int32))]))
  obtain ⟨cl1, Ar1, qc1, Sz1, Nn1, Ha1, Gf1⟩ := id Vb
  refine Go.st (fun _ k' => X0.arraylength hx (by rw [e0]; exact Ar1.1) (State.isArrayOf_alike hZ.alike Ar1.2.1) (g := (mkF m 2 #[.val (.ref bb), .val (.int (1 : Int32))] [(.ref bb), (.int (1 : Int32))])) rfl rfl (hb hby d7_2) _ k') ?_
  rw [len_of Sz1 Nn1]
  show Go p e below s _ _ _ (s₁.setTop (mkF m 3 #[.val (.ref bb), .val (.int (1 : Int32))] [(.int (1 : Int32)), (.int (1 : Int32))]))
  refine Go.st (fun _ k' => XS.isub X0.here hx rfl (hb hby d7_3) rfl k') ?_
  show Go p e below s _ _ _ (s₁.setTop (mkF m 4 #[.val (.ref bb), .val (.int (1 : Int32))] [(.int (0 : Int32))]))
  refine Go.st (fun _ k' => XS.bipush X0.here hx rfl (hb hby d7_4) k') ?_
  show Go p e below s _ _ _ (s₁.setTop (mkF m 6 #[.val (.ref bb), .val (.int (1 : Int32))] [(.int (31 : Int32)), (.int (0 : Int32))]))
  refine Go.st (fun _ k' => XS.iushr X0.here hx rfl (hb hby d7_6) rfl k') ?_
  show Go p e below s _ _ _ (s₁.setTop (mkF m 7 #[.val (.ref bb), .val (.int (1 : Int32))] [(.int (((0 : Int32).toUInt32 >>> ((31 : Int32) &&& 31).toUInt32).toInt32))]))
  refine Go.st (fun _ k' => XS.i2b X0.here hx rfl (hb hby d7_7) rfl k') ?_
  show Go p e below s _ _ _ (s₁.setTop (mkF m 8 #[.val (.ref bb), .val (.int (1 : Int32))] [(.int ((((0 : Int32).toUInt32 >>> ((31 : Int32) &&& 31).toUInt32).toInt32).toInt8.toInt32))]))
  refine Go.retB X0 hx hlk (t := .byte) Bd.returns (by simp) (hb hby d7_8) (by decide) (by decide) e0 ?_
  exact ⟨rfl, N0, rfl⟩
theorem d3_0 : decode jdk_42_method_149_code 0 = .ok (.aload_n 0, 1) := by decide +kernel
theorem d3_1 : decode jdk_42_method_149_code 1 = .ok (.invokespecial 1, 3) := by decide +kernel
theorem d3_4 : decode jdk_42_method_149_code 4 = .ok (.iload_n 3, 1) := by decide +kernel
theorem d3_5 : decode jdk_42_method_149_code 5 = .ok (.ifCond .ne 22, 3) := by decide +kernel
theorem d3_27 : decode jdk_42_method_149_code 27 = .ok (.getstatic 38, 3) := by decide +kernel
theorem d3_30 : decode jdk_42_method_149_code 30 = .ok (.ifCond .eq 28, 3) := by decide +kernel
theorem d3_33 : decode jdk_42_method_149_code 33 = .ok (.aload_n 1, 1) := by decide +kernel
theorem d3_34 : decode jdk_42_method_149_code 34 = .ok (.iload_n 2, 1) := by decide +kernel
theorem d3_35 : decode jdk_42_method_149_code 35 = .ok (.iload_n 3, 1) := by decide +kernel
theorem pd___CII__B : parseMethodDescriptor "([CII)[B" = some ⟨[(.array .char), .int, .int], some (.array .byte)⟩ := by decide +kernel
theorem d3_36 : decode jdk_42_method_149_code 36 = .ok (.invokestatic 177, 3) := by decide +kernel
theorem d3_39 : decode jdk_42_method_149_code 39 = .ok (.astore 5, 2) := by decide +kernel
theorem d3_41 : decode jdk_42_method_149_code 41 = .ok (.aload_n 0, 1) := by decide +kernel
theorem d3_42 : decode jdk_42_method_149_code 42 = .ok (.aload 5, 2) := by decide +kernel
theorem d3_44 : decode jdk_42_method_149_code 44 = .ok (.iload_n 3, 1) := by decide +kernel
theorem pd___BI_B : parseMethodDescriptor "([BI)B" = some ⟨[(.array .byte), .int], some .byte⟩ := by decide +kernel
theorem d3_45 : decode jdk_42_method_149_code 45 = .ok (.invokestatic 47, 3) := by decide +kernel
theorem d3_48 : decode jdk_42_method_149_code 48 = .ok (.putfield 15, 3) := by decide +kernel
theorem d3_51 : decode jdk_42_method_149_code 51 = .ok (.aload_n 0, 1) := by decide +kernel
theorem d3_52 : decode jdk_42_method_149_code 52 = .ok (.aload 5, 2) := by decide +kernel
theorem d3_54 : decode jdk_42_method_149_code 54 = .ok (.putfield 9, 3) := by decide +kernel
theorem d3_57 : decode jdk_42_method_149_code 57 = .ok (.return_, 1) := by decide +kernel
theorem pn_java_lang_String : plainName "java/lang/String" = true := by first | (simp [plainName, overriddenIn]; done) | decide +kernel
theorem ef_rm3_1 (m : MethodId) (ob : Addr) (aa : Addr) : entryFrame m #[(.ref ob), (.ref aa), (.int (0 : Int32)), (.int (1 : Int32)), .null] 6 = mkF m 0 #[.val (.ref ob), .val (.ref aa), .val (.int (0 : Int32)), .val (.int (1 : Int32)), .val .null, .unset] [] := by first | (simp [entryFrame, mkF, argsToLocals, Value.category]; done) | rfl
def Q3_1 (Z : State) (ob : Addr) (aa : Addr) (ka : ClassId) (cs : Int32) (ca : Int32) (h0 : Heap) (n0 : Nat) (v : Option Value) (h : Heap) (L : List Loc) : Prop := ∃ (tb : Addr) (kt : ClassId), v = none ∧ Fr n0 L ∧ Keep h0 h [ob] ∧ Fld Z h ob "java/lang/String" "value" "[B" (.ref tb) ∧ Fld Z h ob "java/lang/String" "coder" "B" (.int (0 : Int32)) ∧ Arv Z h tb kt .byte (1 : Int32) [(.int (nar .byte (ca.toInt8.toInt32)))] (.int (0 : Int32)) ∧ h0.size ≤ tb
set_option maxRecDepth 65536 in
set_option maxHeartbeats 40000000 in
theorem rm3_1 (l : Launch) (Z : State) (a0 : Array Value) (hw : ∀ d ∈ tables_1, d.before a0 Z = true) (ws : List Jvm.Cond) (ob : Addr) (aa : Addr) (ka : ClassId) (cs : Int32) (ca : Int32) (h0 : Heap) (n0 : Nat) (O0 : Old Z n0 h0) (E_o : Exa Z h0 ob "java/lang/String") (Fv : Fld Z h0 ob "java/lang/String" "value" "[B" .null) (Fc : Fld Z h0 ob "java/lang/String" "coder" "B" (.int (0 : Int32))) (Va : Arv Z h0 aa ka .char (1 : Int32) [(.int ca)] (.int (0 : Int32))) (S_cs : Sta Z Z.heap "java/lang/String" "COMPACT_STRINGS" "Z" (.int cs)) (q_cs : ¬ cs = (0 : Int32)) (q_ca : ¬ (255 : Int32) < ca) (g_o : n0 ≤ ob) (ne_oa : ob ≠ aa) :
    MetFree l (⟨"java/lang/String", "<init>", "([CIILjava/lang/Void;)V"⟩ : MethodName) (head1 (Jvm.Cond.code (⟨"java/lang/String", "<init>", "([CIILjava/lang/Void;)V"⟩ : MethodName) jdk_42_method_149_code 6 none :: ws) ({ frames := 2, cells := 1, slots := 1, locals := 35 } : Room)) (fun ay U => ay = #[(.ref ob), (.ref aa), (.int (0 : Int32)), (.int (1 : Int32)), .null] ∧ Z.Warmed39 U.vm ∧ U.heap = h0) (fun _ _ _ _ _ => True) (fun _ U o U' => ∃ v L, o = .returned v ∧ Q3_1 Z ob aa ka cs ca h0 n0 v U'.heap L ∧ FrameEnd U o U' L ({ frames := 2, cells := 1, slots := 1, locals := 35 } : Room).cells ({ frames := 2, cells := 1, slots := 1, locals := 35 } : Room).slots) := by
  refine MetFree.of_bodySF (plainFor_of_name pn_java_lang_String) hisR ?_
  intro p e s m args below meth c s₁ Bd hml0 hP hK
  obtain ⟨rfl, hZ, hh⟩ := hP
  have hx := Bd.exec
  have hby := Bd.bytes
  have hlk : meth.locks = false := BodyLoose.notSynchronized Bd
  have hml : c.maxLocals = 6 := hml0
  have hown : s.vm.findClass "java/lang/String" = some m.cls := findClass_of_methodNamed Bd.named
  have hnm := (name_of_methodNamed Bd.named Bd.method).1
  have X0 : Stand p l e ({ frames := 2, cells := 1, slots := 1, locals := 35 } : Room) s m #[(.ref ob), (.ref aa), (.int (0 : Int32)), (.int (1 : Int32)), .null] below meth c s₁ [] 0 0 := Stand.of_body Bd
  have e0 : s₁.heap = h0 := by rw [← hh, Bd.state]; rfl
  have N0 := Fr.nil n0
  suffices hgo : Go p e below s 1 1 (Q3_1 Z ob aa ka cs ca h0 n0) (s₁.setTop (mkF m 0 #[.val (.ref ob), .val (.ref aa), .val (.int (0 : Int32)), .val (.int (1 : Int32)), .val .null, .unset] [])) by
    obtain ⟨t, o, h1, h2⟩ := hgo; exact ⟨t, o, castTop (ef_rm3_1 m ob aa) h1, h2⟩
  show Go p e below s _ _ _ (s₁.setTop (mkF m 0 #[.val (.ref ob), .val (.ref aa), .val (.int (0 : Int32)), .val (.int (1 : Int32)), .val .null, .unset] []))
  refine Go.st (fun _ k' => XS.aloadN X0.here hx rfl (hb hby d3_0) rfl rfl k') ?_
  show Go p e below s _ _ _ (s₁.setTop (mkF m 1 #[.val (.ref ob), .val (.ref aa), .val (.int (0 : Int32)), .val (.int (1 : Int32)), .val .null, .unset] [(.ref ob)]))
  obtain ⟨T1, X1, e1, st1⟩ := initO X0 hx hZ hown (wdx hw 24 rfl) (wdx hw 25 rfl) (wdx hw 26 rfl) e0 (g := (mkF m 1 #[.val (.ref ob), .val (.ref aa), .val (.int (0 : Int32)), .val (.int (1 : Int32)), .val .null, .unset] [(.ref ob)])) rfl (by rw [hml]; rfl) rfl (hb hby d3_1) (by decide) (W := 0) (by show 2 * 0 + _ ≤ _; exact Nat.le_of_eq rfl) (by decide)
  refine Go.st st1 ?_
  show Go p e below s _ _ _ (T1.setTop (mkF m 4 #[.val (.ref ob), .val (.ref aa), .val (.int (0 : Int32)), .val (.int (1 : Int32)), .val .null, .unset] []))
  refine Go.st (fun _ k' => XS.iloadN X1.here hx rfl (hb hby d3_4) rfl k') ?_
  show Go p e below s _ _ _ (T1.setTop (mkF m 5 #[.val (.ref ob), .val (.ref aa), .val (.int (0 : Int32)), .val (.int (1 : Int32)), .val .null, .unset] [(.int (1 : Int32))]))
  refine Go.st (fun _ k' => XS.ifYes X1.here hx rfl (pc0 := 5) (pc' := 27) rfl (hb hby d3_5) rfl (XT.i0_ne_t (by decide)) (by decide) (by decide) k') ?_
  show Go p e below s _ _ _ (T1.setTop (mkF m 27 #[.val (.ref ob), .val (.ref aa), .val (.int (0 : Int32)), .val (.int (1 : Int32)), .val .null, .unset] []))
  obtain ⟨T2, X2, e2, st2⟩ := getS2 X1 hx hZ hown (host := "") (Or.inl (wdx hw 30 rfl)) Via.refl e1 (S_cs.ext O0.2) (g := (mkF m 27 #[.val (.ref ob), .val (.ref aa), .val (.int (0 : Int32)), .val (.int (1 : Int32)), .val .null, .unset] [])) rfl (hb hby d3_27)
  refine Go.st st2 ?_
  show Go p e below s _ _ _ (T2.setTop (mkF m 30 #[.val (.ref ob), .val (.ref aa), .val (.int (0 : Int32)), .val (.int (1 : Int32)), .val .null, .unset] [(.int cs)]))
  refine Go.st (fun _ k' => XS.ifNo X2.here hx rfl (hb hby d3_30) rfl (XT.i0_eq_f q_cs) k') ?_
  show Go p e below s _ _ _ (T2.setTop (mkF m 33 #[.val (.ref ob), .val (.ref aa), .val (.int (0 : Int32)), .val (.int (1 : Int32)), .val .null, .unset] []))
  refine Go.st (fun _ k' => XS.aloadN X2.here hx rfl (hb hby d3_33) rfl rfl k') ?_
  show Go p e below s _ _ _ (T2.setTop (mkF m 34 #[.val (.ref ob), .val (.ref aa), .val (.int (0 : Int32)), .val (.int (1 : Int32)), .val .null, .unset] [(.ref aa)]))
  refine Go.st (fun _ k' => XS.iloadN X2.here hx rfl (hb hby d3_34) rfl k') ?_
  show Go p e below s _ _ _ (T2.setTop (mkF m 35 #[.val (.ref ob), .val (.ref aa), .val (.int (0 : Int32)), .val (.int (1 : Int32)), .val .null, .unset] [(.int (0 : Int32)), (.ref aa)]))
  refine Go.st (fun _ k' => XS.iloadN X2.here hx rfl (hb hby d3_35) rfl k') ?_
  show Go p e below s _ _ _ (T2.setTop (mkF m 36 #[.val (.ref ob), .val (.ref aa), .val (.int (0 : Int32)), .val (.int (1 : Int32)), .val .null, .unset] [(.int (1 : Int32)), (.int (0 : Int32)), (.ref aa)]))
  obtain ⟨_, _, ⟨T3, L3, k3, n3⟩, -, X3, ⟨Lc3, hQ3, l3, y3, z3⟩, st3⟩ := Jvm.LawKit.callS X2 hx (y := (⟨"java/lang/StringUTF16", "compress", "([CII)[B"⟩ : MethodName)) hown (mvT hZ (wdx hw 31 rfl)) (mvT hZ (wdx hw 32 rfl)) (mvT hZ (wdx hw 33 rfl)) (mvT hZ (wdx hw 34 rfl)) (by decide) (backOf (W := 0) (rm5_1 l Z a0 hw [] aa ka ca h0 n0 O0 Va q_ca) hZ (wdx hw 34 rfl) (wdx hw 33 rfl) (by decide) (by decide)) (g := (mkF m 36 #[.val (.ref ob), .val (.ref aa), .val (.int (0 : Int32)), .val (.int (1 : Int32)), .val .null, .unset] [(.int (1 : Int32)), (.int (0 : Int32)), (.ref aa)])) rfl (by rw [hml]; rfl) (argsL := [(.ref aa), (.int (0 : Int32)), (.int (1 : Int32))]) (rest := []) (lenOf pd___CII__B rfl) rfl (by show 2 * 0 + _ ≤ _; exact Nat.le_of_eq rfl) (hb hby d3_36) (fun _ _ => ⟨rfl, e2, (by exact Nat.le_of_ble_eq_true rfl), (by exact Nat.le_of_ble_eq_true rfl)⟩)
  dsimp only [Pt.U, Pt.locs, Pt.cells, Pt.slots] at X3 l3 y3 z3 st3 hQ3
  subst l3 y3 z3
  obtain ⟨rr_3, kr_3, rfl, Nq3, Kq3, f4, szr_3⟩ := hQ3
  have N3 := Fr.app N0 Nq3
  refine Go.st st3 ?_
  have f5 : Exa Z T3.heap ob "java/lang/String" := E_o.keep Kq3
  have f6 : Fld Z T3.heap ob "java/lang/String" "value" "[B" .null := Fv.keep Kq3 nin0
  have f7 : Fld Z T3.heap ob "java/lang/String" "coder" "B" (.int (0 : Int32)) := Fc.keep Kq3 nin0
  have f8 : Arv Z T3.heap aa ka .char (1 : Int32) [(.int ca)] (.int (0 : Int32)) := Va.keep Kq3 nin0
  have O3 : Old Z n0 T3.heap := O0.keep Kq3 all0
  have K3 : Keep h0 T3.heap [ob] := (Keep.refl h0 [ob]).trans Kq3 all0
  have g_rr_3 : n0 ≤ rr_3 := Nat.le_trans (own_le O0) szr_3
  have z_rr_3 : h0.size ≤ rr_3 := szr_3
  have ne9 : ob ≠ rr_3 := Nat.ne_of_lt (Nat.lt_of_lt_of_le E_o.lt szr_3)
  have ne10 : aa ≠ rr_3 := Nat.ne_of_lt (Nat.lt_of_lt_of_le Va.lt szr_3)
  show Go p e below s _ _ _ (T3.setTop (mkF m 39 #[.val (.ref ob), .val (.ref aa), .val (.int (0 : Int32)), .val (.int (1 : Int32)), .val .null, .unset] [(.ref rr_3)]))
  refine Go.st (fun _ k' => XS.astore X3.here hx rfl (hb hby d3_39) rfl rfl (l' := #[.val (.ref ob), .val (.ref aa), .val (.int (0 : Int32)), .val (.int (1 : Int32)), .val .null, .val (.ref rr_3)]) rfl k') ?_
  show Go p e below s _ _ _ (T3.setTop (mkF m 41 #[.val (.ref ob), .val (.ref aa), .val (.int (0 : Int32)), .val (.int (1 : Int32)), .val .null, .val (.ref rr_3)] []))
  refine Go.st (fun _ k' => XS.aloadN X3.here hx rfl (hb hby d3_41) rfl rfl k') ?_
  show Go p e below s _ _ _ (T3.setTop (mkF m 42 #[.val (.ref ob), .val (.ref aa), .val (.int (0 : Int32)), .val (.int (1 : Int32)), .val .null, .val (.ref rr_3)] [(.ref ob)]))
  refine Go.st (fun _ k' => XS.aload X3.here hx rfl (hb hby d3_42) rfl rfl k') ?_
  show Go p e below s _ _ _ (T3.setTop (mkF m 44 #[.val (.ref ob), .val (.ref aa), .val (.int (0 : Int32)), .val (.int (1 : Int32)), .val .null, .val (.ref rr_3)] [(.ref rr_3), (.ref ob)]))
  refine Go.st (fun _ k' => XS.iloadN X3.here hx rfl (hb hby d3_44) rfl k') ?_
  show Go p e below s _ _ _ (T3.setTop (mkF m 45 #[.val (.ref ob), .val (.ref aa), .val (.int (0 : Int32)), .val (.int (1 : Int32)), .val .null, .val (.ref rr_3)] [(.int (1 : Int32)), (.ref rr_3), (.ref ob)]))
  obtain ⟨_, _, ⟨T11, L11, k11, n11⟩, -, X11, ⟨Lc11, hQ11, l11, y11, z11⟩, st11⟩ := Jvm.LawKit.callS X3 hx (y := (⟨"java/lang/StringUTF16", "coderFromArrayLen", "([BI)B"⟩ : MethodName)) hown (mvT hZ (wdx hw 38 rfl)) (mvT hZ (wdx hw 39 rfl)) (mvT hZ (wdx hw 33 rfl)) (mvT hZ (wdx hw 40 rfl)) (by decide) (backOf (W := 1) (rm7_1 l Z a0 hw [] rr_3 kr_3 (nar .byte (ca.toInt8.toInt32)) T3.heap n0 O3 f4) hZ (wdx hw 40 rfl) (wdx hw 33 rfl) (by decide) (by decide)) (g := (mkF m 45 #[.val (.ref ob), .val (.ref aa), .val (.int (0 : Int32)), .val (.int (1 : Int32)), .val .null, .val (.ref rr_3)] [(.int (1 : Int32)), (.ref rr_3), (.ref ob)])) rfl (by rw [hml]; rfl) (argsL := [(.ref rr_3), (.int (1 : Int32))]) (rest := [(.ref ob)]) (lenOf pd___BI_B rfl) rfl (by show 2 * 0 + _ ≤ _; exact Nat.le_of_eq rfl) (hb hby d3_45) (fun _ _ => ⟨rfl, rfl, (by exact Nat.le_of_ble_eq_true rfl), (by exact Nat.le_of_ble_eq_true rfl)⟩)
  dsimp only [Pt.U, Pt.locs, Pt.cells, Pt.slots] at X11 l11 y11 z11 st11 hQ11
  subst l11 y11 z11
  obtain ⟨rfl, Nq11, eq11⟩ := hQ11
  have N11 := Fr.app N3 Nq11
  refine Go.st st11 ?_
  show Go p e below s _ _ _ (T11.setTop (mkF m 48 #[.val (.ref ob), .val (.ref aa), .val (.int (0 : Int32)), .val (.int (1 : Int32)), .val .null, .val (.ref rr_3)] [(.int (0 : Int32)), (.ref ob)]))
  obtain ⟨T12, h12, X12, e12, W12, st12⟩ := putFN X11 hx hZ hown (wdx hw 29 rfl) Via.refl eq11 f7 f5 (Or.inr ⟨(wdx hw 13 rfl), rfl, hnm⟩) (wdx hw 10 rfl) (ty := .byte) (v' := (.int (0 : Int32))) (by decide) rfl rfl (g := (mkF m 48 #[.val (.ref ob), .val (.ref aa), .val (.int (0 : Int32)), .val (.int (1 : Int32)), .val .null, .val (.ref rr_3)] [(.int (0 : Int32)), (.ref ob)])) rfl rfl (hb hby d3_48)
  refine Go.st st12 ?_
  have f13 : Exa Z h12 ob "java/lang/String" := f5.wr W12
  have f14 : Fld Z h12 ob "java/lang/String" "value" "[B" .null := f6.other W12 (Or.inr (slot_ne (Or.inr (wdx hw 12 rfl)) (Or.inr (wdx hw 13 rfl)) (by decide) (t := (.array .byte)) (t' := .byte) (by decide) (by decide)))
  have f15 : Fld Z h12 ob "java/lang/String" "coder" "B" (.int (0 : Int32)) := f7.same W12
  have f16 : Arv Z h12 aa ka .char (1 : Int32) [(.int ca)] (.int (0 : Int32)) := f8.other W12 (Ne.symm ne_oa)
  have f17 : Arv Z h12 rr_3 kr_3 .byte (1 : Int32) [(.int (nar .byte (ca.toInt8.toInt32)))] (.int (0 : Int32)) := f4.other W12 (Ne.symm ne9)
  have O12 : Old Z n0 h12 := O3.wr W12 g_o
  have N12 := Fr.snoc X12 N11 g_o
  have K12 : Keep h0 h12 [ob] := K3.wr W12 (Or.inl (by simp))
  show Go p e below s _ _ _ (T12.setTop (mkF m 51 #[.val (.ref ob), .val (.ref aa), .val (.int (0 : Int32)), .val (.int (1 : Int32)), .val .null, .val (.ref rr_3)] []))
  refine Go.st (fun _ k' => XS.aloadN X12.here hx rfl (hb hby d3_51) rfl rfl k') ?_
  show Go p e below s _ _ _ (T12.setTop (mkF m 52 #[.val (.ref ob), .val (.ref aa), .val (.int (0 : Int32)), .val (.int (1 : Int32)), .val .null, .val (.ref rr_3)] [(.ref ob)]))
  refine Go.st (fun _ k' => XS.aload X12.here hx rfl (hb hby d3_52) rfl rfl k') ?_
  show Go p e below s _ _ _ (T12.setTop (mkF m 54 #[.val (.ref ob), .val (.ref aa), .val (.int (0 : Int32)), .val (.int (1 : Int32)), .val .null, .val (.ref rr_3)] [(.ref rr_3), (.ref ob)]))
  obtain ⟨T18, h18, X18, e18, W18, st18⟩ := putF X12 hx hZ hown (host := "") (Or.inl (wdx hw 28 rfl)) Via.refl e12 f14 f13 (Or.inr ⟨(wdx hw 12 rfl), rfl, hnm⟩) (wdx hw 10 rfl) (ty := (.array .byte)) (by decide) rfl rfl (g := (mkF m 54 #[.val (.ref ob), .val (.ref aa), .val (.int (0 : Int32)), .val (.int (1 : Int32)), .val .null, .val (.ref rr_3)] [(.ref rr_3), (.ref ob)])) rfl rfl (hb hby d3_54)
  refine Go.st st18 ?_
  have f19 : Exa Z h18 ob "java/lang/String" := f13.wr W18
  have f20 : Fld Z h18 ob "java/lang/String" "value" "[B" (.ref rr_3) := f14.same W18
  have f21 : Fld Z h18 ob "java/lang/String" "coder" "B" (.int (0 : Int32)) := f15.other W18 (Or.inr (slot_ne (Or.inr (wdx hw 13 rfl)) (Or.inr (wdx hw 12 rfl)) (by decide) (t := .byte) (t' := (.array .byte)) (by decide) (by decide)))
  have f22 : Arv Z h18 aa ka .char (1 : Int32) [(.int ca)] (.int (0 : Int32)) := f16.other W18 (Ne.symm ne_oa)
  have f23 : Arv Z h18 rr_3 kr_3 .byte (1 : Int32) [(.int (nar .byte (ca.toInt8.toInt32)))] (.int (0 : Int32)) := f17.other W18 (Ne.symm ne9)
  have O18 : Old Z n0 h18 := O12.wr W18 g_o
  have N18 := Fr.snoc X18 N12 g_o
  have K18 : Keep h0 h18 [ob] := K12.wr W18 (Or.inl (by simp))
  show Go p e below s _ _ _ (T18.setTop (mkF m 57 #[.val (.ref ob), .val (.ref aa), .val (.int (0 : Int32)), .val (.int (1 : Int32)), .val .null, .val (.ref rr_3)] []))
  refine Go.retV X18 hx hlk Bd.returns (hb hby d3_57) (by decide) (by decide) e18 ?_
  exact ⟨rr_3, kr_3, rfl, N18, K18, f20, f21, f23, z_rr_3⟩
theorem d2_0 : decode jdk_42_method_3_code 0 = .ok (.aload_n 0, 1) := by decide +kernel
theorem d2_1 : decode jdk_42_method_3_code 1 = .ok (.aload_n 1, 1) := by decide +kernel
theorem d2_2 : decode jdk_42_method_3_code 2 = .ok (.iconst 0, 1) := by decide +kernel
theorem d2_3 : decode jdk_42_method_3_code 3 = .ok (.aload_n 1, 1) := by decide +kernel
theorem d2_4 : decode jdk_42_method_3_code 4 = .ok (.arraylength, 1) := by decide +kernel
theorem d2_5 : decode jdk_42_method_3_code 5 = .ok (.aconst_null, 1) := by decide +kernel
theorem pd___CIILjava_lang_Void__V : parseMethodDescriptor "([CIILjava/lang/Void;)V" = some ⟨[(.array .char), .int, .int, (.object "java/lang/Void")], none⟩ := by decide +kernel
theorem d2_6 : decode jdk_42_method_3_code 6 = .ok (.invokespecial 27, 3) := by decide +kernel
theorem d2_9 : decode jdk_42_method_3_code 9 = .ok (.return_, 1) := by decide +kernel
theorem ef_rm2_1 (m : MethodId) (ob : Addr) (aa : Addr) : entryFrame m #[(.ref ob), (.ref aa)] 2 = mkF m 0 #[.val (.ref ob), .val (.ref aa)] [] := by first | (simp [entryFrame, mkF, argsToLocals, Value.category]; done) | rfl
def Q2_1 (Z : State) (ob : Addr) (aa : Addr) (ka : ClassId) (cs : Int32) (ca : Int32) (h0 : Heap) (n0 : Nat) (v : Option Value) (h : Heap) (L : List Loc) : Prop := ∃ (tb : Addr) (kt : ClassId), v = none ∧ Fr n0 L ∧ Keep h0 h [ob] ∧ Fld Z h ob "java/lang/String" "value" "[B" (.ref tb) ∧ Fld Z h ob "java/lang/String" "coder" "B" (.int (0 : Int32)) ∧ Arv Z h tb kt .byte (1 : Int32) [(.int (nar .byte (ca.toInt8.toInt32)))] (.int (0 : Int32)) ∧ h0.size ≤ tb
set_option maxRecDepth 65536 in
set_option maxHeartbeats 40000000 in
theorem rm2_1 (l : Launch) (Z : State) (a0 : Array Value) (hw : ∀ d ∈ tables_1, d.before a0 Z = true) (ws : List Jvm.Cond) (ob : Addr) (aa : Addr) (ka : ClassId) (cs : Int32) (ca : Int32) (h0 : Heap) (n0 : Nat) (O0 : Old Z n0 h0) (E_o : Exa Z h0 ob "java/lang/String") (Fv : Fld Z h0 ob "java/lang/String" "value" "[B" .null) (Fc : Fld Z h0 ob "java/lang/String" "coder" "B" (.int (0 : Int32))) (Va : Arv Z h0 aa ka .char (1 : Int32) [(.int ca)] (.int (0 : Int32))) (S_cs : Sta Z Z.heap "java/lang/String" "COMPACT_STRINGS" "Z" (.int cs)) (q_cs : ¬ cs = (0 : Int32)) (q_ca : ¬ (255 : Int32) < ca) (g_o : n0 ≤ ob) (ne_oa : ob ≠ aa) :
    MetFree l (⟨"java/lang/String", "<init>", "([C)V"⟩ : MethodName) (head1 (Jvm.Cond.code (⟨"java/lang/String", "<init>", "([C)V"⟩ : MethodName) jdk_42_method_3_code 2 none :: ws) ({ frames := 3, cells := 1, slots := 1, locals := 52 } : Room)) (fun ay U => ay = #[(.ref ob), (.ref aa)] ∧ Z.Warmed39 U.vm ∧ U.heap = h0) (fun _ _ _ _ _ => True) (fun _ U o U' => ∃ v L, o = .returned v ∧ Q2_1 Z ob aa ka cs ca h0 n0 v U'.heap L ∧ FrameEnd U o U' L ({ frames := 3, cells := 1, slots := 1, locals := 52 } : Room).cells ({ frames := 3, cells := 1, slots := 1, locals := 52 } : Room).slots) := by
  refine MetFree.of_bodySF (plainFor_of_name pn_java_lang_String) hisR ?_
  intro p e s m args below meth c s₁ Bd hml0 hP hK
  obtain ⟨rfl, hZ, hh⟩ := hP
  have hx := Bd.exec
  have hby := Bd.bytes
  have hlk : meth.locks = false := BodyLoose.notSynchronized Bd
  have hml : c.maxLocals = 2 := hml0
  have hown : s.vm.findClass "java/lang/String" = some m.cls := findClass_of_methodNamed Bd.named
  have hnm := (name_of_methodNamed Bd.named Bd.method).1
  have X0 : Stand p l e ({ frames := 3, cells := 1, slots := 1, locals := 52 } : Room) s m #[(.ref ob), (.ref aa)] below meth c s₁ [] 0 0 := Stand.of_body Bd
  have e0 : s₁.heap = h0 := by rw [← hh, Bd.state]; rfl
  have N0 := Fr.nil n0
  suffices hgo : Go p e below s 1 1 (Q2_1 Z ob aa ka cs ca h0 n0) (s₁.setTop (mkF m 0 #[.val (.ref ob), .val (.ref aa)] [])) by
    obtain ⟨t, o, h1, h2⟩ := hgo; exact ⟨t, o, castTop (ef_rm2_1 m ob aa) h1, h2⟩
  show Go p e below s _ _ _ (s₁.setTop (mkF m 0 #[.val (.ref ob), .val (.ref aa)] []))
  refine Go.st (fun _ k' => XS.aloadN X0.here hx rfl (hb hby d2_0) rfl rfl k') ?_
  show Go p e below s _ _ _ (s₁.setTop (mkF m 1 #[.val (.ref ob), .val (.ref aa)] [(.ref ob)]))
  refine Go.st (fun _ k' => XS.aloadN X0.here hx rfl (hb hby d2_1) rfl rfl k') ?_
  show Go p e below s _ _ _ (s₁.setTop (mkF m 2 #[.val (.ref ob), .val (.ref aa)] [(.ref aa), (.ref ob)]))
  refine Go.st (fun _ k' => XS.iconst X0.here hx rfl (hb hby d2_2) k') ?_
  show Go p e below s _ _ _ (s₁.setTop (mkF m 3 #[.val (.ref ob), .val (.ref aa)] [(.int (0 : Int32)), (.ref aa), (.ref ob)]))
  refine Go.st (fun _ k' => XS.aloadN X0.here hx rfl (hb hby d2_3) rfl rfl k') ?_
  show Go p e below s _ _ _ (s₁.setTop (mkF m 4 #[.val (.ref ob), .val (.ref aa)] [(.ref aa), (.int (0 : Int32)), (.ref aa), (.ref ob)]))
  obtain ⟨cl1, Ar1, qc1, Sz1, Nn1, Ha1, Gf1⟩ := id Va
  refine Go.st (fun _ k' => X0.arraylength hx (by rw [e0]; exact Ar1.1) (State.isArrayOf_alike hZ.alike Ar1.2.1) (g := (mkF m 4 #[.val (.ref ob), .val (.ref aa)] [(.ref aa), (.int (0 : Int32)), (.ref aa), (.ref ob)])) rfl rfl (hb hby d2_4) _ k') ?_
  rw [len_of Sz1 Nn1]
  show Go p e below s _ _ _ (s₁.setTop (mkF m 5 #[.val (.ref ob), .val (.ref aa)] [(.int (1 : Int32)), (.int (0 : Int32)), (.ref aa), (.ref ob)]))
  refine Go.st (fun _ k' => XS.aconstNull X0.here hx rfl (hb hby d2_5) k') ?_
  show Go p e below s _ _ _ (s₁.setTop (mkF m 6 #[.val (.ref ob), .val (.ref aa)] [.null, (.int (1 : Int32)), (.int (0 : Int32)), (.ref aa), (.ref ob)]))
  obtain ⟨_, _, ⟨T2, L2, k2, n2⟩, -, X2, ⟨Lc2, hQ2, l2, y2, z2⟩, st2⟩ := X0.specialBack hx (y := (⟨"java/lang/String", "<init>", "([CIILjava/lang/Void;)V"⟩ : MethodName)) rfl hown (mvT hZ (wdx hw 20 rfl)) (mvT hZ (wdx hw 21 rfl)) (mvT hZ (wdx hw 23 rfl)) (by decide) (backOf (W := 0) (rm3_1 l Z a0 hw [] ob aa ka cs ca h0 n0 O0 E_o Fv Fc Va S_cs q_cs q_ca g_o ne_oa) hZ (wdx hw 23 rfl) (wdx hw 9 rfl) (by decide) (by decide)) (g := (mkF m 6 #[.val (.ref ob), .val (.ref aa)] [.null, (.int (1 : Int32)), (.int (0 : Int32)), (.ref aa), (.ref ob)])) rfl (by rw [hml]; rfl) (Steps.refl _) (a := ob) (argsL := [(.ref aa), (.int (0 : Int32)), (.int (1 : Int32)), .null]) (rest := []) (lenOf pd___CIILjava_lang_Void__V rfl) rfl (by show 2 * 0 + _ ≤ _; exact Nat.le_of_eq rfl) (hb hby d2_6) (fun _ _ => ⟨rfl, e0, (by exact Nat.le_of_ble_eq_true rfl), (by exact Nat.le_of_ble_eq_true rfl)⟩)
  dsimp only [Pt.U, Pt.locs, Pt.cells, Pt.slots] at X2 l2 y2 z2 st2 hQ2
  subst l2 y2 z2
  obtain ⟨tb_2, kt_2, rfl, Nq2, Kq2, f3, f4, f5, szt_2⟩ := hQ2
  have N2 := Fr.app N0 Nq2
  refine Go.tr st2 ?_
  have f6 : Exa Z T2.heap ob "java/lang/String" := E_o.keep Kq2
  have f7 : Arv Z T2.heap aa ka .char (1 : Int32) [(.int ca)] (.int (0 : Int32)) := Va.keep Kq2 (ninS (Ne.symm ne_oa) nin0)
  have O2 : Old Z n0 T2.heap := O0.keep Kq2 (allS g_o all0)
  have K2 : Keep h0 T2.heap [ob] := (Keep.refl h0 [ob]).trans Kq2 (allS (Or.inl (by simp)) all0)
  have g_tb_2 : n0 ≤ tb_2 := Nat.le_trans (own_le O0) szt_2
  have z_tb_2 : h0.size ≤ tb_2 := szt_2
  have ne8 : ob ≠ tb_2 := Nat.ne_of_lt (Nat.lt_of_lt_of_le E_o.lt szt_2)
  have ne9 : aa ≠ tb_2 := Nat.ne_of_lt (Nat.lt_of_lt_of_le Va.lt szt_2)
  show Go p e below s _ _ _ (T2.setTop (mkF m 9 #[.val (.ref ob), .val (.ref aa)] []))
  refine Go.retV X2 hx hlk Bd.returns (hb hby d2_9) (by decide) (by decide) rfl ?_
  exact ⟨tb_2, kt_2, rfl, N2, K2, f3, f4, f5, z_tb_2⟩
theorem ef_rm6_2 (m : MethodId) (aa : Addr) (bb : Addr) : entryFrame m #[(.ref aa), (.int (0 : Int32)), (.ref bb), (.int (0 : Int32)), (.int (2 : Int32))] 7 = mkF m 0 #[.val (.ref aa), .val (.int (0 : Int32)), .val (.ref bb), .val (.int (0 : Int32)), .val (.int (2 : Int32)), .unset, .unset] [] := by first | (simp [entryFrame, mkF, argsToLocals, Value.category]; done) | rfl
def Q6_2 (Z : State) (aa : Addr) (bb : Addr) (ka : ClassId) (kb : ClassId) (ca : Int32) (cb : Int32) (h0 : Heap) (n0 : Nat) (v : Option Value) (h : Heap) (L : List Loc) : Prop := v = some (.int (2 : Int32)) ∧ Fr n0 L ∧ Keep h0 h [bb] ∧ Arv Z h bb kb .byte (2 : Int32) [(.int (nar .byte (ca.toInt8.toInt32))), (.int (nar .byte (cb.toInt8.toInt32)))] (.int (0 : Int32))
set_option maxRecDepth 65536 in
set_option maxHeartbeats 40000000 in
theorem rm6_2 (l : Launch) (Z : State) (a0 : Array Value) (hw : ∀ d ∈ tables_1, d.before a0 Z = true) (ws : List Jvm.Cond) (aa : Addr) (bb : Addr) (ka : ClassId) (kb : ClassId) (ca : Int32) (cb : Int32) (h0 : Heap) (n0 : Nat) (O0 : Old Z n0 h0) (Va : Arv Z h0 aa ka .char (2 : Int32) [(.int ca), (.int cb)] (.int (0 : Int32))) (Vb : Arv Z h0 bb kb .byte (2 : Int32) [(.int (0 : Int32)), (.int (0 : Int32))] (.int (0 : Int32))) (q_ca : ¬ (255 : Int32) < ca) (q_cb : ¬ (255 : Int32) < cb) (g_b : n0 ≤ bb) (ne_ab : aa ≠ bb) :
    MetFree l (⟨"java/lang/StringUTF16", "compress", "([CI[BII)I"⟩ : MethodName) (head1 (Jvm.Cond.code (⟨"java/lang/StringUTF16", "compress", "([CI[BII)I"⟩ : MethodName) jdk_52_method_21_code 7 (some .int) :: ws) ({ frames := 0, cells := 0, slots := 0, locals := 0 } : Room)) (fun ay U => ay = #[(.ref aa), (.int (0 : Int32)), (.ref bb), (.int (0 : Int32)), (.int (2 : Int32))] ∧ Z.Warmed39 U.vm ∧ U.heap = h0) (fun _ _ _ _ _ => True) (fun _ U o U' => ∃ v L, o = .returned v ∧ Q6_2 Z aa bb ka kb ca cb h0 n0 v U'.heap L ∧ FrameEnd U o U' L ({ frames := 0, cells := 0, slots := 0, locals := 0 } : Room).cells ({ frames := 0, cells := 0, slots := 0, locals := 0 } : Room).slots) := by
  refine MetFree.of_bodySF (plainFor_of_name pn_java_lang_StringUTF16) hisR ?_
  intro p e s m args below meth c s₁ Bd hml0 hP hK
  obtain ⟨rfl, hZ, hh⟩ := hP
  have hx := Bd.exec
  have hby := Bd.bytes
  have hlk : meth.locks = false := BodyLoose.notSynchronized Bd
  have hml : c.maxLocals = 7 := hml0
  have hown : s.vm.findClass "java/lang/StringUTF16" = some m.cls := findClass_of_methodNamed Bd.named
  have hnm := (name_of_methodNamed Bd.named Bd.method).1
  have X0 : Stand p l e ({ frames := 0, cells := 0, slots := 0, locals := 0 } : Room) s m #[(.ref aa), (.int (0 : Int32)), (.ref bb), (.int (0 : Int32)), (.int (2 : Int32))] below meth c s₁ [] 0 0 := Stand.of_body Bd
  have e0 : s₁.heap = h0 := by rw [← hh, Bd.state]; rfl
  have N0 := Fr.nil n0
  suffices hgo : Go p e below s 0 0 (Q6_2 Z aa bb ka kb ca cb h0 n0) (s₁.setTop (mkF m 0 #[.val (.ref aa), .val (.int (0 : Int32)), .val (.ref bb), .val (.int (0 : Int32)), .val (.int (2 : Int32)), .unset, .unset] [])) by
    obtain ⟨t, o, h1, h2⟩ := hgo; exact ⟨t, o, castTop (ef_rm6_2 m aa bb) h1, h2⟩
  show Go p e below s _ _ _ (s₁.setTop (mkF m 0 #[.val (.ref aa), .val (.int (0 : Int32)), .val (.ref bb), .val (.int (0 : Int32)), .val (.int (2 : Int32)), .unset, .unset] []))
  refine Go.st (fun _ k' => XS.iconst X0.here hx rfl (hb hby d6_0) k') ?_
  show Go p e below s _ _ _ (s₁.setTop (mkF m 1 #[.val (.ref aa), .val (.int (0 : Int32)), .val (.ref bb), .val (.int (0 : Int32)), .val (.int (2 : Int32)), .unset, .unset] [(.int (0 : Int32))]))
  refine Go.st (fun _ k' => XS.istore X0.here hx rfl (hb hby d6_1) rfl (l' := #[.val (.ref aa), .val (.int (0 : Int32)), .val (.ref bb), .val (.int (0 : Int32)), .val (.int (2 : Int32)), .val (.int (0 : Int32)), .unset]) rfl k') ?_
  show Go p e below s _ _ _ (s₁.setTop (mkF m 3 #[.val (.ref aa), .val (.int (0 : Int32)), .val (.ref bb), .val (.int (0 : Int32)), .val (.int (2 : Int32)), .val (.int (0 : Int32)), .unset] []))
  refine Go.st (fun _ k' => XS.iload X0.here hx rfl (hb hby d6_3) rfl k') ?_
  show Go p e below s _ _ _ (s₁.setTop (mkF m 5 #[.val (.ref aa), .val (.int (0 : Int32)), .val (.ref bb), .val (.int (0 : Int32)), .val (.int (2 : Int32)), .val (.int (0 : Int32)), .unset] [(.int (0 : Int32))]))
  refine Go.st (fun _ k' => XS.iload X0.here hx rfl (hb hby d6_5) rfl k') ?_
  show Go p e below s _ _ _ (s₁.setTop (mkF m 7 #[.val (.ref aa), .val (.int (0 : Int32)), .val (.ref bb), .val (.int (0 : Int32)), .val (.int (2 : Int32)), .val (.int (0 : Int32)), .unset] [(.int (2 : Int32)), (.int (0 : Int32))]))
  refine Go.st (fun _ k' => XS.icmpNo X0.here hx rfl (hb hby d6_7) rfl (XT.ii_ge_f (by decide)) k') ?_
  show Go p e below s _ _ _ (s₁.setTop (mkF m 10 #[.val (.ref aa), .val (.int (0 : Int32)), .val (.ref bb), .val (.int (0 : Int32)), .val (.int (2 : Int32)), .val (.int (0 : Int32)), .unset] []))
  refine Go.st (fun _ k' => XS.aloadN X0.here hx rfl (hb hby d6_10) rfl rfl k') ?_
  show Go p e below s _ _ _ (s₁.setTop (mkF m 11 #[.val (.ref aa), .val (.int (0 : Int32)), .val (.ref bb), .val (.int (0 : Int32)), .val (.int (2 : Int32)), .val (.int (0 : Int32)), .unset] [(.ref aa)]))
  refine Go.st (fun _ k' => XS.iloadN X0.here hx rfl (hb hby d6_11) rfl k') ?_
  show Go p e below s _ _ _ (s₁.setTop (mkF m 12 #[.val (.ref aa), .val (.int (0 : Int32)), .val (.ref bb), .val (.int (0 : Int32)), .val (.int (2 : Int32)), .val (.int (0 : Int32)), .unset] [(.int (0 : Int32)), (.ref aa)]))
  obtain ⟨cl1, Ar1, qc1, Sz1, Nn1, Ha1, Gf1⟩ := id Va
  refine Go.st (fun _ k' => X0.caload hx (j := (0 : Int32)) (v := (.int ca)) (by rw [e0]; exact Ar1.1) (State.isArrayOf_alike hZ.alike Ar1.2.1) Ar1.2.2 (inb_of Sz1 ⟨by decide, by decide⟩) (Ha1.at (inb_of Sz1 ⟨by decide, by decide⟩) rfl) (g := (mkF m 12 #[.val (.ref aa), .val (.int (0 : Int32)), .val (.ref bb), .val (.int (0 : Int32)), .val (.int (2 : Int32)), .val (.int (0 : Int32)), .unset] [(.int (0 : Int32)), (.ref aa)])) rfl rfl (hb hby d6_12) _ k') ?_
  show Go p e below s _ _ _ (s₁.setTop (mkF m 13 #[.val (.ref aa), .val (.int (0 : Int32)), .val (.ref bb), .val (.int (0 : Int32)), .val (.int (2 : Int32)), .val (.int (0 : Int32)), .unset] [(.int ca)]))
  refine Go.st (fun _ k' => XS.istore X0.here hx rfl (hb hby d6_13) rfl (l' := #[.val (.ref aa), .val (.int (0 : Int32)), .val (.ref bb), .val (.int (0 : Int32)), .val (.int (2 : Int32)), .val (.int (0 : Int32)), .val (.int ca)]) rfl k') ?_
  show Go p e below s _ _ _ (s₁.setTop (mkF m 15 #[.val (.ref aa), .val (.int (0 : Int32)), .val (.ref bb), .val (.int (0 : Int32)), .val (.int (2 : Int32)), .val (.int (0 : Int32)), .val (.int ca)] []))
  refine Go.st (fun _ k' => XS.iload X0.here hx rfl (hb hby d6_15) rfl k') ?_
  show Go p e below s _ _ _ (s₁.setTop (mkF m 17 #[.val (.ref aa), .val (.int (0 : Int32)), .val (.ref bb), .val (.int (0 : Int32)), .val (.int (2 : Int32)), .val (.int (0 : Int32)), .val (.int ca)] [(.int ca)]))
  refine Go.st (fun _ k' => XS.sipush X0.here hx rfl (hb hby d6_17) k') ?_
  show Go p e below s _ _ _ (s₁.setTop (mkF m 20 #[.val (.ref aa), .val (.int (0 : Int32)), .val (.ref bb), .val (.int (0 : Int32)), .val (.int (2 : Int32)), .val (.int (0 : Int32)), .val (.int ca)] [(.int (255 : Int32)), (.int ca)]))
  refine Go.st (fun _ k' => XS.icmpYes X0.here hx rfl (pc0 := 20) (pc' := 26) rfl (hb hby d6_20) rfl (XT.ii_le_t q_ca) (by decide) (by decide) k') ?_
  show Go p e below s _ _ _ (s₁.setTop (mkF m 26 #[.val (.ref aa), .val (.int (0 : Int32)), .val (.ref bb), .val (.int (0 : Int32)), .val (.int (2 : Int32)), .val (.int (0 : Int32)), .val (.int ca)] []))
  refine Go.st (fun _ k' => XS.aloadN X0.here hx rfl (hb hby d6_26) rfl rfl k') ?_
  show Go p e below s _ _ _ (s₁.setTop (mkF m 27 #[.val (.ref aa), .val (.int (0 : Int32)), .val (.ref bb), .val (.int (0 : Int32)), .val (.int (2 : Int32)), .val (.int (0 : Int32)), .val (.int ca)] [(.ref bb)]))
  refine Go.st (fun _ k' => XS.iloadN X0.here hx rfl (hb hby d6_27) rfl k') ?_
  show Go p e below s _ _ _ (s₁.setTop (mkF m 28 #[.val (.ref aa), .val (.int (0 : Int32)), .val (.ref bb), .val (.int (0 : Int32)), .val (.int (2 : Int32)), .val (.int (0 : Int32)), .val (.int ca)] [(.int (0 : Int32)), (.ref bb)]))
  refine Go.st (fun _ k' => XS.iload X0.here hx rfl (hb hby d6_28) rfl k') ?_
  show Go p e below s _ _ _ (s₁.setTop (mkF m 30 #[.val (.ref aa), .val (.int (0 : Int32)), .val (.ref bb), .val (.int (0 : Int32)), .val (.int (2 : Int32)), .val (.int (0 : Int32)), .val (.int ca)] [(.int ca), (.int (0 : Int32)), (.ref bb)]))
  refine Go.st (fun _ k' => XS.i2b X0.here hx rfl (hb hby d6_30) rfl k') ?_
  show Go p e below s _ _ _ (s₁.setTop (mkF m 31 #[.val (.ref aa), .val (.int (0 : Int32)), .val (.ref bb), .val (.int (0 : Int32)), .val (.int (2 : Int32)), .val (.int (0 : Int32)), .val (.int ca)] [(.int (ca.toInt8.toInt32)), (.int (0 : Int32)), (.ref bb)]))
  obtain ⟨cl2, Ar2, qc2, Sz2, Nn2, Ha2, Gf2⟩ := id Vb
  obtain ⟨T2, h2, X2, e2, W2, st2⟩ := stB X0 hx hZ e0 Ar2 (j := (0 : Int32)) (inb_of Sz2 ⟨by decide, by decide⟩) (g := (mkF m 31 #[.val (.ref aa), .val (.int (0 : Int32)), .val (.ref bb), .val (.int (0 : Int32)), .val (.int (2 : Int32)), .val (.int (0 : Int32)), .val (.int ca)] [(.int (ca.toInt8.toInt32)), (.int (0 : Int32)), (.ref bb)])) rfl rfl (hb hby d6_31)
  refine Go.st st2 ?_
  have f4 : Arv Z h2 aa ka .char (2 : Int32) [(.int ca), (.int cb)] (.int (0 : Int32)) := Va.other W2 ne_ab
  have O2 : Old Z n0 h2 := O0.wr W2 g_b
  have N2 := Fr.snoc X2 N0 g_b
  have K2 : Keep h0 h2 [bb] := (Keep.refl h0 [bb]).wr W2 (Or.inl (by simp))
  have f3 : Arv Z h2 bb kb .byte (2 : Int32) [(.int (nar .byte (ca.toInt8.toInt32))), (.int (0 : Int32))] (.int (0 : Int32)) := Arv.set Ar2 qc2 Sz2 Nn2 Ha2 Gf2 (fits_nar_byte _) W2 0 rfl (Nat.le_of_ble_eq_true rfl)
  show Go p e below s _ _ _ (T2.setTop (mkF m 32 #[.val (.ref aa), .val (.int (0 : Int32)), .val (.ref bb), .val (.int (0 : Int32)), .val (.int (2 : Int32)), .val (.int (0 : Int32)), .val (.int ca)] []))
  refine Go.st (fun _ k' => XS.iinc X2.here hx rfl (hb hby d6_32) rfl (l' := #[.val (.ref aa), .val (.int (1 : Int32)), .val (.ref bb), .val (.int (0 : Int32)), .val (.int (2 : Int32)), .val (.int (0 : Int32)), .val (.int ca)]) rfl k') ?_
  show Go p e below s _ _ _ (T2.setTop (mkF m 35 #[.val (.ref aa), .val (.int (1 : Int32)), .val (.ref bb), .val (.int (0 : Int32)), .val (.int (2 : Int32)), .val (.int (0 : Int32)), .val (.int ca)] []))
  refine Go.st (fun _ k' => XS.iinc X2.here hx rfl (hb hby d6_35) rfl (l' := #[.val (.ref aa), .val (.int (1 : Int32)), .val (.ref bb), .val (.int (1 : Int32)), .val (.int (2 : Int32)), .val (.int (0 : Int32)), .val (.int ca)]) rfl k') ?_
  show Go p e below s _ _ _ (T2.setTop (mkF m 38 #[.val (.ref aa), .val (.int (1 : Int32)), .val (.ref bb), .val (.int (1 : Int32)), .val (.int (2 : Int32)), .val (.int (0 : Int32)), .val (.int ca)] []))
  refine Go.st (fun _ k' => XS.iinc X2.here hx rfl (hb hby d6_38) rfl (l' := #[.val (.ref aa), .val (.int (1 : Int32)), .val (.ref bb), .val (.int (1 : Int32)), .val (.int (2 : Int32)), .val (.int (1 : Int32)), .val (.int ca)]) rfl k') ?_
  show Go p e below s _ _ _ (T2.setTop (mkF m 41 #[.val (.ref aa), .val (.int (1 : Int32)), .val (.ref bb), .val (.int (1 : Int32)), .val (.int (2 : Int32)), .val (.int (1 : Int32)), .val (.int ca)] []))
  refine Go.st (fun _ k' => XS.goto X2.here hx rfl (pc0 := 41) (pc' := 3) rfl (hb hby d6_41) (by decide) (by decide) k') ?_
  show Go p e below s _ _ _ (T2.setTop (mkF m 3 #[.val (.ref aa), .val (.int (1 : Int32)), .val (.ref bb), .val (.int (1 : Int32)), .val (.int (2 : Int32)), .val (.int (1 : Int32)), .val (.int ca)] []))
  refine Go.st (fun _ k' => XS.iload X2.here hx rfl (hb hby d6_3) rfl k') ?_
  show Go p e below s _ _ _ (T2.setTop (mkF m 5 #[.val (.ref aa), .val (.int (1 : Int32)), .val (.ref bb), .val (.int (1 : Int32)), .val (.int (2 : Int32)), .val (.int (1 : Int32)), .val (.int ca)] [(.int (1 : Int32))]))
  refine Go.st (fun _ k' => XS.iload X2.here hx rfl (hb hby d6_5) rfl k') ?_
  show Go p e below s _ _ _ (T2.setTop (mkF m 7 #[.val (.ref aa), .val (.int (1 : Int32)), .val (.ref bb), .val (.int (1 : Int32)), .val (.int (2 : Int32)), .val (.int (1 : Int32)), .val (.int ca)] [(.int (2 : Int32)), (.int (1 : Int32))]))
  refine Go.st (fun _ k' => XS.icmpNo X2.here hx rfl (hb hby d6_7) rfl (XT.ii_ge_f (by decide)) k') ?_
  show Go p e below s _ _ _ (T2.setTop (mkF m 10 #[.val (.ref aa), .val (.int (1 : Int32)), .val (.ref bb), .val (.int (1 : Int32)), .val (.int (2 : Int32)), .val (.int (1 : Int32)), .val (.int ca)] []))
  refine Go.st (fun _ k' => XS.aloadN X2.here hx rfl (hb hby d6_10) rfl rfl k') ?_
  show Go p e below s _ _ _ (T2.setTop (mkF m 11 #[.val (.ref aa), .val (.int (1 : Int32)), .val (.ref bb), .val (.int (1 : Int32)), .val (.int (2 : Int32)), .val (.int (1 : Int32)), .val (.int ca)] [(.ref aa)]))
  refine Go.st (fun _ k' => XS.iloadN X2.here hx rfl (hb hby d6_11) rfl k') ?_
  show Go p e below s _ _ _ (T2.setTop (mkF m 12 #[.val (.ref aa), .val (.int (1 : Int32)), .val (.ref bb), .val (.int (1 : Int32)), .val (.int (2 : Int32)), .val (.int (1 : Int32)), .val (.int ca)] [(.int (1 : Int32)), (.ref aa)]))
  obtain ⟨cl5, Ar5, qc5, Sz5, Nn5, Ha5, Gf5⟩ := id f4
  refine Go.st (fun _ k' => X2.caload hx (j := (1 : Int32)) (v := (.int cb)) (by rw [e2]; exact Ar5.1) (State.isArrayOf_alike hZ.alike Ar5.2.1) Ar5.2.2 (inb_of Sz5 ⟨by decide, by decide⟩) (Ha5.at (inb_of Sz5 ⟨by decide, by decide⟩) rfl) (g := (mkF m 12 #[.val (.ref aa), .val (.int (1 : Int32)), .val (.ref bb), .val (.int (1 : Int32)), .val (.int (2 : Int32)), .val (.int (1 : Int32)), .val (.int ca)] [(.int (1 : Int32)), (.ref aa)])) rfl rfl (hb hby d6_12) _ k') ?_
  show Go p e below s _ _ _ (T2.setTop (mkF m 13 #[.val (.ref aa), .val (.int (1 : Int32)), .val (.ref bb), .val (.int (1 : Int32)), .val (.int (2 : Int32)), .val (.int (1 : Int32)), .val (.int ca)] [(.int cb)]))
  refine Go.st (fun _ k' => XS.istore X2.here hx rfl (hb hby d6_13) rfl (l' := #[.val (.ref aa), .val (.int (1 : Int32)), .val (.ref bb), .val (.int (1 : Int32)), .val (.int (2 : Int32)), .val (.int (1 : Int32)), .val (.int cb)]) rfl k') ?_
  show Go p e below s _ _ _ (T2.setTop (mkF m 15 #[.val (.ref aa), .val (.int (1 : Int32)), .val (.ref bb), .val (.int (1 : Int32)), .val (.int (2 : Int32)), .val (.int (1 : Int32)), .val (.int cb)] []))
  refine Go.st (fun _ k' => XS.iload X2.here hx rfl (hb hby d6_15) rfl k') ?_
  show Go p e below s _ _ _ (T2.setTop (mkF m 17 #[.val (.ref aa), .val (.int (1 : Int32)), .val (.ref bb), .val (.int (1 : Int32)), .val (.int (2 : Int32)), .val (.int (1 : Int32)), .val (.int cb)] [(.int cb)]))
  refine Go.st (fun _ k' => XS.sipush X2.here hx rfl (hb hby d6_17) k') ?_
  show Go p e below s _ _ _ (T2.setTop (mkF m 20 #[.val (.ref aa), .val (.int (1 : Int32)), .val (.ref bb), .val (.int (1 : Int32)), .val (.int (2 : Int32)), .val (.int (1 : Int32)), .val (.int cb)] [(.int (255 : Int32)), (.int cb)]))
  refine Go.st (fun _ k' => XS.icmpYes X2.here hx rfl (pc0 := 20) (pc' := 26) rfl (hb hby d6_20) rfl (XT.ii_le_t q_cb) (by decide) (by decide) k') ?_
  show Go p e below s _ _ _ (T2.setTop (mkF m 26 #[.val (.ref aa), .val (.int (1 : Int32)), .val (.ref bb), .val (.int (1 : Int32)), .val (.int (2 : Int32)), .val (.int (1 : Int32)), .val (.int cb)] []))
  refine Go.st (fun _ k' => XS.aloadN X2.here hx rfl (hb hby d6_26) rfl rfl k') ?_
  show Go p e below s _ _ _ (T2.setTop (mkF m 27 #[.val (.ref aa), .val (.int (1 : Int32)), .val (.ref bb), .val (.int (1 : Int32)), .val (.int (2 : Int32)), .val (.int (1 : Int32)), .val (.int cb)] [(.ref bb)]))
  refine Go.st (fun _ k' => XS.iloadN X2.here hx rfl (hb hby d6_27) rfl k') ?_
  show Go p e below s _ _ _ (T2.setTop (mkF m 28 #[.val (.ref aa), .val (.int (1 : Int32)), .val (.ref bb), .val (.int (1 : Int32)), .val (.int (2 : Int32)), .val (.int (1 : Int32)), .val (.int cb)] [(.int (1 : Int32)), (.ref bb)]))
  refine Go.st (fun _ k' => XS.iload X2.here hx rfl (hb hby d6_28) rfl k') ?_
  show Go p e below s _ _ _ (T2.setTop (mkF m 30 #[.val (.ref aa), .val (.int (1 : Int32)), .val (.ref bb), .val (.int (1 : Int32)), .val (.int (2 : Int32)), .val (.int (1 : Int32)), .val (.int cb)] [(.int cb), (.int (1 : Int32)), (.ref bb)]))
  refine Go.st (fun _ k' => XS.i2b X2.here hx rfl (hb hby d6_30) rfl k') ?_
  show Go p e below s _ _ _ (T2.setTop (mkF m 31 #[.val (.ref aa), .val (.int (1 : Int32)), .val (.ref bb), .val (.int (1 : Int32)), .val (.int (2 : Int32)), .val (.int (1 : Int32)), .val (.int cb)] [(.int (cb.toInt8.toInt32)), (.int (1 : Int32)), (.ref bb)]))
  obtain ⟨cl6, Ar6, qc6, Sz6, Nn6, Ha6, Gf6⟩ := id f3
  obtain ⟨T6, h6, X6, e6, W6, st6⟩ := stB X2 hx hZ e2 Ar6 (j := (1 : Int32)) (inb_of Sz6 ⟨by decide, by decide⟩) (g := (mkF m 31 #[.val (.ref aa), .val (.int (1 : Int32)), .val (.ref bb), .val (.int (1 : Int32)), .val (.int (2 : Int32)), .val (.int (1 : Int32)), .val (.int cb)] [(.int (cb.toInt8.toInt32)), (.int (1 : Int32)), (.ref bb)])) rfl rfl (hb hby d6_31)
  refine Go.st st6 ?_
  have f8 : Arv Z h6 aa ka .char (2 : Int32) [(.int ca), (.int cb)] (.int (0 : Int32)) := f4.other W6 ne_ab
  have O6 : Old Z n0 h6 := O2.wr W6 g_b
  have N6 := Fr.snoc X6 N2 g_b
  have K6 : Keep h0 h6 [bb] := K2.wr W6 (Or.inl (by simp))
  have f7 : Arv Z h6 bb kb .byte (2 : Int32) [(.int (nar .byte (ca.toInt8.toInt32))), (.int (nar .byte (cb.toInt8.toInt32)))] (.int (0 : Int32)) := Arv.set Ar6 qc6 Sz6 Nn6 Ha6 Gf6 (fits_nar_byte _) W6 1 rfl (Nat.le_of_ble_eq_true rfl)
  show Go p e below s _ _ _ (T6.setTop (mkF m 32 #[.val (.ref aa), .val (.int (1 : Int32)), .val (.ref bb), .val (.int (1 : Int32)), .val (.int (2 : Int32)), .val (.int (1 : Int32)), .val (.int cb)] []))
  refine Go.st (fun _ k' => XS.iinc X6.here hx rfl (hb hby d6_32) rfl (l' := #[.val (.ref aa), .val (.int (2 : Int32)), .val (.ref bb), .val (.int (1 : Int32)), .val (.int (2 : Int32)), .val (.int (1 : Int32)), .val (.int cb)]) rfl k') ?_
  show Go p e below s _ _ _ (T6.setTop (mkF m 35 #[.val (.ref aa), .val (.int (2 : Int32)), .val (.ref bb), .val (.int (1 : Int32)), .val (.int (2 : Int32)), .val (.int (1 : Int32)), .val (.int cb)] []))
  refine Go.st (fun _ k' => XS.iinc X6.here hx rfl (hb hby d6_35) rfl (l' := #[.val (.ref aa), .val (.int (2 : Int32)), .val (.ref bb), .val (.int (2 : Int32)), .val (.int (2 : Int32)), .val (.int (1 : Int32)), .val (.int cb)]) rfl k') ?_
  show Go p e below s _ _ _ (T6.setTop (mkF m 38 #[.val (.ref aa), .val (.int (2 : Int32)), .val (.ref bb), .val (.int (2 : Int32)), .val (.int (2 : Int32)), .val (.int (1 : Int32)), .val (.int cb)] []))
  refine Go.st (fun _ k' => XS.iinc X6.here hx rfl (hb hby d6_38) rfl (l' := #[.val (.ref aa), .val (.int (2 : Int32)), .val (.ref bb), .val (.int (2 : Int32)), .val (.int (2 : Int32)), .val (.int (2 : Int32)), .val (.int cb)]) rfl k') ?_
  show Go p e below s _ _ _ (T6.setTop (mkF m 41 #[.val (.ref aa), .val (.int (2 : Int32)), .val (.ref bb), .val (.int (2 : Int32)), .val (.int (2 : Int32)), .val (.int (2 : Int32)), .val (.int cb)] []))
  refine Go.st (fun _ k' => XS.goto X6.here hx rfl (pc0 := 41) (pc' := 3) rfl (hb hby d6_41) (by decide) (by decide) k') ?_
  show Go p e below s _ _ _ (T6.setTop (mkF m 3 #[.val (.ref aa), .val (.int (2 : Int32)), .val (.ref bb), .val (.int (2 : Int32)), .val (.int (2 : Int32)), .val (.int (2 : Int32)), .val (.int cb)] []))
  refine Go.st (fun _ k' => XS.iload X6.here hx rfl (hb hby d6_3) rfl k') ?_
  show Go p e below s _ _ _ (T6.setTop (mkF m 5 #[.val (.ref aa), .val (.int (2 : Int32)), .val (.ref bb), .val (.int (2 : Int32)), .val (.int (2 : Int32)), .val (.int (2 : Int32)), .val (.int cb)] [(.int (2 : Int32))]))
  refine Go.st (fun _ k' => XS.iload X6.here hx rfl (hb hby d6_5) rfl k') ?_
  show Go p e below s _ _ _ (T6.setTop (mkF m 7 #[.val (.ref aa), .val (.int (2 : Int32)), .val (.ref bb), .val (.int (2 : Int32)), .val (.int (2 : Int32)), .val (.int (2 : Int32)), .val (.int cb)] [(.int (2 : Int32)), (.int (2 : Int32))]))
  refine Go.st (fun _ k' => XS.icmpYes X6.here hx rfl (pc0 := 7) (pc' := 44) rfl (hb hby d6_7) rfl (XT.ii_ge_t (by decide)) (by decide) (by decide) k') ?_
  show Go p e below s _ _ _ (T6.setTop (mkF m 44 #[.val (.ref aa), .val (.int (2 : Int32)), .val (.ref bb), .val (.int (2 : Int32)), .val (.int (2 : Int32)), .val (.int (2 : Int32)), .val (.int cb)] []))
  refine Go.st (fun _ k' => XS.iload X6.here hx rfl (hb hby d6_44) rfl k') ?_
  show Go p e below s _ _ _ (T6.setTop (mkF m 46 #[.val (.ref aa), .val (.int (2 : Int32)), .val (.ref bb), .val (.int (2 : Int32)), .val (.int (2 : Int32)), .val (.int (2 : Int32)), .val (.int cb)] [(.int (2 : Int32))]))
  refine Go.ret X6 hx hlk (t := .int) Bd.returns rfl (Or.inl ⟨rfl, Or.inl rfl, _, rfl⟩) (hb hby d6_46) (by decide) (by decide) e6 ?_
  exact ⟨rfl, N6, K6, f7⟩
theorem ef_rm5_2 (m : MethodId) (aa : Addr) : entryFrame m #[(.ref aa), (.int (0 : Int32)), (.int (2 : Int32))] 6 = mkF m 0 #[.val (.ref aa), .val (.int (0 : Int32)), .val (.int (2 : Int32)), .unset, .unset, .unset] [] := by first | (simp [entryFrame, mkF, argsToLocals, Value.category]; done) | rfl
def Q5_2 (Z : State) (aa : Addr) (ka : ClassId) (ca : Int32) (cb : Int32) (h0 : Heap) (n0 : Nat) (v : Option Value) (h : Heap) (L : List Loc) : Prop := ∃ (rr : Addr) (kr : ClassId), v = some (.ref rr) ∧ Fr n0 L ∧ Keep h0 h [] ∧ Arv Z h rr kr .byte (2 : Int32) [(.int (nar .byte (ca.toInt8.toInt32))), (.int (nar .byte (cb.toInt8.toInt32)))] (.int (0 : Int32)) ∧ h0.size ≤ rr
set_option maxRecDepth 65536 in
set_option maxHeartbeats 40000000 in
theorem rm5_2 (l : Launch) (Z : State) (a0 : Array Value) (hw : ∀ d ∈ tables_1, d.before a0 Z = true) (ws : List Jvm.Cond) (aa : Addr) (ka : ClassId) (ca : Int32) (cb : Int32) (h0 : Heap) (n0 : Nat) (O0 : Old Z n0 h0) (Va : Arv Z h0 aa ka .char (2 : Int32) [(.int ca), (.int cb)] (.int (0 : Int32))) (q_ca : ¬ (255 : Int32) < ca) (q_cb : ¬ (255 : Int32) < cb) :
    MetFree l (⟨"java/lang/StringUTF16", "compress", "([CII)[B"⟩ : MethodName) (head1 (Jvm.Cond.code (⟨"java/lang/StringUTF16", "compress", "([CII)[B"⟩ : MethodName) jdk_52_method_16_code 6 (some (.array .byte)) :: ws) ({ frames := 1, cells := 1, slots := 2, locals := 18 } : Room)) (fun ay U => ay = #[(.ref aa), (.int (0 : Int32)), (.int (2 : Int32))] ∧ Z.Warmed39 U.vm ∧ U.heap = h0) (fun _ _ _ _ _ => True) (fun _ U o U' => ∃ v L, o = .returned v ∧ Q5_2 Z aa ka ca cb h0 n0 v U'.heap L ∧ FrameEnd U o U' L ({ frames := 1, cells := 1, slots := 2, locals := 18 } : Room).cells ({ frames := 1, cells := 1, slots := 2, locals := 18 } : Room).slots) := by
  refine MetFree.of_bodySF (plainFor_of_name pn_java_lang_StringUTF16) hisR ?_
  intro p e s m args below meth c s₁ Bd hml0 hP hK
  obtain ⟨rfl, hZ, hh⟩ := hP
  have hx := Bd.exec
  have hby := Bd.bytes
  have hlk : meth.locks = false := BodyLoose.notSynchronized Bd
  have hml : c.maxLocals = 6 := hml0
  have hown : s.vm.findClass "java/lang/StringUTF16" = some m.cls := findClass_of_methodNamed Bd.named
  have hnm := (name_of_methodNamed Bd.named Bd.method).1
  have X0 : Stand p l e ({ frames := 1, cells := 1, slots := 2, locals := 18 } : Room) s m #[(.ref aa), (.int (0 : Int32)), (.int (2 : Int32))] below meth c s₁ [] 0 0 := Stand.of_body Bd
  have e0 : s₁.heap = h0 := by rw [← hh, Bd.state]; rfl
  have N0 := Fr.nil n0
  suffices hgo : Go p e below s 1 2 (Q5_2 Z aa ka ca cb h0 n0) (s₁.setTop (mkF m 0 #[.val (.ref aa), .val (.int (0 : Int32)), .val (.int (2 : Int32)), .unset, .unset, .unset] [])) by
    obtain ⟨t, o, h1, h2⟩ := hgo; exact ⟨t, o, castTop (ef_rm5_2 m aa) h1, h2⟩
  show Go p e below s _ _ _ (s₁.setTop (mkF m 0 #[.val (.ref aa), .val (.int (0 : Int32)), .val (.int (2 : Int32)), .unset, .unset, .unset] []))
  refine Go.st (fun _ k' => XS.iloadN X0.here hx rfl (hb hby d5_0) rfl k') ?_
  show Go p e below s _ _ _ (s₁.setTop (mkF m 1 #[.val (.ref aa), .val (.int (0 : Int32)), .val (.int (2 : Int32)), .unset, .unset, .unset] [(.int (2 : Int32))]))
  obtain ⟨T1, h1, k1, X1, e1, E1, A1, st1⟩ := newP X0 hx hZ (wdx hw 11 rfl) e0 (g := (mkF m 1 #[.val (.ref aa), .val (.int (0 : Int32)), .val (.int (2 : Int32)), .unset, .unset, .unset] [(.int (2 : Int32))])) rfl (hb hby d5_1) rfl (by decide) (cap := 2) (by decide) (by decide) (by decide) (by decide)
  obtain ⟨b1, g1⟩ : ∃ z, z = h0.size := ⟨_, rfl⟩
  rw [← g1] at A1 st1
  refine Go.st st1 ?_
  have g_b1 : n0 ≤ b1 := Nat.le_trans (own_le O0) (Nat.le_of_eq g1.symm)
  have z_b1 : h0.size ≤ b1 := Nat.le_of_eq g1.symm
  have ne2 : aa ≠ b1 := Nat.ne_of_lt (Nat.lt_of_lt_of_le Va.lt (Nat.le_of_eq g1.symm))
  have f3 : Arv Z h1 aa ka .char (2 : Int32) [(.int ca), (.int cb)] (.int (0 : Int32)) := Va.ext E1
  have O1 : Old Z n0 h1 := O0.ext E1
  have K1 : Keep h0 h1 [] := (Keep.refl h0 []).ext E1
  have f4 : Arv Z h1 b1 k1 .byte (2 : Int32) [(.int (0 : Int32)), (.int (0 : Int32))] (.int (0 : Int32)) := (Arv.new A1 (by decide)).pad (pad_rep [] (.int (0 : Int32)) 2)
  show Go p e below s _ _ _ (T1.setTop (mkF m 3 #[.val (.ref aa), .val (.int (0 : Int32)), .val (.int (2 : Int32)), .unset, .unset, .unset] [(.ref b1)]))
  refine Go.st (fun _ k' => XS.astoreN X1.here hx rfl (hb hby d5_3) rfl rfl (l' := #[.val (.ref aa), .val (.int (0 : Int32)), .val (.int (2 : Int32)), .val (.ref b1), .unset, .unset]) rfl k') ?_
  show Go p e below s _ _ _ (T1.setTop (mkF m 4 #[.val (.ref aa), .val (.int (0 : Int32)), .val (.int (2 : Int32)), .val (.ref b1), .unset, .unset] []))
  refine Go.st (fun _ k' => XS.aloadN X1.here hx rfl (hb hby d5_4) rfl rfl k') ?_
  show Go p e below s _ _ _ (T1.setTop (mkF m 5 #[.val (.ref aa), .val (.int (0 : Int32)), .val (.int (2 : Int32)), .val (.ref b1), .unset, .unset] [(.ref aa)]))
  refine Go.st (fun _ k' => XS.iloadN X1.here hx rfl (hb hby d5_5) rfl k') ?_
  show Go p e below s _ _ _ (T1.setTop (mkF m 6 #[.val (.ref aa), .val (.int (0 : Int32)), .val (.int (2 : Int32)), .val (.ref b1), .unset, .unset] [(.int (0 : Int32)), (.ref aa)]))
  refine Go.st (fun _ k' => XS.aloadN X1.here hx rfl (hb hby d5_6) rfl rfl k') ?_
  show Go p e below s _ _ _ (T1.setTop (mkF m 7 #[.val (.ref aa), .val (.int (0 : Int32)), .val (.int (2 : Int32)), .val (.ref b1), .unset, .unset] [(.ref b1), (.int (0 : Int32)), (.ref aa)]))
  refine Go.st (fun _ k' => XS.iconst X1.here hx rfl (hb hby d5_7) k') ?_
  show Go p e below s _ _ _ (T1.setTop (mkF m 8 #[.val (.ref aa), .val (.int (0 : Int32)), .val (.int (2 : Int32)), .val (.ref b1), .unset, .unset] [(.int (0 : Int32)), (.ref b1), (.int (0 : Int32)), (.ref aa)]))
  refine Go.st (fun _ k' => XS.iloadN X1.here hx rfl (hb hby d5_8) rfl k') ?_
  show Go p e below s _ _ _ (T1.setTop (mkF m 9 #[.val (.ref aa), .val (.int (0 : Int32)), .val (.int (2 : Int32)), .val (.ref b1), .unset, .unset] [(.int (2 : Int32)), (.int (0 : Int32)), (.ref b1), (.int (0 : Int32)), (.ref aa)]))
  obtain ⟨_, _, ⟨T5, L5, k5, n5⟩, -, X5, ⟨Lc5, hQ5, l5, y5, z5⟩, st5⟩ := Jvm.LawKit.callS X1 hx (y := (⟨"java/lang/StringUTF16", "compress", "([CI[BII)I"⟩ : MethodName)) hown (mvT hZ (wdx hw 35 rfl)) (mvT hZ (wdx hw 36 rfl)) (mvT hZ (wdx hw 33 rfl)) (mvT hZ (wdx hw 37 rfl)) (by decide) (backOf (W := 0) (rm6_2 l Z a0 hw [] aa b1 ka k1 ca cb h1 n0 O1 f3 f4 q_ca q_cb g_b1 ne2) hZ (wdx hw 37 rfl) (wdx hw 33 rfl) (by decide) (by decide)) (g := (mkF m 9 #[.val (.ref aa), .val (.int (0 : Int32)), .val (.int (2 : Int32)), .val (.ref b1), .unset, .unset] [(.int (2 : Int32)), (.int (0 : Int32)), (.ref b1), (.int (0 : Int32)), (.ref aa)])) rfl (by rw [hml]; rfl) (argsL := [(.ref aa), (.int (0 : Int32)), (.ref b1), (.int (0 : Int32)), (.int (2 : Int32))]) (rest := []) (lenOf pd___CI_BII_I rfl) rfl (by show 2 * 0 + _ ≤ _; exact Nat.le_of_eq rfl) (hb hby d5_9) (fun _ _ => ⟨rfl, e1, (by exact Nat.le_of_ble_eq_true rfl), (by exact Nat.le_of_ble_eq_true rfl)⟩)
  dsimp only [Pt.U, Pt.locs, Pt.cells, Pt.slots] at X5 l5 y5 z5 st5 hQ5
  subst l5 y5 z5
  obtain ⟨rfl, Nq5, Kq5, f6⟩ := hQ5
  have N5 := Fr.app N0 Nq5
  refine Go.st st5 ?_
  have f7 : Arv Z T5.heap aa ka .char (2 : Int32) [(.int ca), (.int cb)] (.int (0 : Int32)) := f3.keep Kq5 (ninS ne2 nin0)
  have O5 : Old Z n0 T5.heap := O1.keep Kq5 (allS g_b1 all0)
  have K5 : Keep h0 T5.heap [] := K1.trans Kq5 (allS (Or.inr z_b1) all0)
  show Go p e below s _ _ _ (T5.setTop (mkF m 12 #[.val (.ref aa), .val (.int (0 : Int32)), .val (.int (2 : Int32)), .val (.ref b1), .unset, .unset] [(.int (2 : Int32))]))
  refine Go.st (fun _ k' => XS.istore X5.here hx rfl (hb hby d5_12) rfl (l' := #[.val (.ref aa), .val (.int (0 : Int32)), .val (.int (2 : Int32)), .val (.ref b1), .val (.int (2 : Int32)), .unset]) rfl k') ?_
  show Go p e below s _ _ _ (T5.setTop (mkF m 14 #[.val (.ref aa), .val (.int (0 : Int32)), .val (.int (2 : Int32)), .val (.ref b1), .val (.int (2 : Int32)), .unset] []))
  refine Go.st (fun _ k' => XS.iload X5.here hx rfl (hb hby d5_14) rfl k') ?_
  show Go p e below s _ _ _ (T5.setTop (mkF m 16 #[.val (.ref aa), .val (.int (0 : Int32)), .val (.int (2 : Int32)), .val (.ref b1), .val (.int (2 : Int32)), .unset] [(.int (2 : Int32))]))
  refine Go.st (fun _ k' => XS.iloadN X5.here hx rfl (hb hby d5_16) rfl k') ?_
  show Go p e below s _ _ _ (T5.setTop (mkF m 17 #[.val (.ref aa), .val (.int (0 : Int32)), .val (.int (2 : Int32)), .val (.ref b1), .val (.int (2 : Int32)), .unset] [(.int (2 : Int32)), (.int (2 : Int32))]))
  refine Go.st (fun _ k' => XS.icmpYes X5.here hx rfl (pc0 := 17) (pc' := 57) rfl (hb hby d5_17) rfl (XT.ii_eq_t (by decide)) (by decide) (by decide) k') ?_
  show Go p e below s _ _ _ (T5.setTop (mkF m 57 #[.val (.ref aa), .val (.int (0 : Int32)), .val (.int (2 : Int32)), .val (.ref b1), .val (.int (2 : Int32)), .unset] []))
  refine Go.st (fun _ k' => XS.aloadN X5.here hx rfl (hb hby d5_57) rfl rfl k') ?_
  show Go p e below s _ _ _ (T5.setTop (mkF m 58 #[.val (.ref aa), .val (.int (0 : Int32)), .val (.int (2 : Int32)), .val (.ref b1), .val (.int (2 : Int32)), .unset] [(.ref b1)]))
  refine Go.ret X5 hx hlk (t := (.array .byte)) Bd.returns rfl (Or.inr (Or.inr (Or.inr (Or.inr ⟨rfl, rfl, rfl⟩)))) (hb hby d5_58) (by decide) (by decide) rfl ?_
  exact ⟨b1, k1, rfl, N5, K5, f6, z_b1⟩
theorem ef_rm7_2 (m : MethodId) (bb : Addr) : entryFrame m #[(.ref bb), (.int (2 : Int32))] 2 = mkF m 0 #[.val (.ref bb), .val (.int (2 : Int32))] [] := by first | (simp [entryFrame, mkF, argsToLocals, Value.category]; done) | rfl
def Q7_2 (Z : State) (bb : Addr) (kb : ClassId) (ca : Int32) (cb : Int32) (h0 : Heap) (n0 : Nat) (v : Option Value) (h : Heap) (L : List Loc) : Prop := v = some (.int (0 : Int32)) ∧ Fr n0 L ∧ h = h0
set_option maxRecDepth 65536 in
set_option maxHeartbeats 40000000 in
theorem rm7_2 (l : Launch) (Z : State) (a0 : Array Value) (hw : ∀ d ∈ tables_1, d.before a0 Z = true) (ws : List Jvm.Cond) (bb : Addr) (kb : ClassId) (ca : Int32) (cb : Int32) (h0 : Heap) (n0 : Nat) (O0 : Old Z n0 h0) (Vb : Arv Z h0 bb kb .byte (2 : Int32) [(.int ca), (.int cb)] (.int (0 : Int32))) :
    MetFree l (⟨"java/lang/StringUTF16", "coderFromArrayLen", "([BI)B"⟩ : MethodName) (head1 (Jvm.Cond.code (⟨"java/lang/StringUTF16", "coderFromArrayLen", "([BI)B"⟩ : MethodName) jdk_52_method_15_code 2 (some .byte) :: ws) ({ frames := 0, cells := 0, slots := 0, locals := 0 } : Room)) (fun ay U => ay = #[(.ref bb), (.int (2 : Int32))] ∧ Z.Warmed39 U.vm ∧ U.heap = h0) (fun _ _ _ _ _ => True) (fun _ U o U' => ∃ v L, o = .returned v ∧ Q7_2 Z bb kb ca cb h0 n0 v U'.heap L ∧ FrameEnd U o U' L ({ frames := 0, cells := 0, slots := 0, locals := 0 } : Room).cells ({ frames := 0, cells := 0, slots := 0, locals := 0 } : Room).slots) := by
  refine MetFree.of_bodySF (plainFor_of_name pn_java_lang_StringUTF16) hisR ?_
  intro p e s m args below meth c s₁ Bd hml0 hP hK
  obtain ⟨rfl, hZ, hh⟩ := hP
  have hx := Bd.exec
  have hby := Bd.bytes
  have hlk : meth.locks = false := BodyLoose.notSynchronized Bd
  have hml : c.maxLocals = 2 := hml0
  have hown : s.vm.findClass "java/lang/StringUTF16" = some m.cls := findClass_of_methodNamed Bd.named
  have hnm := (name_of_methodNamed Bd.named Bd.method).1
  have X0 : Stand p l e ({ frames := 0, cells := 0, slots := 0, locals := 0 } : Room) s m #[(.ref bb), (.int (2 : Int32))] below meth c s₁ [] 0 0 := Stand.of_body Bd
  have e0 : s₁.heap = h0 := by rw [← hh, Bd.state]; rfl
  have N0 := Fr.nil n0
  suffices hgo : Go p e below s 0 0 (Q7_2 Z bb kb ca cb h0 n0) (s₁.setTop (mkF m 0 #[.val (.ref bb), .val (.int (2 : Int32))] [])) by
    obtain ⟨t, o, h1, h2⟩ := hgo; exact ⟨t, o, castTop (ef_rm7_2 m bb) h1, h2⟩
  show Go p e below s _ _ _ (s₁.setTop (mkF m 0 #[.val (.ref bb), .val (.int (2 : Int32))] []))
  refine Go.st (fun _ k' => XS.iloadN X0.here hx rfl (hb hby d7_0) rfl k') ?_
  show Go p e below s _ _ _ (s₁.setTop (mkF m 1 #[.val (.ref bb), .val (.int (2 : Int32))] [(.int (2 : Int32))]))
  refine Go.st (fun _ k' => XS.aloadN X0.here hx rfl (hb hby d7_1) rfl rfl k') ?_
  show Go p e below s _ _ _ (s₁.setTop (mkF m 2 #[.val (.ref bb), .val (.int (2 : Int32))] [(.ref bb), (.int (2 : Int32))]))
  obtain ⟨cl1, Ar1, qc1, Sz1, Nn1, Ha1, Gf1⟩ := id Vb
  refine Go.st (fun _ k' => X0.arraylength hx (by rw [e0]; exact Ar1.1) (State.isArrayOf_alike hZ.alike Ar1.2.1) (g := (mkF m 2 #[.val (.ref bb), .val (.int (2 : Int32))] [(.ref bb), (.int (2 : Int32))])) rfl rfl (hb hby d7_2) _ k') ?_
  rw [len_of Sz1 Nn1]
  show Go p e below s _ _ _ (s₁.setTop (mkF m 3 #[.val (.ref bb), .val (.int (2 : Int32))] [(.int (2 : Int32)), (.int (2 : Int32))]))
  refine Go.st (fun _ k' => XS.isub X0.here hx rfl (hb hby d7_3) rfl k') ?_
  show Go p e below s _ _ _ (s₁.setTop (mkF m 4 #[.val (.ref bb), .val (.int (2 : Int32))] [(.int (0 : Int32))]))
  refine Go.st (fun _ k' => XS.bipush X0.here hx rfl (hb hby d7_4) k') ?_
  show Go p e below s _ _ _ (s₁.setTop (mkF m 6 #[.val (.ref bb), .val (.int (2 : Int32))] [(.int (31 : Int32)), (.int (0 : Int32))]))
  refine Go.st (fun _ k' => XS.iushr X0.here hx rfl (hb hby d7_6) rfl k') ?_
  show Go p e below s _ _ _ (s₁.setTop (mkF m 7 #[.val (.ref bb), .val (.int (2 : Int32))] [(.int (((0 : Int32).toUInt32 >>> ((31 : Int32) &&& 31).toUInt32).toInt32))]))
  refine Go.st (fun _ k' => XS.i2b X0.here hx rfl (hb hby d7_7) rfl k') ?_
  show Go p e below s _ _ _ (s₁.setTop (mkF m 8 #[.val (.ref bb), .val (.int (2 : Int32))] [(.int ((((0 : Int32).toUInt32 >>> ((31 : Int32) &&& 31).toUInt32).toInt32).toInt8.toInt32))]))
  refine Go.retB X0 hx hlk (t := .byte) Bd.returns (by simp) (hb hby d7_8) (by decide) (by decide) e0 ?_
  exact ⟨rfl, N0, rfl⟩
theorem ef_rm3_2 (m : MethodId) (ob : Addr) (aa : Addr) : entryFrame m #[(.ref ob), (.ref aa), (.int (0 : Int32)), (.int (2 : Int32)), .null] 6 = mkF m 0 #[.val (.ref ob), .val (.ref aa), .val (.int (0 : Int32)), .val (.int (2 : Int32)), .val .null, .unset] [] := by first | (simp [entryFrame, mkF, argsToLocals, Value.category]; done) | rfl
def Q3_2 (Z : State) (ob : Addr) (aa : Addr) (ka : ClassId) (cs : Int32) (ca : Int32) (cb : Int32) (h0 : Heap) (n0 : Nat) (v : Option Value) (h : Heap) (L : List Loc) : Prop := ∃ (tb : Addr) (kt : ClassId), v = none ∧ Fr n0 L ∧ Keep h0 h [ob] ∧ Fld Z h ob "java/lang/String" "value" "[B" (.ref tb) ∧ Fld Z h ob "java/lang/String" "coder" "B" (.int (0 : Int32)) ∧ Arv Z h tb kt .byte (2 : Int32) [(.int (nar .byte (ca.toInt8.toInt32))), (.int (nar .byte (cb.toInt8.toInt32)))] (.int (0 : Int32)) ∧ h0.size ≤ tb
set_option maxRecDepth 65536 in
set_option maxHeartbeats 40000000 in
theorem rm3_2 (l : Launch) (Z : State) (a0 : Array Value) (hw : ∀ d ∈ tables_1, d.before a0 Z = true) (ws : List Jvm.Cond) (ob : Addr) (aa : Addr) (ka : ClassId) (cs : Int32) (ca : Int32) (cb : Int32) (h0 : Heap) (n0 : Nat) (O0 : Old Z n0 h0) (E_o : Exa Z h0 ob "java/lang/String") (Fv : Fld Z h0 ob "java/lang/String" "value" "[B" .null) (Fc : Fld Z h0 ob "java/lang/String" "coder" "B" (.int (0 : Int32))) (Va : Arv Z h0 aa ka .char (2 : Int32) [(.int ca), (.int cb)] (.int (0 : Int32))) (S_cs : Sta Z Z.heap "java/lang/String" "COMPACT_STRINGS" "Z" (.int cs)) (q_cs : ¬ cs = (0 : Int32)) (q_ca : ¬ (255 : Int32) < ca) (q_cb : ¬ (255 : Int32) < cb) (g_o : n0 ≤ ob) (ne_oa : ob ≠ aa) :
    MetFree l (⟨"java/lang/String", "<init>", "([CIILjava/lang/Void;)V"⟩ : MethodName) (head1 (Jvm.Cond.code (⟨"java/lang/String", "<init>", "([CIILjava/lang/Void;)V"⟩ : MethodName) jdk_42_method_149_code 6 none :: ws) ({ frames := 2, cells := 1, slots := 2, locals := 35 } : Room)) (fun ay U => ay = #[(.ref ob), (.ref aa), (.int (0 : Int32)), (.int (2 : Int32)), .null] ∧ Z.Warmed39 U.vm ∧ U.heap = h0) (fun _ _ _ _ _ => True) (fun _ U o U' => ∃ v L, o = .returned v ∧ Q3_2 Z ob aa ka cs ca cb h0 n0 v U'.heap L ∧ FrameEnd U o U' L ({ frames := 2, cells := 1, slots := 2, locals := 35 } : Room).cells ({ frames := 2, cells := 1, slots := 2, locals := 35 } : Room).slots) := by
  refine MetFree.of_bodySF (plainFor_of_name pn_java_lang_String) hisR ?_
  intro p e s m args below meth c s₁ Bd hml0 hP hK
  obtain ⟨rfl, hZ, hh⟩ := hP
  have hx := Bd.exec
  have hby := Bd.bytes
  have hlk : meth.locks = false := BodyLoose.notSynchronized Bd
  have hml : c.maxLocals = 6 := hml0
  have hown : s.vm.findClass "java/lang/String" = some m.cls := findClass_of_methodNamed Bd.named
  have hnm := (name_of_methodNamed Bd.named Bd.method).1
  have X0 : Stand p l e ({ frames := 2, cells := 1, slots := 2, locals := 35 } : Room) s m #[(.ref ob), (.ref aa), (.int (0 : Int32)), (.int (2 : Int32)), .null] below meth c s₁ [] 0 0 := Stand.of_body Bd
  have e0 : s₁.heap = h0 := by rw [← hh, Bd.state]; rfl
  have N0 := Fr.nil n0
  suffices hgo : Go p e below s 1 2 (Q3_2 Z ob aa ka cs ca cb h0 n0) (s₁.setTop (mkF m 0 #[.val (.ref ob), .val (.ref aa), .val (.int (0 : Int32)), .val (.int (2 : Int32)), .val .null, .unset] [])) by
    obtain ⟨t, o, h1, h2⟩ := hgo; exact ⟨t, o, castTop (ef_rm3_2 m ob aa) h1, h2⟩
  show Go p e below s _ _ _ (s₁.setTop (mkF m 0 #[.val (.ref ob), .val (.ref aa), .val (.int (0 : Int32)), .val (.int (2 : Int32)), .val .null, .unset] []))
  refine Go.st (fun _ k' => XS.aloadN X0.here hx rfl (hb hby d3_0) rfl rfl k') ?_
  show Go p e below s _ _ _ (s₁.setTop (mkF m 1 #[.val (.ref ob), .val (.ref aa), .val (.int (0 : Int32)), .val (.int (2 : Int32)), .val .null, .unset] [(.ref ob)]))
  obtain ⟨T1, X1, e1, st1⟩ := initO X0 hx hZ hown (wdx hw 24 rfl) (wdx hw 25 rfl) (wdx hw 26 rfl) e0 (g := (mkF m 1 #[.val (.ref ob), .val (.ref aa), .val (.int (0 : Int32)), .val (.int (2 : Int32)), .val .null, .unset] [(.ref ob)])) rfl (by rw [hml]; rfl) rfl (hb hby d3_1) (by decide) (W := 0) (by show 2 * 0 + _ ≤ _; exact Nat.le_of_eq rfl) (by decide)
  refine Go.st st1 ?_
  show Go p e below s _ _ _ (T1.setTop (mkF m 4 #[.val (.ref ob), .val (.ref aa), .val (.int (0 : Int32)), .val (.int (2 : Int32)), .val .null, .unset] []))
  refine Go.st (fun _ k' => XS.iloadN X1.here hx rfl (hb hby d3_4) rfl k') ?_
  show Go p e below s _ _ _ (T1.setTop (mkF m 5 #[.val (.ref ob), .val (.ref aa), .val (.int (0 : Int32)), .val (.int (2 : Int32)), .val .null, .unset] [(.int (2 : Int32))]))
  refine Go.st (fun _ k' => XS.ifYes X1.here hx rfl (pc0 := 5) (pc' := 27) rfl (hb hby d3_5) rfl (XT.i0_ne_t (by decide)) (by decide) (by decide) k') ?_
  show Go p e below s _ _ _ (T1.setTop (mkF m 27 #[.val (.ref ob), .val (.ref aa), .val (.int (0 : Int32)), .val (.int (2 : Int32)), .val .null, .unset] []))
  obtain ⟨T2, X2, e2, st2⟩ := getS2 X1 hx hZ hown (host := "") (Or.inl (wdx hw 30 rfl)) Via.refl e1 (S_cs.ext O0.2) (g := (mkF m 27 #[.val (.ref ob), .val (.ref aa), .val (.int (0 : Int32)), .val (.int (2 : Int32)), .val .null, .unset] [])) rfl (hb hby d3_27)
  refine Go.st st2 ?_
  show Go p e below s _ _ _ (T2.setTop (mkF m 30 #[.val (.ref ob), .val (.ref aa), .val (.int (0 : Int32)), .val (.int (2 : Int32)), .val .null, .unset] [(.int cs)]))
  refine Go.st (fun _ k' => XS.ifNo X2.here hx rfl (hb hby d3_30) rfl (XT.i0_eq_f q_cs) k') ?_
  show Go p e below s _ _ _ (T2.setTop (mkF m 33 #[.val (.ref ob), .val (.ref aa), .val (.int (0 : Int32)), .val (.int (2 : Int32)), .val .null, .unset] []))
  refine Go.st (fun _ k' => XS.aloadN X2.here hx rfl (hb hby d3_33) rfl rfl k') ?_
  show Go p e below s _ _ _ (T2.setTop (mkF m 34 #[.val (.ref ob), .val (.ref aa), .val (.int (0 : Int32)), .val (.int (2 : Int32)), .val .null, .unset] [(.ref aa)]))
  refine Go.st (fun _ k' => XS.iloadN X2.here hx rfl (hb hby d3_34) rfl k') ?_
  show Go p e below s _ _ _ (T2.setTop (mkF m 35 #[.val (.ref ob), .val (.ref aa), .val (.int (0 : Int32)), .val (.int (2 : Int32)), .val .null, .unset] [(.int (0 : Int32)), (.ref aa)]))
  refine Go.st (fun _ k' => XS.iloadN X2.here hx rfl (hb hby d3_35) rfl k') ?_
  show Go p e below s _ _ _ (T2.setTop (mkF m 36 #[.val (.ref ob), .val (.ref aa), .val (.int (0 : Int32)), .val (.int (2 : Int32)), .val .null, .unset] [(.int (2 : Int32)), (.int (0 : Int32)), (.ref aa)]))
  obtain ⟨_, _, ⟨T3, L3, k3, n3⟩, -, X3, ⟨Lc3, hQ3, l3, y3, z3⟩, st3⟩ := Jvm.LawKit.callS X2 hx (y := (⟨"java/lang/StringUTF16", "compress", "([CII)[B"⟩ : MethodName)) hown (mvT hZ (wdx hw 31 rfl)) (mvT hZ (wdx hw 32 rfl)) (mvT hZ (wdx hw 33 rfl)) (mvT hZ (wdx hw 34 rfl)) (by decide) (backOf (W := 0) (rm5_2 l Z a0 hw [] aa ka ca cb h0 n0 O0 Va q_ca q_cb) hZ (wdx hw 34 rfl) (wdx hw 33 rfl) (by decide) (by decide)) (g := (mkF m 36 #[.val (.ref ob), .val (.ref aa), .val (.int (0 : Int32)), .val (.int (2 : Int32)), .val .null, .unset] [(.int (2 : Int32)), (.int (0 : Int32)), (.ref aa)])) rfl (by rw [hml]; rfl) (argsL := [(.ref aa), (.int (0 : Int32)), (.int (2 : Int32))]) (rest := []) (lenOf pd___CII__B rfl) rfl (by show 2 * 0 + _ ≤ _; exact Nat.le_of_eq rfl) (hb hby d3_36) (fun _ _ => ⟨rfl, e2, (by exact Nat.le_of_ble_eq_true rfl), (by exact Nat.le_of_ble_eq_true rfl)⟩)
  dsimp only [Pt.U, Pt.locs, Pt.cells, Pt.slots] at X3 l3 y3 z3 st3 hQ3
  subst l3 y3 z3
  obtain ⟨rr_3, kr_3, rfl, Nq3, Kq3, f4, szr_3⟩ := hQ3
  have N3 := Fr.app N0 Nq3
  refine Go.st st3 ?_
  have f5 : Exa Z T3.heap ob "java/lang/String" := E_o.keep Kq3
  have f6 : Fld Z T3.heap ob "java/lang/String" "value" "[B" .null := Fv.keep Kq3 nin0
  have f7 : Fld Z T3.heap ob "java/lang/String" "coder" "B" (.int (0 : Int32)) := Fc.keep Kq3 nin0
  have f8 : Arv Z T3.heap aa ka .char (2 : Int32) [(.int ca), (.int cb)] (.int (0 : Int32)) := Va.keep Kq3 nin0
  have O3 : Old Z n0 T3.heap := O0.keep Kq3 all0
  have K3 : Keep h0 T3.heap [ob] := (Keep.refl h0 [ob]).trans Kq3 all0
  have g_rr_3 : n0 ≤ rr_3 := Nat.le_trans (own_le O0) szr_3
  have z_rr_3 : h0.size ≤ rr_3 := szr_3
  have ne9 : ob ≠ rr_3 := Nat.ne_of_lt (Nat.lt_of_lt_of_le E_o.lt szr_3)
  have ne10 : aa ≠ rr_3 := Nat.ne_of_lt (Nat.lt_of_lt_of_le Va.lt szr_3)
  show Go p e below s _ _ _ (T3.setTop (mkF m 39 #[.val (.ref ob), .val (.ref aa), .val (.int (0 : Int32)), .val (.int (2 : Int32)), .val .null, .unset] [(.ref rr_3)]))
  refine Go.st (fun _ k' => XS.astore X3.here hx rfl (hb hby d3_39) rfl rfl (l' := #[.val (.ref ob), .val (.ref aa), .val (.int (0 : Int32)), .val (.int (2 : Int32)), .val .null, .val (.ref rr_3)]) rfl k') ?_
  show Go p e below s _ _ _ (T3.setTop (mkF m 41 #[.val (.ref ob), .val (.ref aa), .val (.int (0 : Int32)), .val (.int (2 : Int32)), .val .null, .val (.ref rr_3)] []))
  refine Go.st (fun _ k' => XS.aloadN X3.here hx rfl (hb hby d3_41) rfl rfl k') ?_
  show Go p e below s _ _ _ (T3.setTop (mkF m 42 #[.val (.ref ob), .val (.ref aa), .val (.int (0 : Int32)), .val (.int (2 : Int32)), .val .null, .val (.ref rr_3)] [(.ref ob)]))
  refine Go.st (fun _ k' => XS.aload X3.here hx rfl (hb hby d3_42) rfl rfl k') ?_
  show Go p e below s _ _ _ (T3.setTop (mkF m 44 #[.val (.ref ob), .val (.ref aa), .val (.int (0 : Int32)), .val (.int (2 : Int32)), .val .null, .val (.ref rr_3)] [(.ref rr_3), (.ref ob)]))
  refine Go.st (fun _ k' => XS.iloadN X3.here hx rfl (hb hby d3_44) rfl k') ?_
  show Go p e below s _ _ _ (T3.setTop (mkF m 45 #[.val (.ref ob), .val (.ref aa), .val (.int (0 : Int32)), .val (.int (2 : Int32)), .val .null, .val (.ref rr_3)] [(.int (2 : Int32)), (.ref rr_3), (.ref ob)]))
  obtain ⟨_, _, ⟨T11, L11, k11, n11⟩, -, X11, ⟨Lc11, hQ11, l11, y11, z11⟩, st11⟩ := Jvm.LawKit.callS X3 hx (y := (⟨"java/lang/StringUTF16", "coderFromArrayLen", "([BI)B"⟩ : MethodName)) hown (mvT hZ (wdx hw 38 rfl)) (mvT hZ (wdx hw 39 rfl)) (mvT hZ (wdx hw 33 rfl)) (mvT hZ (wdx hw 40 rfl)) (by decide) (backOf (W := 1) (rm7_2 l Z a0 hw [] rr_3 kr_3 (nar .byte (ca.toInt8.toInt32)) (nar .byte (cb.toInt8.toInt32)) T3.heap n0 O3 f4) hZ (wdx hw 40 rfl) (wdx hw 33 rfl) (by decide) (by decide)) (g := (mkF m 45 #[.val (.ref ob), .val (.ref aa), .val (.int (0 : Int32)), .val (.int (2 : Int32)), .val .null, .val (.ref rr_3)] [(.int (2 : Int32)), (.ref rr_3), (.ref ob)])) rfl (by rw [hml]; rfl) (argsL := [(.ref rr_3), (.int (2 : Int32))]) (rest := [(.ref ob)]) (lenOf pd___BI_B rfl) rfl (by show 2 * 0 + _ ≤ _; exact Nat.le_of_eq rfl) (hb hby d3_45) (fun _ _ => ⟨rfl, rfl, (by exact Nat.le_of_ble_eq_true rfl), (by exact Nat.le_of_ble_eq_true rfl)⟩)
  dsimp only [Pt.U, Pt.locs, Pt.cells, Pt.slots] at X11 l11 y11 z11 st11 hQ11
  subst l11 y11 z11
  obtain ⟨rfl, Nq11, eq11⟩ := hQ11
  have N11 := Fr.app N3 Nq11
  refine Go.st st11 ?_
  show Go p e below s _ _ _ (T11.setTop (mkF m 48 #[.val (.ref ob), .val (.ref aa), .val (.int (0 : Int32)), .val (.int (2 : Int32)), .val .null, .val (.ref rr_3)] [(.int (0 : Int32)), (.ref ob)]))
  obtain ⟨T12, h12, X12, e12, W12, st12⟩ := putFN X11 hx hZ hown (wdx hw 29 rfl) Via.refl eq11 f7 f5 (Or.inr ⟨(wdx hw 13 rfl), rfl, hnm⟩) (wdx hw 10 rfl) (ty := .byte) (v' := (.int (0 : Int32))) (by decide) rfl rfl (g := (mkF m 48 #[.val (.ref ob), .val (.ref aa), .val (.int (0 : Int32)), .val (.int (2 : Int32)), .val .null, .val (.ref rr_3)] [(.int (0 : Int32)), (.ref ob)])) rfl rfl (hb hby d3_48)
  refine Go.st st12 ?_
  have f13 : Exa Z h12 ob "java/lang/String" := f5.wr W12
  have f14 : Fld Z h12 ob "java/lang/String" "value" "[B" .null := f6.other W12 (Or.inr (slot_ne (Or.inr (wdx hw 12 rfl)) (Or.inr (wdx hw 13 rfl)) (by decide) (t := (.array .byte)) (t' := .byte) (by decide) (by decide)))
  have f15 : Fld Z h12 ob "java/lang/String" "coder" "B" (.int (0 : Int32)) := f7.same W12
  have f16 : Arv Z h12 aa ka .char (2 : Int32) [(.int ca), (.int cb)] (.int (0 : Int32)) := f8.other W12 (Ne.symm ne_oa)
  have f17 : Arv Z h12 rr_3 kr_3 .byte (2 : Int32) [(.int (nar .byte (ca.toInt8.toInt32))), (.int (nar .byte (cb.toInt8.toInt32)))] (.int (0 : Int32)) := f4.other W12 (Ne.symm ne9)
  have O12 : Old Z n0 h12 := O3.wr W12 g_o
  have N12 := Fr.snoc X12 N11 g_o
  have K12 : Keep h0 h12 [ob] := K3.wr W12 (Or.inl (by simp))
  show Go p e below s _ _ _ (T12.setTop (mkF m 51 #[.val (.ref ob), .val (.ref aa), .val (.int (0 : Int32)), .val (.int (2 : Int32)), .val .null, .val (.ref rr_3)] []))
  refine Go.st (fun _ k' => XS.aloadN X12.here hx rfl (hb hby d3_51) rfl rfl k') ?_
  show Go p e below s _ _ _ (T12.setTop (mkF m 52 #[.val (.ref ob), .val (.ref aa), .val (.int (0 : Int32)), .val (.int (2 : Int32)), .val .null, .val (.ref rr_3)] [(.ref ob)]))
  refine Go.st (fun _ k' => XS.aload X12.here hx rfl (hb hby d3_52) rfl rfl k') ?_
  show Go p e below s _ _ _ (T12.setTop (mkF m 54 #[.val (.ref ob), .val (.ref aa), .val (.int (0 : Int32)), .val (.int (2 : Int32)), .val .null, .val (.ref rr_3)] [(.ref rr_3), (.ref ob)]))
  obtain ⟨T18, h18, X18, e18, W18, st18⟩ := putF X12 hx hZ hown (host := "") (Or.inl (wdx hw 28 rfl)) Via.refl e12 f14 f13 (Or.inr ⟨(wdx hw 12 rfl), rfl, hnm⟩) (wdx hw 10 rfl) (ty := (.array .byte)) (by decide) rfl rfl (g := (mkF m 54 #[.val (.ref ob), .val (.ref aa), .val (.int (0 : Int32)), .val (.int (2 : Int32)), .val .null, .val (.ref rr_3)] [(.ref rr_3), (.ref ob)])) rfl rfl (hb hby d3_54)
  refine Go.st st18 ?_
  have f19 : Exa Z h18 ob "java/lang/String" := f13.wr W18
  have f20 : Fld Z h18 ob "java/lang/String" "value" "[B" (.ref rr_3) := f14.same W18
  have f21 : Fld Z h18 ob "java/lang/String" "coder" "B" (.int (0 : Int32)) := f15.other W18 (Or.inr (slot_ne (Or.inr (wdx hw 13 rfl)) (Or.inr (wdx hw 12 rfl)) (by decide) (t := .byte) (t' := (.array .byte)) (by decide) (by decide)))
  have f22 : Arv Z h18 aa ka .char (2 : Int32) [(.int ca), (.int cb)] (.int (0 : Int32)) := f16.other W18 (Ne.symm ne_oa)
  have f23 : Arv Z h18 rr_3 kr_3 .byte (2 : Int32) [(.int (nar .byte (ca.toInt8.toInt32))), (.int (nar .byte (cb.toInt8.toInt32)))] (.int (0 : Int32)) := f17.other W18 (Ne.symm ne9)
  have O18 : Old Z n0 h18 := O12.wr W18 g_o
  have N18 := Fr.snoc X18 N12 g_o
  have K18 : Keep h0 h18 [ob] := K12.wr W18 (Or.inl (by simp))
  show Go p e below s _ _ _ (T18.setTop (mkF m 57 #[.val (.ref ob), .val (.ref aa), .val (.int (0 : Int32)), .val (.int (2 : Int32)), .val .null, .val (.ref rr_3)] []))
  refine Go.retV X18 hx hlk Bd.returns (hb hby d3_57) (by decide) (by decide) e18 ?_
  exact ⟨rr_3, kr_3, rfl, N18, K18, f20, f21, f23, z_rr_3⟩
theorem ef_rm2_2 (m : MethodId) (ob : Addr) (aa : Addr) : entryFrame m #[(.ref ob), (.ref aa)] 2 = mkF m 0 #[.val (.ref ob), .val (.ref aa)] [] := by first | (simp [entryFrame, mkF, argsToLocals, Value.category]; done) | rfl
def Q2_2 (Z : State) (ob : Addr) (aa : Addr) (ka : ClassId) (cs : Int32) (ca : Int32) (cb : Int32) (h0 : Heap) (n0 : Nat) (v : Option Value) (h : Heap) (L : List Loc) : Prop := ∃ (tb : Addr) (kt : ClassId), v = none ∧ Fr n0 L ∧ Keep h0 h [ob] ∧ Fld Z h ob "java/lang/String" "value" "[B" (.ref tb) ∧ Fld Z h ob "java/lang/String" "coder" "B" (.int (0 : Int32)) ∧ Arv Z h tb kt .byte (2 : Int32) [(.int (nar .byte (ca.toInt8.toInt32))), (.int (nar .byte (cb.toInt8.toInt32)))] (.int (0 : Int32)) ∧ h0.size ≤ tb
set_option maxRecDepth 65536 in
set_option maxHeartbeats 40000000 in
theorem rm2_2 (l : Launch) (Z : State) (a0 : Array Value) (hw : ∀ d ∈ tables_1, d.before a0 Z = true) (ws : List Jvm.Cond) (ob : Addr) (aa : Addr) (ka : ClassId) (cs : Int32) (ca : Int32) (cb : Int32) (h0 : Heap) (n0 : Nat) (O0 : Old Z n0 h0) (E_o : Exa Z h0 ob "java/lang/String") (Fv : Fld Z h0 ob "java/lang/String" "value" "[B" .null) (Fc : Fld Z h0 ob "java/lang/String" "coder" "B" (.int (0 : Int32))) (Va : Arv Z h0 aa ka .char (2 : Int32) [(.int ca), (.int cb)] (.int (0 : Int32))) (S_cs : Sta Z Z.heap "java/lang/String" "COMPACT_STRINGS" "Z" (.int cs)) (q_cs : ¬ cs = (0 : Int32)) (q_ca : ¬ (255 : Int32) < ca) (q_cb : ¬ (255 : Int32) < cb) (g_o : n0 ≤ ob) (ne_oa : ob ≠ aa) :
    MetFree l (⟨"java/lang/String", "<init>", "([C)V"⟩ : MethodName) (head1 (Jvm.Cond.code (⟨"java/lang/String", "<init>", "([C)V"⟩ : MethodName) jdk_42_method_3_code 2 none :: ws) ({ frames := 3, cells := 1, slots := 2, locals := 52 } : Room)) (fun ay U => ay = #[(.ref ob), (.ref aa)] ∧ Z.Warmed39 U.vm ∧ U.heap = h0) (fun _ _ _ _ _ => True) (fun _ U o U' => ∃ v L, o = .returned v ∧ Q2_2 Z ob aa ka cs ca cb h0 n0 v U'.heap L ∧ FrameEnd U o U' L ({ frames := 3, cells := 1, slots := 2, locals := 52 } : Room).cells ({ frames := 3, cells := 1, slots := 2, locals := 52 } : Room).slots) := by
  refine MetFree.of_bodySF (plainFor_of_name pn_java_lang_String) hisR ?_
  intro p e s m args below meth c s₁ Bd hml0 hP hK
  obtain ⟨rfl, hZ, hh⟩ := hP
  have hx := Bd.exec
  have hby := Bd.bytes
  have hlk : meth.locks = false := BodyLoose.notSynchronized Bd
  have hml : c.maxLocals = 2 := hml0
  have hown : s.vm.findClass "java/lang/String" = some m.cls := findClass_of_methodNamed Bd.named
  have hnm := (name_of_methodNamed Bd.named Bd.method).1
  have X0 : Stand p l e ({ frames := 3, cells := 1, slots := 2, locals := 52 } : Room) s m #[(.ref ob), (.ref aa)] below meth c s₁ [] 0 0 := Stand.of_body Bd
  have e0 : s₁.heap = h0 := by rw [← hh, Bd.state]; rfl
  have N0 := Fr.nil n0
  suffices hgo : Go p e below s 1 2 (Q2_2 Z ob aa ka cs ca cb h0 n0) (s₁.setTop (mkF m 0 #[.val (.ref ob), .val (.ref aa)] [])) by
    obtain ⟨t, o, h1, h2⟩ := hgo; exact ⟨t, o, castTop (ef_rm2_2 m ob aa) h1, h2⟩
  show Go p e below s _ _ _ (s₁.setTop (mkF m 0 #[.val (.ref ob), .val (.ref aa)] []))
  refine Go.st (fun _ k' => XS.aloadN X0.here hx rfl (hb hby d2_0) rfl rfl k') ?_
  show Go p e below s _ _ _ (s₁.setTop (mkF m 1 #[.val (.ref ob), .val (.ref aa)] [(.ref ob)]))
  refine Go.st (fun _ k' => XS.aloadN X0.here hx rfl (hb hby d2_1) rfl rfl k') ?_
  show Go p e below s _ _ _ (s₁.setTop (mkF m 2 #[.val (.ref ob), .val (.ref aa)] [(.ref aa), (.ref ob)]))
  refine Go.st (fun _ k' => XS.iconst X0.here hx rfl (hb hby d2_2) k') ?_
  show Go p e below s _ _ _ (s₁.setTop (mkF m 3 #[.val (.ref ob), .val (.ref aa)] [(.int (0 : Int32)), (.ref aa), (.ref ob)]))
  refine Go.st (fun _ k' => XS.aloadN X0.here hx rfl (hb hby d2_3) rfl rfl k') ?_
  show Go p e below s _ _ _ (s₁.setTop (mkF m 4 #[.val (.ref ob), .val (.ref aa)] [(.ref aa), (.int (0 : Int32)), (.ref aa), (.ref ob)]))
  obtain ⟨cl1, Ar1, qc1, Sz1, Nn1, Ha1, Gf1⟩ := id Va
  refine Go.st (fun _ k' => X0.arraylength hx (by rw [e0]; exact Ar1.1) (State.isArrayOf_alike hZ.alike Ar1.2.1) (g := (mkF m 4 #[.val (.ref ob), .val (.ref aa)] [(.ref aa), (.int (0 : Int32)), (.ref aa), (.ref ob)])) rfl rfl (hb hby d2_4) _ k') ?_
  rw [len_of Sz1 Nn1]
  show Go p e below s _ _ _ (s₁.setTop (mkF m 5 #[.val (.ref ob), .val (.ref aa)] [(.int (2 : Int32)), (.int (0 : Int32)), (.ref aa), (.ref ob)]))
  refine Go.st (fun _ k' => XS.aconstNull X0.here hx rfl (hb hby d2_5) k') ?_
  show Go p e below s _ _ _ (s₁.setTop (mkF m 6 #[.val (.ref ob), .val (.ref aa)] [.null, (.int (2 : Int32)), (.int (0 : Int32)), (.ref aa), (.ref ob)]))
  obtain ⟨_, _, ⟨T2, L2, k2, n2⟩, -, X2, ⟨Lc2, hQ2, l2, y2, z2⟩, st2⟩ := X0.specialBack hx (y := (⟨"java/lang/String", "<init>", "([CIILjava/lang/Void;)V"⟩ : MethodName)) rfl hown (mvT hZ (wdx hw 20 rfl)) (mvT hZ (wdx hw 21 rfl)) (mvT hZ (wdx hw 23 rfl)) (by decide) (backOf (W := 0) (rm3_2 l Z a0 hw [] ob aa ka cs ca cb h0 n0 O0 E_o Fv Fc Va S_cs q_cs q_ca q_cb g_o ne_oa) hZ (wdx hw 23 rfl) (wdx hw 9 rfl) (by decide) (by decide)) (g := (mkF m 6 #[.val (.ref ob), .val (.ref aa)] [.null, (.int (2 : Int32)), (.int (0 : Int32)), (.ref aa), (.ref ob)])) rfl (by rw [hml]; rfl) (Steps.refl _) (a := ob) (argsL := [(.ref aa), (.int (0 : Int32)), (.int (2 : Int32)), .null]) (rest := []) (lenOf pd___CIILjava_lang_Void__V rfl) rfl (by show 2 * 0 + _ ≤ _; exact Nat.le_of_eq rfl) (hb hby d2_6) (fun _ _ => ⟨rfl, e0, (by exact Nat.le_of_ble_eq_true rfl), (by exact Nat.le_of_ble_eq_true rfl)⟩)
  dsimp only [Pt.U, Pt.locs, Pt.cells, Pt.slots] at X2 l2 y2 z2 st2 hQ2
  subst l2 y2 z2
  obtain ⟨tb_2, kt_2, rfl, Nq2, Kq2, f3, f4, f5, szt_2⟩ := hQ2
  have N2 := Fr.app N0 Nq2
  refine Go.tr st2 ?_
  have f6 : Exa Z T2.heap ob "java/lang/String" := E_o.keep Kq2
  have f7 : Arv Z T2.heap aa ka .char (2 : Int32) [(.int ca), (.int cb)] (.int (0 : Int32)) := Va.keep Kq2 (ninS (Ne.symm ne_oa) nin0)
  have O2 : Old Z n0 T2.heap := O0.keep Kq2 (allS g_o all0)
  have K2 : Keep h0 T2.heap [ob] := (Keep.refl h0 [ob]).trans Kq2 (allS (Or.inl (by simp)) all0)
  have g_tb_2 : n0 ≤ tb_2 := Nat.le_trans (own_le O0) szt_2
  have z_tb_2 : h0.size ≤ tb_2 := szt_2
  have ne8 : ob ≠ tb_2 := Nat.ne_of_lt (Nat.lt_of_lt_of_le E_o.lt szt_2)
  have ne9 : aa ≠ tb_2 := Nat.ne_of_lt (Nat.lt_of_lt_of_le Va.lt szt_2)
  show Go p e below s _ _ _ (T2.setTop (mkF m 9 #[.val (.ref ob), .val (.ref aa)] []))
  refine Go.retV X2 hx hlk Bd.returns (hb hby d2_9) (by decide) (by decide) rfl ?_
  exact ⟨tb_2, kt_2, rfl, N2, K2, f3, f4, f5, z_tb_2⟩
theorem d3_8 : decode jdk_42_method_149_code 8 = .ok (.aload_n 0, 1) := by decide +kernel
theorem d3_9 : decode jdk_42_method_149_code 9 = .ok (.ldc 7, 2) := by decide +kernel
theorem d3_11 : decode jdk_42_method_149_code 11 = .ok (.getfield 9, 3) := by decide +kernel
theorem d3_14 : decode jdk_42_method_149_code 14 = .ok (.putfield 9, 3) := by decide +kernel
theorem d3_17 : decode jdk_42_method_149_code 17 = .ok (.aload_n 0, 1) := by decide +kernel
theorem d3_18 : decode jdk_42_method_149_code 18 = .ok (.ldc 7, 2) := by decide +kernel
theorem d3_20 : decode jdk_42_method_149_code 20 = .ok (.getfield 15, 3) := by decide +kernel
theorem d3_23 : decode jdk_42_method_149_code 23 = .ok (.putfield 15, 3) := by decide +kernel
theorem d3_26 : decode jdk_42_method_149_code 26 = .ok (.return_, 1) := by decide +kernel
theorem ef_rm3_0 (m : MethodId) (ob : Addr) (aa : Addr) : entryFrame m #[(.ref ob), (.ref aa), (.int (0 : Int32)), (.int (0 : Int32)), .null] 6 = mkF m 0 #[.val (.ref ob), .val (.ref aa), .val (.int (0 : Int32)), .val (.int (0 : Int32)), .val .null, .unset] [] := by first | (simp [entryFrame, mkF, argsToLocals, Value.category]; done) | rfl
def Q3_0 (Z : State) (ob : Addr) (aa : Addr) (h0 : Heap) (n0 : Nat) (v : Option Value) (h : Heap) (L : List Loc) : Prop := ∃ (tb : Addr) (kt : ClassId), v = none ∧ Fr n0 L ∧ Keep h0 h [ob] ∧ Fld Z h ob "java/lang/String" "value" "[B" (.ref tb) ∧ Fld Z h ob "java/lang/String" "coder" "B" (.int (0 : Int32)) ∧ Arv Z h tb kt .byte (0 : Int32) [] (.int (0 : Int32))
set_option maxRecDepth 65536 in
set_option maxHeartbeats 40000000 in
theorem rm3_0 (l : Launch) (Z : State) (a0 : Array Value) (hw : ∀ d ∈ tables_1, d.before a0 Z = true) (ws : List Jvm.Cond) (ob : Addr) (aa : Addr) (h0 : Heap) (n0 : Nat) (O0 : Old Z n0 h0) (E_o : Exa Z h0 ob "java/lang/String") (Fv : Fld Z h0 ob "java/lang/String" "value" "[B" .null) (Fc : Fld Z h0 ob "java/lang/String" "coder" "B" (.int (0 : Int32))) (g_o : n0 ≤ ob) :
    MetFree l (⟨"java/lang/String", "<init>", "([CIILjava/lang/Void;)V"⟩ : MethodName) (head1 (Jvm.Cond.code (⟨"java/lang/String", "<init>", "([CIILjava/lang/Void;)V"⟩ : MethodName) jdk_42_method_149_code 6 none :: ws) ({ frames := 1, cells := 4, slots := 8, locals := 12 } : Room)) (fun ay U => ay = #[(.ref ob), (.ref aa), (.int (0 : Int32)), (.int (0 : Int32)), .null] ∧ Z.Warmed39 U.vm ∧ U.heap = h0 ∧ CHv Z EL U.vm h0 ∧ ∀ y ∈ ([ob] : List Addr), Safe Z EL U.vm h0 y) (fun _ _ _ _ _ => True) (fun _ U o U' => ∃ v L, o = .returned v ∧ Q3_0 Z ob aa h0 n0 v U'.heap L ∧ CHr Z EL U.vm U.heap U'.vm U'.heap ∧ ReturnedEndW U o U' L ({ frames := 1, cells := 4, slots := 8, locals := 12 } : Room).cells ({ frames := 1, cells := 4, slots := 8, locals := 12 } : Room).slots) := by
  refine MetFree.of_bodySF (plainFor_of_name pn_java_lang_String) hisR ?_
  intro p e s m args below meth c s₁ Bd hml0 hP hK
  obtain ⟨rfl, hZ, hh, hCH, hSf⟩ := hP
  have hx := Bd.exec
  have hby := Bd.bytes
  have hlk : meth.locks = false := BodyLoose.notSynchronized Bd
  have hml : c.maxLocals = 6 := hml0
  have hown : s.vm.findClass "java/lang/String" = some m.cls := findClass_of_methodNamed Bd.named
  have hnm := (name_of_methodNamed Bd.named Bd.method).1
  have X0 : Stand p l e ({ frames := 1, cells := 4, slots := 8, locals := 12 } : Room) (s.setVm s.vm) m #[(.ref ob), (.ref aa), (.int (0 : Int32)), (.int (0 : Int32)), .null] below meth c s₁ [] 0 0 := Stand.of_body Bd
  have e0 : s₁.heap = h0 := by rw [← hh, Bd.state]; rfl
  have N0 := Fr.nil n0
  have hS0 : s.Since s.vm 0 := (State.WarmedH.refl s).since 0
  have hk0 : 0 ≤ h0.size := Nat.zero_le _
  have CH0 : CHr Z EL s.vm s.heap s.vm h0 := by rw [hh]; exact CHr.refl hCH
  have hEL : EW Z a0 EL := own_EW hw
  have hwS := own_wS hw
  suffices hgo : GoW p e below s 4 8 Z EL (Q3_0 Z ob aa h0 n0) (s₁.setTop (mkF m 0 #[.val (.ref ob), .val (.ref aa), .val (.int (0 : Int32)), .val (.int (0 : Int32)), .val .null, .unset] [])) by
    obtain ⟨t, o, h1, h2⟩ := hgo; exact ⟨t, o, castTop (ef_rm3_0 m ob aa) h1, h2⟩
  show GoW p e below s _ _ _ _ _ (s₁.setTop (mkF m 0 #[.val (.ref ob), .val (.ref aa), .val (.int (0 : Int32)), .val (.int (0 : Int32)), .val .null, .unset] []))
  refine GoW.st (fun _ k' => XS.aloadN X0.here hx rfl (hb hby d3_0) rfl rfl k') ?_
  show GoW p e below s _ _ _ _ _ (s₁.setTop (mkF m 1 #[.val (.ref ob), .val (.ref aa), .val (.int (0 : Int32)), .val (.int (0 : Int32)), .val .null, .unset] [(.ref ob)]))
  obtain ⟨T1, X1, e1, st1⟩ := initO X0 hx hZ hown (wdx hw 24 rfl) (wdx hw 25 rfl) (wdx hw 26 rfl) e0 (g := (mkF m 1 #[.val (.ref ob), .val (.ref aa), .val (.int (0 : Int32)), .val (.int (0 : Int32)), .val .null, .unset] [(.ref ob)])) rfl (by rw [hml]; rfl) rfl (hb hby d3_1) (by decide) (W := 0) (by show 2 * 0 + _ ≤ _; exact Nat.le_of_eq rfl) (by decide)
  refine GoW.st st1 ?_
  show GoW p e below s _ _ _ _ _ (T1.setTop (mkF m 4 #[.val (.ref ob), .val (.ref aa), .val (.int (0 : Int32)), .val (.int (0 : Int32)), .val .null, .unset] []))
  refine GoW.st (fun _ k' => XS.iloadN X1.here hx rfl (hb hby d3_4) rfl k') ?_
  show GoW p e below s _ _ _ _ _ (T1.setTop (mkF m 5 #[.val (.ref ob), .val (.ref aa), .val (.int (0 : Int32)), .val (.int (0 : Int32)), .val .null, .unset] [(.int (0 : Int32))]))
  refine GoW.st (fun _ k' => XS.ifNo X1.here hx rfl (hb hby d3_5) rfl (XT.i0_ne_f (by decide)) k') ?_
  show GoW p e below s _ _ _ _ _ (T1.setTop (mkF m 8 #[.val (.ref ob), .val (.ref aa), .val (.int (0 : Int32)), .val (.int (0 : Int32)), .val .null, .unset] []))
  refine GoW.st (fun _ k' => XS.aloadN X1.here hx rfl (hb hby d3_8) rfl rfl k') ?_
  show GoW p e below s _ _ _ _ _ (T1.setTop (mkF m 9 #[.val (.ref ob), .val (.ref aa), .val (.int (0 : Int32)), .val (.int (0 : Int32)), .val .null, .unset] [(.ref ob)]))
  obtain ⟨a2, T2, h2, q2, b2, kb2, X2, e2, E2, hS2, hk2, hZ2, hown2, Ea2, Fc2, Fv2, Vb2, lta2, ltb2, C2, -, hne2, st2⟩ := ldcCH X1 hx hZ hown (wdx hw 27 rfl) hwS e1 hS0 hk0 hEL (List.mem_of_getElem? (i := 0) rfl) CH0.1 (vs := []) (z := (0 : Int32)) ⟨by decide, rfl⟩ (by decide) (by decide) (g := (mkF m 9 #[.val (.ref ob), .val (.ref aa), .val (.int (0 : Int32)), .val (.int (0 : Int32)), .val .null, .unset] [(.ref ob)])) rfl (hb hby d3_9) (n := 0) (by decide) (by decide) (by decide) (by decide)
  refine GoW.st st2 ?_
  have f3 : Exa Z h2 ob "java/lang/String" := E_o.ext E2
  have f4 : Fld Z h2 ob "java/lang/String" "value" "[B" .null := Fv.ext E2
  have f5 : Fld Z h2 ob "java/lang/String" "coder" "B" (.int (0 : Int32)) := Fc.ext E2
  have f6 : Safe Z EL T2.vm h2 ob := C2.safe E_o.lt (hSf ob (List.mem_of_getElem? (i := 0) rfl))
  have CH2 : CHr Z EL s.vm s.heap T2.vm h2 := CH0.trans C2
  have O2 : Old Z n0 h2 := O0.ext E2
  have K2 : Keep h0 h2 [ob] := (Keep.refl h0 [ob]).ext E2
  have hn7 := hne2 ob f6
  show GoW p e below s _ _ _ _ _ (T2.setTop (mkF m 11 #[.val (.ref ob), .val (.ref aa), .val (.int (0 : Int32)), .val (.int (0 : Int32)), .val .null, .unset] [(.ref a2), (.ref ob)]))
  obtain ⟨T8, X8, e8, st8⟩ := getF X2 hx hZ2 hown2 (host := "") (Or.inl (wdx hw 28 rfl)) Via.refl e2 Fv2 (g := (mkF m 11 #[.val (.ref ob), .val (.ref aa), .val (.int (0 : Int32)), .val (.int (0 : Int32)), .val .null, .unset] [(.ref a2), (.ref ob)])) rfl rfl (hb hby d3_11)
  refine GoW.st st8 ?_
  show GoW p e below s _ _ _ _ _ (T8.setTop (mkF m 14 #[.val (.ref ob), .val (.ref aa), .val (.int (0 : Int32)), .val (.int (0 : Int32)), .val .null, .unset] [(.ref b2), (.ref ob)]))
  obtain ⟨T9, h9, X9, e9, W9, st9⟩ := putF X8 hx hZ2 hown2 (host := "") (Or.inl (wdx hw 28 rfl)) Via.refl e8 f4 f3 (Or.inr ⟨(wdx hw 12 rfl), rfl, hnm⟩) (wdx hw 10 rfl) (ty := (.array .byte)) (by decide) rfl rfl (g := (mkF m 14 #[.val (.ref ob), .val (.ref aa), .val (.int (0 : Int32)), .val (.int (0 : Int32)), .val .null, .unset] [(.ref b2), (.ref ob)])) rfl rfl (hb hby d3_14)
  refine GoW.st st9 ?_
  have f10 : Exa Z h9 ob "java/lang/String" := f3.wr W9
  have f11 : Fld Z h9 ob "java/lang/String" "value" "[B" (.ref b2) := f4.same W9
  have f12 : Fld Z h9 ob "java/lang/String" "coder" "B" (.int (0 : Int32)) := f5.other W9 (Or.inr (slot_ne (Or.inr (wdx hw 13 rfl)) (Or.inr (wdx hw 12 rfl)) (by decide) (t := .byte) (t' := (.array .byte)) (by decide) (by decide)))
  have f13 : Safe Z EL T2.vm h9 ob := Safe.wr W9 f6 CH2.1 f6
  have f14 : Exa Z h9 a2 "java/lang/String" := Ea2.wr W9
  have f15 : Fld Z h9 a2 "java/lang/String" "coder" "B" (.int (0 : Int32)) := Fc2.other W9 (Or.inl (Ne.symm hn7.1))
  have f16 : Fld Z h9 a2 "java/lang/String" "value" "[B" (.ref b2) := Fv2.other W9 (Or.inl (Ne.symm hn7.1))
  have f17 : Arv Z h9 b2 kb2 .byte (0 : Int32) [] (.int (0 : Int32)) := Vb2.other W9 (Ne.symm hn7.2)
  have CH9 : CHr Z EL s.vm s.heap T2.vm h9 := CH2.trans (CHr.wr W9 f6 CH2.1)
  have hk9 : q2 ≤ Array.size h9 := Nat.le_trans hk2 (Keep.of_wr W9).1
  have O9 : Old Z n0 h9 := O2.wr W9 g_o
  have N9 := Fr.snoc X9 N0 g_o
  have K9 : Keep h0 h9 [ob] := K2.wr W9 (Or.inl (by simp))
  show GoW p e below s _ _ _ _ _ (T9.setTop (mkF m 17 #[.val (.ref ob), .val (.ref aa), .val (.int (0 : Int32)), .val (.int (0 : Int32)), .val .null, .unset] []))
  refine GoW.st (fun _ k' => XS.aloadN X9.here hx rfl (hb hby d3_17) rfl rfl k') ?_
  show GoW p e below s _ _ _ _ _ (T9.setTop (mkF m 18 #[.val (.ref ob), .val (.ref aa), .val (.int (0 : Int32)), .val (.int (0 : Int32)), .val .null, .unset] [(.ref ob)]))
  obtain ⟨a18, T18, h18, q18, b18, kb18, X18, e18, E18, hS18, hk18, hZ18, hown18, Ea18, Fc18, Fv18, Vb18, lta18, ltb18, C18, -, hne18, st18⟩ := ldcCH X9 hx hZ2 hown2 (wdx hw 27 rfl) hwS e9 hS2 hk9 hEL (List.mem_of_getElem? (i := 0) rfl) CH9.1 (vs := []) (z := (0 : Int32)) ⟨by decide, rfl⟩ (by decide) (by decide) (g := (mkF m 18 #[.val (.ref ob), .val (.ref aa), .val (.int (0 : Int32)), .val (.int (0 : Int32)), .val .null, .unset] [(.ref ob)])) rfl (hb hby d3_18) (n := 0) (by decide) (by decide) (by decide) (by decide)
  refine GoW.st st18 ?_
  have f19 : Exa Z h18 ob "java/lang/String" := f10.ext E18
  have f20 : Fld Z h18 ob "java/lang/String" "value" "[B" (.ref b2) := f11.ext E18
  have f21 : Fld Z h18 ob "java/lang/String" "coder" "B" (.int (0 : Int32)) := f12.ext E18
  have f22 : Safe Z EL T18.vm h18 ob := C18.safe f10.lt f13
  have f23 : Exa Z h18 a2 "java/lang/String" := f14.ext E18
  have f24 : Fld Z h18 a2 "java/lang/String" "coder" "B" (.int (0 : Int32)) := f15.ext E18
  have f25 : Fld Z h18 a2 "java/lang/String" "value" "[B" (.ref b2) := f16.ext E18
  have f26 : Arv Z h18 b2 kb2 .byte (0 : Int32) [] (.int (0 : Int32)) := f17.ext E18
  have CH18 : CHr Z EL s.vm s.heap T18.vm h18 := CH9.trans C18
  have O18 : Old Z n0 h18 := O9.ext E18
  have K18 : Keep h0 h18 [ob] := K9.ext E18
  have hn27 := hne18 ob f22
  show GoW p e below s _ _ _ _ _ (T18.setTop (mkF m 20 #[.val (.ref ob), .val (.ref aa), .val (.int (0 : Int32)), .val (.int (0 : Int32)), .val .null, .unset] [(.ref a18), (.ref ob)]))
  obtain ⟨T28, X28, e28, st28⟩ := getF X18 hx hZ18 hown18 (host := "") (Or.inl (wdx hw 29 rfl)) Via.refl e18 Fc18 (g := (mkF m 20 #[.val (.ref ob), .val (.ref aa), .val (.int (0 : Int32)), .val (.int (0 : Int32)), .val .null, .unset] [(.ref a18), (.ref ob)])) rfl rfl (hb hby d3_20)
  refine GoW.st st28 ?_
  show GoW p e below s _ _ _ _ _ (T28.setTop (mkF m 23 #[.val (.ref ob), .val (.ref aa), .val (.int (0 : Int32)), .val (.int (0 : Int32)), .val .null, .unset] [(.int (0 : Int32)), (.ref ob)]))
  obtain ⟨T29, h29, X29, e29, W29, st29⟩ := putFN X28 hx hZ18 hown18 (wdx hw 29 rfl) Via.refl e28 f21 f19 (Or.inr ⟨(wdx hw 13 rfl), rfl, hnm⟩) (wdx hw 10 rfl) (ty := .byte) (v' := (.int (0 : Int32))) (by decide) rfl rfl (g := (mkF m 23 #[.val (.ref ob), .val (.ref aa), .val (.int (0 : Int32)), .val (.int (0 : Int32)), .val .null, .unset] [(.int (0 : Int32)), (.ref ob)])) rfl rfl (hb hby d3_23)
  refine GoW.st st29 ?_
  have f30 : Exa Z h29 ob "java/lang/String" := f19.wr W29
  have f31 : Fld Z h29 ob "java/lang/String" "value" "[B" (.ref b2) := f20.other W29 (Or.inr (slot_ne (Or.inr (wdx hw 12 rfl)) (Or.inr (wdx hw 13 rfl)) (by decide) (t := (.array .byte)) (t' := .byte) (by decide) (by decide)))
  have f32 : Fld Z h29 ob "java/lang/String" "coder" "B" (.int (0 : Int32)) := f21.same W29
  have f33 : Safe Z EL T18.vm h29 ob := Safe.wr W29 f22 CH18.1 f22
  have f34 : Exa Z h29 a2 "java/lang/String" := f23.wr W29
  have f35 : Fld Z h29 a2 "java/lang/String" "coder" "B" (.int (0 : Int32)) := f24.other W29 (Or.inl (Ne.symm hn7.1))
  have f36 : Fld Z h29 a2 "java/lang/String" "value" "[B" (.ref b2) := f25.other W29 (Or.inl (Ne.symm hn7.1))
  have f37 : Arv Z h29 b2 kb2 .byte (0 : Int32) [] (.int (0 : Int32)) := f26.other W29 (Ne.symm hn7.2)
  have f38 : Exa Z h29 a18 "java/lang/String" := Ea18.wr W29
  have f39 : Fld Z h29 a18 "java/lang/String" "coder" "B" (.int (0 : Int32)) := Fc18.other W29 (Or.inl (Ne.symm hn27.1))
  have f40 : Fld Z h29 a18 "java/lang/String" "value" "[B" (.ref b18) := Fv18.other W29 (Or.inl (Ne.symm hn27.1))
  have f41 : Arv Z h29 b18 kb18 .byte (0 : Int32) [] (.int (0 : Int32)) := Vb18.other W29 (Ne.symm hn27.2)
  have CH29 : CHr Z EL s.vm s.heap T18.vm h29 := CH18.trans (CHr.wr W29 f22 CH18.1)
  have hk29 : q18 ≤ Array.size h29 := Nat.le_trans hk18 (Keep.of_wr W29).1
  have O29 : Old Z n0 h29 := O18.wr W29 g_o
  have N29 := Fr.snoc X29 N9 g_o
  have K29 : Keep h0 h29 [ob] := K18.wr W29 (Or.inl (by simp))
  show GoW p e below s _ _ _ _ _ (T29.setTop (mkF m 26 #[.val (.ref ob), .val (.ref aa), .val (.int (0 : Int32)), .val (.int (0 : Int32)), .val .null, .unset] []))
  refine GoW.retV X29 hx hlk hS18 (by rw [e29]; exact hk29) hZ18 hEL CH29 Bd.returns (hb hby d3_26) (by decide) (by decide) e29 ?_
  exact ⟨b2, kb2, rfl, N29, K29, f31, f32, f37⟩
theorem ef_rm2_0 (m : MethodId) (ob : Addr) (aa : Addr) : entryFrame m #[(.ref ob), (.ref aa)] 2 = mkF m 0 #[.val (.ref ob), .val (.ref aa)] [] := by first | (simp [entryFrame, mkF, argsToLocals, Value.category]; done) | rfl
def Q2_0 (Z : State) (ob : Addr) (aa : Addr) (ka : ClassId) (h0 : Heap) (n0 : Nat) (v : Option Value) (h : Heap) (L : List Loc) : Prop := ∃ (tb : Addr) (kt : ClassId), v = none ∧ Fr n0 L ∧ Keep h0 h [ob] ∧ Fld Z h ob "java/lang/String" "value" "[B" (.ref tb) ∧ Fld Z h ob "java/lang/String" "coder" "B" (.int (0 : Int32)) ∧ Arv Z h tb kt .byte (0 : Int32) [] (.int (0 : Int32))
set_option maxRecDepth 65536 in
set_option maxHeartbeats 40000000 in
theorem rm2_0 (l : Launch) (Z : State) (a0 : Array Value) (hw : ∀ d ∈ tables_1, d.before a0 Z = true) (ws : List Jvm.Cond) (ob : Addr) (aa : Addr) (ka : ClassId) (h0 : Heap) (n0 : Nat) (O0 : Old Z n0 h0) (E_o : Exa Z h0 ob "java/lang/String") (Fv : Fld Z h0 ob "java/lang/String" "value" "[B" .null) (Fc : Fld Z h0 ob "java/lang/String" "coder" "B" (.int (0 : Int32))) (Va : Arv Z h0 aa ka .char (0 : Int32) [] (.int (0 : Int32))) (g_o : n0 ≤ ob) :
    MetFree l (⟨"java/lang/String", "<init>", "([C)V"⟩ : MethodName) (head1 (Jvm.Cond.code (⟨"java/lang/String", "<init>", "([C)V"⟩ : MethodName) jdk_42_method_3_code 2 none :: ws) ({ frames := 2, cells := 4, slots := 8, locals := 29 } : Room)) (fun ay U => ay = #[(.ref ob), (.ref aa)] ∧ Z.Warmed39 U.vm ∧ U.heap = h0 ∧ CHv Z EL U.vm h0 ∧ ∀ y ∈ ([ob] : List Addr), Safe Z EL U.vm h0 y) (fun _ _ _ _ _ => True) (fun _ U o U' => ∃ v L, o = .returned v ∧ Q2_0 Z ob aa ka h0 n0 v U'.heap L ∧ CHr Z EL U.vm U.heap U'.vm U'.heap ∧ ReturnedEndW U o U' L ({ frames := 2, cells := 4, slots := 8, locals := 29 } : Room).cells ({ frames := 2, cells := 4, slots := 8, locals := 29 } : Room).slots) := by
  refine MetFree.of_bodySF (plainFor_of_name pn_java_lang_String) hisR ?_
  intro p e s m args below meth c s₁ Bd hml0 hP hK
  obtain ⟨rfl, hZ, hh, hCH, hSf⟩ := hP
  have hx := Bd.exec
  have hby := Bd.bytes
  have hlk : meth.locks = false := BodyLoose.notSynchronized Bd
  have hml : c.maxLocals = 2 := hml0
  have hown : s.vm.findClass "java/lang/String" = some m.cls := findClass_of_methodNamed Bd.named
  have hnm := (name_of_methodNamed Bd.named Bd.method).1
  have X0 : Stand p l e ({ frames := 2, cells := 4, slots := 8, locals := 29 } : Room) (s.setVm s.vm) m #[(.ref ob), (.ref aa)] below meth c s₁ [] 0 0 := Stand.of_body Bd
  have e0 : s₁.heap = h0 := by rw [← hh, Bd.state]; rfl
  have N0 := Fr.nil n0
  have hS0 : s.Since s.vm 0 := (State.WarmedH.refl s).since 0
  have hk0 : 0 ≤ h0.size := Nat.zero_le _
  have CH0 : CHr Z EL s.vm s.heap s.vm h0 := by rw [hh]; exact CHr.refl hCH
  have hEL : EW Z a0 EL := own_EW hw
  have hwS := own_wS hw
  suffices hgo : GoW p e below s 4 8 Z EL (Q2_0 Z ob aa ka h0 n0) (s₁.setTop (mkF m 0 #[.val (.ref ob), .val (.ref aa)] [])) by
    obtain ⟨t, o, h1, h2⟩ := hgo; exact ⟨t, o, castTop (ef_rm2_0 m ob aa) h1, h2⟩
  show GoW p e below s _ _ _ _ _ (s₁.setTop (mkF m 0 #[.val (.ref ob), .val (.ref aa)] []))
  refine GoW.st (fun _ k' => XS.aloadN X0.here hx rfl (hb hby d2_0) rfl rfl k') ?_
  show GoW p e below s _ _ _ _ _ (s₁.setTop (mkF m 1 #[.val (.ref ob), .val (.ref aa)] [(.ref ob)]))
  refine GoW.st (fun _ k' => XS.aloadN X0.here hx rfl (hb hby d2_1) rfl rfl k') ?_
  show GoW p e below s _ _ _ _ _ (s₁.setTop (mkF m 2 #[.val (.ref ob), .val (.ref aa)] [(.ref aa), (.ref ob)]))
  refine GoW.st (fun _ k' => XS.iconst X0.here hx rfl (hb hby d2_2) k') ?_
  show GoW p e below s _ _ _ _ _ (s₁.setTop (mkF m 3 #[.val (.ref ob), .val (.ref aa)] [(.int (0 : Int32)), (.ref aa), (.ref ob)]))
  refine GoW.st (fun _ k' => XS.aloadN X0.here hx rfl (hb hby d2_3) rfl rfl k') ?_
  show GoW p e below s _ _ _ _ _ (s₁.setTop (mkF m 4 #[.val (.ref ob), .val (.ref aa)] [(.ref aa), (.int (0 : Int32)), (.ref aa), (.ref ob)]))
  obtain ⟨cl1, Ar1, qc1, Sz1, Nn1, Ha1, Gf1⟩ := id Va
  refine GoW.st (fun _ k' => X0.arraylength hx (by rw [e0]; exact Ar1.1) (State.isArrayOf_alike hZ.alike Ar1.2.1) (g := (mkF m 4 #[.val (.ref ob), .val (.ref aa)] [(.ref aa), (.int (0 : Int32)), (.ref aa), (.ref ob)])) rfl rfl (hb hby d2_4) _ k') ?_
  rw [len_of Sz1 Nn1]
  show GoW p e below s _ _ _ _ _ (s₁.setTop (mkF m 5 #[.val (.ref ob), .val (.ref aa)] [(.int (0 : Int32)), (.int (0 : Int32)), (.ref aa), (.ref ob)]))
  refine GoW.st (fun _ k' => XS.aconstNull X0.here hx rfl (hb hby d2_5) k') ?_
  show GoW p e below s _ _ _ _ _ (s₁.setTop (mkF m 6 #[.val (.ref ob), .val (.ref aa)] [.null, (.int (0 : Int32)), (.int (0 : Int32)), (.ref aa), (.ref ob)]))
  obtain ⟨_, _, ⟨T2, L2, k2, n2⟩, -, Xr2, hSr2, hgr2, ⟨Lc2, hQ2, l2, y2, z2, C2⟩, st2⟩ := X0.specialBackS hx (y := (⟨"java/lang/String", "<init>", "([CIILjava/lang/Void;)V"⟩ : MethodName)) rfl hown (mvT hZ (wdx hw 20 rfl)) (mvT hZ (wdx hw 21 rfl)) (mvT hZ (wdx hw 23 rfl)) (by decide) (own_back (W := 0) (rm3_0 l Z a0 hw [] ob aa h0 n0 O0 E_o Fv Fc g_o) hZ (wdx hw 23 rfl) (wdx hw 9 rfl) (by decide) (by decide) hEL CH0.1 (allS ⟨E_o.lt, (hSf ob (List.mem_of_getElem? (i := 0) rfl))⟩ all0)) (g := (mkF m 6 #[.val (.ref ob), .val (.ref aa)] [.null, (.int (0 : Int32)), (.int (0 : Int32)), (.ref aa), (.ref ob)])) rfl (by rw [hml]; rfl) (Steps.refl _) (a := ob) (argsL := [(.ref aa), (.int (0 : Int32)), (.int (0 : Int32)), .null]) (rest := []) (lenOf pd___CIILjava_lang_Void__V rfl) rfl (by show 2 * 0 + _ ≤ _; exact Nat.le_of_eq rfl) (hb hby d2_6) (fun _ _ => ⟨rfl, e0, (by exact Nat.le_of_ble_eq_true rfl), (by exact Nat.le_of_ble_eq_true rfl)⟩)
  dsimp only [Pt.U, Pt.locs, Pt.cells, Pt.slots] at Xr2 hSr2 hgr2 l2 y2 z2 C2 st2 hQ2
  subst l2 y2 z2
  obtain ⟨X2, hS2, hZ2, hown2⟩ := rebS hS0 (by rw [e0]; exact hk0) Xr2 hSr2 hgr2 hZ hown
  obtain ⟨tb_2, kt_2, rfl, Nq2, Kq2, f3, f4, f5⟩ := hQ2
  have N2 := Fr.app N0 Nq2
  refine GoW.tr st2 ?_
  have f6 : Exa Z T2.heap ob "java/lang/String" := E_o.keep Kq2
  have ne7 : ob ≠ aa := Exa.neArv E_o Va (wdx hw 10 rfl)
  have f8 : Arv Z T2.heap aa ka .char (0 : Int32) [] (.int (0 : Int32)) := Va.keep Kq2 (ninS (Ne.symm ne7) nin0)
  have f9 : Safe Z EL T2.vm T2.heap ob := C2.safe E_o.lt (hSf ob (List.mem_of_getElem? (i := 0) rfl))
  have CH2 : CHr Z EL s.vm s.heap T2.vm T2.heap := CH0.trans C2
  have O2 : Old Z n0 T2.heap := O0.keep Kq2 (allS g_o all0)
  have K2 : Keep h0 T2.heap [ob] := (Keep.refl h0 [ob]).trans Kq2 (allS (Or.inl (by simp)) all0)
  show GoW p e below s _ _ _ _ _ (T2.setTop (mkF m 9 #[.val (.ref ob), .val (.ref aa)] []))
  refine GoW.retV X2 hx hlk hS2 (Nat.le_refl _) hZ2 hEL CH2 Bd.returns (hb hby d2_9) (by decide) (by decide) rfl ?_
  exact ⟨tb_2, kt_2, rfl, N2, K2, f3, f4, f5⟩
theorem ef_rm2_y (m : MethodId) (ob : Addr) (aa : Addr) : entryFrame m #[(.ref ob), (.ref aa)] 2 = mkF m 0 #[.val (.ref ob), .val (.ref aa)] [] := by first | (simp [entryFrame, mkF, argsToLocals, Value.category]; done) | rfl
def Q2_y (Z : State) (ob : Addr) (aa : Addr) (ka : ClassId) (la : List Int32) (cs : Int32) (h0 : Heap) (n0 : Nat) (v : Option Value) (h : Heap) (L : List Loc) : Prop := ∃ (tb : Addr) (kt : ClassId), v = none ∧ Fr n0 L ∧ Keep h0 h [ob] ∧ Fld Z h ob "java/lang/String" "value" "[B" (.ref tb) ∧ Fld Z h ob "java/lang/String" "coder" "B" (.int (0 : Int32)) ∧ Arv Z h tb kt .byte (Int32.ofNat (List.length (fbl la))) (List.map Value.int (fbl la)) (.int (0 : Int32))
set_option maxRecDepth 65536 in
set_option maxHeartbeats 40000000 in
theorem rm2_y (l : Launch) (Z : State) (a0 : Array Value) (hw : ∀ d ∈ tables_1, d.before a0 Z = true) (ws : List Jvm.Cond) (ob : Addr) (aa : Addr) (ka : ClassId) (la : List Int32) (cs : Int32) (h0 : Heap) (n0 : Nat) (O0 : Old Z n0 h0) (E_o : Exa Z h0 ob "java/lang/String") (Fv : Fld Z h0 ob "java/lang/String" "value" "[B" .null) (Fc : Fld Z h0 ob "java/lang/String" "coder" "B" (.int (0 : Int32))) (Va : Arv Z h0 aa ka .char (Int32.ofNat (List.length la)) (List.map Value.int la) (.int (0 : Int32))) (S_cs : Sta Z Z.heap "java/lang/String" "COMPACT_STRINGS" "Z" (.int cs)) (q_cs : ¬ cs = (0 : Int32)) (g_o : n0 ≤ ob) (q_la : la.length ≤ 2) (q_lc : ∀ y ∈ la, ¬ (255 : Int32) < y) :
    MetFree l (⟨"java/lang/String", "<init>", "([C)V"⟩ : MethodName) (head1 (Jvm.Cond.code (⟨"java/lang/String", "<init>", "([C)V"⟩ : MethodName) jdk_42_method_3_code 2 none :: ws) ({ frames := 3, cells := 4, slots := 8, locals := 52 } : Room)) (fun ay U => ay = #[(.ref ob), (.ref aa)] ∧ Z.Warmed39 U.vm ∧ U.heap = h0 ∧ CHv Z EL U.vm h0 ∧ ∀ y ∈ ([ob] : List Addr), Safe Z EL U.vm h0 y) (fun _ _ _ _ _ => True) (fun _ U o U' => ∃ v L, o = .returned v ∧ Q2_y Z ob aa ka la cs h0 n0 v U'.heap L ∧ CHr Z EL U.vm U.heap U'.vm U'.heap ∧ ReturnedEndW U o U' L ({ frames := 3, cells := 4, slots := 8, locals := 52 } : Room).cells ({ frames := 3, cells := 4, slots := 8, locals := 52 } : Room).slots) := by
  refine MetFree.of_bodySF (plainFor_of_name pn_java_lang_String) hisR ?_
  intro p e s m args below meth c s₁ Bd hml0 hP hK
  obtain ⟨rfl, hZ, hh, hCH, hSf⟩ := hP
  have hx := Bd.exec
  have hby := Bd.bytes
  have hlk : meth.locks = false := BodyLoose.notSynchronized Bd
  have hml : c.maxLocals = 2 := hml0
  have hown : s.vm.findClass "java/lang/String" = some m.cls := findClass_of_methodNamed Bd.named
  have hnm := (name_of_methodNamed Bd.named Bd.method).1
  have X0 : Stand p l e ({ frames := 3, cells := 4, slots := 8, locals := 52 } : Room) (s.setVm s.vm) m #[(.ref ob), (.ref aa)] below meth c s₁ [] 0 0 := Stand.of_body Bd
  have e0 : s₁.heap = h0 := by rw [← hh, Bd.state]; rfl
  have N0 := Fr.nil n0
  have hS0 : s.Since s.vm 0 := (State.WarmedH.refl s).since 0
  have hk0 : 0 ≤ h0.size := Nat.zero_le _
  have CH0 : CHr Z EL s.vm s.heap s.vm h0 := by rw [hh]; exact CHr.refl hCH
  have hEL : EW Z a0 EL := own_EW hw
  have hwS := own_wS hw
  suffices hgo : GoW p e below s 4 8 Z EL (Q2_y Z ob aa ka la cs h0 n0) (s₁.setTop (mkF m 0 #[.val (.ref ob), .val (.ref aa)] [])) by
    obtain ⟨t, o, h1, h2⟩ := hgo; exact ⟨t, o, castTop (ef_rm2_y m ob aa) h1, h2⟩
  show GoW p e below s _ _ _ _ _ (s₁.setTop (mkF m 0 #[.val (.ref ob), .val (.ref aa)] []))
  rcases own_l2 la q_la with rfl | ⟨pa, rfl⟩ | ⟨pa, qa, rfl⟩
  · have v1 : Arv Z h0 aa ka .char (0 : Int32) [] (.int (0 : Int32)) := Va
    show GoW p e below s _ _ _ _ _ (s₁.setTop (mkF m 0 #[.val (.ref ob), .val (.ref aa)] []))
    refine GoW.st (fun _ k' => XS.aloadN X0.here hx rfl (hb hby d2_0) rfl rfl k') ?_
    show GoW p e below s _ _ _ _ _ (s₁.setTop (mkF m 1 #[.val (.ref ob), .val (.ref aa)] [(.ref ob)]))
    refine GoW.st (fun _ k' => XS.aloadN X0.here hx rfl (hb hby d2_1) rfl rfl k') ?_
    show GoW p e below s _ _ _ _ _ (s₁.setTop (mkF m 2 #[.val (.ref ob), .val (.ref aa)] [(.ref aa), (.ref ob)]))
    refine GoW.st (fun _ k' => XS.iconst X0.here hx rfl (hb hby d2_2) k') ?_
    show GoW p e below s _ _ _ _ _ (s₁.setTop (mkF m 3 #[.val (.ref ob), .val (.ref aa)] [(.int (0 : Int32)), (.ref aa), (.ref ob)]))
    refine GoW.st (fun _ k' => XS.aloadN X0.here hx rfl (hb hby d2_3) rfl rfl k') ?_
    show GoW p e below s _ _ _ _ _ (s₁.setTop (mkF m 4 #[.val (.ref ob), .val (.ref aa)] [(.ref aa), (.int (0 : Int32)), (.ref aa), (.ref ob)]))
    obtain ⟨cl2, Ar2, qc2, Sz2, Nn2, Ha2, Gf2⟩ := id v1
    refine GoW.st (fun _ k' => X0.arraylength hx (by rw [e0]; exact Ar2.1) (State.isArrayOf_alike hZ.alike Ar2.2.1) (g := (mkF m 4 #[.val (.ref ob), .val (.ref aa)] [(.ref aa), (.int (0 : Int32)), (.ref aa), (.ref ob)])) rfl rfl (hb hby d2_4) _ k') ?_
    rw [len_of Sz2 Nn2]
    show GoW p e below s _ _ _ _ _ (s₁.setTop (mkF m 5 #[.val (.ref ob), .val (.ref aa)] [(.int (0 : Int32)), (.int (0 : Int32)), (.ref aa), (.ref ob)]))
    refine GoW.st (fun _ k' => XS.aconstNull X0.here hx rfl (hb hby d2_5) k') ?_
    show GoW p e below s _ _ _ _ _ (s₁.setTop (mkF m 6 #[.val (.ref ob), .val (.ref aa)] [.null, (.int (0 : Int32)), (.int (0 : Int32)), (.ref aa), (.ref ob)]))
    obtain ⟨_, _, ⟨T3, L3, k3, n3⟩, -, Xr3, hSr3, hgr3, ⟨Lc3, hQ3, l3, y3, z3, C3⟩, st3⟩ := X0.specialBackS hx (y := (⟨"java/lang/String", "<init>", "([CIILjava/lang/Void;)V"⟩ : MethodName)) rfl hown (mvT hZ (wdx hw 20 rfl)) (mvT hZ (wdx hw 21 rfl)) (mvT hZ (wdx hw 23 rfl)) (by decide) (own_back (W := 0) (rm3_0 l Z a0 hw [] ob aa h0 n0 O0 E_o Fv Fc g_o) hZ (wdx hw 23 rfl) (wdx hw 9 rfl) (by decide) (by decide) hEL CH0.1 (allS ⟨E_o.lt, (hSf ob (List.mem_of_getElem? (i := 0) rfl))⟩ all0)) (g := (mkF m 6 #[.val (.ref ob), .val (.ref aa)] [.null, (.int (0 : Int32)), (.int (0 : Int32)), (.ref aa), (.ref ob)])) rfl (by rw [hml]; rfl) (Steps.refl _) (a := ob) (argsL := [(.ref aa), (.int (0 : Int32)), (.int (0 : Int32)), .null]) (rest := []) (lenOf pd___CIILjava_lang_Void__V rfl) rfl (by show 2 * 0 + _ ≤ _; exact Nat.le_of_eq rfl) (hb hby d2_6) (fun _ _ => ⟨rfl, e0, (by exact Nat.le_of_ble_eq_true rfl), (by exact Nat.le_of_ble_eq_true rfl)⟩)
    dsimp only [Pt.U, Pt.locs, Pt.cells, Pt.slots] at Xr3 hSr3 hgr3 l3 y3 z3 C3 st3 hQ3
    subst l3 y3 z3
    obtain ⟨X3, hS3, hZ3, hown3⟩ := rebS hS0 (by rw [e0]; exact hk0) Xr3 hSr3 hgr3 hZ hown
    obtain ⟨tb_3, kt_3, rfl, Nq3, Kq3, f4, f5, f6⟩ := hQ3
    have N3 := Fr.app N0 Nq3
    refine GoW.tr st3 ?_
    have f7 : Exa Z T3.heap ob "java/lang/String" := E_o.keep Kq3
    have ne8 : ob ≠ aa := Exa.neArv E_o v1 (wdx hw 10 rfl)
    have f9 : Arv Z T3.heap aa ka .char (0 : Int32) [] (.int (0 : Int32)) := v1.keep Kq3 (ninS (Ne.symm ne8) nin0)
    have f10 : Safe Z EL T3.vm T3.heap ob := C3.safe E_o.lt (hSf ob (List.mem_of_getElem? (i := 0) rfl))
    have CH3 : CHr Z EL s.vm s.heap T3.vm T3.heap := CH0.trans C3
    have O3 : Old Z n0 T3.heap := O0.keep Kq3 (allS g_o all0)
    have K3 : Keep h0 T3.heap [ob] := (Keep.refl h0 [ob]).trans Kq3 (allS (Or.inl (by simp)) all0)
    show GoW p e below s _ _ _ _ _ (T3.setTop (mkF m 9 #[.val (.ref ob), .val (.ref aa)] []))
    refine GoW.retV X3 hx hlk hS3 (Nat.le_refl _) hZ3 hEL CH3 Bd.returns (hb hby d2_9) (by decide) (by decide) rfl ?_
    exact ⟨tb_3, kt_3, rfl, N3, K3, f4, f5, (own_vs (lb := []) (by simp [fbl]) f6)⟩
  · have v11 : Arv Z h0 aa ka .char (1 : Int32) [(.int pa)] (.int (0 : Int32)) := Va
    show GoW p e below s _ _ _ _ _ (s₁.setTop (mkF m 0 #[.val (.ref ob), .val (.ref aa)] []))
    refine GoW.st (fun _ k' => XS.aloadN X0.here hx rfl (hb hby d2_0) rfl rfl k') ?_
    show GoW p e below s _ _ _ _ _ (s₁.setTop (mkF m 1 #[.val (.ref ob), .val (.ref aa)] [(.ref ob)]))
    refine GoW.st (fun _ k' => XS.aloadN X0.here hx rfl (hb hby d2_1) rfl rfl k') ?_
    show GoW p e below s _ _ _ _ _ (s₁.setTop (mkF m 2 #[.val (.ref ob), .val (.ref aa)] [(.ref aa), (.ref ob)]))
    refine GoW.st (fun _ k' => XS.iconst X0.here hx rfl (hb hby d2_2) k') ?_
    show GoW p e below s _ _ _ _ _ (s₁.setTop (mkF m 3 #[.val (.ref ob), .val (.ref aa)] [(.int (0 : Int32)), (.ref aa), (.ref ob)]))
    refine GoW.st (fun _ k' => XS.aloadN X0.here hx rfl (hb hby d2_3) rfl rfl k') ?_
    show GoW p e below s _ _ _ _ _ (s₁.setTop (mkF m 4 #[.val (.ref ob), .val (.ref aa)] [(.ref aa), (.int (0 : Int32)), (.ref aa), (.ref ob)]))
    obtain ⟨cl12, Ar12, qc12, Sz12, Nn12, Ha12, Gf12⟩ := id v11
    refine GoW.st (fun _ k' => X0.arraylength hx (by rw [e0]; exact Ar12.1) (State.isArrayOf_alike hZ.alike Ar12.2.1) (g := (mkF m 4 #[.val (.ref ob), .val (.ref aa)] [(.ref aa), (.int (0 : Int32)), (.ref aa), (.ref ob)])) rfl rfl (hb hby d2_4) _ k') ?_
    rw [len_of Sz12 Nn12]
    show GoW p e below s _ _ _ _ _ (s₁.setTop (mkF m 5 #[.val (.ref ob), .val (.ref aa)] [(.int (1 : Int32)), (.int (0 : Int32)), (.ref aa), (.ref ob)]))
    refine GoW.st (fun _ k' => XS.aconstNull X0.here hx rfl (hb hby d2_5) k') ?_
    show GoW p e below s _ _ _ _ _ (s₁.setTop (mkF m 6 #[.val (.ref ob), .val (.ref aa)] [.null, (.int (1 : Int32)), (.int (0 : Int32)), (.ref aa), (.ref ob)]))
    have ne14 : ob ≠ aa := Exa.neArv E_o v11 (wdx hw 10 rfl)
    obtain ⟨_, _, ⟨T13, L13, k13, n13⟩, -, X13, ⟨Lc13, hQ13, l13, y13, z13⟩, st13⟩ := X0.specialBack hx (y := (⟨"java/lang/String", "<init>", "([CIILjava/lang/Void;)V"⟩ : MethodName)) rfl hown (mvT hZ (wdx hw 20 rfl)) (mvT hZ (wdx hw 21 rfl)) (mvT hZ (wdx hw 23 rfl)) (by decide) (backOf (W := 0) (rm3_1 l Z a0 hw [] ob aa ka cs pa h0 n0 O0 E_o Fv Fc v11 S_cs q_cs (q_lc _ (by simp)) g_o ne14) hZ (wdx hw 23 rfl) (wdx hw 9 rfl) (by decide) (by decide)) (g := (mkF m 6 #[.val (.ref ob), .val (.ref aa)] [.null, (.int (1 : Int32)), (.int (0 : Int32)), (.ref aa), (.ref ob)])) rfl (by rw [hml]; rfl) (Steps.refl _) (a := ob) (argsL := [(.ref aa), (.int (0 : Int32)), (.int (1 : Int32)), .null]) (rest := []) (lenOf pd___CIILjava_lang_Void__V rfl) rfl (by show 2 * 0 + _ ≤ _; exact Nat.le_of_eq rfl) (hb hby d2_6) (fun _ _ => ⟨rfl, e0, (by exact Nat.le_of_ble_eq_true rfl), (by exact Nat.le_of_ble_eq_true rfl)⟩)
    dsimp only [Pt.U, Pt.locs, Pt.cells, Pt.slots] at X13 l13 y13 z13 st13 hQ13
    subst l13 y13 z13
    obtain ⟨tb_13, kt_13, rfl, Nq13, Kq13, f15, f16, f17, szt_13⟩ := hQ13
    have N13 := Fr.app N0 Nq13
    refine GoW.tr st13 ?_
    have f18 : Exa Z T13.heap ob "java/lang/String" := E_o.keep Kq13
    have f19 : Arv Z T13.heap aa ka .char (1 : Int32) [(.int pa)] (.int (0 : Int32)) := v11.keep Kq13 (ninS (Ne.symm ne14) nin0)
    have f20 : Safe Z EL s.vm T13.heap ob := Safe.keep Kq13 (allS (hSf ob (List.mem_of_getElem? (i := 0) rfl)) all0) CH0.1 (hSf ob (List.mem_of_getElem? (i := 0) rfl))
    have CH13 : CHr Z EL s.vm s.heap s.vm T13.heap := CH0.trans (CHr.keep Kq13 (allS (hSf ob (List.mem_of_getElem? (i := 0) rfl)) all0) CH0.1)
    have hk13 : 0 ≤ Array.size T13.heap := Nat.le_trans hk0 Kq13.1
    have O13 : Old Z n0 T13.heap := O0.keep Kq13 (allS g_o all0)
    have K13 : Keep h0 T13.heap [ob] := (Keep.refl h0 [ob]).trans Kq13 (allS (Or.inl (by simp)) all0)
    have g_tb_13 : n0 ≤ tb_13 := Nat.le_trans (own_le O0) szt_13
    have sf_tb_13 : Safe Z EL s.vm T13.heap tb_13 := Safe.keep Kq13 (allS (hSf ob (List.mem_of_getElem? (i := 0) rfl)) all0) CH0.1 (Safe.new szt_13)
    have z_tb_13 : h0.size ≤ tb_13 := szt_13
    have ne21 : ob ≠ tb_13 := Nat.ne_of_lt (Nat.lt_of_lt_of_le E_o.lt szt_13)
    have ne22 : aa ≠ tb_13 := Nat.ne_of_lt (Nat.lt_of_lt_of_le v11.lt szt_13)
    show GoW p e below s _ _ _ _ _ (T13.setTop (mkF m 9 #[.val (.ref ob), .val (.ref aa)] []))
    refine GoW.retV X13 hx hlk hS0 hk13 hZ hEL CH13 Bd.returns (hb hby d2_9) (by decide) (by decide) rfl ?_
    exact ⟨tb_13, kt_13, rfl, N13, K13, f15, f16, (own_vs (lb := [(nar .byte (pa.toInt8.toInt32))]) (by simp [fbl]) f17)⟩
  · have v23 : Arv Z h0 aa ka .char (2 : Int32) [(.int pa), (.int qa)] (.int (0 : Int32)) := Va
    show GoW p e below s _ _ _ _ _ (s₁.setTop (mkF m 0 #[.val (.ref ob), .val (.ref aa)] []))
    refine GoW.st (fun _ k' => XS.aloadN X0.here hx rfl (hb hby d2_0) rfl rfl k') ?_
    show GoW p e below s _ _ _ _ _ (s₁.setTop (mkF m 1 #[.val (.ref ob), .val (.ref aa)] [(.ref ob)]))
    refine GoW.st (fun _ k' => XS.aloadN X0.here hx rfl (hb hby d2_1) rfl rfl k') ?_
    show GoW p e below s _ _ _ _ _ (s₁.setTop (mkF m 2 #[.val (.ref ob), .val (.ref aa)] [(.ref aa), (.ref ob)]))
    refine GoW.st (fun _ k' => XS.iconst X0.here hx rfl (hb hby d2_2) k') ?_
    show GoW p e below s _ _ _ _ _ (s₁.setTop (mkF m 3 #[.val (.ref ob), .val (.ref aa)] [(.int (0 : Int32)), (.ref aa), (.ref ob)]))
    refine GoW.st (fun _ k' => XS.aloadN X0.here hx rfl (hb hby d2_3) rfl rfl k') ?_
    show GoW p e below s _ _ _ _ _ (s₁.setTop (mkF m 4 #[.val (.ref ob), .val (.ref aa)] [(.ref aa), (.int (0 : Int32)), (.ref aa), (.ref ob)]))
    obtain ⟨cl24, Ar24, qc24, Sz24, Nn24, Ha24, Gf24⟩ := id v23
    refine GoW.st (fun _ k' => X0.arraylength hx (by rw [e0]; exact Ar24.1) (State.isArrayOf_alike hZ.alike Ar24.2.1) (g := (mkF m 4 #[.val (.ref ob), .val (.ref aa)] [(.ref aa), (.int (0 : Int32)), (.ref aa), (.ref ob)])) rfl rfl (hb hby d2_4) _ k') ?_
    rw [len_of Sz24 Nn24]
    show GoW p e below s _ _ _ _ _ (s₁.setTop (mkF m 5 #[.val (.ref ob), .val (.ref aa)] [(.int (2 : Int32)), (.int (0 : Int32)), (.ref aa), (.ref ob)]))
    refine GoW.st (fun _ k' => XS.aconstNull X0.here hx rfl (hb hby d2_5) k') ?_
    show GoW p e below s _ _ _ _ _ (s₁.setTop (mkF m 6 #[.val (.ref ob), .val (.ref aa)] [.null, (.int (2 : Int32)), (.int (0 : Int32)), (.ref aa), (.ref ob)]))
    have ne26 : ob ≠ aa := Exa.neArv E_o v23 (wdx hw 10 rfl)
    obtain ⟨_, _, ⟨T25, L25, k25, n25⟩, -, X25, ⟨Lc25, hQ25, l25, y25, z25⟩, st25⟩ := X0.specialBack hx (y := (⟨"java/lang/String", "<init>", "([CIILjava/lang/Void;)V"⟩ : MethodName)) rfl hown (mvT hZ (wdx hw 20 rfl)) (mvT hZ (wdx hw 21 rfl)) (mvT hZ (wdx hw 23 rfl)) (by decide) (backOf (W := 0) (rm3_2 l Z a0 hw [] ob aa ka cs pa qa h0 n0 O0 E_o Fv Fc v23 S_cs q_cs (q_lc _ (by simp)) (q_lc _ (by simp)) g_o ne26) hZ (wdx hw 23 rfl) (wdx hw 9 rfl) (by decide) (by decide)) (g := (mkF m 6 #[.val (.ref ob), .val (.ref aa)] [.null, (.int (2 : Int32)), (.int (0 : Int32)), (.ref aa), (.ref ob)])) rfl (by rw [hml]; rfl) (Steps.refl _) (a := ob) (argsL := [(.ref aa), (.int (0 : Int32)), (.int (2 : Int32)), .null]) (rest := []) (lenOf pd___CIILjava_lang_Void__V rfl) rfl (by show 2 * 0 + _ ≤ _; exact Nat.le_of_eq rfl) (hb hby d2_6) (fun _ _ => ⟨rfl, e0, (by exact Nat.le_of_ble_eq_true rfl), (by exact Nat.le_of_ble_eq_true rfl)⟩)
    dsimp only [Pt.U, Pt.locs, Pt.cells, Pt.slots] at X25 l25 y25 z25 st25 hQ25
    subst l25 y25 z25
    obtain ⟨tb_25, kt_25, rfl, Nq25, Kq25, f27, f28, f29, szt_25⟩ := hQ25
    have N25 := Fr.app N0 Nq25
    refine GoW.tr st25 ?_
    have f30 : Exa Z T25.heap ob "java/lang/String" := E_o.keep Kq25
    have f31 : Arv Z T25.heap aa ka .char (2 : Int32) [(.int pa), (.int qa)] (.int (0 : Int32)) := v23.keep Kq25 (ninS (Ne.symm ne26) nin0)
    have f32 : Safe Z EL s.vm T25.heap ob := Safe.keep Kq25 (allS (hSf ob (List.mem_of_getElem? (i := 0) rfl)) all0) CH0.1 (hSf ob (List.mem_of_getElem? (i := 0) rfl))
    have CH25 : CHr Z EL s.vm s.heap s.vm T25.heap := CH0.trans (CHr.keep Kq25 (allS (hSf ob (List.mem_of_getElem? (i := 0) rfl)) all0) CH0.1)
    have hk25 : 0 ≤ Array.size T25.heap := Nat.le_trans hk0 Kq25.1
    have O25 : Old Z n0 T25.heap := O0.keep Kq25 (allS g_o all0)
    have K25 : Keep h0 T25.heap [ob] := (Keep.refl h0 [ob]).trans Kq25 (allS (Or.inl (by simp)) all0)
    have g_tb_25 : n0 ≤ tb_25 := Nat.le_trans (own_le O0) szt_25
    have sf_tb_25 : Safe Z EL s.vm T25.heap tb_25 := Safe.keep Kq25 (allS (hSf ob (List.mem_of_getElem? (i := 0) rfl)) all0) CH0.1 (Safe.new szt_25)
    have z_tb_25 : h0.size ≤ tb_25 := szt_25
    have ne33 : ob ≠ tb_25 := Nat.ne_of_lt (Nat.lt_of_lt_of_le E_o.lt szt_25)
    have ne34 : aa ≠ tb_25 := Nat.ne_of_lt (Nat.lt_of_lt_of_le v23.lt szt_25)
    show GoW p e below s _ _ _ _ _ (T25.setTop (mkF m 9 #[.val (.ref ob), .val (.ref aa)] []))
    refine GoW.retV X25 hx hlk hS0 hk25 hZ hEL CH25 Bd.returns (hb hby d2_9) (by decide) (by decide) rfl ?_
    exact ⟨tb_25, kt_25, rfl, N25, K25, f27, f28, (own_vs (lb := [(nar .byte (pa.toInt8.toInt32)), (nar .byte (qa.toInt8.toInt32))]) (by simp [fbl]) f29)⟩
theorem d14_0 : decode jdk_43_method_13_code 0 = .ok (.aload_n 0, 1) := by decide +kernel
theorem d14_1 : decode jdk_43_method_13_code 1 = .ok (.arraylength, 1) := by decide +kernel
theorem d14_2 : decode jdk_43_method_13_code 2 = .ok (.aload_n 1, 1) := by decide +kernel
theorem d14_3 : decode jdk_43_method_13_code 3 = .ok (.arraylength, 1) := by decide +kernel
theorem d14_4 : decode jdk_43_method_13_code 4 = .ok (.if_icmp .ne 30, 3) := by decide +kernel
theorem d14_7 : decode jdk_43_method_13_code 7 = .ok (.iconst 0, 1) := by decide +kernel
theorem d14_8 : decode jdk_43_method_13_code 8 = .ok (.istore_n 2, 1) := by decide +kernel
theorem d14_9 : decode jdk_43_method_13_code 9 = .ok (.iload_n 2, 1) := by decide +kernel
theorem d14_10 : decode jdk_43_method_13_code 10 = .ok (.aload_n 0, 1) := by decide +kernel
theorem d14_11 : decode jdk_43_method_13_code 11 = .ok (.arraylength, 1) := by decide +kernel
theorem d14_12 : decode jdk_43_method_13_code 12 = .ok (.if_icmp .ge 20, 3) := by decide +kernel
theorem d14_32 : decode jdk_43_method_13_code 32 = .ok (.iconst 1, 1) := by decide +kernel
theorem d14_33 : decode jdk_43_method_13_code 33 = .ok (.ireturn, 1) := by decide +kernel
theorem d14_34 : decode jdk_43_method_13_code 34 = .ok (.iconst 0, 1) := by decide +kernel
theorem d14_35 : decode jdk_43_method_13_code 35 = .ok (.ireturn, 1) := by decide +kernel
theorem d14_15 : decode jdk_43_method_13_code 15 = .ok (.aload_n 0, 1) := by decide +kernel
theorem d14_16 : decode jdk_43_method_13_code 16 = .ok (.iload_n 2, 1) := by decide +kernel
theorem d14_17 : decode jdk_43_method_13_code 17 = .ok (.baload, 1) := by decide +kernel
theorem d14_18 : decode jdk_43_method_13_code 18 = .ok (.aload_n 1, 1) := by decide +kernel
theorem d14_19 : decode jdk_43_method_13_code 19 = .ok (.iload_n 2, 1) := by decide +kernel
theorem d14_20 : decode jdk_43_method_13_code 20 = .ok (.baload, 1) := by decide +kernel
theorem d14_21 : decode jdk_43_method_13_code 21 = .ok (.if_icmp .eq 5, 3) := by decide +kernel
theorem d14_26 : decode jdk_43_method_13_code 26 = .ok (.iinc 2 1, 3) := by decide +kernel
theorem d14_29 : decode jdk_43_method_13_code 29 = .ok (.goto (-20), 3) := by decide +kernel
theorem d14_24 : decode jdk_43_method_13_code 24 = .ok (.iconst 0, 1) := by decide +kernel
theorem d14_25 : decode jdk_43_method_13_code 25 = .ok (.ireturn, 1) := by decide +kernel
theorem pn_java_lang_StringLatin1 : plainName "java/lang/StringLatin1" = true := by first | (simp [plainName, overriddenIn]; done) | decide +kernel
theorem ef_rm14 (m : MethodId) (ta : Addr) (td : Addr) : entryFrame m #[(.ref ta), (.ref td)] 3 = mkF m 0 #[.val (.ref ta), .val (.ref td), .unset] [] := by first | (simp [entryFrame, mkF, argsToLocals, Value.category]; done) | rfl
def Q14 (Z : State) (ta : Addr) (td : Addr) (ka : ClassId) (la : List Int32) (kd : ClassId) (lb : List Int32) (h0 : Heap) (n0 : Nat) (v : Option Value) (h : Heap) (L : List Loc) : Prop := v = some (.int (if la = lb then (1 : Int32) else 0)) ∧ Fr n0 L ∧ h = h0
set_option maxRecDepth 65536 in
set_option maxHeartbeats 40000000 in
theorem rm14 (l : Launch) (Z : State) (a0 : Array Value) (hw : ∀ d ∈ tables_1, d.before a0 Z = true) (ws : List Jvm.Cond) (ta : Addr) (td : Addr) (ka : ClassId) (la : List Int32) (kd : ClassId) (lb : List Int32) (h0 : Heap) (n0 : Nat) (O0 : Old Z n0 h0) (Va : Arv Z h0 ta ka .byte (Int32.ofNat (List.length la)) (List.map Value.int la) (.int (0 : Int32))) (Vd : Arv Z h0 td kd .byte (Int32.ofNat (List.length lb)) (List.map Value.int lb) (.int (0 : Int32))) (q_la : la.length ≤ 2) (q_lb : lb.length ≤ 2) :
    MetFree l (⟨"java/lang/StringLatin1", "equals", "([B[B)Z"⟩ : MethodName) (head1 (Jvm.Cond.code (⟨"java/lang/StringLatin1", "equals", "([B[B)Z"⟩ : MethodName) jdk_43_method_13_code 3 (some .boolean) :: ws) ({ frames := 0, cells := 0, slots := 0, locals := 0 } : Room)) (fun ay U => ay = #[(.ref ta), (.ref td)] ∧ Z.Warmed39 U.vm ∧ U.heap = h0) (fun _ _ _ _ _ => True) (fun _ U o U' => ∃ v L, o = .returned v ∧ Q14 Z ta td ka la kd lb h0 n0 v U'.heap L ∧ FrameEnd U o U' L ({ frames := 0, cells := 0, slots := 0, locals := 0 } : Room).cells ({ frames := 0, cells := 0, slots := 0, locals := 0 } : Room).slots) := by
  refine MetFree.of_bodySF (plainFor_of_name pn_java_lang_StringLatin1) hisR ?_
  intro p e s m args below meth c s₁ Bd hml0 hP hK
  obtain ⟨rfl, hZ, hh⟩ := hP
  have hx := Bd.exec
  have hby := Bd.bytes
  have hlk : meth.locks = false := BodyLoose.notSynchronized Bd
  have hml : c.maxLocals = 3 := hml0
  have hown : s.vm.findClass "java/lang/StringLatin1" = some m.cls := findClass_of_methodNamed Bd.named
  have hnm := (name_of_methodNamed Bd.named Bd.method).1
  have X0 : Stand p l e ({ frames := 0, cells := 0, slots := 0, locals := 0 } : Room) s m #[(.ref ta), (.ref td)] below meth c s₁ [] 0 0 := Stand.of_body Bd
  have e0 : s₁.heap = h0 := by rw [← hh, Bd.state]; rfl
  have N0 := Fr.nil n0
  suffices hgo : Go p e below s 0 0 (Q14 Z ta td ka la kd lb h0 n0) (s₁.setTop (mkF m 0 #[.val (.ref ta), .val (.ref td), .unset] [])) by
    obtain ⟨t, o, h1, h2⟩ := hgo; exact ⟨t, o, castTop (ef_rm14 m ta td) h1, h2⟩
  show Go p e below s _ _ _ (s₁.setTop (mkF m 0 #[.val (.ref ta), .val (.ref td), .unset] []))
  rcases own_l2 la q_la with rfl | ⟨pa, rfl⟩ | ⟨pa, qa, rfl⟩
  · have v1 : Arv Z h0 ta ka .byte (0 : Int32) [] (.int (0 : Int32)) := Va
    rcases own_l2 lb q_lb with rfl | ⟨pb, rfl⟩ | ⟨pb, qb, rfl⟩
    · have v2 : Arv Z h0 td kd .byte (0 : Int32) [] (.int (0 : Int32)) := Vd
      show Go p e below s _ _ _ (s₁.setTop (mkF m 0 #[.val (.ref ta), .val (.ref td), .unset] []))
      refine Go.st (fun _ k' => XS.aloadN X0.here hx rfl (hb hby d14_0) rfl rfl k') ?_
      show Go p e below s _ _ _ (s₁.setTop (mkF m 1 #[.val (.ref ta), .val (.ref td), .unset] [(.ref ta)]))
      obtain ⟨cl3, Ar3, qc3, Sz3, Nn3, Ha3, Gf3⟩ := id v1
      refine Go.st (fun _ k' => X0.arraylength hx (by rw [e0]; exact Ar3.1) (State.isArrayOf_alike hZ.alike Ar3.2.1) (g := (mkF m 1 #[.val (.ref ta), .val (.ref td), .unset] [(.ref ta)])) rfl rfl (hb hby d14_1) _ k') ?_
      rw [len_of Sz3 Nn3]
      show Go p e below s _ _ _ (s₁.setTop (mkF m 2 #[.val (.ref ta), .val (.ref td), .unset] [(.int (0 : Int32))]))
      refine Go.st (fun _ k' => XS.aloadN X0.here hx rfl (hb hby d14_2) rfl rfl k') ?_
      show Go p e below s _ _ _ (s₁.setTop (mkF m 3 #[.val (.ref ta), .val (.ref td), .unset] [(.ref td), (.int (0 : Int32))]))
      obtain ⟨cl4, Ar4, qc4, Sz4, Nn4, Ha4, Gf4⟩ := id v2
      refine Go.st (fun _ k' => X0.arraylength hx (by rw [e0]; exact Ar4.1) (State.isArrayOf_alike hZ.alike Ar4.2.1) (g := (mkF m 3 #[.val (.ref ta), .val (.ref td), .unset] [(.ref td), (.int (0 : Int32))])) rfl rfl (hb hby d14_3) _ k') ?_
      rw [len_of Sz4 Nn4]
      show Go p e below s _ _ _ (s₁.setTop (mkF m 4 #[.val (.ref ta), .val (.ref td), .unset] [(.int (0 : Int32)), (.int (0 : Int32))]))
      refine Go.st (fun _ k' => XS.icmpNo X0.here hx rfl (hb hby d14_4) rfl (XT.ii_ne_f (by decide)) k') ?_
      show Go p e below s _ _ _ (s₁.setTop (mkF m 7 #[.val (.ref ta), .val (.ref td), .unset] []))
      refine Go.st (fun _ k' => XS.iconst X0.here hx rfl (hb hby d14_7) k') ?_
      show Go p e below s _ _ _ (s₁.setTop (mkF m 8 #[.val (.ref ta), .val (.ref td), .unset] [(.int (0 : Int32))]))
      refine Go.st (fun _ k' => XS.istoreN X0.here hx rfl (hb hby d14_8) rfl (l' := #[.val (.ref ta), .val (.ref td), .val (.int (0 : Int32))]) rfl k') ?_
      show Go p e below s _ _ _ (s₁.setTop (mkF m 9 #[.val (.ref ta), .val (.ref td), .val (.int (0 : Int32))] []))
      refine Go.st (fun _ k' => XS.iloadN X0.here hx rfl (hb hby d14_9) rfl k') ?_
      show Go p e below s _ _ _ (s₁.setTop (mkF m 10 #[.val (.ref ta), .val (.ref td), .val (.int (0 : Int32))] [(.int (0 : Int32))]))
      refine Go.st (fun _ k' => XS.aloadN X0.here hx rfl (hb hby d14_10) rfl rfl k') ?_
      show Go p e below s _ _ _ (s₁.setTop (mkF m 11 #[.val (.ref ta), .val (.ref td), .val (.int (0 : Int32))] [(.ref ta), (.int (0 : Int32))]))
      obtain ⟨cl5, Ar5, qc5, Sz5, Nn5, Ha5, Gf5⟩ := id v1
      refine Go.st (fun _ k' => X0.arraylength hx (by rw [e0]; exact Ar5.1) (State.isArrayOf_alike hZ.alike Ar5.2.1) (g := (mkF m 11 #[.val (.ref ta), .val (.ref td), .val (.int (0 : Int32))] [(.ref ta), (.int (0 : Int32))])) rfl rfl (hb hby d14_11) _ k') ?_
      rw [len_of Sz5 Nn5]
      show Go p e below s _ _ _ (s₁.setTop (mkF m 12 #[.val (.ref ta), .val (.ref td), .val (.int (0 : Int32))] [(.int (0 : Int32)), (.int (0 : Int32))]))
      refine Go.st (fun _ k' => XS.icmpYes X0.here hx rfl (pc0 := 12) (pc' := 32) rfl (hb hby d14_12) rfl (XT.ii_ge_t (by decide)) (by decide) (by decide) k') ?_
      show Go p e below s _ _ _ (s₁.setTop (mkF m 32 #[.val (.ref ta), .val (.ref td), .val (.int (0 : Int32))] []))
      refine Go.st (fun _ k' => XS.iconst X0.here hx rfl (hb hby d14_32) k') ?_
      show Go p e below s _ _ _ (s₁.setTop (mkF m 33 #[.val (.ref ta), .val (.ref td), .val (.int (0 : Int32))] [(.int (1 : Int32))]))
      refine Go.retB X0 hx hlk (t := .boolean) Bd.returns (by simp) (hb hby d14_33) (by decide) (by decide) e0 ?_
      exact ⟨(by simp [nar]), N0, rfl⟩
    · have v6 : Arv Z h0 td kd .byte (1 : Int32) [(.int pb)] (.int (0 : Int32)) := Vd
      show Go p e below s _ _ _ (s₁.setTop (mkF m 0 #[.val (.ref ta), .val (.ref td), .unset] []))
      refine Go.st (fun _ k' => XS.aloadN X0.here hx rfl (hb hby d14_0) rfl rfl k') ?_
      show Go p e below s _ _ _ (s₁.setTop (mkF m 1 #[.val (.ref ta), .val (.ref td), .unset] [(.ref ta)]))
      obtain ⟨cl7, Ar7, qc7, Sz7, Nn7, Ha7, Gf7⟩ := id v1
      refine Go.st (fun _ k' => X0.arraylength hx (by rw [e0]; exact Ar7.1) (State.isArrayOf_alike hZ.alike Ar7.2.1) (g := (mkF m 1 #[.val (.ref ta), .val (.ref td), .unset] [(.ref ta)])) rfl rfl (hb hby d14_1) _ k') ?_
      rw [len_of Sz7 Nn7]
      show Go p e below s _ _ _ (s₁.setTop (mkF m 2 #[.val (.ref ta), .val (.ref td), .unset] [(.int (0 : Int32))]))
      refine Go.st (fun _ k' => XS.aloadN X0.here hx rfl (hb hby d14_2) rfl rfl k') ?_
      show Go p e below s _ _ _ (s₁.setTop (mkF m 3 #[.val (.ref ta), .val (.ref td), .unset] [(.ref td), (.int (0 : Int32))]))
      obtain ⟨cl8, Ar8, qc8, Sz8, Nn8, Ha8, Gf8⟩ := id v6
      refine Go.st (fun _ k' => X0.arraylength hx (by rw [e0]; exact Ar8.1) (State.isArrayOf_alike hZ.alike Ar8.2.1) (g := (mkF m 3 #[.val (.ref ta), .val (.ref td), .unset] [(.ref td), (.int (0 : Int32))])) rfl rfl (hb hby d14_3) _ k') ?_
      rw [len_of Sz8 Nn8]
      show Go p e below s _ _ _ (s₁.setTop (mkF m 4 #[.val (.ref ta), .val (.ref td), .unset] [(.int (1 : Int32)), (.int (0 : Int32))]))
      refine Go.st (fun _ k' => XS.icmpYes X0.here hx rfl (pc0 := 4) (pc' := 34) rfl (hb hby d14_4) rfl (XT.ii_ne_t (by decide)) (by decide) (by decide) k') ?_
      show Go p e below s _ _ _ (s₁.setTop (mkF m 34 #[.val (.ref ta), .val (.ref td), .unset] []))
      refine Go.st (fun _ k' => XS.iconst X0.here hx rfl (hb hby d14_34) k') ?_
      show Go p e below s _ _ _ (s₁.setTop (mkF m 35 #[.val (.ref ta), .val (.ref td), .unset] [(.int (0 : Int32))]))
      refine Go.retB X0 hx hlk (t := .boolean) Bd.returns (by simp) (hb hby d14_35) (by decide) (by decide) e0 ?_
      exact ⟨(by simp [nar]), N0, rfl⟩
    · have v9 : Arv Z h0 td kd .byte (2 : Int32) [(.int pb), (.int qb)] (.int (0 : Int32)) := Vd
      show Go p e below s _ _ _ (s₁.setTop (mkF m 0 #[.val (.ref ta), .val (.ref td), .unset] []))
      refine Go.st (fun _ k' => XS.aloadN X0.here hx rfl (hb hby d14_0) rfl rfl k') ?_
      show Go p e below s _ _ _ (s₁.setTop (mkF m 1 #[.val (.ref ta), .val (.ref td), .unset] [(.ref ta)]))
      obtain ⟨cl10, Ar10, qc10, Sz10, Nn10, Ha10, Gf10⟩ := id v1
      refine Go.st (fun _ k' => X0.arraylength hx (by rw [e0]; exact Ar10.1) (State.isArrayOf_alike hZ.alike Ar10.2.1) (g := (mkF m 1 #[.val (.ref ta), .val (.ref td), .unset] [(.ref ta)])) rfl rfl (hb hby d14_1) _ k') ?_
      rw [len_of Sz10 Nn10]
      show Go p e below s _ _ _ (s₁.setTop (mkF m 2 #[.val (.ref ta), .val (.ref td), .unset] [(.int (0 : Int32))]))
      refine Go.st (fun _ k' => XS.aloadN X0.here hx rfl (hb hby d14_2) rfl rfl k') ?_
      show Go p e below s _ _ _ (s₁.setTop (mkF m 3 #[.val (.ref ta), .val (.ref td), .unset] [(.ref td), (.int (0 : Int32))]))
      obtain ⟨cl11, Ar11, qc11, Sz11, Nn11, Ha11, Gf11⟩ := id v9
      refine Go.st (fun _ k' => X0.arraylength hx (by rw [e0]; exact Ar11.1) (State.isArrayOf_alike hZ.alike Ar11.2.1) (g := (mkF m 3 #[.val (.ref ta), .val (.ref td), .unset] [(.ref td), (.int (0 : Int32))])) rfl rfl (hb hby d14_3) _ k') ?_
      rw [len_of Sz11 Nn11]
      show Go p e below s _ _ _ (s₁.setTop (mkF m 4 #[.val (.ref ta), .val (.ref td), .unset] [(.int (2 : Int32)), (.int (0 : Int32))]))
      refine Go.st (fun _ k' => XS.icmpYes X0.here hx rfl (pc0 := 4) (pc' := 34) rfl (hb hby d14_4) rfl (XT.ii_ne_t (by decide)) (by decide) (by decide) k') ?_
      show Go p e below s _ _ _ (s₁.setTop (mkF m 34 #[.val (.ref ta), .val (.ref td), .unset] []))
      refine Go.st (fun _ k' => XS.iconst X0.here hx rfl (hb hby d14_34) k') ?_
      show Go p e below s _ _ _ (s₁.setTop (mkF m 35 #[.val (.ref ta), .val (.ref td), .unset] [(.int (0 : Int32))]))
      refine Go.retB X0 hx hlk (t := .boolean) Bd.returns (by simp) (hb hby d14_35) (by decide) (by decide) e0 ?_
      exact ⟨(by simp [nar]), N0, rfl⟩
  · have v12 : Arv Z h0 ta ka .byte (1 : Int32) [(.int pa)] (.int (0 : Int32)) := Va
    rcases own_l2 lb q_lb with rfl | ⟨pb, rfl⟩ | ⟨pb, qb, rfl⟩
    · have v13 : Arv Z h0 td kd .byte (0 : Int32) [] (.int (0 : Int32)) := Vd
      show Go p e below s _ _ _ (s₁.setTop (mkF m 0 #[.val (.ref ta), .val (.ref td), .unset] []))
      refine Go.st (fun _ k' => XS.aloadN X0.here hx rfl (hb hby d14_0) rfl rfl k') ?_
      show Go p e below s _ _ _ (s₁.setTop (mkF m 1 #[.val (.ref ta), .val (.ref td), .unset] [(.ref ta)]))
      obtain ⟨cl14, Ar14, qc14, Sz14, Nn14, Ha14, Gf14⟩ := id v12
      refine Go.st (fun _ k' => X0.arraylength hx (by rw [e0]; exact Ar14.1) (State.isArrayOf_alike hZ.alike Ar14.2.1) (g := (mkF m 1 #[.val (.ref ta), .val (.ref td), .unset] [(.ref ta)])) rfl rfl (hb hby d14_1) _ k') ?_
      rw [len_of Sz14 Nn14]
      show Go p e below s _ _ _ (s₁.setTop (mkF m 2 #[.val (.ref ta), .val (.ref td), .unset] [(.int (1 : Int32))]))
      refine Go.st (fun _ k' => XS.aloadN X0.here hx rfl (hb hby d14_2) rfl rfl k') ?_
      show Go p e below s _ _ _ (s₁.setTop (mkF m 3 #[.val (.ref ta), .val (.ref td), .unset] [(.ref td), (.int (1 : Int32))]))
      obtain ⟨cl15, Ar15, qc15, Sz15, Nn15, Ha15, Gf15⟩ := id v13
      refine Go.st (fun _ k' => X0.arraylength hx (by rw [e0]; exact Ar15.1) (State.isArrayOf_alike hZ.alike Ar15.2.1) (g := (mkF m 3 #[.val (.ref ta), .val (.ref td), .unset] [(.ref td), (.int (1 : Int32))])) rfl rfl (hb hby d14_3) _ k') ?_
      rw [len_of Sz15 Nn15]
      show Go p e below s _ _ _ (s₁.setTop (mkF m 4 #[.val (.ref ta), .val (.ref td), .unset] [(.int (0 : Int32)), (.int (1 : Int32))]))
      refine Go.st (fun _ k' => XS.icmpYes X0.here hx rfl (pc0 := 4) (pc' := 34) rfl (hb hby d14_4) rfl (XT.ii_ne_t (by decide)) (by decide) (by decide) k') ?_
      show Go p e below s _ _ _ (s₁.setTop (mkF m 34 #[.val (.ref ta), .val (.ref td), .unset] []))
      refine Go.st (fun _ k' => XS.iconst X0.here hx rfl (hb hby d14_34) k') ?_
      show Go p e below s _ _ _ (s₁.setTop (mkF m 35 #[.val (.ref ta), .val (.ref td), .unset] [(.int (0 : Int32))]))
      refine Go.retB X0 hx hlk (t := .boolean) Bd.returns (by simp) (hb hby d14_35) (by decide) (by decide) e0 ?_
      exact ⟨(by simp [nar]), N0, rfl⟩
    · have v16 : Arv Z h0 td kd .byte (1 : Int32) [(.int pb)] (.int (0 : Int32)) := Vd
      show Go p e below s _ _ _ (s₁.setTop (mkF m 0 #[.val (.ref ta), .val (.ref td), .unset] []))
      refine Go.st (fun _ k' => XS.aloadN X0.here hx rfl (hb hby d14_0) rfl rfl k') ?_
      show Go p e below s _ _ _ (s₁.setTop (mkF m 1 #[.val (.ref ta), .val (.ref td), .unset] [(.ref ta)]))
      obtain ⟨cl17, Ar17, qc17, Sz17, Nn17, Ha17, Gf17⟩ := id v12
      refine Go.st (fun _ k' => X0.arraylength hx (by rw [e0]; exact Ar17.1) (State.isArrayOf_alike hZ.alike Ar17.2.1) (g := (mkF m 1 #[.val (.ref ta), .val (.ref td), .unset] [(.ref ta)])) rfl rfl (hb hby d14_1) _ k') ?_
      rw [len_of Sz17 Nn17]
      show Go p e below s _ _ _ (s₁.setTop (mkF m 2 #[.val (.ref ta), .val (.ref td), .unset] [(.int (1 : Int32))]))
      refine Go.st (fun _ k' => XS.aloadN X0.here hx rfl (hb hby d14_2) rfl rfl k') ?_
      show Go p e below s _ _ _ (s₁.setTop (mkF m 3 #[.val (.ref ta), .val (.ref td), .unset] [(.ref td), (.int (1 : Int32))]))
      obtain ⟨cl18, Ar18, qc18, Sz18, Nn18, Ha18, Gf18⟩ := id v16
      refine Go.st (fun _ k' => X0.arraylength hx (by rw [e0]; exact Ar18.1) (State.isArrayOf_alike hZ.alike Ar18.2.1) (g := (mkF m 3 #[.val (.ref ta), .val (.ref td), .unset] [(.ref td), (.int (1 : Int32))])) rfl rfl (hb hby d14_3) _ k') ?_
      rw [len_of Sz18 Nn18]
      show Go p e below s _ _ _ (s₁.setTop (mkF m 4 #[.val (.ref ta), .val (.ref td), .unset] [(.int (1 : Int32)), (.int (1 : Int32))]))
      refine Go.st (fun _ k' => XS.icmpNo X0.here hx rfl (hb hby d14_4) rfl (XT.ii_ne_f (by decide)) k') ?_
      show Go p e below s _ _ _ (s₁.setTop (mkF m 7 #[.val (.ref ta), .val (.ref td), .unset] []))
      refine Go.st (fun _ k' => XS.iconst X0.here hx rfl (hb hby d14_7) k') ?_
      show Go p e below s _ _ _ (s₁.setTop (mkF m 8 #[.val (.ref ta), .val (.ref td), .unset] [(.int (0 : Int32))]))
      refine Go.st (fun _ k' => XS.istoreN X0.here hx rfl (hb hby d14_8) rfl (l' := #[.val (.ref ta), .val (.ref td), .val (.int (0 : Int32))]) rfl k') ?_
      show Go p e below s _ _ _ (s₁.setTop (mkF m 9 #[.val (.ref ta), .val (.ref td), .val (.int (0 : Int32))] []))
      refine Go.st (fun _ k' => XS.iloadN X0.here hx rfl (hb hby d14_9) rfl k') ?_
      show Go p e below s _ _ _ (s₁.setTop (mkF m 10 #[.val (.ref ta), .val (.ref td), .val (.int (0 : Int32))] [(.int (0 : Int32))]))
      refine Go.st (fun _ k' => XS.aloadN X0.here hx rfl (hb hby d14_10) rfl rfl k') ?_
      show Go p e below s _ _ _ (s₁.setTop (mkF m 11 #[.val (.ref ta), .val (.ref td), .val (.int (0 : Int32))] [(.ref ta), (.int (0 : Int32))]))
      obtain ⟨cl19, Ar19, qc19, Sz19, Nn19, Ha19, Gf19⟩ := id v12
      refine Go.st (fun _ k' => X0.arraylength hx (by rw [e0]; exact Ar19.1) (State.isArrayOf_alike hZ.alike Ar19.2.1) (g := (mkF m 11 #[.val (.ref ta), .val (.ref td), .val (.int (0 : Int32))] [(.ref ta), (.int (0 : Int32))])) rfl rfl (hb hby d14_11) _ k') ?_
      rw [len_of Sz19 Nn19]
      show Go p e below s _ _ _ (s₁.setTop (mkF m 12 #[.val (.ref ta), .val (.ref td), .val (.int (0 : Int32))] [(.int (1 : Int32)), (.int (0 : Int32))]))
      refine Go.st (fun _ k' => XS.icmpNo X0.here hx rfl (hb hby d14_12) rfl (XT.ii_ge_f (by decide)) k') ?_
      show Go p e below s _ _ _ (s₁.setTop (mkF m 15 #[.val (.ref ta), .val (.ref td), .val (.int (0 : Int32))] []))
      refine Go.st (fun _ k' => XS.aloadN X0.here hx rfl (hb hby d14_15) rfl rfl k') ?_
      show Go p e below s _ _ _ (s₁.setTop (mkF m 16 #[.val (.ref ta), .val (.ref td), .val (.int (0 : Int32))] [(.ref ta)]))
      refine Go.st (fun _ k' => XS.iloadN X0.here hx rfl (hb hby d14_16) rfl k') ?_
      show Go p e below s _ _ _ (s₁.setTop (mkF m 17 #[.val (.ref ta), .val (.ref td), .val (.int (0 : Int32))] [(.int (0 : Int32)), (.ref ta)]))
      obtain ⟨cl20, Ar20, qc20, Sz20, Nn20, Ha20, Gf20⟩ := id v12
      refine Go.st (fun _ k' => X0.baloadBytes hx (j := (0 : Int32)) (v := (.int pa)) (by rw [e0]; exact Ar20.1) (State.isArrayOf_alike hZ.alike Ar20.2.1) Ar20.2.2 (inb_of Sz20 ⟨by decide, by decide⟩) (Ha20.at (inb_of Sz20 ⟨by decide, by decide⟩) rfl) (g := (mkF m 17 #[.val (.ref ta), .val (.ref td), .val (.int (0 : Int32))] [(.int (0 : Int32)), (.ref ta)])) rfl rfl (hb hby d14_17) _ k') ?_
      show Go p e below s _ _ _ (s₁.setTop (mkF m 18 #[.val (.ref ta), .val (.ref td), .val (.int (0 : Int32))] [(.int pa)]))
      refine Go.st (fun _ k' => XS.aloadN X0.here hx rfl (hb hby d14_18) rfl rfl k') ?_
      show Go p e below s _ _ _ (s₁.setTop (mkF m 19 #[.val (.ref ta), .val (.ref td), .val (.int (0 : Int32))] [(.ref td), (.int pa)]))
      refine Go.st (fun _ k' => XS.iloadN X0.here hx rfl (hb hby d14_19) rfl k') ?_
      show Go p e below s _ _ _ (s₁.setTop (mkF m 20 #[.val (.ref ta), .val (.ref td), .val (.int (0 : Int32))] [(.int (0 : Int32)), (.ref td), (.int pa)]))
      obtain ⟨cl21, Ar21, qc21, Sz21, Nn21, Ha21, Gf21⟩ := id v16
      refine Go.st (fun _ k' => X0.baloadBytes hx (j := (0 : Int32)) (v := (.int pb)) (by rw [e0]; exact Ar21.1) (State.isArrayOf_alike hZ.alike Ar21.2.1) Ar21.2.2 (inb_of Sz21 ⟨by decide, by decide⟩) (Ha21.at (inb_of Sz21 ⟨by decide, by decide⟩) rfl) (g := (mkF m 20 #[.val (.ref ta), .val (.ref td), .val (.int (0 : Int32))] [(.int (0 : Int32)), (.ref td), (.int pa)])) rfl rfl (hb hby d14_20) _ k') ?_
      show Go p e below s _ _ _ (s₁.setTop (mkF m 21 #[.val (.ref ta), .val (.ref td), .val (.int (0 : Int32))] [(.int pb), (.int pa)]))
      by_cases hc22 : pa = pb
      · refine Go.st (fun _ k' => XS.icmpYes X0.here hx rfl (pc0 := 21) (pc' := 26) rfl (hb hby d14_21) rfl (XT.ii_eq_t hc22) (by decide) (by decide) k') ?_
        show Go p e below s _ _ _ (s₁.setTop (mkF m 26 #[.val (.ref ta), .val (.ref td), .val (.int (0 : Int32))] []))
        refine Go.st (fun _ k' => XS.iinc X0.here hx rfl (hb hby d14_26) rfl (l' := #[.val (.ref ta), .val (.ref td), .val (.int (1 : Int32))]) rfl k') ?_
        show Go p e below s _ _ _ (s₁.setTop (mkF m 29 #[.val (.ref ta), .val (.ref td), .val (.int (1 : Int32))] []))
        refine Go.st (fun _ k' => XS.goto X0.here hx rfl (pc0 := 29) (pc' := 9) rfl (hb hby d14_29) (by decide) (by decide) k') ?_
        show Go p e below s _ _ _ (s₁.setTop (mkF m 9 #[.val (.ref ta), .val (.ref td), .val (.int (1 : Int32))] []))
        refine Go.st (fun _ k' => XS.iloadN X0.here hx rfl (hb hby d14_9) rfl k') ?_
        show Go p e below s _ _ _ (s₁.setTop (mkF m 10 #[.val (.ref ta), .val (.ref td), .val (.int (1 : Int32))] [(.int (1 : Int32))]))
        refine Go.st (fun _ k' => XS.aloadN X0.here hx rfl (hb hby d14_10) rfl rfl k') ?_
        show Go p e below s _ _ _ (s₁.setTop (mkF m 11 #[.val (.ref ta), .val (.ref td), .val (.int (1 : Int32))] [(.ref ta), (.int (1 : Int32))]))
        obtain ⟨cl23, Ar23, qc23, Sz23, Nn23, Ha23, Gf23⟩ := id v12
        refine Go.st (fun _ k' => X0.arraylength hx (by rw [e0]; exact Ar23.1) (State.isArrayOf_alike hZ.alike Ar23.2.1) (g := (mkF m 11 #[.val (.ref ta), .val (.ref td), .val (.int (1 : Int32))] [(.ref ta), (.int (1 : Int32))])) rfl rfl (hb hby d14_11) _ k') ?_
        rw [len_of Sz23 Nn23]
        show Go p e below s _ _ _ (s₁.setTop (mkF m 12 #[.val (.ref ta), .val (.ref td), .val (.int (1 : Int32))] [(.int (1 : Int32)), (.int (1 : Int32))]))
        refine Go.st (fun _ k' => XS.icmpYes X0.here hx rfl (pc0 := 12) (pc' := 32) rfl (hb hby d14_12) rfl (XT.ii_ge_t (by decide)) (by decide) (by decide) k') ?_
        show Go p e below s _ _ _ (s₁.setTop (mkF m 32 #[.val (.ref ta), .val (.ref td), .val (.int (1 : Int32))] []))
        refine Go.st (fun _ k' => XS.iconst X0.here hx rfl (hb hby d14_32) k') ?_
        show Go p e below s _ _ _ (s₁.setTop (mkF m 33 #[.val (.ref ta), .val (.ref td), .val (.int (1 : Int32))] [(.int (1 : Int32))]))
        refine Go.retB X0 hx hlk (t := .boolean) Bd.returns (by simp) (hb hby d14_33) (by decide) (by decide) e0 ?_
        exact ⟨(by simp [nar, hc22]), N0, rfl⟩
      · refine Go.st (fun _ k' => XS.icmpNo X0.here hx rfl (hb hby d14_21) rfl (XT.ii_eq_f hc22) k') ?_
        show Go p e below s _ _ _ (s₁.setTop (mkF m 24 #[.val (.ref ta), .val (.ref td), .val (.int (0 : Int32))] []))
        refine Go.st (fun _ k' => XS.iconst X0.here hx rfl (hb hby d14_24) k') ?_
        show Go p e below s _ _ _ (s₁.setTop (mkF m 25 #[.val (.ref ta), .val (.ref td), .val (.int (0 : Int32))] [(.int (0 : Int32))]))
        refine Go.retB X0 hx hlk (t := .boolean) Bd.returns (by simp) (hb hby d14_25) (by decide) (by decide) e0 ?_
        exact ⟨(by simp [nar, hc22]), N0, rfl⟩
    · have v24 : Arv Z h0 td kd .byte (2 : Int32) [(.int pb), (.int qb)] (.int (0 : Int32)) := Vd
      show Go p e below s _ _ _ (s₁.setTop (mkF m 0 #[.val (.ref ta), .val (.ref td), .unset] []))
      refine Go.st (fun _ k' => XS.aloadN X0.here hx rfl (hb hby d14_0) rfl rfl k') ?_
      show Go p e below s _ _ _ (s₁.setTop (mkF m 1 #[.val (.ref ta), .val (.ref td), .unset] [(.ref ta)]))
      obtain ⟨cl25, Ar25, qc25, Sz25, Nn25, Ha25, Gf25⟩ := id v12
      refine Go.st (fun _ k' => X0.arraylength hx (by rw [e0]; exact Ar25.1) (State.isArrayOf_alike hZ.alike Ar25.2.1) (g := (mkF m 1 #[.val (.ref ta), .val (.ref td), .unset] [(.ref ta)])) rfl rfl (hb hby d14_1) _ k') ?_
      rw [len_of Sz25 Nn25]
      show Go p e below s _ _ _ (s₁.setTop (mkF m 2 #[.val (.ref ta), .val (.ref td), .unset] [(.int (1 : Int32))]))
      refine Go.st (fun _ k' => XS.aloadN X0.here hx rfl (hb hby d14_2) rfl rfl k') ?_
      show Go p e below s _ _ _ (s₁.setTop (mkF m 3 #[.val (.ref ta), .val (.ref td), .unset] [(.ref td), (.int (1 : Int32))]))
      obtain ⟨cl26, Ar26, qc26, Sz26, Nn26, Ha26, Gf26⟩ := id v24
      refine Go.st (fun _ k' => X0.arraylength hx (by rw [e0]; exact Ar26.1) (State.isArrayOf_alike hZ.alike Ar26.2.1) (g := (mkF m 3 #[.val (.ref ta), .val (.ref td), .unset] [(.ref td), (.int (1 : Int32))])) rfl rfl (hb hby d14_3) _ k') ?_
      rw [len_of Sz26 Nn26]
      show Go p e below s _ _ _ (s₁.setTop (mkF m 4 #[.val (.ref ta), .val (.ref td), .unset] [(.int (2 : Int32)), (.int (1 : Int32))]))
      refine Go.st (fun _ k' => XS.icmpYes X0.here hx rfl (pc0 := 4) (pc' := 34) rfl (hb hby d14_4) rfl (XT.ii_ne_t (by decide)) (by decide) (by decide) k') ?_
      show Go p e below s _ _ _ (s₁.setTop (mkF m 34 #[.val (.ref ta), .val (.ref td), .unset] []))
      refine Go.st (fun _ k' => XS.iconst X0.here hx rfl (hb hby d14_34) k') ?_
      show Go p e below s _ _ _ (s₁.setTop (mkF m 35 #[.val (.ref ta), .val (.ref td), .unset] [(.int (0 : Int32))]))
      refine Go.retB X0 hx hlk (t := .boolean) Bd.returns (by simp) (hb hby d14_35) (by decide) (by decide) e0 ?_
      exact ⟨(by simp [nar]), N0, rfl⟩
  · have v27 : Arv Z h0 ta ka .byte (2 : Int32) [(.int pa), (.int qa)] (.int (0 : Int32)) := Va
    rcases own_l2 lb q_lb with rfl | ⟨pb, rfl⟩ | ⟨pb, qb, rfl⟩
    · have v28 : Arv Z h0 td kd .byte (0 : Int32) [] (.int (0 : Int32)) := Vd
      show Go p e below s _ _ _ (s₁.setTop (mkF m 0 #[.val (.ref ta), .val (.ref td), .unset] []))
      refine Go.st (fun _ k' => XS.aloadN X0.here hx rfl (hb hby d14_0) rfl rfl k') ?_
      show Go p e below s _ _ _ (s₁.setTop (mkF m 1 #[.val (.ref ta), .val (.ref td), .unset] [(.ref ta)]))
      obtain ⟨cl29, Ar29, qc29, Sz29, Nn29, Ha29, Gf29⟩ := id v27
      refine Go.st (fun _ k' => X0.arraylength hx (by rw [e0]; exact Ar29.1) (State.isArrayOf_alike hZ.alike Ar29.2.1) (g := (mkF m 1 #[.val (.ref ta), .val (.ref td), .unset] [(.ref ta)])) rfl rfl (hb hby d14_1) _ k') ?_
      rw [len_of Sz29 Nn29]
      show Go p e below s _ _ _ (s₁.setTop (mkF m 2 #[.val (.ref ta), .val (.ref td), .unset] [(.int (2 : Int32))]))
      refine Go.st (fun _ k' => XS.aloadN X0.here hx rfl (hb hby d14_2) rfl rfl k') ?_
      show Go p e below s _ _ _ (s₁.setTop (mkF m 3 #[.val (.ref ta), .val (.ref td), .unset] [(.ref td), (.int (2 : Int32))]))
      obtain ⟨cl30, Ar30, qc30, Sz30, Nn30, Ha30, Gf30⟩ := id v28
      refine Go.st (fun _ k' => X0.arraylength hx (by rw [e0]; exact Ar30.1) (State.isArrayOf_alike hZ.alike Ar30.2.1) (g := (mkF m 3 #[.val (.ref ta), .val (.ref td), .unset] [(.ref td), (.int (2 : Int32))])) rfl rfl (hb hby d14_3) _ k') ?_
      rw [len_of Sz30 Nn30]
      show Go p e below s _ _ _ (s₁.setTop (mkF m 4 #[.val (.ref ta), .val (.ref td), .unset] [(.int (0 : Int32)), (.int (2 : Int32))]))
      refine Go.st (fun _ k' => XS.icmpYes X0.here hx rfl (pc0 := 4) (pc' := 34) rfl (hb hby d14_4) rfl (XT.ii_ne_t (by decide)) (by decide) (by decide) k') ?_
      show Go p e below s _ _ _ (s₁.setTop (mkF m 34 #[.val (.ref ta), .val (.ref td), .unset] []))
      refine Go.st (fun _ k' => XS.iconst X0.here hx rfl (hb hby d14_34) k') ?_
      show Go p e below s _ _ _ (s₁.setTop (mkF m 35 #[.val (.ref ta), .val (.ref td), .unset] [(.int (0 : Int32))]))
      refine Go.retB X0 hx hlk (t := .boolean) Bd.returns (by simp) (hb hby d14_35) (by decide) (by decide) e0 ?_
      exact ⟨(by simp [nar]), N0, rfl⟩
    · have v31 : Arv Z h0 td kd .byte (1 : Int32) [(.int pb)] (.int (0 : Int32)) := Vd
      show Go p e below s _ _ _ (s₁.setTop (mkF m 0 #[.val (.ref ta), .val (.ref td), .unset] []))
      refine Go.st (fun _ k' => XS.aloadN X0.here hx rfl (hb hby d14_0) rfl rfl k') ?_
      show Go p e below s _ _ _ (s₁.setTop (mkF m 1 #[.val (.ref ta), .val (.ref td), .unset] [(.ref ta)]))
      obtain ⟨cl32, Ar32, qc32, Sz32, Nn32, Ha32, Gf32⟩ := id v27
      refine Go.st (fun _ k' => X0.arraylength hx (by rw [e0]; exact Ar32.1) (State.isArrayOf_alike hZ.alike Ar32.2.1) (g := (mkF m 1 #[.val (.ref ta), .val (.ref td), .unset] [(.ref ta)])) rfl rfl (hb hby d14_1) _ k') ?_
      rw [len_of Sz32 Nn32]
      show Go p e below s _ _ _ (s₁.setTop (mkF m 2 #[.val (.ref ta), .val (.ref td), .unset] [(.int (2 : Int32))]))
      refine Go.st (fun _ k' => XS.aloadN X0.here hx rfl (hb hby d14_2) rfl rfl k') ?_
      show Go p e below s _ _ _ (s₁.setTop (mkF m 3 #[.val (.ref ta), .val (.ref td), .unset] [(.ref td), (.int (2 : Int32))]))
      obtain ⟨cl33, Ar33, qc33, Sz33, Nn33, Ha33, Gf33⟩ := id v31
      refine Go.st (fun _ k' => X0.arraylength hx (by rw [e0]; exact Ar33.1) (State.isArrayOf_alike hZ.alike Ar33.2.1) (g := (mkF m 3 #[.val (.ref ta), .val (.ref td), .unset] [(.ref td), (.int (2 : Int32))])) rfl rfl (hb hby d14_3) _ k') ?_
      rw [len_of Sz33 Nn33]
      show Go p e below s _ _ _ (s₁.setTop (mkF m 4 #[.val (.ref ta), .val (.ref td), .unset] [(.int (1 : Int32)), (.int (2 : Int32))]))
      refine Go.st (fun _ k' => XS.icmpYes X0.here hx rfl (pc0 := 4) (pc' := 34) rfl (hb hby d14_4) rfl (XT.ii_ne_t (by decide)) (by decide) (by decide) k') ?_
      show Go p e below s _ _ _ (s₁.setTop (mkF m 34 #[.val (.ref ta), .val (.ref td), .unset] []))
      refine Go.st (fun _ k' => XS.iconst X0.here hx rfl (hb hby d14_34) k') ?_
      show Go p e below s _ _ _ (s₁.setTop (mkF m 35 #[.val (.ref ta), .val (.ref td), .unset] [(.int (0 : Int32))]))
      refine Go.retB X0 hx hlk (t := .boolean) Bd.returns (by simp) (hb hby d14_35) (by decide) (by decide) e0 ?_
      exact ⟨(by simp [nar]), N0, rfl⟩
    · have v34 : Arv Z h0 td kd .byte (2 : Int32) [(.int pb), (.int qb)] (.int (0 : Int32)) := Vd
      show Go p e below s _ _ _ (s₁.setTop (mkF m 0 #[.val (.ref ta), .val (.ref td), .unset] []))
      refine Go.st (fun _ k' => XS.aloadN X0.here hx rfl (hb hby d14_0) rfl rfl k') ?_
      show Go p e below s _ _ _ (s₁.setTop (mkF m 1 #[.val (.ref ta), .val (.ref td), .unset] [(.ref ta)]))
      obtain ⟨cl35, Ar35, qc35, Sz35, Nn35, Ha35, Gf35⟩ := id v27
      refine Go.st (fun _ k' => X0.arraylength hx (by rw [e0]; exact Ar35.1) (State.isArrayOf_alike hZ.alike Ar35.2.1) (g := (mkF m 1 #[.val (.ref ta), .val (.ref td), .unset] [(.ref ta)])) rfl rfl (hb hby d14_1) _ k') ?_
      rw [len_of Sz35 Nn35]
      show Go p e below s _ _ _ (s₁.setTop (mkF m 2 #[.val (.ref ta), .val (.ref td), .unset] [(.int (2 : Int32))]))
      refine Go.st (fun _ k' => XS.aloadN X0.here hx rfl (hb hby d14_2) rfl rfl k') ?_
      show Go p e below s _ _ _ (s₁.setTop (mkF m 3 #[.val (.ref ta), .val (.ref td), .unset] [(.ref td), (.int (2 : Int32))]))
      obtain ⟨cl36, Ar36, qc36, Sz36, Nn36, Ha36, Gf36⟩ := id v34
      refine Go.st (fun _ k' => X0.arraylength hx (by rw [e0]; exact Ar36.1) (State.isArrayOf_alike hZ.alike Ar36.2.1) (g := (mkF m 3 #[.val (.ref ta), .val (.ref td), .unset] [(.ref td), (.int (2 : Int32))])) rfl rfl (hb hby d14_3) _ k') ?_
      rw [len_of Sz36 Nn36]
      show Go p e below s _ _ _ (s₁.setTop (mkF m 4 #[.val (.ref ta), .val (.ref td), .unset] [(.int (2 : Int32)), (.int (2 : Int32))]))
      refine Go.st (fun _ k' => XS.icmpNo X0.here hx rfl (hb hby d14_4) rfl (XT.ii_ne_f (by decide)) k') ?_
      show Go p e below s _ _ _ (s₁.setTop (mkF m 7 #[.val (.ref ta), .val (.ref td), .unset] []))
      refine Go.st (fun _ k' => XS.iconst X0.here hx rfl (hb hby d14_7) k') ?_
      show Go p e below s _ _ _ (s₁.setTop (mkF m 8 #[.val (.ref ta), .val (.ref td), .unset] [(.int (0 : Int32))]))
      refine Go.st (fun _ k' => XS.istoreN X0.here hx rfl (hb hby d14_8) rfl (l' := #[.val (.ref ta), .val (.ref td), .val (.int (0 : Int32))]) rfl k') ?_
      show Go p e below s _ _ _ (s₁.setTop (mkF m 9 #[.val (.ref ta), .val (.ref td), .val (.int (0 : Int32))] []))
      refine Go.st (fun _ k' => XS.iloadN X0.here hx rfl (hb hby d14_9) rfl k') ?_
      show Go p e below s _ _ _ (s₁.setTop (mkF m 10 #[.val (.ref ta), .val (.ref td), .val (.int (0 : Int32))] [(.int (0 : Int32))]))
      refine Go.st (fun _ k' => XS.aloadN X0.here hx rfl (hb hby d14_10) rfl rfl k') ?_
      show Go p e below s _ _ _ (s₁.setTop (mkF m 11 #[.val (.ref ta), .val (.ref td), .val (.int (0 : Int32))] [(.ref ta), (.int (0 : Int32))]))
      obtain ⟨cl37, Ar37, qc37, Sz37, Nn37, Ha37, Gf37⟩ := id v27
      refine Go.st (fun _ k' => X0.arraylength hx (by rw [e0]; exact Ar37.1) (State.isArrayOf_alike hZ.alike Ar37.2.1) (g := (mkF m 11 #[.val (.ref ta), .val (.ref td), .val (.int (0 : Int32))] [(.ref ta), (.int (0 : Int32))])) rfl rfl (hb hby d14_11) _ k') ?_
      rw [len_of Sz37 Nn37]
      show Go p e below s _ _ _ (s₁.setTop (mkF m 12 #[.val (.ref ta), .val (.ref td), .val (.int (0 : Int32))] [(.int (2 : Int32)), (.int (0 : Int32))]))
      refine Go.st (fun _ k' => XS.icmpNo X0.here hx rfl (hb hby d14_12) rfl (XT.ii_ge_f (by decide)) k') ?_
      show Go p e below s _ _ _ (s₁.setTop (mkF m 15 #[.val (.ref ta), .val (.ref td), .val (.int (0 : Int32))] []))
      refine Go.st (fun _ k' => XS.aloadN X0.here hx rfl (hb hby d14_15) rfl rfl k') ?_
      show Go p e below s _ _ _ (s₁.setTop (mkF m 16 #[.val (.ref ta), .val (.ref td), .val (.int (0 : Int32))] [(.ref ta)]))
      refine Go.st (fun _ k' => XS.iloadN X0.here hx rfl (hb hby d14_16) rfl k') ?_
      show Go p e below s _ _ _ (s₁.setTop (mkF m 17 #[.val (.ref ta), .val (.ref td), .val (.int (0 : Int32))] [(.int (0 : Int32)), (.ref ta)]))
      obtain ⟨cl38, Ar38, qc38, Sz38, Nn38, Ha38, Gf38⟩ := id v27
      refine Go.st (fun _ k' => X0.baloadBytes hx (j := (0 : Int32)) (v := (.int pa)) (by rw [e0]; exact Ar38.1) (State.isArrayOf_alike hZ.alike Ar38.2.1) Ar38.2.2 (inb_of Sz38 ⟨by decide, by decide⟩) (Ha38.at (inb_of Sz38 ⟨by decide, by decide⟩) rfl) (g := (mkF m 17 #[.val (.ref ta), .val (.ref td), .val (.int (0 : Int32))] [(.int (0 : Int32)), (.ref ta)])) rfl rfl (hb hby d14_17) _ k') ?_
      show Go p e below s _ _ _ (s₁.setTop (mkF m 18 #[.val (.ref ta), .val (.ref td), .val (.int (0 : Int32))] [(.int pa)]))
      refine Go.st (fun _ k' => XS.aloadN X0.here hx rfl (hb hby d14_18) rfl rfl k') ?_
      show Go p e below s _ _ _ (s₁.setTop (mkF m 19 #[.val (.ref ta), .val (.ref td), .val (.int (0 : Int32))] [(.ref td), (.int pa)]))
      refine Go.st (fun _ k' => XS.iloadN X0.here hx rfl (hb hby d14_19) rfl k') ?_
      show Go p e below s _ _ _ (s₁.setTop (mkF m 20 #[.val (.ref ta), .val (.ref td), .val (.int (0 : Int32))] [(.int (0 : Int32)), (.ref td), (.int pa)]))
      obtain ⟨cl39, Ar39, qc39, Sz39, Nn39, Ha39, Gf39⟩ := id v34
      refine Go.st (fun _ k' => X0.baloadBytes hx (j := (0 : Int32)) (v := (.int pb)) (by rw [e0]; exact Ar39.1) (State.isArrayOf_alike hZ.alike Ar39.2.1) Ar39.2.2 (inb_of Sz39 ⟨by decide, by decide⟩) (Ha39.at (inb_of Sz39 ⟨by decide, by decide⟩) rfl) (g := (mkF m 20 #[.val (.ref ta), .val (.ref td), .val (.int (0 : Int32))] [(.int (0 : Int32)), (.ref td), (.int pa)])) rfl rfl (hb hby d14_20) _ k') ?_
      show Go p e below s _ _ _ (s₁.setTop (mkF m 21 #[.val (.ref ta), .val (.ref td), .val (.int (0 : Int32))] [(.int pb), (.int pa)]))
      by_cases hc40 : pa = pb
      · refine Go.st (fun _ k' => XS.icmpYes X0.here hx rfl (pc0 := 21) (pc' := 26) rfl (hb hby d14_21) rfl (XT.ii_eq_t hc40) (by decide) (by decide) k') ?_
        show Go p e below s _ _ _ (s₁.setTop (mkF m 26 #[.val (.ref ta), .val (.ref td), .val (.int (0 : Int32))] []))
        refine Go.st (fun _ k' => XS.iinc X0.here hx rfl (hb hby d14_26) rfl (l' := #[.val (.ref ta), .val (.ref td), .val (.int (1 : Int32))]) rfl k') ?_
        show Go p e below s _ _ _ (s₁.setTop (mkF m 29 #[.val (.ref ta), .val (.ref td), .val (.int (1 : Int32))] []))
        refine Go.st (fun _ k' => XS.goto X0.here hx rfl (pc0 := 29) (pc' := 9) rfl (hb hby d14_29) (by decide) (by decide) k') ?_
        show Go p e below s _ _ _ (s₁.setTop (mkF m 9 #[.val (.ref ta), .val (.ref td), .val (.int (1 : Int32))] []))
        refine Go.st (fun _ k' => XS.iloadN X0.here hx rfl (hb hby d14_9) rfl k') ?_
        show Go p e below s _ _ _ (s₁.setTop (mkF m 10 #[.val (.ref ta), .val (.ref td), .val (.int (1 : Int32))] [(.int (1 : Int32))]))
        refine Go.st (fun _ k' => XS.aloadN X0.here hx rfl (hb hby d14_10) rfl rfl k') ?_
        show Go p e below s _ _ _ (s₁.setTop (mkF m 11 #[.val (.ref ta), .val (.ref td), .val (.int (1 : Int32))] [(.ref ta), (.int (1 : Int32))]))
        obtain ⟨cl41, Ar41, qc41, Sz41, Nn41, Ha41, Gf41⟩ := id v27
        refine Go.st (fun _ k' => X0.arraylength hx (by rw [e0]; exact Ar41.1) (State.isArrayOf_alike hZ.alike Ar41.2.1) (g := (mkF m 11 #[.val (.ref ta), .val (.ref td), .val (.int (1 : Int32))] [(.ref ta), (.int (1 : Int32))])) rfl rfl (hb hby d14_11) _ k') ?_
        rw [len_of Sz41 Nn41]
        show Go p e below s _ _ _ (s₁.setTop (mkF m 12 #[.val (.ref ta), .val (.ref td), .val (.int (1 : Int32))] [(.int (2 : Int32)), (.int (1 : Int32))]))
        refine Go.st (fun _ k' => XS.icmpNo X0.here hx rfl (hb hby d14_12) rfl (XT.ii_ge_f (by decide)) k') ?_
        show Go p e below s _ _ _ (s₁.setTop (mkF m 15 #[.val (.ref ta), .val (.ref td), .val (.int (1 : Int32))] []))
        refine Go.st (fun _ k' => XS.aloadN X0.here hx rfl (hb hby d14_15) rfl rfl k') ?_
        show Go p e below s _ _ _ (s₁.setTop (mkF m 16 #[.val (.ref ta), .val (.ref td), .val (.int (1 : Int32))] [(.ref ta)]))
        refine Go.st (fun _ k' => XS.iloadN X0.here hx rfl (hb hby d14_16) rfl k') ?_
        show Go p e below s _ _ _ (s₁.setTop (mkF m 17 #[.val (.ref ta), .val (.ref td), .val (.int (1 : Int32))] [(.int (1 : Int32)), (.ref ta)]))
        obtain ⟨cl42, Ar42, qc42, Sz42, Nn42, Ha42, Gf42⟩ := id v27
        refine Go.st (fun _ k' => X0.baloadBytes hx (j := (1 : Int32)) (v := (.int qa)) (by rw [e0]; exact Ar42.1) (State.isArrayOf_alike hZ.alike Ar42.2.1) Ar42.2.2 (inb_of Sz42 ⟨by decide, by decide⟩) (Ha42.at (inb_of Sz42 ⟨by decide, by decide⟩) rfl) (g := (mkF m 17 #[.val (.ref ta), .val (.ref td), .val (.int (1 : Int32))] [(.int (1 : Int32)), (.ref ta)])) rfl rfl (hb hby d14_17) _ k') ?_
        show Go p e below s _ _ _ (s₁.setTop (mkF m 18 #[.val (.ref ta), .val (.ref td), .val (.int (1 : Int32))] [(.int qa)]))
        refine Go.st (fun _ k' => XS.aloadN X0.here hx rfl (hb hby d14_18) rfl rfl k') ?_
        show Go p e below s _ _ _ (s₁.setTop (mkF m 19 #[.val (.ref ta), .val (.ref td), .val (.int (1 : Int32))] [(.ref td), (.int qa)]))
        refine Go.st (fun _ k' => XS.iloadN X0.here hx rfl (hb hby d14_19) rfl k') ?_
        show Go p e below s _ _ _ (s₁.setTop (mkF m 20 #[.val (.ref ta), .val (.ref td), .val (.int (1 : Int32))] [(.int (1 : Int32)), (.ref td), (.int qa)]))
        obtain ⟨cl43, Ar43, qc43, Sz43, Nn43, Ha43, Gf43⟩ := id v34
        refine Go.st (fun _ k' => X0.baloadBytes hx (j := (1 : Int32)) (v := (.int qb)) (by rw [e0]; exact Ar43.1) (State.isArrayOf_alike hZ.alike Ar43.2.1) Ar43.2.2 (inb_of Sz43 ⟨by decide, by decide⟩) (Ha43.at (inb_of Sz43 ⟨by decide, by decide⟩) rfl) (g := (mkF m 20 #[.val (.ref ta), .val (.ref td), .val (.int (1 : Int32))] [(.int (1 : Int32)), (.ref td), (.int qa)])) rfl rfl (hb hby d14_20) _ k') ?_
        show Go p e below s _ _ _ (s₁.setTop (mkF m 21 #[.val (.ref ta), .val (.ref td), .val (.int (1 : Int32))] [(.int qb), (.int qa)]))
        by_cases hc44 : qa = qb
        · refine Go.st (fun _ k' => XS.icmpYes X0.here hx rfl (pc0 := 21) (pc' := 26) rfl (hb hby d14_21) rfl (XT.ii_eq_t hc44) (by decide) (by decide) k') ?_
          show Go p e below s _ _ _ (s₁.setTop (mkF m 26 #[.val (.ref ta), .val (.ref td), .val (.int (1 : Int32))] []))
          refine Go.st (fun _ k' => XS.iinc X0.here hx rfl (hb hby d14_26) rfl (l' := #[.val (.ref ta), .val (.ref td), .val (.int (2 : Int32))]) rfl k') ?_
          show Go p e below s _ _ _ (s₁.setTop (mkF m 29 #[.val (.ref ta), .val (.ref td), .val (.int (2 : Int32))] []))
          refine Go.st (fun _ k' => XS.goto X0.here hx rfl (pc0 := 29) (pc' := 9) rfl (hb hby d14_29) (by decide) (by decide) k') ?_
          show Go p e below s _ _ _ (s₁.setTop (mkF m 9 #[.val (.ref ta), .val (.ref td), .val (.int (2 : Int32))] []))
          refine Go.st (fun _ k' => XS.iloadN X0.here hx rfl (hb hby d14_9) rfl k') ?_
          show Go p e below s _ _ _ (s₁.setTop (mkF m 10 #[.val (.ref ta), .val (.ref td), .val (.int (2 : Int32))] [(.int (2 : Int32))]))
          refine Go.st (fun _ k' => XS.aloadN X0.here hx rfl (hb hby d14_10) rfl rfl k') ?_
          show Go p e below s _ _ _ (s₁.setTop (mkF m 11 #[.val (.ref ta), .val (.ref td), .val (.int (2 : Int32))] [(.ref ta), (.int (2 : Int32))]))
          obtain ⟨cl45, Ar45, qc45, Sz45, Nn45, Ha45, Gf45⟩ := id v27
          refine Go.st (fun _ k' => X0.arraylength hx (by rw [e0]; exact Ar45.1) (State.isArrayOf_alike hZ.alike Ar45.2.1) (g := (mkF m 11 #[.val (.ref ta), .val (.ref td), .val (.int (2 : Int32))] [(.ref ta), (.int (2 : Int32))])) rfl rfl (hb hby d14_11) _ k') ?_
          rw [len_of Sz45 Nn45]
          show Go p e below s _ _ _ (s₁.setTop (mkF m 12 #[.val (.ref ta), .val (.ref td), .val (.int (2 : Int32))] [(.int (2 : Int32)), (.int (2 : Int32))]))
          refine Go.st (fun _ k' => XS.icmpYes X0.here hx rfl (pc0 := 12) (pc' := 32) rfl (hb hby d14_12) rfl (XT.ii_ge_t (by decide)) (by decide) (by decide) k') ?_
          show Go p e below s _ _ _ (s₁.setTop (mkF m 32 #[.val (.ref ta), .val (.ref td), .val (.int (2 : Int32))] []))
          refine Go.st (fun _ k' => XS.iconst X0.here hx rfl (hb hby d14_32) k') ?_
          show Go p e below s _ _ _ (s₁.setTop (mkF m 33 #[.val (.ref ta), .val (.ref td), .val (.int (2 : Int32))] [(.int (1 : Int32))]))
          refine Go.retB X0 hx hlk (t := .boolean) Bd.returns (by simp) (hb hby d14_33) (by decide) (by decide) e0 ?_
          exact ⟨(by simp [nar, hc40, hc44]), N0, rfl⟩
        · refine Go.st (fun _ k' => XS.icmpNo X0.here hx rfl (hb hby d14_21) rfl (XT.ii_eq_f hc44) k') ?_
          show Go p e below s _ _ _ (s₁.setTop (mkF m 24 #[.val (.ref ta), .val (.ref td), .val (.int (1 : Int32))] []))
          refine Go.st (fun _ k' => XS.iconst X0.here hx rfl (hb hby d14_24) k') ?_
          show Go p e below s _ _ _ (s₁.setTop (mkF m 25 #[.val (.ref ta), .val (.ref td), .val (.int (1 : Int32))] [(.int (0 : Int32))]))
          refine Go.retB X0 hx hlk (t := .boolean) Bd.returns (by simp) (hb hby d14_25) (by decide) (by decide) e0 ?_
          exact ⟨(by simp [nar, hc40, hc44]), N0, rfl⟩
      · refine Go.st (fun _ k' => XS.icmpNo X0.here hx rfl (hb hby d14_21) rfl (XT.ii_eq_f hc40) k') ?_
        show Go p e below s _ _ _ (s₁.setTop (mkF m 24 #[.val (.ref ta), .val (.ref td), .val (.int (0 : Int32))] []))
        refine Go.st (fun _ k' => XS.iconst X0.here hx rfl (hb hby d14_24) k') ?_
        show Go p e below s _ _ _ (s₁.setTop (mkF m 25 #[.val (.ref ta), .val (.ref td), .val (.int (0 : Int32))] [(.int (0 : Int32))]))
        refine Go.retB X0 hx hlk (t := .boolean) Bd.returns (by simp) (hb hby d14_25) (by decide) (by decide) e0 ?_
        exact ⟨(by simp [nar, hc40]), N0, rfl⟩
theorem d13_0 : decode jdk_42_method_66_code 0 = .ok (.aload_n 0, 1) := by decide +kernel
theorem d13_1 : decode jdk_42_method_66_code 1 = .ok (.aload_n 1, 1) := by decide +kernel
theorem d13_2 : decode jdk_42_method_66_code 2 = .ok (.if_acmp .ne 5, 3) := by decide +kernel
theorem d13_7 : decode jdk_42_method_66_code 7 = .ok (.aload_n 1, 1) := by decide +kernel
theorem d13_8 : decode jdk_42_method_66_code 8 = .ok (.instanceof 10, 3) := by decide +kernel
theorem d13_11 : decode jdk_42_method_66_code 11 = .ok (.ifCond .eq 43, 3) := by decide +kernel
theorem d13_14 : decode jdk_42_method_66_code 14 = .ok (.aload_n 1, 1) := by decide +kernel
theorem d13_15 : decode jdk_42_method_66_code 15 = .ok (.checkcast 10, 3) := by decide +kernel
theorem d13_18 : decode jdk_42_method_66_code 18 = .ok (.astore_n 2, 1) := by decide +kernel
theorem d13_19 : decode jdk_42_method_66_code 19 = .ok (.getstatic 38, 3) := by decide +kernel
theorem d13_22 : decode jdk_42_method_66_code 22 = .ok (.ifCond .eq 14, 3) := by decide +kernel
theorem d13_25 : decode jdk_42_method_66_code 25 = .ok (.aload_n 0, 1) := by decide +kernel
theorem d13_26 : decode jdk_42_method_66_code 26 = .ok (.getfield 15, 3) := by decide +kernel
theorem d13_29 : decode jdk_42_method_66_code 29 = .ok (.aload_n 2, 1) := by decide +kernel
theorem d13_30 : decode jdk_42_method_66_code 30 = .ok (.getfield 15, 3) := by decide +kernel
theorem d13_33 : decode jdk_42_method_66_code 33 = .ok (.if_icmp .ne 21, 3) := by decide +kernel
theorem d13_36 : decode jdk_42_method_66_code 36 = .ok (.aload_n 0, 1) := by decide +kernel
theorem d13_37 : decode jdk_42_method_66_code 37 = .ok (.getfield 9, 3) := by decide +kernel
theorem d13_40 : decode jdk_42_method_66_code 40 = .ok (.aload_n 2, 1) := by decide +kernel
theorem d13_41 : decode jdk_42_method_66_code 41 = .ok (.getfield 9, 3) := by decide +kernel
theorem pd___B_B_Z : parseMethodDescriptor "([B[B)Z" = some ⟨[(.array .byte), (.array .byte)], some .boolean⟩ := by decide +kernel
theorem d13_44 : decode jdk_42_method_66_code 44 = .ok (.invokestatic 541, 3) := by decide +kernel
theorem d13_47 : decode jdk_42_method_66_code 47 = .ok (.ifCond .eq 7, 3) := by decide +kernel
theorem d13_54 : decode jdk_42_method_66_code 54 = .ok (.iconst 0, 1) := by decide +kernel
theorem d13_55 : decode jdk_42_method_66_code 55 = .ok (.ireturn, 1) := by decide +kernel
theorem d13_50 : decode jdk_42_method_66_code 50 = .ok (.iconst 1, 1) := by decide +kernel
theorem d13_51 : decode jdk_42_method_66_code 51 = .ok (.goto 4, 3) := by decide +kernel
theorem ef_rm13_d (m : MethodId) (ob : Addr) (oc : Addr) : entryFrame m #[(.ref ob), (.ref oc)] 3 = mkF m 0 #[.val (.ref ob), .val (.ref oc), .unset] [] := by first | (simp [entryFrame, mkF, argsToLocals, Value.category]; done) | rfl
def Q13_d (Z : State) (ob : Addr) (oc : Addr) (cs : Int32) (ta : Addr) (ka : ClassId) (la : List Int32) (td : Addr) (kd : ClassId) (lb : List Int32) (h0 : Heap) (n0 : Nat) (v : Option Value) (h : Heap) (L : List Loc) : Prop := v = some (.int (if la = lb then (1 : Int32) else 0)) ∧ Fr n0 L ∧ h = h0
set_option maxRecDepth 65536 in
set_option maxHeartbeats 40000000 in
theorem rm13_d (l : Launch) (Z : State) (a0 : Array Value) (hw : ∀ d ∈ tables_1, d.before a0 Z = true) (ws : List Jvm.Cond) (ob : Addr) (oc : Addr) (cs : Int32) (ta : Addr) (ka : ClassId) (la : List Int32) (td : Addr) (kd : ClassId) (lb : List Int32) (h0 : Heap) (n0 : Nat) (O0 : Old Z n0 h0) (E_c : Exa Z h0 oc "java/lang/String") (Fva : Fld Z h0 ob "java/lang/String" "value" "[B" (.ref ta)) (Fca : Fld Z h0 ob "java/lang/String" "coder" "B" (.int (0 : Int32))) (Fvd : Fld Z h0 oc "java/lang/String" "value" "[B" (.ref td)) (Fcd : Fld Z h0 oc "java/lang/String" "coder" "B" (.int (0 : Int32))) (Va : Arv Z h0 ta ka .byte (Int32.ofNat (List.length la)) (List.map Value.int la) (.int (0 : Int32))) (Vd : Arv Z h0 td kd .byte (Int32.ofNat (List.length lb)) (List.map Value.int lb) (.int (0 : Int32))) (S_cs : Sta Z Z.heap "java/lang/String" "COMPACT_STRINGS" "Z" (.int cs)) (q_cs : ¬ cs = (0 : Int32)) (ne_bc : ob ≠ oc) (q_la : la.length ≤ 2) (q_lb : lb.length ≤ 2) :
    MetFree l (⟨"java/lang/String", "equals", "(Ljava/lang/Object;)Z"⟩ : MethodName) (head1 (Jvm.Cond.code (⟨"java/lang/String", "equals", "(Ljava/lang/Object;)Z"⟩ : MethodName) jdk_42_method_66_code 3 (some .boolean) :: ws) ({ frames := 1, cells := 0, slots := 0, locals := 14 } : Room)) (fun ay U => ay = #[(.ref ob), (.ref oc)] ∧ Z.Warmed39 U.vm ∧ U.heap = h0) (fun _ _ _ _ _ => True) (fun _ U o U' => ∃ v L, o = .returned v ∧ Q13_d Z ob oc cs ta ka la td kd lb h0 n0 v U'.heap L ∧ FrameEnd U o U' L ({ frames := 1, cells := 0, slots := 0, locals := 14 } : Room).cells ({ frames := 1, cells := 0, slots := 0, locals := 14 } : Room).slots) := by
  refine MetFree.of_bodySF (plainFor_of_name pn_java_lang_String) hisR ?_
  intro p e s m args below meth c s₁ Bd hml0 hP hK
  obtain ⟨rfl, hZ, hh⟩ := hP
  have hx := Bd.exec
  have hby := Bd.bytes
  have hlk : meth.locks = false := BodyLoose.notSynchronized Bd
  have hml : c.maxLocals = 3 := hml0
  have hown : s.vm.findClass "java/lang/String" = some m.cls := findClass_of_methodNamed Bd.named
  have hnm := (name_of_methodNamed Bd.named Bd.method).1
  have X0 : Stand p l e ({ frames := 1, cells := 0, slots := 0, locals := 14 } : Room) s m #[(.ref ob), (.ref oc)] below meth c s₁ [] 0 0 := Stand.of_body Bd
  have e0 : s₁.heap = h0 := by rw [← hh, Bd.state]; rfl
  have N0 := Fr.nil n0
  suffices hgo : Go p e below s 0 0 (Q13_d Z ob oc cs ta ka la td kd lb h0 n0) (s₁.setTop (mkF m 0 #[.val (.ref ob), .val (.ref oc), .unset] [])) by
    obtain ⟨t, o, h1, h2⟩ := hgo; exact ⟨t, o, castTop (ef_rm13_d m ob oc) h1, h2⟩
  show Go p e below s _ _ _ (s₁.setTop (mkF m 0 #[.val (.ref ob), .val (.ref oc), .unset] []))
  refine Go.st (fun _ k' => XS.aloadN X0.here hx rfl (hb hby d13_0) rfl rfl k') ?_
  show Go p e below s _ _ _ (s₁.setTop (mkF m 1 #[.val (.ref ob), .val (.ref oc), .unset] [(.ref ob)]))
  refine Go.st (fun _ k' => XS.aloadN X0.here hx rfl (hb hby d13_1) rfl rfl k') ?_
  show Go p e below s _ _ _ (s₁.setTop (mkF m 2 #[.val (.ref ob), .val (.ref oc), .unset] [(.ref oc), (.ref ob)]))
  refine Go.st (fun _ k' => Jvm.RoadKit.acmp (g := (mkF m 2 #[.val (.ref ob), .val (.ref oc), .unset] [(.ref oc), (.ref ob)])) X0 hx rfl rfl rfl (pc0 := 2) (pc' := 7) (same := false) rfl (hb hby d13_2) rfl (decide_eq_false fun q => ne_bc (Value.ref.inj q)) (by decide) (by decide) k') ?_
  show Go p e below s _ _ _ (s₁.setTop (mkF m 7 #[.val (.ref ob), .val (.ref oc), .unset] []))
  refine Go.st (fun _ k' => XS.aloadN X0.here hx rfl (hb hby d13_7) rfl rfl k') ?_
  show Go p e below s _ _ _ (s₁.setTop (mkF m 8 #[.val (.ref ob), .val (.ref oc), .unset] [(.ref oc)]))
  obtain ⟨T1, X1, e1, st1⟩ := instY X0 hx hZ hown (wdx hw 80 rfl) e0 (Ins.self E_c) (g := (mkF m 8 #[.val (.ref ob), .val (.ref oc), .unset] [(.ref oc)])) rfl rfl (hb hby d13_8)
  refine Go.st st1 ?_
  show Go p e below s _ _ _ (T1.setTop (mkF m 11 #[.val (.ref ob), .val (.ref oc), .unset] [(.int (1 : Int32))]))
  refine Go.st (fun _ k' => XS.ifNo X1.here hx rfl (hb hby d13_11) rfl (XT.i0_eq_f (by decide)) k') ?_
  show Go p e below s _ _ _ (T1.setTop (mkF m 14 #[.val (.ref ob), .val (.ref oc), .unset] []))
  refine Go.st (fun _ k' => XS.aloadN X1.here hx rfl (hb hby d13_14) rfl rfl k') ?_
  show Go p e below s _ _ _ (T1.setTop (mkF m 15 #[.val (.ref ob), .val (.ref oc), .unset] [(.ref oc)]))
  obtain ⟨T2, X2, e2, st2⟩ := castY X1 hx hZ hown (wdx hw 80 rfl) e1 (Ins.self E_c) (g := (mkF m 15 #[.val (.ref ob), .val (.ref oc), .unset] [(.ref oc)])) rfl rfl (hb hby d13_15)
  refine Go.st st2 ?_
  show Go p e below s _ _ _ (T2.setTop (mkF m 18 #[.val (.ref ob), .val (.ref oc), .unset] [(.ref oc)]))
  refine Go.st (fun _ k' => XS.astoreN X2.here hx rfl (hb hby d13_18) rfl rfl (l' := #[.val (.ref ob), .val (.ref oc), .val (.ref oc)]) rfl k') ?_
  show Go p e below s _ _ _ (T2.setTop (mkF m 19 #[.val (.ref ob), .val (.ref oc), .val (.ref oc)] []))
  obtain ⟨T3, X3, e3, st3⟩ := getS2 X2 hx hZ hown (host := "") (Or.inl (wdx hw 30 rfl)) Via.refl e2 (S_cs.ext O0.2) (g := (mkF m 19 #[.val (.ref ob), .val (.ref oc), .val (.ref oc)] [])) rfl (hb hby d13_19)
  refine Go.st st3 ?_
  show Go p e below s _ _ _ (T3.setTop (mkF m 22 #[.val (.ref ob), .val (.ref oc), .val (.ref oc)] [(.int cs)]))
  refine Go.st (fun _ k' => XS.ifNo X3.here hx rfl (hb hby d13_22) rfl (XT.i0_eq_f q_cs) k') ?_
  show Go p e below s _ _ _ (T3.setTop (mkF m 25 #[.val (.ref ob), .val (.ref oc), .val (.ref oc)] []))
  refine Go.st (fun _ k' => XS.aloadN X3.here hx rfl (hb hby d13_25) rfl rfl k') ?_
  show Go p e below s _ _ _ (T3.setTop (mkF m 26 #[.val (.ref ob), .val (.ref oc), .val (.ref oc)] [(.ref ob)]))
  obtain ⟨T4, X4, e4, st4⟩ := getF X3 hx hZ hown (host := "") (Or.inl (wdx hw 29 rfl)) Via.refl e3 Fca (g := (mkF m 26 #[.val (.ref ob), .val (.ref oc), .val (.ref oc)] [(.ref ob)])) rfl rfl (hb hby d13_26)
  refine Go.st st4 ?_
  show Go p e below s _ _ _ (T4.setTop (mkF m 29 #[.val (.ref ob), .val (.ref oc), .val (.ref oc)] [(.int (0 : Int32))]))
  refine Go.st (fun _ k' => XS.aloadN X4.here hx rfl (hb hby d13_29) rfl rfl k') ?_
  show Go p e below s _ _ _ (T4.setTop (mkF m 30 #[.val (.ref ob), .val (.ref oc), .val (.ref oc)] [(.ref oc), (.int (0 : Int32))]))
  obtain ⟨T5, X5, e5, st5⟩ := getF X4 hx hZ hown (host := "") (Or.inl (wdx hw 29 rfl)) Via.refl e4 Fcd (g := (mkF m 30 #[.val (.ref ob), .val (.ref oc), .val (.ref oc)] [(.ref oc), (.int (0 : Int32))])) rfl rfl (hb hby d13_30)
  refine Go.st st5 ?_
  show Go p e below s _ _ _ (T5.setTop (mkF m 33 #[.val (.ref ob), .val (.ref oc), .val (.ref oc)] [(.int (0 : Int32)), (.int (0 : Int32))]))
  refine Go.st (fun _ k' => XS.icmpNo X5.here hx rfl (hb hby d13_33) rfl (XT.ii_ne_f (by decide)) k') ?_
  show Go p e below s _ _ _ (T5.setTop (mkF m 36 #[.val (.ref ob), .val (.ref oc), .val (.ref oc)] []))
  refine Go.st (fun _ k' => XS.aloadN X5.here hx rfl (hb hby d13_36) rfl rfl k') ?_
  show Go p e below s _ _ _ (T5.setTop (mkF m 37 #[.val (.ref ob), .val (.ref oc), .val (.ref oc)] [(.ref ob)]))
  obtain ⟨T6, X6, e6, st6⟩ := getF X5 hx hZ hown (host := "") (Or.inl (wdx hw 28 rfl)) Via.refl e5 Fva (g := (mkF m 37 #[.val (.ref ob), .val (.ref oc), .val (.ref oc)] [(.ref ob)])) rfl rfl (hb hby d13_37)
  refine Go.st st6 ?_
  show Go p e below s _ _ _ (T6.setTop (mkF m 40 #[.val (.ref ob), .val (.ref oc), .val (.ref oc)] [(.ref ta)]))
  refine Go.st (fun _ k' => XS.aloadN X6.here hx rfl (hb hby d13_40) rfl rfl k') ?_
  show Go p e below s _ _ _ (T6.setTop (mkF m 41 #[.val (.ref ob), .val (.ref oc), .val (.ref oc)] [(.ref oc), (.ref ta)]))
  obtain ⟨T7, X7, e7, st7⟩ := getF X6 hx hZ hown (host := "") (Or.inl (wdx hw 28 rfl)) Via.refl e6 Fvd (g := (mkF m 41 #[.val (.ref ob), .val (.ref oc), .val (.ref oc)] [(.ref oc), (.ref ta)])) rfl rfl (hb hby d13_41)
  refine Go.st st7 ?_
  show Go p e below s _ _ _ (T7.setTop (mkF m 44 #[.val (.ref ob), .val (.ref oc), .val (.ref oc)] [(.ref td), (.ref ta)]))
  obtain ⟨_, _, ⟨T8, L8, k8, n8⟩, -, X8, ⟨Lc8, hQ8, l8, y8, z8⟩, st8⟩ := Jvm.LawKit.callS X7 hx (y := (⟨"java/lang/StringLatin1", "equals", "([B[B)Z"⟩ : MethodName)) hown (mvT hZ (wdx hw 81 rfl)) (mvT hZ (wdx hw 82 rfl)) (mvT hZ (wdx hw 83 rfl)) (mvT hZ (wdx hw 84 rfl)) (by decide) (backOf (W := 0) (rm14 l Z a0 hw [] ta td ka la kd lb h0 n0 O0 Va Vd q_la q_lb) hZ (wdx hw 84 rfl) (wdx hw 83 rfl) (by decide) (by decide)) (g := (mkF m 44 #[.val (.ref ob), .val (.ref oc), .val (.ref oc)] [(.ref td), (.ref ta)])) rfl (by rw [hml]; rfl) (argsL := [(.ref ta), (.ref td)]) (rest := []) (lenOf pd___B_B_Z rfl) rfl (by show 2 * 0 + _ ≤ _; exact Nat.le_of_eq rfl) (hb hby d13_44) (fun _ _ => ⟨rfl, e7, (by exact Nat.le_of_ble_eq_true rfl), (by exact Nat.le_of_ble_eq_true rfl)⟩)
  dsimp only [Pt.U, Pt.locs, Pt.cells, Pt.slots] at X8 l8 y8 z8 st8 hQ8
  subst l8 y8 z8
  obtain ⟨rfl, Nq8, eq8⟩ := hQ8
  have N8 := Fr.app N0 Nq8
  refine Go.st st8 ?_
  show Go p e below s _ _ _ (T8.setTop (mkF m 47 #[.val (.ref ob), .val (.ref oc), .val (.ref oc)] [(.int (if la = lb then (1 : Int32) else 0))]))
  by_cases hc9 : (if la = lb then (1 : Int32) else 0) = (0 : Int32)
  · refine Go.st (fun _ k' => XS.ifYes X8.here hx rfl (pc0 := 47) (pc' := 54) rfl (hb hby d13_47) rfl (XT.i0_eq_t hc9) (by decide) (by decide) k') ?_
    show Go p e below s _ _ _ (T8.setTop (mkF m 54 #[.val (.ref ob), .val (.ref oc), .val (.ref oc)] []))
    refine Go.st (fun _ k' => XS.iconst X8.here hx rfl (hb hby d13_54) k') ?_
    show Go p e below s _ _ _ (T8.setTop (mkF m 55 #[.val (.ref ob), .val (.ref oc), .val (.ref oc)] [(.int (0 : Int32))]))
    refine Go.retB X8 hx hlk (t := .boolean) Bd.returns (by simp) (hb hby d13_55) (by decide) (by decide) eq8 ?_
    exact ⟨(by rw [hc9]; rfl), N8, rfl⟩
  · refine Go.st (fun _ k' => XS.ifNo X8.here hx rfl (hb hby d13_47) rfl (XT.i0_eq_f hc9) k') ?_
    show Go p e below s _ _ _ (T8.setTop (mkF m 50 #[.val (.ref ob), .val (.ref oc), .val (.ref oc)] []))
    refine Go.st (fun _ k' => XS.iconst X8.here hx rfl (hb hby d13_50) k') ?_
    show Go p e below s _ _ _ (T8.setTop (mkF m 51 #[.val (.ref ob), .val (.ref oc), .val (.ref oc)] [(.int (1 : Int32))]))
    refine Go.st (fun _ k' => XS.goto X8.here hx rfl (pc0 := 51) (pc' := 55) rfl (hb hby d13_51) (by decide) (by decide) k') ?_
    show Go p e below s _ _ _ (T8.setTop (mkF m 55 #[.val (.ref ob), .val (.ref oc), .val (.ref oc)] [(.int (1 : Int32))]))
    refine Go.retB X8 hx hlk (t := .boolean) Bd.returns (by simp) (hb hby d13_55) (by decide) (by decide) eq8 ?_
    exact ⟨(by rw [own_b1 hc9]; rfl), N8, rfl⟩
theorem d10_0 : decode jdk_31_method_11_code 0 = .ok (.aload_n 0, 1) := by decide +kernel
theorem d10_1 : decode jdk_31_method_11_code 1 = .ok (.ifnonnull 12, 3) := by decide +kernel
theorem d10_13 : decode jdk_31_method_11_code 13 = .ok (.aload_n 0, 1) := by decide +kernel
theorem d10_14 : decode jdk_31_method_11_code 14 = .ok (.areturn, 1) := by decide +kernel
theorem pn_java_util_Objects : plainName "java/util/Objects" = true := by first | (simp [plainName, overriddenIn]; done) | decide +kernel
theorem ef_rm10 (m : MethodId) (oa : Addr) (ob : Addr) : entryFrame m #[(.ref oa), (.ref ob)] 2 = mkF m 0 #[.val (.ref oa), .val (.ref ob)] [] := by first | (simp [entryFrame, mkF, argsToLocals, Value.category]; done) | rfl
def Q10 (Z : State) (oa : Addr) (ob : Addr) (h0 : Heap) (n0 : Nat) (v : Option Value) (h : Heap) (L : List Loc) : Prop := v = some (.ref oa) ∧ Fr n0 L ∧ h = h0
set_option maxRecDepth 65536 in
set_option maxHeartbeats 40000000 in
theorem rm10 (l : Launch) (Z : State) (a0 : Array Value) (hw : ∀ d ∈ tables_1, d.before a0 Z = true) (ws : List Jvm.Cond) (oa : Addr) (ob : Addr) (h0 : Heap) (n0 : Nat) (O0 : Old Z n0 h0) :
    MetFree l (⟨"java/util/Objects", "requireNonNull", "(Ljava/lang/Object;Ljava/lang/String;)Ljava/lang/Object;"⟩ : MethodName) (head1 (Jvm.Cond.code (⟨"java/util/Objects", "requireNonNull", "(Ljava/lang/Object;Ljava/lang/String;)Ljava/lang/Object;"⟩ : MethodName) jdk_31_method_11_code 2 (some (.object "java/lang/Object")) :: ws) ({ frames := 0, cells := 0, slots := 0, locals := 0 } : Room)) (fun ay U => ay = #[(.ref oa), (.ref ob)] ∧ Z.Warmed39 U.vm ∧ U.heap = h0) (fun _ _ _ _ _ => True) (fun _ U o U' => ∃ v L, o = .returned v ∧ Q10 Z oa ob h0 n0 v U'.heap L ∧ FrameEnd U o U' L ({ frames := 0, cells := 0, slots := 0, locals := 0 } : Room).cells ({ frames := 0, cells := 0, slots := 0, locals := 0 } : Room).slots) := by
  refine MetFree.of_bodySF (plainFor_of_name pn_java_util_Objects) hisR ?_
  intro p e s m args below meth c s₁ Bd hml0 hP hK
  obtain ⟨rfl, hZ, hh⟩ := hP
  have hx := Bd.exec
  have hby := Bd.bytes
  have hlk : meth.locks = false := BodyLoose.notSynchronized Bd
  have hml : c.maxLocals = 2 := hml0
  have hown : s.vm.findClass "java/util/Objects" = some m.cls := findClass_of_methodNamed Bd.named
  have hnm := (name_of_methodNamed Bd.named Bd.method).1
  have X0 : Stand p l e ({ frames := 0, cells := 0, slots := 0, locals := 0 } : Room) s m #[(.ref oa), (.ref ob)] below meth c s₁ [] 0 0 := Stand.of_body Bd
  have e0 : s₁.heap = h0 := by rw [← hh, Bd.state]; rfl
  have N0 := Fr.nil n0
  suffices hgo : Go p e below s 0 0 (Q10 Z oa ob h0 n0) (s₁.setTop (mkF m 0 #[.val (.ref oa), .val (.ref ob)] [])) by
    obtain ⟨t, o, h1, h2⟩ := hgo; exact ⟨t, o, castTop (ef_rm10 m oa ob) h1, h2⟩
  show Go p e below s _ _ _ (s₁.setTop (mkF m 0 #[.val (.ref oa), .val (.ref ob)] []))
  refine Go.st (fun _ k' => XS.aloadN X0.here hx rfl (hb hby d10_0) rfl rfl k') ?_
  show Go p e below s _ _ _ (s₁.setTop (mkF m 1 #[.val (.ref oa), .val (.ref ob)] [(.ref oa)]))
  refine Go.st (fun _ k' => XS.ifnonnullYes X0.here hx rfl (pc0 := 1) (pc' := 13) rfl (hb hby d10_1) rfl (by decide) (by decide) k') ?_
  show Go p e below s _ _ _ (s₁.setTop (mkF m 13 #[.val (.ref oa), .val (.ref ob)] []))
  refine Go.st (fun _ k' => XS.aloadN X0.here hx rfl (hb hby d10_13) rfl rfl k') ?_
  show Go p e below s _ _ _ (s₁.setTop (mkF m 14 #[.val (.ref oa), .val (.ref ob)] [(.ref oa)]))
  refine Go.ret X0 hx hlk (t := (.object "java/lang/Object")) Bd.returns rfl (Or.inr (Or.inr (Or.inr (Or.inr ⟨rfl, rfl, rfl⟩)))) (hb hby d10_14) (by decide) (by decide) e0 ?_
  exact ⟨rfl, N0, rfl⟩
theorem d9_0 : decode jdk_30_method_1_code 0 = .ok (.aload_n 0, 1) := by decide +kernel
theorem d9_1 : decode jdk_30_method_1_code 1 = .ok (.invokespecial 1, 3) := by decide +kernel
theorem d9_4 : decode jdk_30_method_1_code 4 = .ok (.return_, 1) := by decide +kernel
theorem pn_java_lang_Record : plainName "java/lang/Record" = true := by first | (simp [plainName, overriddenIn]; done) | decide +kernel
theorem ef_rm9 (m : MethodId) (ob : Addr) : entryFrame m #[(.ref ob)] 1 = mkF m 0 #[.val (.ref ob)] [] := by first | (simp [entryFrame, mkF, argsToLocals, Value.category]; done) | rfl
def Q9 (Z : State) (ob : Addr) (h0 : Heap) (n0 : Nat) (v : Option Value) (h : Heap) (L : List Loc) : Prop := v = none ∧ Fr n0 L ∧ h = h0
set_option maxRecDepth 65536 in
set_option maxHeartbeats 40000000 in
theorem rm9 (l : Launch) (Z : State) (a0 : Array Value) (hw : ∀ d ∈ tables_1, d.before a0 Z = true) (ws : List Jvm.Cond) (ob : Addr) (h0 : Heap) (n0 : Nat) (O0 : Old Z n0 h0) :
    MetFree l (⟨"java/lang/Record", "<init>", "()V"⟩ : MethodName) (head1 (Jvm.Cond.code (⟨"java/lang/Record", "<init>", "()V"⟩ : MethodName) jdk_30_method_1_code 1 none :: ws) ({ frames := 1, cells := 0, slots := 0, locals := 12 } : Room)) (fun ay U => ay = #[(.ref ob)] ∧ Z.Warmed39 U.vm ∧ U.heap = h0) (fun _ _ _ _ _ => True) (fun _ U o U' => ∃ v L, o = .returned v ∧ Q9 Z ob h0 n0 v U'.heap L ∧ FrameEnd U o U' L ({ frames := 1, cells := 0, slots := 0, locals := 12 } : Room).cells ({ frames := 1, cells := 0, slots := 0, locals := 12 } : Room).slots) := by
  refine MetFree.of_bodySF (plainFor_of_name pn_java_lang_Record) hisR ?_
  intro p e s m args below meth c s₁ Bd hml0 hP hK
  obtain ⟨rfl, hZ, hh⟩ := hP
  have hx := Bd.exec
  have hby := Bd.bytes
  have hlk : meth.locks = false := BodyLoose.notSynchronized Bd
  have hml : c.maxLocals = 1 := hml0
  have hown : s.vm.findClass "java/lang/Record" = some m.cls := findClass_of_methodNamed Bd.named
  have hnm := (name_of_methodNamed Bd.named Bd.method).1
  have X0 : Stand p l e ({ frames := 1, cells := 0, slots := 0, locals := 12 } : Room) s m #[(.ref ob)] below meth c s₁ [] 0 0 := Stand.of_body Bd
  have e0 : s₁.heap = h0 := by rw [← hh, Bd.state]; rfl
  have N0 := Fr.nil n0
  suffices hgo : Go p e below s 0 0 (Q9 Z ob h0 n0) (s₁.setTop (mkF m 0 #[.val (.ref ob)] [])) by
    obtain ⟨t, o, h1, h2⟩ := hgo; exact ⟨t, o, castTop (ef_rm9 m ob) h1, h2⟩
  show Go p e below s _ _ _ (s₁.setTop (mkF m 0 #[.val (.ref ob)] []))
  refine Go.st (fun _ k' => XS.aloadN X0.here hx rfl (hb hby d9_0) rfl rfl k') ?_
  show Go p e below s _ _ _ (s₁.setTop (mkF m 1 #[.val (.ref ob)] [(.ref ob)]))
  obtain ⟨T1, X1, e1, st1⟩ := initO X0 hx hZ hown (wdx hw 49 rfl) (wdx hw 25 rfl) (wdx hw 26 rfl) e0 (g := (mkF m 1 #[.val (.ref ob)] [(.ref ob)])) rfl (by rw [hml]; rfl) rfl (hb hby d9_1) (by decide) (W := 0) (by show 2 * 0 + _ ≤ _; exact Nat.le_of_eq rfl) (by decide)
  refine Go.st st1 ?_
  show Go p e below s _ _ _ (T1.setTop (mkF m 4 #[.val (.ref ob)] []))
  refine Go.retV X1 hx hlk Bd.returns (hb hby d9_4) (by decide) (by decide) e1 ?_
  exact ⟨rfl, N0, rfl⟩
theorem own_vc {Z : State} {h : Heap} {b : Addr} {k : ClassId} {la lb : List Int32} {d : Value} (e : la = lb) (F : Arv Z h b k .char (Int32.ofNat (List.length lb)) (List.map Value.int lb) d) : Arv Z h b k .char (Int32.ofNat (List.length la)) (List.map Value.int la) d := e ▸ F
theorem d1_0 : decode method_3_code 0 = .ok (.iload_n 0, 1) := by decide +kernel
theorem d1_1 : decode method_3_code 1 = .ok (.iconst 3, 1) := by decide +kernel
theorem d1_2 : decode method_3_code 2 = .ok (.iand, 1) := by decide +kernel
theorem d1_3 : decode method_3_code 3 = .ok (.iconst 3, 1) := by decide +kernel
theorem d1_4 : decode method_3_code 4 = .ok (.irem, 1) := by decide +kernel
theorem d1_5 : decode method_3_code 5 = .ok (.istore_n 1, 1) := by decide +kernel
theorem d1_6 : decode method_3_code 6 = .ok (.iload_n 0, 1) := by decide +kernel
theorem d1_7 : decode method_3_code 7 = .ok (.iconst 2, 1) := by decide +kernel
theorem d1_8 : decode method_3_code 8 = .ok (.iushr, 1) := by decide +kernel
theorem d1_9 : decode method_3_code 9 = .ok (.sipush 255, 3) := by decide +kernel
theorem d1_12 : decode method_3_code 12 = .ok (.iand, 1) := by decide +kernel
theorem d1_13 : decode method_3_code 13 = .ok (.i2c, 1) := by decide +kernel
theorem d1_14 : decode method_3_code 14 = .ok (.istore_n 2, 1) := by decide +kernel
theorem d1_15 : decode method_3_code 15 = .ok (.iload_n 0, 1) := by decide +kernel
theorem d1_16 : decode method_3_code 16 = .ok (.bipush 18, 2) := by decide +kernel
theorem d1_18 : decode method_3_code 18 = .ok (.iushr, 1) := by decide +kernel
theorem d1_19 : decode method_3_code 19 = .ok (.iconst 1, 1) := by decide +kernel
theorem d1_20 : decode method_3_code 20 = .ok (.iand, 1) := by decide +kernel
theorem d1_21 : decode method_3_code 21 = .ok (.ifCond .eq 6, 3) := by decide +kernel
theorem d1_27 : decode method_3_code 27 = .ok (.iload_n 0, 1) := by decide +kernel
theorem d1_28 : decode method_3_code 28 = .ok (.bipush 10, 2) := by decide +kernel
theorem d1_30 : decode method_3_code 30 = .ok (.iushr, 1) := by decide +kernel
theorem d1_31 : decode method_3_code 31 = .ok (.sipush 255, 3) := by decide +kernel
theorem d1_34 : decode method_3_code 34 = .ok (.iand, 1) := by decide +kernel
theorem d1_35 : decode method_3_code 35 = .ok (.i2c, 1) := by decide +kernel
theorem d1_36 : decode method_3_code 36 = .ok (.istore_n 3, 1) := by decide +kernel
theorem d1_37 : decode method_3_code 37 = .ok (.iload_n 1, 1) := by decide +kernel
theorem d1_38 : decode method_3_code 38 = .ok (.ifCond .ne 7, 3) := by decide +kernel
theorem d1_41 : decode method_3_code 41 = .ok (.iconst 0, 1) := by decide +kernel
theorem d1_42 : decode method_3_code 42 = .ok (.newarray .char, 2) := by decide +kernel
theorem d1_44 : decode method_3_code 44 = .ok (.areturn, 1) := by decide +kernel
theorem d1_24 : decode method_3_code 24 = .ok (.bipush 37, 2) := by decide +kernel
theorem d1_26 : decode method_3_code 26 = .ok (.istore_n 2, 1) := by decide +kernel
theorem d1_45 : decode method_3_code 45 = .ok (.iload_n 1, 1) := by decide +kernel
theorem d1_46 : decode method_3_code 46 = .ok (.iconst 1, 1) := by decide +kernel
theorem d1_47 : decode method_3_code 47 = .ok (.if_icmp .ne 16, 3) := by decide +kernel
theorem d1_50 : decode method_3_code 50 = .ok (.iconst 1, 1) := by decide +kernel
theorem d1_51 : decode method_3_code 51 = .ok (.newarray .char, 2) := by decide +kernel
theorem d1_53 : decode method_3_code 53 = .ok (.astore 4, 2) := by decide +kernel
theorem d1_55 : decode method_3_code 55 = .ok (.aload 4, 2) := by decide +kernel
theorem d1_57 : decode method_3_code 57 = .ok (.iconst 0, 1) := by decide +kernel
theorem d1_58 : decode method_3_code 58 = .ok (.iload_n 2, 1) := by decide +kernel
theorem d1_59 : decode method_3_code 59 = .ok (.castore, 1) := by decide +kernel
theorem d1_60 : decode method_3_code 60 = .ok (.aload 4, 2) := by decide +kernel
theorem d1_62 : decode method_3_code 62 = .ok (.areturn, 1) := by decide +kernel
theorem d1_63 : decode method_3_code 63 = .ok (.iconst 2, 1) := by decide +kernel
theorem d1_64 : decode method_3_code 64 = .ok (.newarray .char, 2) := by decide +kernel
theorem d1_66 : decode method_3_code 66 = .ok (.astore 4, 2) := by decide +kernel
theorem d1_68 : decode method_3_code 68 = .ok (.aload 4, 2) := by decide +kernel
theorem d1_70 : decode method_3_code 70 = .ok (.iconst 0, 1) := by decide +kernel
theorem d1_71 : decode method_3_code 71 = .ok (.iload_n 2, 1) := by decide +kernel
theorem d1_72 : decode method_3_code 72 = .ok (.castore, 1) := by decide +kernel
theorem d1_73 : decode method_3_code 73 = .ok (.aload 4, 2) := by decide +kernel
theorem d1_75 : decode method_3_code 75 = .ok (.iconst 1, 1) := by decide +kernel
theorem d1_76 : decode method_3_code 76 = .ok (.iload_n 3, 1) := by decide +kernel
theorem d1_77 : decode method_3_code 77 = .ok (.castore, 1) := by decide +kernel
theorem d1_78 : decode method_3_code 78 = .ok (.aload 4, 2) := by decide +kernel
theorem d1_80 : decode method_3_code 80 = .ok (.areturn, 1) := by decide +kernel
theorem pn_com_example_indenture_indenture_model_IdentifierMatchesPinLaw : plainName "com/example/indenture/indenture/model/IdentifierMatchesPinLaw" = true := by first | (simp [plainName, overriddenIn]; done) | decide +kernel
theorem ef_rm1 (m : MethodId) (u : Int32) : entryFrame m #[(.int u)] 5 = mkF m 0 #[.val (.int u), .unset, .unset, .unset, .unset] [] := by first | (simp [entryFrame, mkF, argsToLocals, Value.category]; done) | rfl
def Q1 (Z : State) (u : Int32) (h0 : Heap) (n0 : Nat) (v : Option Value) (h : Heap) (L : List Loc) : Prop := ∃ (rr : Addr) (kr : ClassId), v = some (.ref rr) ∧ Fr n0 L ∧ Keep h0 h [] ∧ Arv Z h rr kr .char (Int32.ofNat (List.length (fch u))) (List.map Value.int (fch u)) (.int (0 : Int32)) ∧ h0.size ≤ rr
set_option maxRecDepth 65536 in
set_option maxHeartbeats 40000000 in
theorem rm1 (l : Launch) (Z : State) (a0 : Array Value) (hw : ∀ d ∈ tables_1, d.before a0 Z = true) (ws : List Jvm.Cond) (u : Int32) (h0 : Heap) (n0 : Nat) (O0 : Old Z n0 h0) :
    MetFree l (⟨"com/example/indenture/indenture/model/IdentifierMatchesPinLaw", "chars", "(I)[C"⟩ : MethodName) (head1 (Jvm.Cond.code (⟨"com/example/indenture/indenture/model/IdentifierMatchesPinLaw", "chars", "(I)[C"⟩ : MethodName) method_3_code 5 (some (.array .char)) :: ws) ({ frames := 0, cells := 1, slots := 2, locals := 0 } : Room)) (fun ay U => ay = #[(.int u)] ∧ Z.Warmed39 U.vm ∧ U.heap = h0) (fun _ _ _ _ _ => True) (fun _ U o U' => ∃ v L, o = .returned v ∧ Q1 Z u h0 n0 v U'.heap L ∧ FrameEnd U o U' L ({ frames := 0, cells := 1, slots := 2, locals := 0 } : Room).cells ({ frames := 0, cells := 1, slots := 2, locals := 0 } : Room).slots) := by
  refine MetFree.of_bodySF (plainFor_of_name pn_com_example_indenture_indenture_model_IdentifierMatchesPinLaw) hisR ?_
  intro p e s m args below meth c s₁ Bd hml0 hP hK
  obtain ⟨rfl, hZ, hh⟩ := hP
  have hx := Bd.exec
  have hby := Bd.bytes
  have hlk : meth.locks = false := BodyLoose.notSynchronized Bd
  have hml : c.maxLocals = 5 := hml0
  have hown : s.vm.findClass "com/example/indenture/indenture/model/IdentifierMatchesPinLaw" = some m.cls := findClass_of_methodNamed Bd.named
  have hnm := (name_of_methodNamed Bd.named Bd.method).1
  have X0 : Stand p l e ({ frames := 0, cells := 1, slots := 2, locals := 0 } : Room) s m #[(.int u)] below meth c s₁ [] 0 0 := Stand.of_body Bd
  have e0 : s₁.heap = h0 := by rw [← hh, Bd.state]; rfl
  have N0 := Fr.nil n0
  suffices hgo : Go p e below s 1 2 (Q1 Z u h0 n0) (s₁.setTop (mkF m 0 #[.val (.int u), .unset, .unset, .unset, .unset] [])) by
    obtain ⟨t, o, h1, h2⟩ := hgo; exact ⟨t, o, castTop (ef_rm1 m u) h1, h2⟩
  show Go p e below s _ _ _ (s₁.setTop (mkF m 0 #[.val (.int u), .unset, .unset, .unset, .unset] []))
  refine Go.st (fun _ k' => XS.iloadN X0.here hx rfl (hb hby d1_0) rfl k') ?_
  show Go p e below s _ _ _ (s₁.setTop (mkF m 1 #[.val (.int u), .unset, .unset, .unset, .unset] [(.int u)]))
  refine Go.st (fun _ k' => XS.iconst X0.here hx rfl (hb hby d1_1) k') ?_
  show Go p e below s _ _ _ (s₁.setTop (mkF m 2 #[.val (.int u), .unset, .unset, .unset, .unset] [(.int (3 : Int32)), (.int u)]))
  refine Go.st (fun _ k' => XS.iand X0.here hx rfl (hb hby d1_2) rfl k') ?_
  show Go p e below s _ _ _ (s₁.setTop (mkF m 3 #[.val (.int u), .unset, .unset, .unset, .unset] [(.int (u &&& (3 : Int32)))]))
  refine Go.st (fun _ k' => XS.iconst X0.here hx rfl (hb hby d1_3) k') ?_
  show Go p e below s _ _ _ (s₁.setTop (mkF m 4 #[.val (.int u), .unset, .unset, .unset, .unset] [(.int (3 : Int32)), (.int (u &&& (3 : Int32)))]))
  refine Go.st (fun _ k' => iremM X0 hx rfl (hb hby d1_4) rfl (by decide) k') ?_
  show Go p e below s _ _ _ (s₁.setTop (mkF m 5 #[.val (.int u), .unset, .unset, .unset, .unset] [(.int ((u &&& (3 : Int32)) % (3 : Int32)))]))
  refine Go.st (fun _ k' => XS.istoreN X0.here hx rfl (hb hby d1_5) rfl (l' := #[.val (.int u), .val (.int ((u &&& (3 : Int32)) % (3 : Int32))), .unset, .unset, .unset]) rfl k') ?_
  show Go p e below s _ _ _ (s₁.setTop (mkF m 6 #[.val (.int u), .val (.int ((u &&& (3 : Int32)) % (3 : Int32))), .unset, .unset, .unset] []))
  rcases own_fl u with hl | hl | hl
  · rw [hl]
    show Go p e below s _ _ _ (s₁.setTop (mkF m 6 #[.val (.int u), .val (.int (0 : Int32)), .unset, .unset, .unset] []))
    refine Go.st (fun _ k' => XS.iloadN X0.here hx rfl (hb hby d1_6) rfl k') ?_
    show Go p e below s _ _ _ (s₁.setTop (mkF m 7 #[.val (.int u), .val (.int (0 : Int32)), .unset, .unset, .unset] [(.int u)]))
    refine Go.st (fun _ k' => XS.iconst X0.here hx rfl (hb hby d1_7) k') ?_
    show Go p e below s _ _ _ (s₁.setTop (mkF m 8 #[.val (.int u), .val (.int (0 : Int32)), .unset, .unset, .unset] [(.int (2 : Int32)), (.int u)]))
    refine Go.st (fun _ k' => XS.iushr X0.here hx rfl (hb hby d1_8) rfl k') ?_
    show Go p e below s _ _ _ (s₁.setTop (mkF m 9 #[.val (.int u), .val (.int (0 : Int32)), .unset, .unset, .unset] [(.int ((u.toUInt32 >>> ((2 : Int32) &&& 31).toUInt32).toInt32))]))
    refine Go.st (fun _ k' => XS.sipush X0.here hx rfl (hb hby d1_9) k') ?_
    show Go p e below s _ _ _ (s₁.setTop (mkF m 12 #[.val (.int u), .val (.int (0 : Int32)), .unset, .unset, .unset] [(.int (255 : Int32)), (.int ((u.toUInt32 >>> ((2 : Int32) &&& 31).toUInt32).toInt32))]))
    refine Go.st (fun _ k' => XS.iand X0.here hx rfl (hb hby d1_12) rfl k') ?_
    show Go p e below s _ _ _ (s₁.setTop (mkF m 13 #[.val (.int u), .val (.int (0 : Int32)), .unset, .unset, .unset] [(.int (((u.toUInt32 >>> ((2 : Int32) &&& 31).toUInt32).toInt32) &&& (255 : Int32)))]))
    refine Go.st (fun _ k' => XS.i2c X0.here hx rfl (hb hby d1_13) rfl k') ?_
    show Go p e below s _ _ _ (s₁.setTop (mkF m 14 #[.val (.int u), .val (.int (0 : Int32)), .unset, .unset, .unset] [(.int ((((u.toUInt32 >>> ((2 : Int32) &&& 31).toUInt32).toInt32) &&& (255 : Int32)).toUInt32.toUInt16.toUInt32.toInt32))]))
    refine Go.st (fun _ k' => XS.istoreN X0.here hx rfl (hb hby d1_14) rfl (l' := #[.val (.int u), .val (.int (0 : Int32)), .val (.int ((((u.toUInt32 >>> ((2 : Int32) &&& 31).toUInt32).toInt32) &&& (255 : Int32)).toUInt32.toUInt16.toUInt32.toInt32)), .unset, .unset]) rfl k') ?_
    show Go p e below s _ _ _ (s₁.setTop (mkF m 15 #[.val (.int u), .val (.int (0 : Int32)), .val (.int ((((u.toUInt32 >>> ((2 : Int32) &&& 31).toUInt32).toInt32) &&& (255 : Int32)).toUInt32.toUInt16.toUInt32.toInt32)), .unset, .unset] []))
    refine Go.st (fun _ k' => XS.iloadN X0.here hx rfl (hb hby d1_15) rfl k') ?_
    show Go p e below s _ _ _ (s₁.setTop (mkF m 16 #[.val (.int u), .val (.int (0 : Int32)), .val (.int ((((u.toUInt32 >>> ((2 : Int32) &&& 31).toUInt32).toInt32) &&& (255 : Int32)).toUInt32.toUInt16.toUInt32.toInt32)), .unset, .unset] [(.int u)]))
    refine Go.st (fun _ k' => XS.bipush X0.here hx rfl (hb hby d1_16) k') ?_
    show Go p e below s _ _ _ (s₁.setTop (mkF m 18 #[.val (.int u), .val (.int (0 : Int32)), .val (.int ((((u.toUInt32 >>> ((2 : Int32) &&& 31).toUInt32).toInt32) &&& (255 : Int32)).toUInt32.toUInt16.toUInt32.toInt32)), .unset, .unset] [(.int (18 : Int32)), (.int u)]))
    refine Go.st (fun _ k' => XS.iushr X0.here hx rfl (hb hby d1_18) rfl k') ?_
    show Go p e below s _ _ _ (s₁.setTop (mkF m 19 #[.val (.int u), .val (.int (0 : Int32)), .val (.int ((((u.toUInt32 >>> ((2 : Int32) &&& 31).toUInt32).toInt32) &&& (255 : Int32)).toUInt32.toUInt16.toUInt32.toInt32)), .unset, .unset] [(.int ((u.toUInt32 >>> ((18 : Int32) &&& 31).toUInt32).toInt32))]))
    refine Go.st (fun _ k' => XS.iconst X0.here hx rfl (hb hby d1_19) k') ?_
    show Go p e below s _ _ _ (s₁.setTop (mkF m 20 #[.val (.int u), .val (.int (0 : Int32)), .val (.int ((((u.toUInt32 >>> ((2 : Int32) &&& 31).toUInt32).toInt32) &&& (255 : Int32)).toUInt32.toUInt16.toUInt32.toInt32)), .unset, .unset] [(.int (1 : Int32)), (.int ((u.toUInt32 >>> ((18 : Int32) &&& 31).toUInt32).toInt32))]))
    refine Go.st (fun _ k' => XS.iand X0.here hx rfl (hb hby d1_20) rfl k') ?_
    show Go p e below s _ _ _ (s₁.setTop (mkF m 21 #[.val (.int u), .val (.int (0 : Int32)), .val (.int ((((u.toUInt32 >>> ((2 : Int32) &&& 31).toUInt32).toInt32) &&& (255 : Int32)).toUInt32.toUInt16.toUInt32.toInt32)), .unset, .unset] [(.int (((u.toUInt32 >>> ((18 : Int32) &&& 31).toUInt32).toInt32) &&& (1 : Int32)))]))
    by_cases hc1 : (((u.toUInt32 >>> ((18 : Int32) &&& 31).toUInt32).toInt32) &&& (1 : Int32)) = (0 : Int32)
    · refine Go.st (fun _ k' => XS.ifYes X0.here hx rfl (pc0 := 21) (pc' := 27) rfl (hb hby d1_21) rfl (XT.i0_eq_t hc1) (by decide) (by decide) k') ?_
      show Go p e below s _ _ _ (s₁.setTop (mkF m 27 #[.val (.int u), .val (.int (0 : Int32)), .val (.int ((((u.toUInt32 >>> ((2 : Int32) &&& 31).toUInt32).toInt32) &&& (255 : Int32)).toUInt32.toUInt16.toUInt32.toInt32)), .unset, .unset] []))
      refine Go.st (fun _ k' => XS.iloadN X0.here hx rfl (hb hby d1_27) rfl k') ?_
      show Go p e below s _ _ _ (s₁.setTop (mkF m 28 #[.val (.int u), .val (.int (0 : Int32)), .val (.int ((((u.toUInt32 >>> ((2 : Int32) &&& 31).toUInt32).toInt32) &&& (255 : Int32)).toUInt32.toUInt16.toUInt32.toInt32)), .unset, .unset] [(.int u)]))
      refine Go.st (fun _ k' => XS.bipush X0.here hx rfl (hb hby d1_28) k') ?_
      show Go p e below s _ _ _ (s₁.setTop (mkF m 30 #[.val (.int u), .val (.int (0 : Int32)), .val (.int ((((u.toUInt32 >>> ((2 : Int32) &&& 31).toUInt32).toInt32) &&& (255 : Int32)).toUInt32.toUInt16.toUInt32.toInt32)), .unset, .unset] [(.int (10 : Int32)), (.int u)]))
      refine Go.st (fun _ k' => XS.iushr X0.here hx rfl (hb hby d1_30) rfl k') ?_
      show Go p e below s _ _ _ (s₁.setTop (mkF m 31 #[.val (.int u), .val (.int (0 : Int32)), .val (.int ((((u.toUInt32 >>> ((2 : Int32) &&& 31).toUInt32).toInt32) &&& (255 : Int32)).toUInt32.toUInt16.toUInt32.toInt32)), .unset, .unset] [(.int ((u.toUInt32 >>> ((10 : Int32) &&& 31).toUInt32).toInt32))]))
      refine Go.st (fun _ k' => XS.sipush X0.here hx rfl (hb hby d1_31) k') ?_
      show Go p e below s _ _ _ (s₁.setTop (mkF m 34 #[.val (.int u), .val (.int (0 : Int32)), .val (.int ((((u.toUInt32 >>> ((2 : Int32) &&& 31).toUInt32).toInt32) &&& (255 : Int32)).toUInt32.toUInt16.toUInt32.toInt32)), .unset, .unset] [(.int (255 : Int32)), (.int ((u.toUInt32 >>> ((10 : Int32) &&& 31).toUInt32).toInt32))]))
      refine Go.st (fun _ k' => XS.iand X0.here hx rfl (hb hby d1_34) rfl k') ?_
      show Go p e below s _ _ _ (s₁.setTop (mkF m 35 #[.val (.int u), .val (.int (0 : Int32)), .val (.int ((((u.toUInt32 >>> ((2 : Int32) &&& 31).toUInt32).toInt32) &&& (255 : Int32)).toUInt32.toUInt16.toUInt32.toInt32)), .unset, .unset] [(.int (((u.toUInt32 >>> ((10 : Int32) &&& 31).toUInt32).toInt32) &&& (255 : Int32)))]))
      refine Go.st (fun _ k' => XS.i2c X0.here hx rfl (hb hby d1_35) rfl k') ?_
      show Go p e below s _ _ _ (s₁.setTop (mkF m 36 #[.val (.int u), .val (.int (0 : Int32)), .val (.int ((((u.toUInt32 >>> ((2 : Int32) &&& 31).toUInt32).toInt32) &&& (255 : Int32)).toUInt32.toUInt16.toUInt32.toInt32)), .unset, .unset] [(.int ((((u.toUInt32 >>> ((10 : Int32) &&& 31).toUInt32).toInt32) &&& (255 : Int32)).toUInt32.toUInt16.toUInt32.toInt32))]))
      refine Go.st (fun _ k' => XS.istoreN X0.here hx rfl (hb hby d1_36) rfl (l' := #[.val (.int u), .val (.int (0 : Int32)), .val (.int ((((u.toUInt32 >>> ((2 : Int32) &&& 31).toUInt32).toInt32) &&& (255 : Int32)).toUInt32.toUInt16.toUInt32.toInt32)), .val (.int ((((u.toUInt32 >>> ((10 : Int32) &&& 31).toUInt32).toInt32) &&& (255 : Int32)).toUInt32.toUInt16.toUInt32.toInt32)), .unset]) rfl k') ?_
      show Go p e below s _ _ _ (s₁.setTop (mkF m 37 #[.val (.int u), .val (.int (0 : Int32)), .val (.int ((((u.toUInt32 >>> ((2 : Int32) &&& 31).toUInt32).toInt32) &&& (255 : Int32)).toUInt32.toUInt16.toUInt32.toInt32)), .val (.int ((((u.toUInt32 >>> ((10 : Int32) &&& 31).toUInt32).toInt32) &&& (255 : Int32)).toUInt32.toUInt16.toUInt32.toInt32)), .unset] []))
      refine Go.st (fun _ k' => XS.iloadN X0.here hx rfl (hb hby d1_37) rfl k') ?_
      show Go p e below s _ _ _ (s₁.setTop (mkF m 38 #[.val (.int u), .val (.int (0 : Int32)), .val (.int ((((u.toUInt32 >>> ((2 : Int32) &&& 31).toUInt32).toInt32) &&& (255 : Int32)).toUInt32.toUInt16.toUInt32.toInt32)), .val (.int ((((u.toUInt32 >>> ((10 : Int32) &&& 31).toUInt32).toInt32) &&& (255 : Int32)).toUInt32.toUInt16.toUInt32.toInt32)), .unset] [(.int (0 : Int32))]))
      refine Go.st (fun _ k' => XS.ifNo X0.here hx rfl (hb hby d1_38) rfl (XT.i0_ne_f (by decide)) k') ?_
      show Go p e below s _ _ _ (s₁.setTop (mkF m 41 #[.val (.int u), .val (.int (0 : Int32)), .val (.int ((((u.toUInt32 >>> ((2 : Int32) &&& 31).toUInt32).toInt32) &&& (255 : Int32)).toUInt32.toUInt16.toUInt32.toInt32)), .val (.int ((((u.toUInt32 >>> ((10 : Int32) &&& 31).toUInt32).toInt32) &&& (255 : Int32)).toUInt32.toUInt16.toUInt32.toInt32)), .unset] []))
      refine Go.st (fun _ k' => XS.iconst X0.here hx rfl (hb hby d1_41) k') ?_
      show Go p e below s _ _ _ (s₁.setTop (mkF m 42 #[.val (.int u), .val (.int (0 : Int32)), .val (.int ((((u.toUInt32 >>> ((2 : Int32) &&& 31).toUInt32).toInt32) &&& (255 : Int32)).toUInt32.toUInt16.toUInt32.toInt32)), .val (.int ((((u.toUInt32 >>> ((10 : Int32) &&& 31).toUInt32).toInt32) &&& (255 : Int32)).toUInt32.toUInt16.toUInt32.toInt32)), .unset] [(.int (0 : Int32))]))
      obtain ⟨T2, h2, k2, X2, e2, E2, A2, st2⟩ := newP X0 hx hZ (wdx hw 4 rfl) e0 (g := (mkF m 42 #[.val (.int u), .val (.int (0 : Int32)), .val (.int ((((u.toUInt32 >>> ((2 : Int32) &&& 31).toUInt32).toInt32) &&& (255 : Int32)).toUInt32.toUInt16.toUInt32.toInt32)), .val (.int ((((u.toUInt32 >>> ((10 : Int32) &&& 31).toUInt32).toInt32) &&& (255 : Int32)).toUInt32.toUInt16.toUInt32.toInt32)), .unset] [(.int (0 : Int32))])) rfl (hb hby d1_42) rfl (by decide) (cap := 0) (by decide) (by decide) (by decide) (by decide)
      obtain ⟨b2, g2⟩ : ∃ z, z = h0.size := ⟨_, rfl⟩
      rw [← g2] at A2 st2
      refine Go.st st2 ?_
      have g_b2 : n0 ≤ b2 := Nat.le_trans (own_le O0) (Nat.le_of_eq g2.symm)
      have z_b2 : h0.size ≤ b2 := Nat.le_of_eq g2.symm
      have O2 : Old Z n0 h2 := O0.ext E2
      have K2 : Keep h0 h2 [] := (Keep.refl h0 []).ext E2
      have f3 : Arv Z h2 b2 k2 .char (0 : Int32) [] (.int (0 : Int32)) := (Arv.new A2 (by decide)).pad (pad_rep [] (.int (0 : Int32)) 0)
      show Go p e below s _ _ _ (T2.setTop (mkF m 44 #[.val (.int u), .val (.int (0 : Int32)), .val (.int ((((u.toUInt32 >>> ((2 : Int32) &&& 31).toUInt32).toInt32) &&& (255 : Int32)).toUInt32.toUInt16.toUInt32.toInt32)), .val (.int ((((u.toUInt32 >>> ((10 : Int32) &&& 31).toUInt32).toInt32) &&& (255 : Int32)).toUInt32.toUInt16.toUInt32.toInt32)), .unset] [(.ref b2)]))
      refine Go.ret X2 hx hlk (t := (.array .char)) Bd.returns rfl (Or.inr (Or.inr (Or.inr (Or.inr ⟨rfl, rfl, rfl⟩)))) (hb hby d1_44) (by decide) (by decide) e2 ?_
      exact ⟨b2, k2, rfl, N0, K2, (own_vc (lb := []) (by simp +decide only [fch, fl, fx0, fx1, hl, hc1, ↓reduceIte]) f3), z_b2⟩
    · refine Go.st (fun _ k' => XS.ifNo X0.here hx rfl (hb hby d1_21) rfl (XT.i0_eq_f hc1) k') ?_
      show Go p e below s _ _ _ (s₁.setTop (mkF m 24 #[.val (.int u), .val (.int (0 : Int32)), .val (.int ((((u.toUInt32 >>> ((2 : Int32) &&& 31).toUInt32).toInt32) &&& (255 : Int32)).toUInt32.toUInt16.toUInt32.toInt32)), .unset, .unset] []))
      refine Go.st (fun _ k' => XS.bipush X0.here hx rfl (hb hby d1_24) k') ?_
      show Go p e below s _ _ _ (s₁.setTop (mkF m 26 #[.val (.int u), .val (.int (0 : Int32)), .val (.int ((((u.toUInt32 >>> ((2 : Int32) &&& 31).toUInt32).toInt32) &&& (255 : Int32)).toUInt32.toUInt16.toUInt32.toInt32)), .unset, .unset] [(.int (37 : Int32))]))
      refine Go.st (fun _ k' => XS.istoreN X0.here hx rfl (hb hby d1_26) rfl (l' := #[.val (.int u), .val (.int (0 : Int32)), .val (.int (37 : Int32)), .unset, .unset]) rfl k') ?_
      show Go p e below s _ _ _ (s₁.setTop (mkF m 27 #[.val (.int u), .val (.int (0 : Int32)), .val (.int (37 : Int32)), .unset, .unset] []))
      refine Go.st (fun _ k' => XS.iloadN X0.here hx rfl (hb hby d1_27) rfl k') ?_
      show Go p e below s _ _ _ (s₁.setTop (mkF m 28 #[.val (.int u), .val (.int (0 : Int32)), .val (.int (37 : Int32)), .unset, .unset] [(.int u)]))
      refine Go.st (fun _ k' => XS.bipush X0.here hx rfl (hb hby d1_28) k') ?_
      show Go p e below s _ _ _ (s₁.setTop (mkF m 30 #[.val (.int u), .val (.int (0 : Int32)), .val (.int (37 : Int32)), .unset, .unset] [(.int (10 : Int32)), (.int u)]))
      refine Go.st (fun _ k' => XS.iushr X0.here hx rfl (hb hby d1_30) rfl k') ?_
      show Go p e below s _ _ _ (s₁.setTop (mkF m 31 #[.val (.int u), .val (.int (0 : Int32)), .val (.int (37 : Int32)), .unset, .unset] [(.int ((u.toUInt32 >>> ((10 : Int32) &&& 31).toUInt32).toInt32))]))
      refine Go.st (fun _ k' => XS.sipush X0.here hx rfl (hb hby d1_31) k') ?_
      show Go p e below s _ _ _ (s₁.setTop (mkF m 34 #[.val (.int u), .val (.int (0 : Int32)), .val (.int (37 : Int32)), .unset, .unset] [(.int (255 : Int32)), (.int ((u.toUInt32 >>> ((10 : Int32) &&& 31).toUInt32).toInt32))]))
      refine Go.st (fun _ k' => XS.iand X0.here hx rfl (hb hby d1_34) rfl k') ?_
      show Go p e below s _ _ _ (s₁.setTop (mkF m 35 #[.val (.int u), .val (.int (0 : Int32)), .val (.int (37 : Int32)), .unset, .unset] [(.int (((u.toUInt32 >>> ((10 : Int32) &&& 31).toUInt32).toInt32) &&& (255 : Int32)))]))
      refine Go.st (fun _ k' => XS.i2c X0.here hx rfl (hb hby d1_35) rfl k') ?_
      show Go p e below s _ _ _ (s₁.setTop (mkF m 36 #[.val (.int u), .val (.int (0 : Int32)), .val (.int (37 : Int32)), .unset, .unset] [(.int ((((u.toUInt32 >>> ((10 : Int32) &&& 31).toUInt32).toInt32) &&& (255 : Int32)).toUInt32.toUInt16.toUInt32.toInt32))]))
      refine Go.st (fun _ k' => XS.istoreN X0.here hx rfl (hb hby d1_36) rfl (l' := #[.val (.int u), .val (.int (0 : Int32)), .val (.int (37 : Int32)), .val (.int ((((u.toUInt32 >>> ((10 : Int32) &&& 31).toUInt32).toInt32) &&& (255 : Int32)).toUInt32.toUInt16.toUInt32.toInt32)), .unset]) rfl k') ?_
      show Go p e below s _ _ _ (s₁.setTop (mkF m 37 #[.val (.int u), .val (.int (0 : Int32)), .val (.int (37 : Int32)), .val (.int ((((u.toUInt32 >>> ((10 : Int32) &&& 31).toUInt32).toInt32) &&& (255 : Int32)).toUInt32.toUInt16.toUInt32.toInt32)), .unset] []))
      refine Go.st (fun _ k' => XS.iloadN X0.here hx rfl (hb hby d1_37) rfl k') ?_
      show Go p e below s _ _ _ (s₁.setTop (mkF m 38 #[.val (.int u), .val (.int (0 : Int32)), .val (.int (37 : Int32)), .val (.int ((((u.toUInt32 >>> ((10 : Int32) &&& 31).toUInt32).toInt32) &&& (255 : Int32)).toUInt32.toUInt16.toUInt32.toInt32)), .unset] [(.int (0 : Int32))]))
      refine Go.st (fun _ k' => XS.ifNo X0.here hx rfl (hb hby d1_38) rfl (XT.i0_ne_f (by decide)) k') ?_
      show Go p e below s _ _ _ (s₁.setTop (mkF m 41 #[.val (.int u), .val (.int (0 : Int32)), .val (.int (37 : Int32)), .val (.int ((((u.toUInt32 >>> ((10 : Int32) &&& 31).toUInt32).toInt32) &&& (255 : Int32)).toUInt32.toUInt16.toUInt32.toInt32)), .unset] []))
      refine Go.st (fun _ k' => XS.iconst X0.here hx rfl (hb hby d1_41) k') ?_
      show Go p e below s _ _ _ (s₁.setTop (mkF m 42 #[.val (.int u), .val (.int (0 : Int32)), .val (.int (37 : Int32)), .val (.int ((((u.toUInt32 >>> ((10 : Int32) &&& 31).toUInt32).toInt32) &&& (255 : Int32)).toUInt32.toUInt16.toUInt32.toInt32)), .unset] [(.int (0 : Int32))]))
      obtain ⟨T4, h4, k4, X4, e4, E4, A4, st4⟩ := newP X0 hx hZ (wdx hw 4 rfl) e0 (g := (mkF m 42 #[.val (.int u), .val (.int (0 : Int32)), .val (.int (37 : Int32)), .val (.int ((((u.toUInt32 >>> ((10 : Int32) &&& 31).toUInt32).toInt32) &&& (255 : Int32)).toUInt32.toUInt16.toUInt32.toInt32)), .unset] [(.int (0 : Int32))])) rfl (hb hby d1_42) rfl (by decide) (cap := 0) (by decide) (by decide) (by decide) (by decide)
      obtain ⟨b4, g4⟩ : ∃ z, z = h0.size := ⟨_, rfl⟩
      rw [← g4] at A4 st4
      refine Go.st st4 ?_
      have g_b4 : n0 ≤ b4 := Nat.le_trans (own_le O0) (Nat.le_of_eq g4.symm)
      have z_b4 : h0.size ≤ b4 := Nat.le_of_eq g4.symm
      have O4 : Old Z n0 h4 := O0.ext E4
      have K4 : Keep h0 h4 [] := (Keep.refl h0 []).ext E4
      have f5 : Arv Z h4 b4 k4 .char (0 : Int32) [] (.int (0 : Int32)) := (Arv.new A4 (by decide)).pad (pad_rep [] (.int (0 : Int32)) 0)
      show Go p e below s _ _ _ (T4.setTop (mkF m 44 #[.val (.int u), .val (.int (0 : Int32)), .val (.int (37 : Int32)), .val (.int ((((u.toUInt32 >>> ((10 : Int32) &&& 31).toUInt32).toInt32) &&& (255 : Int32)).toUInt32.toUInt16.toUInt32.toInt32)), .unset] [(.ref b4)]))
      refine Go.ret X4 hx hlk (t := (.array .char)) Bd.returns rfl (Or.inr (Or.inr (Or.inr (Or.inr ⟨rfl, rfl, rfl⟩)))) (hb hby d1_44) (by decide) (by decide) e4 ?_
      exact ⟨b4, k4, rfl, N0, K4, (own_vc (lb := []) (by simp +decide only [fch, fl, fx0, fx1, hl, hc1, ↓reduceIte]) f5), z_b4⟩
  · rw [hl]
    show Go p e below s _ _ _ (s₁.setTop (mkF m 6 #[.val (.int u), .val (.int (1 : Int32)), .unset, .unset, .unset] []))
    refine Go.st (fun _ k' => XS.iloadN X0.here hx rfl (hb hby d1_6) rfl k') ?_
    show Go p e below s _ _ _ (s₁.setTop (mkF m 7 #[.val (.int u), .val (.int (1 : Int32)), .unset, .unset, .unset] [(.int u)]))
    refine Go.st (fun _ k' => XS.iconst X0.here hx rfl (hb hby d1_7) k') ?_
    show Go p e below s _ _ _ (s₁.setTop (mkF m 8 #[.val (.int u), .val (.int (1 : Int32)), .unset, .unset, .unset] [(.int (2 : Int32)), (.int u)]))
    refine Go.st (fun _ k' => XS.iushr X0.here hx rfl (hb hby d1_8) rfl k') ?_
    show Go p e below s _ _ _ (s₁.setTop (mkF m 9 #[.val (.int u), .val (.int (1 : Int32)), .unset, .unset, .unset] [(.int ((u.toUInt32 >>> ((2 : Int32) &&& 31).toUInt32).toInt32))]))
    refine Go.st (fun _ k' => XS.sipush X0.here hx rfl (hb hby d1_9) k') ?_
    show Go p e below s _ _ _ (s₁.setTop (mkF m 12 #[.val (.int u), .val (.int (1 : Int32)), .unset, .unset, .unset] [(.int (255 : Int32)), (.int ((u.toUInt32 >>> ((2 : Int32) &&& 31).toUInt32).toInt32))]))
    refine Go.st (fun _ k' => XS.iand X0.here hx rfl (hb hby d1_12) rfl k') ?_
    show Go p e below s _ _ _ (s₁.setTop (mkF m 13 #[.val (.int u), .val (.int (1 : Int32)), .unset, .unset, .unset] [(.int (((u.toUInt32 >>> ((2 : Int32) &&& 31).toUInt32).toInt32) &&& (255 : Int32)))]))
    refine Go.st (fun _ k' => XS.i2c X0.here hx rfl (hb hby d1_13) rfl k') ?_
    show Go p e below s _ _ _ (s₁.setTop (mkF m 14 #[.val (.int u), .val (.int (1 : Int32)), .unset, .unset, .unset] [(.int ((((u.toUInt32 >>> ((2 : Int32) &&& 31).toUInt32).toInt32) &&& (255 : Int32)).toUInt32.toUInt16.toUInt32.toInt32))]))
    refine Go.st (fun _ k' => XS.istoreN X0.here hx rfl (hb hby d1_14) rfl (l' := #[.val (.int u), .val (.int (1 : Int32)), .val (.int ((((u.toUInt32 >>> ((2 : Int32) &&& 31).toUInt32).toInt32) &&& (255 : Int32)).toUInt32.toUInt16.toUInt32.toInt32)), .unset, .unset]) rfl k') ?_
    show Go p e below s _ _ _ (s₁.setTop (mkF m 15 #[.val (.int u), .val (.int (1 : Int32)), .val (.int ((((u.toUInt32 >>> ((2 : Int32) &&& 31).toUInt32).toInt32) &&& (255 : Int32)).toUInt32.toUInt16.toUInt32.toInt32)), .unset, .unset] []))
    refine Go.st (fun _ k' => XS.iloadN X0.here hx rfl (hb hby d1_15) rfl k') ?_
    show Go p e below s _ _ _ (s₁.setTop (mkF m 16 #[.val (.int u), .val (.int (1 : Int32)), .val (.int ((((u.toUInt32 >>> ((2 : Int32) &&& 31).toUInt32).toInt32) &&& (255 : Int32)).toUInt32.toUInt16.toUInt32.toInt32)), .unset, .unset] [(.int u)]))
    refine Go.st (fun _ k' => XS.bipush X0.here hx rfl (hb hby d1_16) k') ?_
    show Go p e below s _ _ _ (s₁.setTop (mkF m 18 #[.val (.int u), .val (.int (1 : Int32)), .val (.int ((((u.toUInt32 >>> ((2 : Int32) &&& 31).toUInt32).toInt32) &&& (255 : Int32)).toUInt32.toUInt16.toUInt32.toInt32)), .unset, .unset] [(.int (18 : Int32)), (.int u)]))
    refine Go.st (fun _ k' => XS.iushr X0.here hx rfl (hb hby d1_18) rfl k') ?_
    show Go p e below s _ _ _ (s₁.setTop (mkF m 19 #[.val (.int u), .val (.int (1 : Int32)), .val (.int ((((u.toUInt32 >>> ((2 : Int32) &&& 31).toUInt32).toInt32) &&& (255 : Int32)).toUInt32.toUInt16.toUInt32.toInt32)), .unset, .unset] [(.int ((u.toUInt32 >>> ((18 : Int32) &&& 31).toUInt32).toInt32))]))
    refine Go.st (fun _ k' => XS.iconst X0.here hx rfl (hb hby d1_19) k') ?_
    show Go p e below s _ _ _ (s₁.setTop (mkF m 20 #[.val (.int u), .val (.int (1 : Int32)), .val (.int ((((u.toUInt32 >>> ((2 : Int32) &&& 31).toUInt32).toInt32) &&& (255 : Int32)).toUInt32.toUInt16.toUInt32.toInt32)), .unset, .unset] [(.int (1 : Int32)), (.int ((u.toUInt32 >>> ((18 : Int32) &&& 31).toUInt32).toInt32))]))
    refine Go.st (fun _ k' => XS.iand X0.here hx rfl (hb hby d1_20) rfl k') ?_
    show Go p e below s _ _ _ (s₁.setTop (mkF m 21 #[.val (.int u), .val (.int (1 : Int32)), .val (.int ((((u.toUInt32 >>> ((2 : Int32) &&& 31).toUInt32).toInt32) &&& (255 : Int32)).toUInt32.toUInt16.toUInt32.toInt32)), .unset, .unset] [(.int (((u.toUInt32 >>> ((18 : Int32) &&& 31).toUInt32).toInt32) &&& (1 : Int32)))]))
    by_cases hc6 : (((u.toUInt32 >>> ((18 : Int32) &&& 31).toUInt32).toInt32) &&& (1 : Int32)) = (0 : Int32)
    · refine Go.st (fun _ k' => XS.ifYes X0.here hx rfl (pc0 := 21) (pc' := 27) rfl (hb hby d1_21) rfl (XT.i0_eq_t hc6) (by decide) (by decide) k') ?_
      show Go p e below s _ _ _ (s₁.setTop (mkF m 27 #[.val (.int u), .val (.int (1 : Int32)), .val (.int ((((u.toUInt32 >>> ((2 : Int32) &&& 31).toUInt32).toInt32) &&& (255 : Int32)).toUInt32.toUInt16.toUInt32.toInt32)), .unset, .unset] []))
      refine Go.st (fun _ k' => XS.iloadN X0.here hx rfl (hb hby d1_27) rfl k') ?_
      show Go p e below s _ _ _ (s₁.setTop (mkF m 28 #[.val (.int u), .val (.int (1 : Int32)), .val (.int ((((u.toUInt32 >>> ((2 : Int32) &&& 31).toUInt32).toInt32) &&& (255 : Int32)).toUInt32.toUInt16.toUInt32.toInt32)), .unset, .unset] [(.int u)]))
      refine Go.st (fun _ k' => XS.bipush X0.here hx rfl (hb hby d1_28) k') ?_
      show Go p e below s _ _ _ (s₁.setTop (mkF m 30 #[.val (.int u), .val (.int (1 : Int32)), .val (.int ((((u.toUInt32 >>> ((2 : Int32) &&& 31).toUInt32).toInt32) &&& (255 : Int32)).toUInt32.toUInt16.toUInt32.toInt32)), .unset, .unset] [(.int (10 : Int32)), (.int u)]))
      refine Go.st (fun _ k' => XS.iushr X0.here hx rfl (hb hby d1_30) rfl k') ?_
      show Go p e below s _ _ _ (s₁.setTop (mkF m 31 #[.val (.int u), .val (.int (1 : Int32)), .val (.int ((((u.toUInt32 >>> ((2 : Int32) &&& 31).toUInt32).toInt32) &&& (255 : Int32)).toUInt32.toUInt16.toUInt32.toInt32)), .unset, .unset] [(.int ((u.toUInt32 >>> ((10 : Int32) &&& 31).toUInt32).toInt32))]))
      refine Go.st (fun _ k' => XS.sipush X0.here hx rfl (hb hby d1_31) k') ?_
      show Go p e below s _ _ _ (s₁.setTop (mkF m 34 #[.val (.int u), .val (.int (1 : Int32)), .val (.int ((((u.toUInt32 >>> ((2 : Int32) &&& 31).toUInt32).toInt32) &&& (255 : Int32)).toUInt32.toUInt16.toUInt32.toInt32)), .unset, .unset] [(.int (255 : Int32)), (.int ((u.toUInt32 >>> ((10 : Int32) &&& 31).toUInt32).toInt32))]))
      refine Go.st (fun _ k' => XS.iand X0.here hx rfl (hb hby d1_34) rfl k') ?_
      show Go p e below s _ _ _ (s₁.setTop (mkF m 35 #[.val (.int u), .val (.int (1 : Int32)), .val (.int ((((u.toUInt32 >>> ((2 : Int32) &&& 31).toUInt32).toInt32) &&& (255 : Int32)).toUInt32.toUInt16.toUInt32.toInt32)), .unset, .unset] [(.int (((u.toUInt32 >>> ((10 : Int32) &&& 31).toUInt32).toInt32) &&& (255 : Int32)))]))
      refine Go.st (fun _ k' => XS.i2c X0.here hx rfl (hb hby d1_35) rfl k') ?_
      show Go p e below s _ _ _ (s₁.setTop (mkF m 36 #[.val (.int u), .val (.int (1 : Int32)), .val (.int ((((u.toUInt32 >>> ((2 : Int32) &&& 31).toUInt32).toInt32) &&& (255 : Int32)).toUInt32.toUInt16.toUInt32.toInt32)), .unset, .unset] [(.int ((((u.toUInt32 >>> ((10 : Int32) &&& 31).toUInt32).toInt32) &&& (255 : Int32)).toUInt32.toUInt16.toUInt32.toInt32))]))
      refine Go.st (fun _ k' => XS.istoreN X0.here hx rfl (hb hby d1_36) rfl (l' := #[.val (.int u), .val (.int (1 : Int32)), .val (.int ((((u.toUInt32 >>> ((2 : Int32) &&& 31).toUInt32).toInt32) &&& (255 : Int32)).toUInt32.toUInt16.toUInt32.toInt32)), .val (.int ((((u.toUInt32 >>> ((10 : Int32) &&& 31).toUInt32).toInt32) &&& (255 : Int32)).toUInt32.toUInt16.toUInt32.toInt32)), .unset]) rfl k') ?_
      show Go p e below s _ _ _ (s₁.setTop (mkF m 37 #[.val (.int u), .val (.int (1 : Int32)), .val (.int ((((u.toUInt32 >>> ((2 : Int32) &&& 31).toUInt32).toInt32) &&& (255 : Int32)).toUInt32.toUInt16.toUInt32.toInt32)), .val (.int ((((u.toUInt32 >>> ((10 : Int32) &&& 31).toUInt32).toInt32) &&& (255 : Int32)).toUInt32.toUInt16.toUInt32.toInt32)), .unset] []))
      refine Go.st (fun _ k' => XS.iloadN X0.here hx rfl (hb hby d1_37) rfl k') ?_
      show Go p e below s _ _ _ (s₁.setTop (mkF m 38 #[.val (.int u), .val (.int (1 : Int32)), .val (.int ((((u.toUInt32 >>> ((2 : Int32) &&& 31).toUInt32).toInt32) &&& (255 : Int32)).toUInt32.toUInt16.toUInt32.toInt32)), .val (.int ((((u.toUInt32 >>> ((10 : Int32) &&& 31).toUInt32).toInt32) &&& (255 : Int32)).toUInt32.toUInt16.toUInt32.toInt32)), .unset] [(.int (1 : Int32))]))
      refine Go.st (fun _ k' => XS.ifYes X0.here hx rfl (pc0 := 38) (pc' := 45) rfl (hb hby d1_38) rfl (XT.i0_ne_t (by decide)) (by decide) (by decide) k') ?_
      show Go p e below s _ _ _ (s₁.setTop (mkF m 45 #[.val (.int u), .val (.int (1 : Int32)), .val (.int ((((u.toUInt32 >>> ((2 : Int32) &&& 31).toUInt32).toInt32) &&& (255 : Int32)).toUInt32.toUInt16.toUInt32.toInt32)), .val (.int ((((u.toUInt32 >>> ((10 : Int32) &&& 31).toUInt32).toInt32) &&& (255 : Int32)).toUInt32.toUInt16.toUInt32.toInt32)), .unset] []))
      refine Go.st (fun _ k' => XS.iloadN X0.here hx rfl (hb hby d1_45) rfl k') ?_
      show Go p e below s _ _ _ (s₁.setTop (mkF m 46 #[.val (.int u), .val (.int (1 : Int32)), .val (.int ((((u.toUInt32 >>> ((2 : Int32) &&& 31).toUInt32).toInt32) &&& (255 : Int32)).toUInt32.toUInt16.toUInt32.toInt32)), .val (.int ((((u.toUInt32 >>> ((10 : Int32) &&& 31).toUInt32).toInt32) &&& (255 : Int32)).toUInt32.toUInt16.toUInt32.toInt32)), .unset] [(.int (1 : Int32))]))
      refine Go.st (fun _ k' => XS.iconst X0.here hx rfl (hb hby d1_46) k') ?_
      show Go p e below s _ _ _ (s₁.setTop (mkF m 47 #[.val (.int u), .val (.int (1 : Int32)), .val (.int ((((u.toUInt32 >>> ((2 : Int32) &&& 31).toUInt32).toInt32) &&& (255 : Int32)).toUInt32.toUInt16.toUInt32.toInt32)), .val (.int ((((u.toUInt32 >>> ((10 : Int32) &&& 31).toUInt32).toInt32) &&& (255 : Int32)).toUInt32.toUInt16.toUInt32.toInt32)), .unset] [(.int (1 : Int32)), (.int (1 : Int32))]))
      refine Go.st (fun _ k' => XS.icmpNo X0.here hx rfl (hb hby d1_47) rfl (XT.ii_ne_f (by decide)) k') ?_
      show Go p e below s _ _ _ (s₁.setTop (mkF m 50 #[.val (.int u), .val (.int (1 : Int32)), .val (.int ((((u.toUInt32 >>> ((2 : Int32) &&& 31).toUInt32).toInt32) &&& (255 : Int32)).toUInt32.toUInt16.toUInt32.toInt32)), .val (.int ((((u.toUInt32 >>> ((10 : Int32) &&& 31).toUInt32).toInt32) &&& (255 : Int32)).toUInt32.toUInt16.toUInt32.toInt32)), .unset] []))
      refine Go.st (fun _ k' => XS.iconst X0.here hx rfl (hb hby d1_50) k') ?_
      show Go p e below s _ _ _ (s₁.setTop (mkF m 51 #[.val (.int u), .val (.int (1 : Int32)), .val (.int ((((u.toUInt32 >>> ((2 : Int32) &&& 31).toUInt32).toInt32) &&& (255 : Int32)).toUInt32.toUInt16.toUInt32.toInt32)), .val (.int ((((u.toUInt32 >>> ((10 : Int32) &&& 31).toUInt32).toInt32) &&& (255 : Int32)).toUInt32.toUInt16.toUInt32.toInt32)), .unset] [(.int (1 : Int32))]))
      obtain ⟨T7, h7, k7, X7, e7, E7, A7, st7⟩ := newP X0 hx hZ (wdx hw 4 rfl) e0 (g := (mkF m 51 #[.val (.int u), .val (.int (1 : Int32)), .val (.int ((((u.toUInt32 >>> ((2 : Int32) &&& 31).toUInt32).toInt32) &&& (255 : Int32)).toUInt32.toUInt16.toUInt32.toInt32)), .val (.int ((((u.toUInt32 >>> ((10 : Int32) &&& 31).toUInt32).toInt32) &&& (255 : Int32)).toUInt32.toUInt16.toUInt32.toInt32)), .unset] [(.int (1 : Int32))])) rfl (hb hby d1_51) rfl (by decide) (cap := 1) (by decide) (by decide) (by decide) (by decide)
      obtain ⟨b7, g7⟩ : ∃ z, z = h0.size := ⟨_, rfl⟩
      rw [← g7] at A7 st7
      refine Go.st st7 ?_
      have g_b7 : n0 ≤ b7 := Nat.le_trans (own_le O0) (Nat.le_of_eq g7.symm)
      have z_b7 : h0.size ≤ b7 := Nat.le_of_eq g7.symm
      have O7 : Old Z n0 h7 := O0.ext E7
      have K7 : Keep h0 h7 [] := (Keep.refl h0 []).ext E7
      have f8 : Arv Z h7 b7 k7 .char (1 : Int32) [(.int (0 : Int32))] (.int (0 : Int32)) := (Arv.new A7 (by decide)).pad (pad_rep [] (.int (0 : Int32)) 1)
      show Go p e below s _ _ _ (T7.setTop (mkF m 53 #[.val (.int u), .val (.int (1 : Int32)), .val (.int ((((u.toUInt32 >>> ((2 : Int32) &&& 31).toUInt32).toInt32) &&& (255 : Int32)).toUInt32.toUInt16.toUInt32.toInt32)), .val (.int ((((u.toUInt32 >>> ((10 : Int32) &&& 31).toUInt32).toInt32) &&& (255 : Int32)).toUInt32.toUInt16.toUInt32.toInt32)), .unset] [(.ref b7)]))
      refine Go.st (fun _ k' => XS.astore X7.here hx rfl (hb hby d1_53) rfl rfl (l' := #[.val (.int u), .val (.int (1 : Int32)), .val (.int ((((u.toUInt32 >>> ((2 : Int32) &&& 31).toUInt32).toInt32) &&& (255 : Int32)).toUInt32.toUInt16.toUInt32.toInt32)), .val (.int ((((u.toUInt32 >>> ((10 : Int32) &&& 31).toUInt32).toInt32) &&& (255 : Int32)).toUInt32.toUInt16.toUInt32.toInt32)), .val (.ref b7)]) rfl k') ?_
      show Go p e below s _ _ _ (T7.setTop (mkF m 55 #[.val (.int u), .val (.int (1 : Int32)), .val (.int ((((u.toUInt32 >>> ((2 : Int32) &&& 31).toUInt32).toInt32) &&& (255 : Int32)).toUInt32.toUInt16.toUInt32.toInt32)), .val (.int ((((u.toUInt32 >>> ((10 : Int32) &&& 31).toUInt32).toInt32) &&& (255 : Int32)).toUInt32.toUInt16.toUInt32.toInt32)), .val (.ref b7)] []))
      refine Go.st (fun _ k' => XS.aload X7.here hx rfl (hb hby d1_55) rfl rfl k') ?_
      show Go p e below s _ _ _ (T7.setTop (mkF m 57 #[.val (.int u), .val (.int (1 : Int32)), .val (.int ((((u.toUInt32 >>> ((2 : Int32) &&& 31).toUInt32).toInt32) &&& (255 : Int32)).toUInt32.toUInt16.toUInt32.toInt32)), .val (.int ((((u.toUInt32 >>> ((10 : Int32) &&& 31).toUInt32).toInt32) &&& (255 : Int32)).toUInt32.toUInt16.toUInt32.toInt32)), .val (.ref b7)] [(.ref b7)]))
      refine Go.st (fun _ k' => XS.iconst X7.here hx rfl (hb hby d1_57) k') ?_
      show Go p e below s _ _ _ (T7.setTop (mkF m 58 #[.val (.int u), .val (.int (1 : Int32)), .val (.int ((((u.toUInt32 >>> ((2 : Int32) &&& 31).toUInt32).toInt32) &&& (255 : Int32)).toUInt32.toUInt16.toUInt32.toInt32)), .val (.int ((((u.toUInt32 >>> ((10 : Int32) &&& 31).toUInt32).toInt32) &&& (255 : Int32)).toUInt32.toUInt16.toUInt32.toInt32)), .val (.ref b7)] [(.int (0 : Int32)), (.ref b7)]))
      refine Go.st (fun _ k' => XS.iloadN X7.here hx rfl (hb hby d1_58) rfl k') ?_
      show Go p e below s _ _ _ (T7.setTop (mkF m 59 #[.val (.int u), .val (.int (1 : Int32)), .val (.int ((((u.toUInt32 >>> ((2 : Int32) &&& 31).toUInt32).toInt32) &&& (255 : Int32)).toUInt32.toUInt16.toUInt32.toInt32)), .val (.int ((((u.toUInt32 >>> ((10 : Int32) &&& 31).toUInt32).toInt32) &&& (255 : Int32)).toUInt32.toUInt16.toUInt32.toInt32)), .val (.ref b7)] [(.int ((((u.toUInt32 >>> ((2 : Int32) &&& 31).toUInt32).toInt32) &&& (255 : Int32)).toUInt32.toUInt16.toUInt32.toInt32)), (.int (0 : Int32)), (.ref b7)]))
      obtain ⟨cl9, Ar9, qc9, Sz9, Nn9, Ha9, Gf9⟩ := id f8
      obtain ⟨T9, h9, X9, e9, W9, st9⟩ := stC X7 hx hZ e7 Ar9 (j := (0 : Int32)) (inb_of Sz9 ⟨by decide, by decide⟩) (g := (mkF m 59 #[.val (.int u), .val (.int (1 : Int32)), .val (.int ((((u.toUInt32 >>> ((2 : Int32) &&& 31).toUInt32).toInt32) &&& (255 : Int32)).toUInt32.toUInt16.toUInt32.toInt32)), .val (.int ((((u.toUInt32 >>> ((10 : Int32) &&& 31).toUInt32).toInt32) &&& (255 : Int32)).toUInt32.toUInt16.toUInt32.toInt32)), .val (.ref b7)] [(.int ((((u.toUInt32 >>> ((2 : Int32) &&& 31).toUInt32).toInt32) &&& (255 : Int32)).toUInt32.toUInt16.toUInt32.toInt32)), (.int (0 : Int32)), (.ref b7)])) rfl rfl (hb hby d1_59)
      refine Go.st st9 ?_
      have O9 : Old Z n0 h9 := O7.wr W9 g_b7
      have N9 := Fr.snoc X9 N0 g_b7
      have K9 : Keep h0 h9 [] := K7.wr W9 (Or.inr z_b7)
      have f10 : Arv Z h9 b7 k7 .char (1 : Int32) [(.int (nar .char ((((u.toUInt32 >>> ((2 : Int32) &&& 31).toUInt32).toInt32) &&& (255 : Int32)).toUInt32.toUInt16.toUInt32.toInt32)))] (.int (0 : Int32)) := Arv.set Ar9 qc9 Sz9 Nn9 Ha9 Gf9 (fits_nar_char _) W9 0 rfl (Nat.le_of_ble_eq_true rfl)
      show Go p e below s _ _ _ (T9.setTop (mkF m 60 #[.val (.int u), .val (.int (1 : Int32)), .val (.int ((((u.toUInt32 >>> ((2 : Int32) &&& 31).toUInt32).toInt32) &&& (255 : Int32)).toUInt32.toUInt16.toUInt32.toInt32)), .val (.int ((((u.toUInt32 >>> ((10 : Int32) &&& 31).toUInt32).toInt32) &&& (255 : Int32)).toUInt32.toUInt16.toUInt32.toInt32)), .val (.ref b7)] []))
      refine Go.st (fun _ k' => XS.aload X9.here hx rfl (hb hby d1_60) rfl rfl k') ?_
      show Go p e below s _ _ _ (T9.setTop (mkF m 62 #[.val (.int u), .val (.int (1 : Int32)), .val (.int ((((u.toUInt32 >>> ((2 : Int32) &&& 31).toUInt32).toInt32) &&& (255 : Int32)).toUInt32.toUInt16.toUInt32.toInt32)), .val (.int ((((u.toUInt32 >>> ((10 : Int32) &&& 31).toUInt32).toInt32) &&& (255 : Int32)).toUInt32.toUInt16.toUInt32.toInt32)), .val (.ref b7)] [(.ref b7)]))
      refine Go.ret X9 hx hlk (t := (.array .char)) Bd.returns rfl (Or.inr (Or.inr (Or.inr (Or.inr ⟨rfl, rfl, rfl⟩)))) (hb hby d1_62) (by decide) (by decide) e9 ?_
      exact ⟨b7, k7, rfl, N9, K9, (own_vc (lb := [(nar .char ((((u.toUInt32 >>> ((2 : Int32) &&& 31).toUInt32).toInt32) &&& (255 : Int32)).toUInt32.toUInt16.toUInt32.toInt32))]) (by simp +decide only [fch, fl, fx0, fx1, hl, hc6, ↓reduceIte]) f10), z_b7⟩
    · refine Go.st (fun _ k' => XS.ifNo X0.here hx rfl (hb hby d1_21) rfl (XT.i0_eq_f hc6) k') ?_
      show Go p e below s _ _ _ (s₁.setTop (mkF m 24 #[.val (.int u), .val (.int (1 : Int32)), .val (.int ((((u.toUInt32 >>> ((2 : Int32) &&& 31).toUInt32).toInt32) &&& (255 : Int32)).toUInt32.toUInt16.toUInt32.toInt32)), .unset, .unset] []))
      refine Go.st (fun _ k' => XS.bipush X0.here hx rfl (hb hby d1_24) k') ?_
      show Go p e below s _ _ _ (s₁.setTop (mkF m 26 #[.val (.int u), .val (.int (1 : Int32)), .val (.int ((((u.toUInt32 >>> ((2 : Int32) &&& 31).toUInt32).toInt32) &&& (255 : Int32)).toUInt32.toUInt16.toUInt32.toInt32)), .unset, .unset] [(.int (37 : Int32))]))
      refine Go.st (fun _ k' => XS.istoreN X0.here hx rfl (hb hby d1_26) rfl (l' := #[.val (.int u), .val (.int (1 : Int32)), .val (.int (37 : Int32)), .unset, .unset]) rfl k') ?_
      show Go p e below s _ _ _ (s₁.setTop (mkF m 27 #[.val (.int u), .val (.int (1 : Int32)), .val (.int (37 : Int32)), .unset, .unset] []))
      refine Go.st (fun _ k' => XS.iloadN X0.here hx rfl (hb hby d1_27) rfl k') ?_
      show Go p e below s _ _ _ (s₁.setTop (mkF m 28 #[.val (.int u), .val (.int (1 : Int32)), .val (.int (37 : Int32)), .unset, .unset] [(.int u)]))
      refine Go.st (fun _ k' => XS.bipush X0.here hx rfl (hb hby d1_28) k') ?_
      show Go p e below s _ _ _ (s₁.setTop (mkF m 30 #[.val (.int u), .val (.int (1 : Int32)), .val (.int (37 : Int32)), .unset, .unset] [(.int (10 : Int32)), (.int u)]))
      refine Go.st (fun _ k' => XS.iushr X0.here hx rfl (hb hby d1_30) rfl k') ?_
      show Go p e below s _ _ _ (s₁.setTop (mkF m 31 #[.val (.int u), .val (.int (1 : Int32)), .val (.int (37 : Int32)), .unset, .unset] [(.int ((u.toUInt32 >>> ((10 : Int32) &&& 31).toUInt32).toInt32))]))
      refine Go.st (fun _ k' => XS.sipush X0.here hx rfl (hb hby d1_31) k') ?_
      show Go p e below s _ _ _ (s₁.setTop (mkF m 34 #[.val (.int u), .val (.int (1 : Int32)), .val (.int (37 : Int32)), .unset, .unset] [(.int (255 : Int32)), (.int ((u.toUInt32 >>> ((10 : Int32) &&& 31).toUInt32).toInt32))]))
      refine Go.st (fun _ k' => XS.iand X0.here hx rfl (hb hby d1_34) rfl k') ?_
      show Go p e below s _ _ _ (s₁.setTop (mkF m 35 #[.val (.int u), .val (.int (1 : Int32)), .val (.int (37 : Int32)), .unset, .unset] [(.int (((u.toUInt32 >>> ((10 : Int32) &&& 31).toUInt32).toInt32) &&& (255 : Int32)))]))
      refine Go.st (fun _ k' => XS.i2c X0.here hx rfl (hb hby d1_35) rfl k') ?_
      show Go p e below s _ _ _ (s₁.setTop (mkF m 36 #[.val (.int u), .val (.int (1 : Int32)), .val (.int (37 : Int32)), .unset, .unset] [(.int ((((u.toUInt32 >>> ((10 : Int32) &&& 31).toUInt32).toInt32) &&& (255 : Int32)).toUInt32.toUInt16.toUInt32.toInt32))]))
      refine Go.st (fun _ k' => XS.istoreN X0.here hx rfl (hb hby d1_36) rfl (l' := #[.val (.int u), .val (.int (1 : Int32)), .val (.int (37 : Int32)), .val (.int ((((u.toUInt32 >>> ((10 : Int32) &&& 31).toUInt32).toInt32) &&& (255 : Int32)).toUInt32.toUInt16.toUInt32.toInt32)), .unset]) rfl k') ?_
      show Go p e below s _ _ _ (s₁.setTop (mkF m 37 #[.val (.int u), .val (.int (1 : Int32)), .val (.int (37 : Int32)), .val (.int ((((u.toUInt32 >>> ((10 : Int32) &&& 31).toUInt32).toInt32) &&& (255 : Int32)).toUInt32.toUInt16.toUInt32.toInt32)), .unset] []))
      refine Go.st (fun _ k' => XS.iloadN X0.here hx rfl (hb hby d1_37) rfl k') ?_
      show Go p e below s _ _ _ (s₁.setTop (mkF m 38 #[.val (.int u), .val (.int (1 : Int32)), .val (.int (37 : Int32)), .val (.int ((((u.toUInt32 >>> ((10 : Int32) &&& 31).toUInt32).toInt32) &&& (255 : Int32)).toUInt32.toUInt16.toUInt32.toInt32)), .unset] [(.int (1 : Int32))]))
      refine Go.st (fun _ k' => XS.ifYes X0.here hx rfl (pc0 := 38) (pc' := 45) rfl (hb hby d1_38) rfl (XT.i0_ne_t (by decide)) (by decide) (by decide) k') ?_
      show Go p e below s _ _ _ (s₁.setTop (mkF m 45 #[.val (.int u), .val (.int (1 : Int32)), .val (.int (37 : Int32)), .val (.int ((((u.toUInt32 >>> ((10 : Int32) &&& 31).toUInt32).toInt32) &&& (255 : Int32)).toUInt32.toUInt16.toUInt32.toInt32)), .unset] []))
      refine Go.st (fun _ k' => XS.iloadN X0.here hx rfl (hb hby d1_45) rfl k') ?_
      show Go p e below s _ _ _ (s₁.setTop (mkF m 46 #[.val (.int u), .val (.int (1 : Int32)), .val (.int (37 : Int32)), .val (.int ((((u.toUInt32 >>> ((10 : Int32) &&& 31).toUInt32).toInt32) &&& (255 : Int32)).toUInt32.toUInt16.toUInt32.toInt32)), .unset] [(.int (1 : Int32))]))
      refine Go.st (fun _ k' => XS.iconst X0.here hx rfl (hb hby d1_46) k') ?_
      show Go p e below s _ _ _ (s₁.setTop (mkF m 47 #[.val (.int u), .val (.int (1 : Int32)), .val (.int (37 : Int32)), .val (.int ((((u.toUInt32 >>> ((10 : Int32) &&& 31).toUInt32).toInt32) &&& (255 : Int32)).toUInt32.toUInt16.toUInt32.toInt32)), .unset] [(.int (1 : Int32)), (.int (1 : Int32))]))
      refine Go.st (fun _ k' => XS.icmpNo X0.here hx rfl (hb hby d1_47) rfl (XT.ii_ne_f (by decide)) k') ?_
      show Go p e below s _ _ _ (s₁.setTop (mkF m 50 #[.val (.int u), .val (.int (1 : Int32)), .val (.int (37 : Int32)), .val (.int ((((u.toUInt32 >>> ((10 : Int32) &&& 31).toUInt32).toInt32) &&& (255 : Int32)).toUInt32.toUInt16.toUInt32.toInt32)), .unset] []))
      refine Go.st (fun _ k' => XS.iconst X0.here hx rfl (hb hby d1_50) k') ?_
      show Go p e below s _ _ _ (s₁.setTop (mkF m 51 #[.val (.int u), .val (.int (1 : Int32)), .val (.int (37 : Int32)), .val (.int ((((u.toUInt32 >>> ((10 : Int32) &&& 31).toUInt32).toInt32) &&& (255 : Int32)).toUInt32.toUInt16.toUInt32.toInt32)), .unset] [(.int (1 : Int32))]))
      obtain ⟨T11, h11, k11, X11, e11, E11, A11, st11⟩ := newP X0 hx hZ (wdx hw 4 rfl) e0 (g := (mkF m 51 #[.val (.int u), .val (.int (1 : Int32)), .val (.int (37 : Int32)), .val (.int ((((u.toUInt32 >>> ((10 : Int32) &&& 31).toUInt32).toInt32) &&& (255 : Int32)).toUInt32.toUInt16.toUInt32.toInt32)), .unset] [(.int (1 : Int32))])) rfl (hb hby d1_51) rfl (by decide) (cap := 1) (by decide) (by decide) (by decide) (by decide)
      obtain ⟨b11, g11⟩ : ∃ z, z = h0.size := ⟨_, rfl⟩
      rw [← g11] at A11 st11
      refine Go.st st11 ?_
      have g_b11 : n0 ≤ b11 := Nat.le_trans (own_le O0) (Nat.le_of_eq g11.symm)
      have z_b11 : h0.size ≤ b11 := Nat.le_of_eq g11.symm
      have O11 : Old Z n0 h11 := O0.ext E11
      have K11 : Keep h0 h11 [] := (Keep.refl h0 []).ext E11
      have f12 : Arv Z h11 b11 k11 .char (1 : Int32) [(.int (0 : Int32))] (.int (0 : Int32)) := (Arv.new A11 (by decide)).pad (pad_rep [] (.int (0 : Int32)) 1)
      show Go p e below s _ _ _ (T11.setTop (mkF m 53 #[.val (.int u), .val (.int (1 : Int32)), .val (.int (37 : Int32)), .val (.int ((((u.toUInt32 >>> ((10 : Int32) &&& 31).toUInt32).toInt32) &&& (255 : Int32)).toUInt32.toUInt16.toUInt32.toInt32)), .unset] [(.ref b11)]))
      refine Go.st (fun _ k' => XS.astore X11.here hx rfl (hb hby d1_53) rfl rfl (l' := #[.val (.int u), .val (.int (1 : Int32)), .val (.int (37 : Int32)), .val (.int ((((u.toUInt32 >>> ((10 : Int32) &&& 31).toUInt32).toInt32) &&& (255 : Int32)).toUInt32.toUInt16.toUInt32.toInt32)), .val (.ref b11)]) rfl k') ?_
      show Go p e below s _ _ _ (T11.setTop (mkF m 55 #[.val (.int u), .val (.int (1 : Int32)), .val (.int (37 : Int32)), .val (.int ((((u.toUInt32 >>> ((10 : Int32) &&& 31).toUInt32).toInt32) &&& (255 : Int32)).toUInt32.toUInt16.toUInt32.toInt32)), .val (.ref b11)] []))
      refine Go.st (fun _ k' => XS.aload X11.here hx rfl (hb hby d1_55) rfl rfl k') ?_
      show Go p e below s _ _ _ (T11.setTop (mkF m 57 #[.val (.int u), .val (.int (1 : Int32)), .val (.int (37 : Int32)), .val (.int ((((u.toUInt32 >>> ((10 : Int32) &&& 31).toUInt32).toInt32) &&& (255 : Int32)).toUInt32.toUInt16.toUInt32.toInt32)), .val (.ref b11)] [(.ref b11)]))
      refine Go.st (fun _ k' => XS.iconst X11.here hx rfl (hb hby d1_57) k') ?_
      show Go p e below s _ _ _ (T11.setTop (mkF m 58 #[.val (.int u), .val (.int (1 : Int32)), .val (.int (37 : Int32)), .val (.int ((((u.toUInt32 >>> ((10 : Int32) &&& 31).toUInt32).toInt32) &&& (255 : Int32)).toUInt32.toUInt16.toUInt32.toInt32)), .val (.ref b11)] [(.int (0 : Int32)), (.ref b11)]))
      refine Go.st (fun _ k' => XS.iloadN X11.here hx rfl (hb hby d1_58) rfl k') ?_
      show Go p e below s _ _ _ (T11.setTop (mkF m 59 #[.val (.int u), .val (.int (1 : Int32)), .val (.int (37 : Int32)), .val (.int ((((u.toUInt32 >>> ((10 : Int32) &&& 31).toUInt32).toInt32) &&& (255 : Int32)).toUInt32.toUInt16.toUInt32.toInt32)), .val (.ref b11)] [(.int (37 : Int32)), (.int (0 : Int32)), (.ref b11)]))
      obtain ⟨cl13, Ar13, qc13, Sz13, Nn13, Ha13, Gf13⟩ := id f12
      obtain ⟨T13, h13, X13, e13, W13, st13⟩ := stC X11 hx hZ e11 Ar13 (j := (0 : Int32)) (inb_of Sz13 ⟨by decide, by decide⟩) (g := (mkF m 59 #[.val (.int u), .val (.int (1 : Int32)), .val (.int (37 : Int32)), .val (.int ((((u.toUInt32 >>> ((10 : Int32) &&& 31).toUInt32).toInt32) &&& (255 : Int32)).toUInt32.toUInt16.toUInt32.toInt32)), .val (.ref b11)] [(.int (37 : Int32)), (.int (0 : Int32)), (.ref b11)])) rfl rfl (hb hby d1_59)
      refine Go.st st13 ?_
      have O13 : Old Z n0 h13 := O11.wr W13 g_b11
      have N13 := Fr.snoc X13 N0 g_b11
      have K13 : Keep h0 h13 [] := K11.wr W13 (Or.inr z_b11)
      have f14 : Arv Z h13 b11 k11 .char (1 : Int32) [(.int (nar .char (37 : Int32)))] (.int (0 : Int32)) := Arv.set Ar13 qc13 Sz13 Nn13 Ha13 Gf13 (fits_nar_char _) W13 0 rfl (Nat.le_of_ble_eq_true rfl)
      show Go p e below s _ _ _ (T13.setTop (mkF m 60 #[.val (.int u), .val (.int (1 : Int32)), .val (.int (37 : Int32)), .val (.int ((((u.toUInt32 >>> ((10 : Int32) &&& 31).toUInt32).toInt32) &&& (255 : Int32)).toUInt32.toUInt16.toUInt32.toInt32)), .val (.ref b11)] []))
      refine Go.st (fun _ k' => XS.aload X13.here hx rfl (hb hby d1_60) rfl rfl k') ?_
      show Go p e below s _ _ _ (T13.setTop (mkF m 62 #[.val (.int u), .val (.int (1 : Int32)), .val (.int (37 : Int32)), .val (.int ((((u.toUInt32 >>> ((10 : Int32) &&& 31).toUInt32).toInt32) &&& (255 : Int32)).toUInt32.toUInt16.toUInt32.toInt32)), .val (.ref b11)] [(.ref b11)]))
      refine Go.ret X13 hx hlk (t := (.array .char)) Bd.returns rfl (Or.inr (Or.inr (Or.inr (Or.inr ⟨rfl, rfl, rfl⟩)))) (hb hby d1_62) (by decide) (by decide) e13 ?_
      exact ⟨b11, k11, rfl, N13, K13, (own_vc (lb := [(nar .char (37 : Int32))]) (by simp +decide only [fch, fl, fx0, fx1, hl, hc6, ↓reduceIte]) f14), z_b11⟩
  · rw [hl]
    show Go p e below s _ _ _ (s₁.setTop (mkF m 6 #[.val (.int u), .val (.int (2 : Int32)), .unset, .unset, .unset] []))
    refine Go.st (fun _ k' => XS.iloadN X0.here hx rfl (hb hby d1_6) rfl k') ?_
    show Go p e below s _ _ _ (s₁.setTop (mkF m 7 #[.val (.int u), .val (.int (2 : Int32)), .unset, .unset, .unset] [(.int u)]))
    refine Go.st (fun _ k' => XS.iconst X0.here hx rfl (hb hby d1_7) k') ?_
    show Go p e below s _ _ _ (s₁.setTop (mkF m 8 #[.val (.int u), .val (.int (2 : Int32)), .unset, .unset, .unset] [(.int (2 : Int32)), (.int u)]))
    refine Go.st (fun _ k' => XS.iushr X0.here hx rfl (hb hby d1_8) rfl k') ?_
    show Go p e below s _ _ _ (s₁.setTop (mkF m 9 #[.val (.int u), .val (.int (2 : Int32)), .unset, .unset, .unset] [(.int ((u.toUInt32 >>> ((2 : Int32) &&& 31).toUInt32).toInt32))]))
    refine Go.st (fun _ k' => XS.sipush X0.here hx rfl (hb hby d1_9) k') ?_
    show Go p e below s _ _ _ (s₁.setTop (mkF m 12 #[.val (.int u), .val (.int (2 : Int32)), .unset, .unset, .unset] [(.int (255 : Int32)), (.int ((u.toUInt32 >>> ((2 : Int32) &&& 31).toUInt32).toInt32))]))
    refine Go.st (fun _ k' => XS.iand X0.here hx rfl (hb hby d1_12) rfl k') ?_
    show Go p e below s _ _ _ (s₁.setTop (mkF m 13 #[.val (.int u), .val (.int (2 : Int32)), .unset, .unset, .unset] [(.int (((u.toUInt32 >>> ((2 : Int32) &&& 31).toUInt32).toInt32) &&& (255 : Int32)))]))
    refine Go.st (fun _ k' => XS.i2c X0.here hx rfl (hb hby d1_13) rfl k') ?_
    show Go p e below s _ _ _ (s₁.setTop (mkF m 14 #[.val (.int u), .val (.int (2 : Int32)), .unset, .unset, .unset] [(.int ((((u.toUInt32 >>> ((2 : Int32) &&& 31).toUInt32).toInt32) &&& (255 : Int32)).toUInt32.toUInt16.toUInt32.toInt32))]))
    refine Go.st (fun _ k' => XS.istoreN X0.here hx rfl (hb hby d1_14) rfl (l' := #[.val (.int u), .val (.int (2 : Int32)), .val (.int ((((u.toUInt32 >>> ((2 : Int32) &&& 31).toUInt32).toInt32) &&& (255 : Int32)).toUInt32.toUInt16.toUInt32.toInt32)), .unset, .unset]) rfl k') ?_
    show Go p e below s _ _ _ (s₁.setTop (mkF m 15 #[.val (.int u), .val (.int (2 : Int32)), .val (.int ((((u.toUInt32 >>> ((2 : Int32) &&& 31).toUInt32).toInt32) &&& (255 : Int32)).toUInt32.toUInt16.toUInt32.toInt32)), .unset, .unset] []))
    refine Go.st (fun _ k' => XS.iloadN X0.here hx rfl (hb hby d1_15) rfl k') ?_
    show Go p e below s _ _ _ (s₁.setTop (mkF m 16 #[.val (.int u), .val (.int (2 : Int32)), .val (.int ((((u.toUInt32 >>> ((2 : Int32) &&& 31).toUInt32).toInt32) &&& (255 : Int32)).toUInt32.toUInt16.toUInt32.toInt32)), .unset, .unset] [(.int u)]))
    refine Go.st (fun _ k' => XS.bipush X0.here hx rfl (hb hby d1_16) k') ?_
    show Go p e below s _ _ _ (s₁.setTop (mkF m 18 #[.val (.int u), .val (.int (2 : Int32)), .val (.int ((((u.toUInt32 >>> ((2 : Int32) &&& 31).toUInt32).toInt32) &&& (255 : Int32)).toUInt32.toUInt16.toUInt32.toInt32)), .unset, .unset] [(.int (18 : Int32)), (.int u)]))
    refine Go.st (fun _ k' => XS.iushr X0.here hx rfl (hb hby d1_18) rfl k') ?_
    show Go p e below s _ _ _ (s₁.setTop (mkF m 19 #[.val (.int u), .val (.int (2 : Int32)), .val (.int ((((u.toUInt32 >>> ((2 : Int32) &&& 31).toUInt32).toInt32) &&& (255 : Int32)).toUInt32.toUInt16.toUInt32.toInt32)), .unset, .unset] [(.int ((u.toUInt32 >>> ((18 : Int32) &&& 31).toUInt32).toInt32))]))
    refine Go.st (fun _ k' => XS.iconst X0.here hx rfl (hb hby d1_19) k') ?_
    show Go p e below s _ _ _ (s₁.setTop (mkF m 20 #[.val (.int u), .val (.int (2 : Int32)), .val (.int ((((u.toUInt32 >>> ((2 : Int32) &&& 31).toUInt32).toInt32) &&& (255 : Int32)).toUInt32.toUInt16.toUInt32.toInt32)), .unset, .unset] [(.int (1 : Int32)), (.int ((u.toUInt32 >>> ((18 : Int32) &&& 31).toUInt32).toInt32))]))
    refine Go.st (fun _ k' => XS.iand X0.here hx rfl (hb hby d1_20) rfl k') ?_
    show Go p e below s _ _ _ (s₁.setTop (mkF m 21 #[.val (.int u), .val (.int (2 : Int32)), .val (.int ((((u.toUInt32 >>> ((2 : Int32) &&& 31).toUInt32).toInt32) &&& (255 : Int32)).toUInt32.toUInt16.toUInt32.toInt32)), .unset, .unset] [(.int (((u.toUInt32 >>> ((18 : Int32) &&& 31).toUInt32).toInt32) &&& (1 : Int32)))]))
    by_cases hc15 : (((u.toUInt32 >>> ((18 : Int32) &&& 31).toUInt32).toInt32) &&& (1 : Int32)) = (0 : Int32)
    · refine Go.st (fun _ k' => XS.ifYes X0.here hx rfl (pc0 := 21) (pc' := 27) rfl (hb hby d1_21) rfl (XT.i0_eq_t hc15) (by decide) (by decide) k') ?_
      show Go p e below s _ _ _ (s₁.setTop (mkF m 27 #[.val (.int u), .val (.int (2 : Int32)), .val (.int ((((u.toUInt32 >>> ((2 : Int32) &&& 31).toUInt32).toInt32) &&& (255 : Int32)).toUInt32.toUInt16.toUInt32.toInt32)), .unset, .unset] []))
      refine Go.st (fun _ k' => XS.iloadN X0.here hx rfl (hb hby d1_27) rfl k') ?_
      show Go p e below s _ _ _ (s₁.setTop (mkF m 28 #[.val (.int u), .val (.int (2 : Int32)), .val (.int ((((u.toUInt32 >>> ((2 : Int32) &&& 31).toUInt32).toInt32) &&& (255 : Int32)).toUInt32.toUInt16.toUInt32.toInt32)), .unset, .unset] [(.int u)]))
      refine Go.st (fun _ k' => XS.bipush X0.here hx rfl (hb hby d1_28) k') ?_
      show Go p e below s _ _ _ (s₁.setTop (mkF m 30 #[.val (.int u), .val (.int (2 : Int32)), .val (.int ((((u.toUInt32 >>> ((2 : Int32) &&& 31).toUInt32).toInt32) &&& (255 : Int32)).toUInt32.toUInt16.toUInt32.toInt32)), .unset, .unset] [(.int (10 : Int32)), (.int u)]))
      refine Go.st (fun _ k' => XS.iushr X0.here hx rfl (hb hby d1_30) rfl k') ?_
      show Go p e below s _ _ _ (s₁.setTop (mkF m 31 #[.val (.int u), .val (.int (2 : Int32)), .val (.int ((((u.toUInt32 >>> ((2 : Int32) &&& 31).toUInt32).toInt32) &&& (255 : Int32)).toUInt32.toUInt16.toUInt32.toInt32)), .unset, .unset] [(.int ((u.toUInt32 >>> ((10 : Int32) &&& 31).toUInt32).toInt32))]))
      refine Go.st (fun _ k' => XS.sipush X0.here hx rfl (hb hby d1_31) k') ?_
      show Go p e below s _ _ _ (s₁.setTop (mkF m 34 #[.val (.int u), .val (.int (2 : Int32)), .val (.int ((((u.toUInt32 >>> ((2 : Int32) &&& 31).toUInt32).toInt32) &&& (255 : Int32)).toUInt32.toUInt16.toUInt32.toInt32)), .unset, .unset] [(.int (255 : Int32)), (.int ((u.toUInt32 >>> ((10 : Int32) &&& 31).toUInt32).toInt32))]))
      refine Go.st (fun _ k' => XS.iand X0.here hx rfl (hb hby d1_34) rfl k') ?_
      show Go p e below s _ _ _ (s₁.setTop (mkF m 35 #[.val (.int u), .val (.int (2 : Int32)), .val (.int ((((u.toUInt32 >>> ((2 : Int32) &&& 31).toUInt32).toInt32) &&& (255 : Int32)).toUInt32.toUInt16.toUInt32.toInt32)), .unset, .unset] [(.int (((u.toUInt32 >>> ((10 : Int32) &&& 31).toUInt32).toInt32) &&& (255 : Int32)))]))
      refine Go.st (fun _ k' => XS.i2c X0.here hx rfl (hb hby d1_35) rfl k') ?_
      show Go p e below s _ _ _ (s₁.setTop (mkF m 36 #[.val (.int u), .val (.int (2 : Int32)), .val (.int ((((u.toUInt32 >>> ((2 : Int32) &&& 31).toUInt32).toInt32) &&& (255 : Int32)).toUInt32.toUInt16.toUInt32.toInt32)), .unset, .unset] [(.int ((((u.toUInt32 >>> ((10 : Int32) &&& 31).toUInt32).toInt32) &&& (255 : Int32)).toUInt32.toUInt16.toUInt32.toInt32))]))
      refine Go.st (fun _ k' => XS.istoreN X0.here hx rfl (hb hby d1_36) rfl (l' := #[.val (.int u), .val (.int (2 : Int32)), .val (.int ((((u.toUInt32 >>> ((2 : Int32) &&& 31).toUInt32).toInt32) &&& (255 : Int32)).toUInt32.toUInt16.toUInt32.toInt32)), .val (.int ((((u.toUInt32 >>> ((10 : Int32) &&& 31).toUInt32).toInt32) &&& (255 : Int32)).toUInt32.toUInt16.toUInt32.toInt32)), .unset]) rfl k') ?_
      show Go p e below s _ _ _ (s₁.setTop (mkF m 37 #[.val (.int u), .val (.int (2 : Int32)), .val (.int ((((u.toUInt32 >>> ((2 : Int32) &&& 31).toUInt32).toInt32) &&& (255 : Int32)).toUInt32.toUInt16.toUInt32.toInt32)), .val (.int ((((u.toUInt32 >>> ((10 : Int32) &&& 31).toUInt32).toInt32) &&& (255 : Int32)).toUInt32.toUInt16.toUInt32.toInt32)), .unset] []))
      refine Go.st (fun _ k' => XS.iloadN X0.here hx rfl (hb hby d1_37) rfl k') ?_
      show Go p e below s _ _ _ (s₁.setTop (mkF m 38 #[.val (.int u), .val (.int (2 : Int32)), .val (.int ((((u.toUInt32 >>> ((2 : Int32) &&& 31).toUInt32).toInt32) &&& (255 : Int32)).toUInt32.toUInt16.toUInt32.toInt32)), .val (.int ((((u.toUInt32 >>> ((10 : Int32) &&& 31).toUInt32).toInt32) &&& (255 : Int32)).toUInt32.toUInt16.toUInt32.toInt32)), .unset] [(.int (2 : Int32))]))
      refine Go.st (fun _ k' => XS.ifYes X0.here hx rfl (pc0 := 38) (pc' := 45) rfl (hb hby d1_38) rfl (XT.i0_ne_t (by decide)) (by decide) (by decide) k') ?_
      show Go p e below s _ _ _ (s₁.setTop (mkF m 45 #[.val (.int u), .val (.int (2 : Int32)), .val (.int ((((u.toUInt32 >>> ((2 : Int32) &&& 31).toUInt32).toInt32) &&& (255 : Int32)).toUInt32.toUInt16.toUInt32.toInt32)), .val (.int ((((u.toUInt32 >>> ((10 : Int32) &&& 31).toUInt32).toInt32) &&& (255 : Int32)).toUInt32.toUInt16.toUInt32.toInt32)), .unset] []))
      refine Go.st (fun _ k' => XS.iloadN X0.here hx rfl (hb hby d1_45) rfl k') ?_
      show Go p e below s _ _ _ (s₁.setTop (mkF m 46 #[.val (.int u), .val (.int (2 : Int32)), .val (.int ((((u.toUInt32 >>> ((2 : Int32) &&& 31).toUInt32).toInt32) &&& (255 : Int32)).toUInt32.toUInt16.toUInt32.toInt32)), .val (.int ((((u.toUInt32 >>> ((10 : Int32) &&& 31).toUInt32).toInt32) &&& (255 : Int32)).toUInt32.toUInt16.toUInt32.toInt32)), .unset] [(.int (2 : Int32))]))
      refine Go.st (fun _ k' => XS.iconst X0.here hx rfl (hb hby d1_46) k') ?_
      show Go p e below s _ _ _ (s₁.setTop (mkF m 47 #[.val (.int u), .val (.int (2 : Int32)), .val (.int ((((u.toUInt32 >>> ((2 : Int32) &&& 31).toUInt32).toInt32) &&& (255 : Int32)).toUInt32.toUInt16.toUInt32.toInt32)), .val (.int ((((u.toUInt32 >>> ((10 : Int32) &&& 31).toUInt32).toInt32) &&& (255 : Int32)).toUInt32.toUInt16.toUInt32.toInt32)), .unset] [(.int (1 : Int32)), (.int (2 : Int32))]))
      refine Go.st (fun _ k' => XS.icmpYes X0.here hx rfl (pc0 := 47) (pc' := 63) rfl (hb hby d1_47) rfl (XT.ii_ne_t (by decide)) (by decide) (by decide) k') ?_
      show Go p e below s _ _ _ (s₁.setTop (mkF m 63 #[.val (.int u), .val (.int (2 : Int32)), .val (.int ((((u.toUInt32 >>> ((2 : Int32) &&& 31).toUInt32).toInt32) &&& (255 : Int32)).toUInt32.toUInt16.toUInt32.toInt32)), .val (.int ((((u.toUInt32 >>> ((10 : Int32) &&& 31).toUInt32).toInt32) &&& (255 : Int32)).toUInt32.toUInt16.toUInt32.toInt32)), .unset] []))
      refine Go.st (fun _ k' => XS.iconst X0.here hx rfl (hb hby d1_63) k') ?_
      show Go p e below s _ _ _ (s₁.setTop (mkF m 64 #[.val (.int u), .val (.int (2 : Int32)), .val (.int ((((u.toUInt32 >>> ((2 : Int32) &&& 31).toUInt32).toInt32) &&& (255 : Int32)).toUInt32.toUInt16.toUInt32.toInt32)), .val (.int ((((u.toUInt32 >>> ((10 : Int32) &&& 31).toUInt32).toInt32) &&& (255 : Int32)).toUInt32.toUInt16.toUInt32.toInt32)), .unset] [(.int (2 : Int32))]))
      obtain ⟨T16, h16, k16, X16, e16, E16, A16, st16⟩ := newP X0 hx hZ (wdx hw 4 rfl) e0 (g := (mkF m 64 #[.val (.int u), .val (.int (2 : Int32)), .val (.int ((((u.toUInt32 >>> ((2 : Int32) &&& 31).toUInt32).toInt32) &&& (255 : Int32)).toUInt32.toUInt16.toUInt32.toInt32)), .val (.int ((((u.toUInt32 >>> ((10 : Int32) &&& 31).toUInt32).toInt32) &&& (255 : Int32)).toUInt32.toUInt16.toUInt32.toInt32)), .unset] [(.int (2 : Int32))])) rfl (hb hby d1_64) rfl (by decide) (cap := 2) (by decide) (by decide) (by decide) (by decide)
      obtain ⟨b16, g16⟩ : ∃ z, z = h0.size := ⟨_, rfl⟩
      rw [← g16] at A16 st16
      refine Go.st st16 ?_
      have g_b16 : n0 ≤ b16 := Nat.le_trans (own_le O0) (Nat.le_of_eq g16.symm)
      have z_b16 : h0.size ≤ b16 := Nat.le_of_eq g16.symm
      have O16 : Old Z n0 h16 := O0.ext E16
      have K16 : Keep h0 h16 [] := (Keep.refl h0 []).ext E16
      have f17 : Arv Z h16 b16 k16 .char (2 : Int32) [(.int (0 : Int32)), (.int (0 : Int32))] (.int (0 : Int32)) := (Arv.new A16 (by decide)).pad (pad_rep [] (.int (0 : Int32)) 2)
      show Go p e below s _ _ _ (T16.setTop (mkF m 66 #[.val (.int u), .val (.int (2 : Int32)), .val (.int ((((u.toUInt32 >>> ((2 : Int32) &&& 31).toUInt32).toInt32) &&& (255 : Int32)).toUInt32.toUInt16.toUInt32.toInt32)), .val (.int ((((u.toUInt32 >>> ((10 : Int32) &&& 31).toUInt32).toInt32) &&& (255 : Int32)).toUInt32.toUInt16.toUInt32.toInt32)), .unset] [(.ref b16)]))
      refine Go.st (fun _ k' => XS.astore X16.here hx rfl (hb hby d1_66) rfl rfl (l' := #[.val (.int u), .val (.int (2 : Int32)), .val (.int ((((u.toUInt32 >>> ((2 : Int32) &&& 31).toUInt32).toInt32) &&& (255 : Int32)).toUInt32.toUInt16.toUInt32.toInt32)), .val (.int ((((u.toUInt32 >>> ((10 : Int32) &&& 31).toUInt32).toInt32) &&& (255 : Int32)).toUInt32.toUInt16.toUInt32.toInt32)), .val (.ref b16)]) rfl k') ?_
      show Go p e below s _ _ _ (T16.setTop (mkF m 68 #[.val (.int u), .val (.int (2 : Int32)), .val (.int ((((u.toUInt32 >>> ((2 : Int32) &&& 31).toUInt32).toInt32) &&& (255 : Int32)).toUInt32.toUInt16.toUInt32.toInt32)), .val (.int ((((u.toUInt32 >>> ((10 : Int32) &&& 31).toUInt32).toInt32) &&& (255 : Int32)).toUInt32.toUInt16.toUInt32.toInt32)), .val (.ref b16)] []))
      refine Go.st (fun _ k' => XS.aload X16.here hx rfl (hb hby d1_68) rfl rfl k') ?_
      show Go p e below s _ _ _ (T16.setTop (mkF m 70 #[.val (.int u), .val (.int (2 : Int32)), .val (.int ((((u.toUInt32 >>> ((2 : Int32) &&& 31).toUInt32).toInt32) &&& (255 : Int32)).toUInt32.toUInt16.toUInt32.toInt32)), .val (.int ((((u.toUInt32 >>> ((10 : Int32) &&& 31).toUInt32).toInt32) &&& (255 : Int32)).toUInt32.toUInt16.toUInt32.toInt32)), .val (.ref b16)] [(.ref b16)]))
      refine Go.st (fun _ k' => XS.iconst X16.here hx rfl (hb hby d1_70) k') ?_
      show Go p e below s _ _ _ (T16.setTop (mkF m 71 #[.val (.int u), .val (.int (2 : Int32)), .val (.int ((((u.toUInt32 >>> ((2 : Int32) &&& 31).toUInt32).toInt32) &&& (255 : Int32)).toUInt32.toUInt16.toUInt32.toInt32)), .val (.int ((((u.toUInt32 >>> ((10 : Int32) &&& 31).toUInt32).toInt32) &&& (255 : Int32)).toUInt32.toUInt16.toUInt32.toInt32)), .val (.ref b16)] [(.int (0 : Int32)), (.ref b16)]))
      refine Go.st (fun _ k' => XS.iloadN X16.here hx rfl (hb hby d1_71) rfl k') ?_
      show Go p e below s _ _ _ (T16.setTop (mkF m 72 #[.val (.int u), .val (.int (2 : Int32)), .val (.int ((((u.toUInt32 >>> ((2 : Int32) &&& 31).toUInt32).toInt32) &&& (255 : Int32)).toUInt32.toUInt16.toUInt32.toInt32)), .val (.int ((((u.toUInt32 >>> ((10 : Int32) &&& 31).toUInt32).toInt32) &&& (255 : Int32)).toUInt32.toUInt16.toUInt32.toInt32)), .val (.ref b16)] [(.int ((((u.toUInt32 >>> ((2 : Int32) &&& 31).toUInt32).toInt32) &&& (255 : Int32)).toUInt32.toUInt16.toUInt32.toInt32)), (.int (0 : Int32)), (.ref b16)]))
      obtain ⟨cl18, Ar18, qc18, Sz18, Nn18, Ha18, Gf18⟩ := id f17
      obtain ⟨T18, h18, X18, e18, W18, st18⟩ := stC X16 hx hZ e16 Ar18 (j := (0 : Int32)) (inb_of Sz18 ⟨by decide, by decide⟩) (g := (mkF m 72 #[.val (.int u), .val (.int (2 : Int32)), .val (.int ((((u.toUInt32 >>> ((2 : Int32) &&& 31).toUInt32).toInt32) &&& (255 : Int32)).toUInt32.toUInt16.toUInt32.toInt32)), .val (.int ((((u.toUInt32 >>> ((10 : Int32) &&& 31).toUInt32).toInt32) &&& (255 : Int32)).toUInt32.toUInt16.toUInt32.toInt32)), .val (.ref b16)] [(.int ((((u.toUInt32 >>> ((2 : Int32) &&& 31).toUInt32).toInt32) &&& (255 : Int32)).toUInt32.toUInt16.toUInt32.toInt32)), (.int (0 : Int32)), (.ref b16)])) rfl rfl (hb hby d1_72)
      refine Go.st st18 ?_
      have O18 : Old Z n0 h18 := O16.wr W18 g_b16
      have N18 := Fr.snoc X18 N0 g_b16
      have K18 : Keep h0 h18 [] := K16.wr W18 (Or.inr z_b16)
      have f19 : Arv Z h18 b16 k16 .char (2 : Int32) [(.int (nar .char ((((u.toUInt32 >>> ((2 : Int32) &&& 31).toUInt32).toInt32) &&& (255 : Int32)).toUInt32.toUInt16.toUInt32.toInt32))), (.int (0 : Int32))] (.int (0 : Int32)) := Arv.set Ar18 qc18 Sz18 Nn18 Ha18 Gf18 (fits_nar_char _) W18 0 rfl (Nat.le_of_ble_eq_true rfl)
      show Go p e below s _ _ _ (T18.setTop (mkF m 73 #[.val (.int u), .val (.int (2 : Int32)), .val (.int ((((u.toUInt32 >>> ((2 : Int32) &&& 31).toUInt32).toInt32) &&& (255 : Int32)).toUInt32.toUInt16.toUInt32.toInt32)), .val (.int ((((u.toUInt32 >>> ((10 : Int32) &&& 31).toUInt32).toInt32) &&& (255 : Int32)).toUInt32.toUInt16.toUInt32.toInt32)), .val (.ref b16)] []))
      refine Go.st (fun _ k' => XS.aload X18.here hx rfl (hb hby d1_73) rfl rfl k') ?_
      show Go p e below s _ _ _ (T18.setTop (mkF m 75 #[.val (.int u), .val (.int (2 : Int32)), .val (.int ((((u.toUInt32 >>> ((2 : Int32) &&& 31).toUInt32).toInt32) &&& (255 : Int32)).toUInt32.toUInt16.toUInt32.toInt32)), .val (.int ((((u.toUInt32 >>> ((10 : Int32) &&& 31).toUInt32).toInt32) &&& (255 : Int32)).toUInt32.toUInt16.toUInt32.toInt32)), .val (.ref b16)] [(.ref b16)]))
      refine Go.st (fun _ k' => XS.iconst X18.here hx rfl (hb hby d1_75) k') ?_
      show Go p e below s _ _ _ (T18.setTop (mkF m 76 #[.val (.int u), .val (.int (2 : Int32)), .val (.int ((((u.toUInt32 >>> ((2 : Int32) &&& 31).toUInt32).toInt32) &&& (255 : Int32)).toUInt32.toUInt16.toUInt32.toInt32)), .val (.int ((((u.toUInt32 >>> ((10 : Int32) &&& 31).toUInt32).toInt32) &&& (255 : Int32)).toUInt32.toUInt16.toUInt32.toInt32)), .val (.ref b16)] [(.int (1 : Int32)), (.ref b16)]))
      refine Go.st (fun _ k' => XS.iloadN X18.here hx rfl (hb hby d1_76) rfl k') ?_
      show Go p e below s _ _ _ (T18.setTop (mkF m 77 #[.val (.int u), .val (.int (2 : Int32)), .val (.int ((((u.toUInt32 >>> ((2 : Int32) &&& 31).toUInt32).toInt32) &&& (255 : Int32)).toUInt32.toUInt16.toUInt32.toInt32)), .val (.int ((((u.toUInt32 >>> ((10 : Int32) &&& 31).toUInt32).toInt32) &&& (255 : Int32)).toUInt32.toUInt16.toUInt32.toInt32)), .val (.ref b16)] [(.int ((((u.toUInt32 >>> ((10 : Int32) &&& 31).toUInt32).toInt32) &&& (255 : Int32)).toUInt32.toUInt16.toUInt32.toInt32)), (.int (1 : Int32)), (.ref b16)]))
      obtain ⟨cl20, Ar20, qc20, Sz20, Nn20, Ha20, Gf20⟩ := id f19
      obtain ⟨T20, h20, X20, e20, W20, st20⟩ := stC X18 hx hZ e18 Ar20 (j := (1 : Int32)) (inb_of Sz20 ⟨by decide, by decide⟩) (g := (mkF m 77 #[.val (.int u), .val (.int (2 : Int32)), .val (.int ((((u.toUInt32 >>> ((2 : Int32) &&& 31).toUInt32).toInt32) &&& (255 : Int32)).toUInt32.toUInt16.toUInt32.toInt32)), .val (.int ((((u.toUInt32 >>> ((10 : Int32) &&& 31).toUInt32).toInt32) &&& (255 : Int32)).toUInt32.toUInt16.toUInt32.toInt32)), .val (.ref b16)] [(.int ((((u.toUInt32 >>> ((10 : Int32) &&& 31).toUInt32).toInt32) &&& (255 : Int32)).toUInt32.toUInt16.toUInt32.toInt32)), (.int (1 : Int32)), (.ref b16)])) rfl rfl (hb hby d1_77)
      refine Go.st st20 ?_
      have O20 : Old Z n0 h20 := O18.wr W20 g_b16
      have N20 := Fr.snoc X20 N18 g_b16
      have K20 : Keep h0 h20 [] := K18.wr W20 (Or.inr z_b16)
      have f21 : Arv Z h20 b16 k16 .char (2 : Int32) [(.int (nar .char ((((u.toUInt32 >>> ((2 : Int32) &&& 31).toUInt32).toInt32) &&& (255 : Int32)).toUInt32.toUInt16.toUInt32.toInt32))), (.int (nar .char ((((u.toUInt32 >>> ((10 : Int32) &&& 31).toUInt32).toInt32) &&& (255 : Int32)).toUInt32.toUInt16.toUInt32.toInt32)))] (.int (0 : Int32)) := Arv.set Ar20 qc20 Sz20 Nn20 Ha20 Gf20 (fits_nar_char _) W20 1 rfl (Nat.le_of_ble_eq_true rfl)
      show Go p e below s _ _ _ (T20.setTop (mkF m 78 #[.val (.int u), .val (.int (2 : Int32)), .val (.int ((((u.toUInt32 >>> ((2 : Int32) &&& 31).toUInt32).toInt32) &&& (255 : Int32)).toUInt32.toUInt16.toUInt32.toInt32)), .val (.int ((((u.toUInt32 >>> ((10 : Int32) &&& 31).toUInt32).toInt32) &&& (255 : Int32)).toUInt32.toUInt16.toUInt32.toInt32)), .val (.ref b16)] []))
      refine Go.st (fun _ k' => XS.aload X20.here hx rfl (hb hby d1_78) rfl rfl k') ?_
      show Go p e below s _ _ _ (T20.setTop (mkF m 80 #[.val (.int u), .val (.int (2 : Int32)), .val (.int ((((u.toUInt32 >>> ((2 : Int32) &&& 31).toUInt32).toInt32) &&& (255 : Int32)).toUInt32.toUInt16.toUInt32.toInt32)), .val (.int ((((u.toUInt32 >>> ((10 : Int32) &&& 31).toUInt32).toInt32) &&& (255 : Int32)).toUInt32.toUInt16.toUInt32.toInt32)), .val (.ref b16)] [(.ref b16)]))
      refine Go.ret X20 hx hlk (t := (.array .char)) Bd.returns rfl (Or.inr (Or.inr (Or.inr (Or.inr ⟨rfl, rfl, rfl⟩)))) (hb hby d1_80) (by decide) (by decide) e20 ?_
      exact ⟨b16, k16, rfl, N20, K20, (own_vc (lb := [(nar .char ((((u.toUInt32 >>> ((2 : Int32) &&& 31).toUInt32).toInt32) &&& (255 : Int32)).toUInt32.toUInt16.toUInt32.toInt32)), (nar .char ((((u.toUInt32 >>> ((10 : Int32) &&& 31).toUInt32).toInt32) &&& (255 : Int32)).toUInt32.toUInt16.toUInt32.toInt32))]) (by simp +decide only [fch, fl, fx0, fx1, hl, hc15, ↓reduceIte]) f21), z_b16⟩
    · refine Go.st (fun _ k' => XS.ifNo X0.here hx rfl (hb hby d1_21) rfl (XT.i0_eq_f hc15) k') ?_
      show Go p e below s _ _ _ (s₁.setTop (mkF m 24 #[.val (.int u), .val (.int (2 : Int32)), .val (.int ((((u.toUInt32 >>> ((2 : Int32) &&& 31).toUInt32).toInt32) &&& (255 : Int32)).toUInt32.toUInt16.toUInt32.toInt32)), .unset, .unset] []))
      refine Go.st (fun _ k' => XS.bipush X0.here hx rfl (hb hby d1_24) k') ?_
      show Go p e below s _ _ _ (s₁.setTop (mkF m 26 #[.val (.int u), .val (.int (2 : Int32)), .val (.int ((((u.toUInt32 >>> ((2 : Int32) &&& 31).toUInt32).toInt32) &&& (255 : Int32)).toUInt32.toUInt16.toUInt32.toInt32)), .unset, .unset] [(.int (37 : Int32))]))
      refine Go.st (fun _ k' => XS.istoreN X0.here hx rfl (hb hby d1_26) rfl (l' := #[.val (.int u), .val (.int (2 : Int32)), .val (.int (37 : Int32)), .unset, .unset]) rfl k') ?_
      show Go p e below s _ _ _ (s₁.setTop (mkF m 27 #[.val (.int u), .val (.int (2 : Int32)), .val (.int (37 : Int32)), .unset, .unset] []))
      refine Go.st (fun _ k' => XS.iloadN X0.here hx rfl (hb hby d1_27) rfl k') ?_
      show Go p e below s _ _ _ (s₁.setTop (mkF m 28 #[.val (.int u), .val (.int (2 : Int32)), .val (.int (37 : Int32)), .unset, .unset] [(.int u)]))
      refine Go.st (fun _ k' => XS.bipush X0.here hx rfl (hb hby d1_28) k') ?_
      show Go p e below s _ _ _ (s₁.setTop (mkF m 30 #[.val (.int u), .val (.int (2 : Int32)), .val (.int (37 : Int32)), .unset, .unset] [(.int (10 : Int32)), (.int u)]))
      refine Go.st (fun _ k' => XS.iushr X0.here hx rfl (hb hby d1_30) rfl k') ?_
      show Go p e below s _ _ _ (s₁.setTop (mkF m 31 #[.val (.int u), .val (.int (2 : Int32)), .val (.int (37 : Int32)), .unset, .unset] [(.int ((u.toUInt32 >>> ((10 : Int32) &&& 31).toUInt32).toInt32))]))
      refine Go.st (fun _ k' => XS.sipush X0.here hx rfl (hb hby d1_31) k') ?_
      show Go p e below s _ _ _ (s₁.setTop (mkF m 34 #[.val (.int u), .val (.int (2 : Int32)), .val (.int (37 : Int32)), .unset, .unset] [(.int (255 : Int32)), (.int ((u.toUInt32 >>> ((10 : Int32) &&& 31).toUInt32).toInt32))]))
      refine Go.st (fun _ k' => XS.iand X0.here hx rfl (hb hby d1_34) rfl k') ?_
      show Go p e below s _ _ _ (s₁.setTop (mkF m 35 #[.val (.int u), .val (.int (2 : Int32)), .val (.int (37 : Int32)), .unset, .unset] [(.int (((u.toUInt32 >>> ((10 : Int32) &&& 31).toUInt32).toInt32) &&& (255 : Int32)))]))
      refine Go.st (fun _ k' => XS.i2c X0.here hx rfl (hb hby d1_35) rfl k') ?_
      show Go p e below s _ _ _ (s₁.setTop (mkF m 36 #[.val (.int u), .val (.int (2 : Int32)), .val (.int (37 : Int32)), .unset, .unset] [(.int ((((u.toUInt32 >>> ((10 : Int32) &&& 31).toUInt32).toInt32) &&& (255 : Int32)).toUInt32.toUInt16.toUInt32.toInt32))]))
      refine Go.st (fun _ k' => XS.istoreN X0.here hx rfl (hb hby d1_36) rfl (l' := #[.val (.int u), .val (.int (2 : Int32)), .val (.int (37 : Int32)), .val (.int ((((u.toUInt32 >>> ((10 : Int32) &&& 31).toUInt32).toInt32) &&& (255 : Int32)).toUInt32.toUInt16.toUInt32.toInt32)), .unset]) rfl k') ?_
      show Go p e below s _ _ _ (s₁.setTop (mkF m 37 #[.val (.int u), .val (.int (2 : Int32)), .val (.int (37 : Int32)), .val (.int ((((u.toUInt32 >>> ((10 : Int32) &&& 31).toUInt32).toInt32) &&& (255 : Int32)).toUInt32.toUInt16.toUInt32.toInt32)), .unset] []))
      refine Go.st (fun _ k' => XS.iloadN X0.here hx rfl (hb hby d1_37) rfl k') ?_
      show Go p e below s _ _ _ (s₁.setTop (mkF m 38 #[.val (.int u), .val (.int (2 : Int32)), .val (.int (37 : Int32)), .val (.int ((((u.toUInt32 >>> ((10 : Int32) &&& 31).toUInt32).toInt32) &&& (255 : Int32)).toUInt32.toUInt16.toUInt32.toInt32)), .unset] [(.int (2 : Int32))]))
      refine Go.st (fun _ k' => XS.ifYes X0.here hx rfl (pc0 := 38) (pc' := 45) rfl (hb hby d1_38) rfl (XT.i0_ne_t (by decide)) (by decide) (by decide) k') ?_
      show Go p e below s _ _ _ (s₁.setTop (mkF m 45 #[.val (.int u), .val (.int (2 : Int32)), .val (.int (37 : Int32)), .val (.int ((((u.toUInt32 >>> ((10 : Int32) &&& 31).toUInt32).toInt32) &&& (255 : Int32)).toUInt32.toUInt16.toUInt32.toInt32)), .unset] []))
      refine Go.st (fun _ k' => XS.iloadN X0.here hx rfl (hb hby d1_45) rfl k') ?_
      show Go p e below s _ _ _ (s₁.setTop (mkF m 46 #[.val (.int u), .val (.int (2 : Int32)), .val (.int (37 : Int32)), .val (.int ((((u.toUInt32 >>> ((10 : Int32) &&& 31).toUInt32).toInt32) &&& (255 : Int32)).toUInt32.toUInt16.toUInt32.toInt32)), .unset] [(.int (2 : Int32))]))
      refine Go.st (fun _ k' => XS.iconst X0.here hx rfl (hb hby d1_46) k') ?_
      show Go p e below s _ _ _ (s₁.setTop (mkF m 47 #[.val (.int u), .val (.int (2 : Int32)), .val (.int (37 : Int32)), .val (.int ((((u.toUInt32 >>> ((10 : Int32) &&& 31).toUInt32).toInt32) &&& (255 : Int32)).toUInt32.toUInt16.toUInt32.toInt32)), .unset] [(.int (1 : Int32)), (.int (2 : Int32))]))
      refine Go.st (fun _ k' => XS.icmpYes X0.here hx rfl (pc0 := 47) (pc' := 63) rfl (hb hby d1_47) rfl (XT.ii_ne_t (by decide)) (by decide) (by decide) k') ?_
      show Go p e below s _ _ _ (s₁.setTop (mkF m 63 #[.val (.int u), .val (.int (2 : Int32)), .val (.int (37 : Int32)), .val (.int ((((u.toUInt32 >>> ((10 : Int32) &&& 31).toUInt32).toInt32) &&& (255 : Int32)).toUInt32.toUInt16.toUInt32.toInt32)), .unset] []))
      refine Go.st (fun _ k' => XS.iconst X0.here hx rfl (hb hby d1_63) k') ?_
      show Go p e below s _ _ _ (s₁.setTop (mkF m 64 #[.val (.int u), .val (.int (2 : Int32)), .val (.int (37 : Int32)), .val (.int ((((u.toUInt32 >>> ((10 : Int32) &&& 31).toUInt32).toInt32) &&& (255 : Int32)).toUInt32.toUInt16.toUInt32.toInt32)), .unset] [(.int (2 : Int32))]))
      obtain ⟨T22, h22, k22, X22, e22, E22, A22, st22⟩ := newP X0 hx hZ (wdx hw 4 rfl) e0 (g := (mkF m 64 #[.val (.int u), .val (.int (2 : Int32)), .val (.int (37 : Int32)), .val (.int ((((u.toUInt32 >>> ((10 : Int32) &&& 31).toUInt32).toInt32) &&& (255 : Int32)).toUInt32.toUInt16.toUInt32.toInt32)), .unset] [(.int (2 : Int32))])) rfl (hb hby d1_64) rfl (by decide) (cap := 2) (by decide) (by decide) (by decide) (by decide)
      obtain ⟨b22, g22⟩ : ∃ z, z = h0.size := ⟨_, rfl⟩
      rw [← g22] at A22 st22
      refine Go.st st22 ?_
      have g_b22 : n0 ≤ b22 := Nat.le_trans (own_le O0) (Nat.le_of_eq g22.symm)
      have z_b22 : h0.size ≤ b22 := Nat.le_of_eq g22.symm
      have O22 : Old Z n0 h22 := O0.ext E22
      have K22 : Keep h0 h22 [] := (Keep.refl h0 []).ext E22
      have f23 : Arv Z h22 b22 k22 .char (2 : Int32) [(.int (0 : Int32)), (.int (0 : Int32))] (.int (0 : Int32)) := (Arv.new A22 (by decide)).pad (pad_rep [] (.int (0 : Int32)) 2)
      show Go p e below s _ _ _ (T22.setTop (mkF m 66 #[.val (.int u), .val (.int (2 : Int32)), .val (.int (37 : Int32)), .val (.int ((((u.toUInt32 >>> ((10 : Int32) &&& 31).toUInt32).toInt32) &&& (255 : Int32)).toUInt32.toUInt16.toUInt32.toInt32)), .unset] [(.ref b22)]))
      refine Go.st (fun _ k' => XS.astore X22.here hx rfl (hb hby d1_66) rfl rfl (l' := #[.val (.int u), .val (.int (2 : Int32)), .val (.int (37 : Int32)), .val (.int ((((u.toUInt32 >>> ((10 : Int32) &&& 31).toUInt32).toInt32) &&& (255 : Int32)).toUInt32.toUInt16.toUInt32.toInt32)), .val (.ref b22)]) rfl k') ?_
      show Go p e below s _ _ _ (T22.setTop (mkF m 68 #[.val (.int u), .val (.int (2 : Int32)), .val (.int (37 : Int32)), .val (.int ((((u.toUInt32 >>> ((10 : Int32) &&& 31).toUInt32).toInt32) &&& (255 : Int32)).toUInt32.toUInt16.toUInt32.toInt32)), .val (.ref b22)] []))
      refine Go.st (fun _ k' => XS.aload X22.here hx rfl (hb hby d1_68) rfl rfl k') ?_
      show Go p e below s _ _ _ (T22.setTop (mkF m 70 #[.val (.int u), .val (.int (2 : Int32)), .val (.int (37 : Int32)), .val (.int ((((u.toUInt32 >>> ((10 : Int32) &&& 31).toUInt32).toInt32) &&& (255 : Int32)).toUInt32.toUInt16.toUInt32.toInt32)), .val (.ref b22)] [(.ref b22)]))
      refine Go.st (fun _ k' => XS.iconst X22.here hx rfl (hb hby d1_70) k') ?_
      show Go p e below s _ _ _ (T22.setTop (mkF m 71 #[.val (.int u), .val (.int (2 : Int32)), .val (.int (37 : Int32)), .val (.int ((((u.toUInt32 >>> ((10 : Int32) &&& 31).toUInt32).toInt32) &&& (255 : Int32)).toUInt32.toUInt16.toUInt32.toInt32)), .val (.ref b22)] [(.int (0 : Int32)), (.ref b22)]))
      refine Go.st (fun _ k' => XS.iloadN X22.here hx rfl (hb hby d1_71) rfl k') ?_
      show Go p e below s _ _ _ (T22.setTop (mkF m 72 #[.val (.int u), .val (.int (2 : Int32)), .val (.int (37 : Int32)), .val (.int ((((u.toUInt32 >>> ((10 : Int32) &&& 31).toUInt32).toInt32) &&& (255 : Int32)).toUInt32.toUInt16.toUInt32.toInt32)), .val (.ref b22)] [(.int (37 : Int32)), (.int (0 : Int32)), (.ref b22)]))
      obtain ⟨cl24, Ar24, qc24, Sz24, Nn24, Ha24, Gf24⟩ := id f23
      obtain ⟨T24, h24, X24, e24, W24, st24⟩ := stC X22 hx hZ e22 Ar24 (j := (0 : Int32)) (inb_of Sz24 ⟨by decide, by decide⟩) (g := (mkF m 72 #[.val (.int u), .val (.int (2 : Int32)), .val (.int (37 : Int32)), .val (.int ((((u.toUInt32 >>> ((10 : Int32) &&& 31).toUInt32).toInt32) &&& (255 : Int32)).toUInt32.toUInt16.toUInt32.toInt32)), .val (.ref b22)] [(.int (37 : Int32)), (.int (0 : Int32)), (.ref b22)])) rfl rfl (hb hby d1_72)
      refine Go.st st24 ?_
      have O24 : Old Z n0 h24 := O22.wr W24 g_b22
      have N24 := Fr.snoc X24 N0 g_b22
      have K24 : Keep h0 h24 [] := K22.wr W24 (Or.inr z_b22)
      have f25 : Arv Z h24 b22 k22 .char (2 : Int32) [(.int (nar .char (37 : Int32))), (.int (0 : Int32))] (.int (0 : Int32)) := Arv.set Ar24 qc24 Sz24 Nn24 Ha24 Gf24 (fits_nar_char _) W24 0 rfl (Nat.le_of_ble_eq_true rfl)
      show Go p e below s _ _ _ (T24.setTop (mkF m 73 #[.val (.int u), .val (.int (2 : Int32)), .val (.int (37 : Int32)), .val (.int ((((u.toUInt32 >>> ((10 : Int32) &&& 31).toUInt32).toInt32) &&& (255 : Int32)).toUInt32.toUInt16.toUInt32.toInt32)), .val (.ref b22)] []))
      refine Go.st (fun _ k' => XS.aload X24.here hx rfl (hb hby d1_73) rfl rfl k') ?_
      show Go p e below s _ _ _ (T24.setTop (mkF m 75 #[.val (.int u), .val (.int (2 : Int32)), .val (.int (37 : Int32)), .val (.int ((((u.toUInt32 >>> ((10 : Int32) &&& 31).toUInt32).toInt32) &&& (255 : Int32)).toUInt32.toUInt16.toUInt32.toInt32)), .val (.ref b22)] [(.ref b22)]))
      refine Go.st (fun _ k' => XS.iconst X24.here hx rfl (hb hby d1_75) k') ?_
      show Go p e below s _ _ _ (T24.setTop (mkF m 76 #[.val (.int u), .val (.int (2 : Int32)), .val (.int (37 : Int32)), .val (.int ((((u.toUInt32 >>> ((10 : Int32) &&& 31).toUInt32).toInt32) &&& (255 : Int32)).toUInt32.toUInt16.toUInt32.toInt32)), .val (.ref b22)] [(.int (1 : Int32)), (.ref b22)]))
      refine Go.st (fun _ k' => XS.iloadN X24.here hx rfl (hb hby d1_76) rfl k') ?_
      show Go p e below s _ _ _ (T24.setTop (mkF m 77 #[.val (.int u), .val (.int (2 : Int32)), .val (.int (37 : Int32)), .val (.int ((((u.toUInt32 >>> ((10 : Int32) &&& 31).toUInt32).toInt32) &&& (255 : Int32)).toUInt32.toUInt16.toUInt32.toInt32)), .val (.ref b22)] [(.int ((((u.toUInt32 >>> ((10 : Int32) &&& 31).toUInt32).toInt32) &&& (255 : Int32)).toUInt32.toUInt16.toUInt32.toInt32)), (.int (1 : Int32)), (.ref b22)]))
      obtain ⟨cl26, Ar26, qc26, Sz26, Nn26, Ha26, Gf26⟩ := id f25
      obtain ⟨T26, h26, X26, e26, W26, st26⟩ := stC X24 hx hZ e24 Ar26 (j := (1 : Int32)) (inb_of Sz26 ⟨by decide, by decide⟩) (g := (mkF m 77 #[.val (.int u), .val (.int (2 : Int32)), .val (.int (37 : Int32)), .val (.int ((((u.toUInt32 >>> ((10 : Int32) &&& 31).toUInt32).toInt32) &&& (255 : Int32)).toUInt32.toUInt16.toUInt32.toInt32)), .val (.ref b22)] [(.int ((((u.toUInt32 >>> ((10 : Int32) &&& 31).toUInt32).toInt32) &&& (255 : Int32)).toUInt32.toUInt16.toUInt32.toInt32)), (.int (1 : Int32)), (.ref b22)])) rfl rfl (hb hby d1_77)
      refine Go.st st26 ?_
      have O26 : Old Z n0 h26 := O24.wr W26 g_b22
      have N26 := Fr.snoc X26 N24 g_b22
      have K26 : Keep h0 h26 [] := K24.wr W26 (Or.inr z_b22)
      have f27 : Arv Z h26 b22 k22 .char (2 : Int32) [(.int (nar .char (37 : Int32))), (.int (nar .char ((((u.toUInt32 >>> ((10 : Int32) &&& 31).toUInt32).toInt32) &&& (255 : Int32)).toUInt32.toUInt16.toUInt32.toInt32)))] (.int (0 : Int32)) := Arv.set Ar26 qc26 Sz26 Nn26 Ha26 Gf26 (fits_nar_char _) W26 1 rfl (Nat.le_of_ble_eq_true rfl)
      show Go p e below s _ _ _ (T26.setTop (mkF m 78 #[.val (.int u), .val (.int (2 : Int32)), .val (.int (37 : Int32)), .val (.int ((((u.toUInt32 >>> ((10 : Int32) &&& 31).toUInt32).toInt32) &&& (255 : Int32)).toUInt32.toUInt16.toUInt32.toInt32)), .val (.ref b22)] []))
      refine Go.st (fun _ k' => XS.aload X26.here hx rfl (hb hby d1_78) rfl rfl k') ?_
      show Go p e below s _ _ _ (T26.setTop (mkF m 80 #[.val (.int u), .val (.int (2 : Int32)), .val (.int (37 : Int32)), .val (.int ((((u.toUInt32 >>> ((10 : Int32) &&& 31).toUInt32).toInt32) &&& (255 : Int32)).toUInt32.toUInt16.toUInt32.toInt32)), .val (.ref b22)] [(.ref b22)]))
      refine Go.ret X26 hx hlk (t := (.array .char)) Bd.returns rfl (Or.inr (Or.inr (Or.inr (Or.inr ⟨rfl, rfl, rfl⟩)))) (hb hby d1_80) (by decide) (by decide) e26 ?_
      exact ⟨b22, k22, rfl, N26, K26, (own_vc (lb := [(nar .char (37 : Int32)), (nar .char ((((u.toUInt32 >>> ((10 : Int32) &&& 31).toUInt32).toInt32) &&& (255 : Int32)).toUInt32.toUInt16.toUInt32.toInt32))]) (by simp +decide only [fch, fl, fx0, fx1, hl, hc15, ↓reduceIte]) f27), z_b22⟩
theorem d16_0 : decode method_4_code 0 = .ok (.aload_n 0, 1) := by decide +kernel
theorem d16_1 : decode method_4_code 1 = .ok (.arraylength, 1) := by decide +kernel
theorem d16_2 : decode method_4_code 2 = .ok (.iconst 1, 1) := by decide +kernel
theorem d16_3 : decode method_4_code 3 = .ok (.if_icmp .ne 15, 3) := by decide +kernel
theorem d16_18 : decode method_4_code 18 = .ok (.iconst 0, 1) := by decide +kernel
theorem d16_19 : decode method_4_code 19 = .ok (.ireturn, 1) := by decide +kernel
theorem d16_6 : decode method_4_code 6 = .ok (.aload_n 0, 1) := by decide +kernel
theorem d16_7 : decode method_4_code 7 = .ok (.iconst 0, 1) := by decide +kernel
theorem d16_8 : decode method_4_code 8 = .ok (.caload, 1) := by decide +kernel
theorem d16_9 : decode method_4_code 9 = .ok (.bipush 37, 2) := by decide +kernel
theorem d16_11 : decode method_4_code 11 = .ok (.if_icmp .ne 7, 3) := by decide +kernel
theorem d16_14 : decode method_4_code 14 = .ok (.iconst 1, 1) := by decide +kernel
theorem d16_15 : decode method_4_code 15 = .ok (.goto 4, 3) := by decide +kernel
theorem ef_rm16 (m : MethodId) (aa : Addr) : entryFrame m #[(.ref aa)] 1 = mkF m 0 #[.val (.ref aa)] [] := by first | (simp [entryFrame, mkF, argsToLocals, Value.category]; done) | rfl
def Q16 (Z : State) (aa : Addr) (ka : ClassId) (la : List Int32) (h0 : Heap) (n0 : Nat) (v : Option Value) (h : Heap) (L : List Loc) : Prop := v = some (.int (if la = [(37 : Int32)] then (1 : Int32) else 0)) ∧ Fr n0 L ∧ h = h0
set_option maxRecDepth 65536 in
set_option maxHeartbeats 40000000 in
theorem rm16 (l : Launch) (Z : State) (a0 : Array Value) (hw : ∀ d ∈ tables_1, d.before a0 Z = true) (ws : List Jvm.Cond) (aa : Addr) (ka : ClassId) (la : List Int32) (h0 : Heap) (n0 : Nat) (O0 : Old Z n0 h0) (Va : Arv Z h0 aa ka .char (Int32.ofNat (List.length la)) (List.map Value.int la) (.int (0 : Int32))) (q_la : la.length ≤ 2) :
    MetFree l (⟨"com/example/indenture/indenture/model/IdentifierMatchesPinLaw", "isAny", "([C)Z"⟩ : MethodName) (head1 (Jvm.Cond.code (⟨"com/example/indenture/indenture/model/IdentifierMatchesPinLaw", "isAny", "([C)Z"⟩ : MethodName) method_4_code 1 (some .boolean) :: ws) ({ frames := 0, cells := 0, slots := 0, locals := 0 } : Room)) (fun ay U => ay = #[(.ref aa)] ∧ Z.Warmed39 U.vm ∧ U.heap = h0) (fun _ _ _ _ _ => True) (fun _ U o U' => ∃ v L, o = .returned v ∧ Q16 Z aa ka la h0 n0 v U'.heap L ∧ FrameEnd U o U' L ({ frames := 0, cells := 0, slots := 0, locals := 0 } : Room).cells ({ frames := 0, cells := 0, slots := 0, locals := 0 } : Room).slots) := by
  refine MetFree.of_bodySF (plainFor_of_name pn_com_example_indenture_indenture_model_IdentifierMatchesPinLaw) hisR ?_
  intro p e s m args below meth c s₁ Bd hml0 hP hK
  obtain ⟨rfl, hZ, hh⟩ := hP
  have hx := Bd.exec
  have hby := Bd.bytes
  have hlk : meth.locks = false := BodyLoose.notSynchronized Bd
  have hml : c.maxLocals = 1 := hml0
  have hown : s.vm.findClass "com/example/indenture/indenture/model/IdentifierMatchesPinLaw" = some m.cls := findClass_of_methodNamed Bd.named
  have hnm := (name_of_methodNamed Bd.named Bd.method).1
  have X0 : Stand p l e ({ frames := 0, cells := 0, slots := 0, locals := 0 } : Room) s m #[(.ref aa)] below meth c s₁ [] 0 0 := Stand.of_body Bd
  have e0 : s₁.heap = h0 := by rw [← hh, Bd.state]; rfl
  have N0 := Fr.nil n0
  suffices hgo : Go p e below s 0 0 (Q16 Z aa ka la h0 n0) (s₁.setTop (mkF m 0 #[.val (.ref aa)] [])) by
    obtain ⟨t, o, h1, h2⟩ := hgo; exact ⟨t, o, castTop (ef_rm16 m aa) h1, h2⟩
  show Go p e below s _ _ _ (s₁.setTop (mkF m 0 #[.val (.ref aa)] []))
  rcases own_l2 la q_la with rfl | ⟨pa, rfl⟩ | ⟨pa, qa, rfl⟩
  · have v1 : Arv Z h0 aa ka .char (0 : Int32) [] (.int (0 : Int32)) := Va
    show Go p e below s _ _ _ (s₁.setTop (mkF m 0 #[.val (.ref aa)] []))
    refine Go.st (fun _ k' => XS.aloadN X0.here hx rfl (hb hby d16_0) rfl rfl k') ?_
    show Go p e below s _ _ _ (s₁.setTop (mkF m 1 #[.val (.ref aa)] [(.ref aa)]))
    obtain ⟨cl2, Ar2, qc2, Sz2, Nn2, Ha2, Gf2⟩ := id v1
    refine Go.st (fun _ k' => X0.arraylength hx (by rw [e0]; exact Ar2.1) (State.isArrayOf_alike hZ.alike Ar2.2.1) (g := (mkF m 1 #[.val (.ref aa)] [(.ref aa)])) rfl rfl (hb hby d16_1) _ k') ?_
    rw [len_of Sz2 Nn2]
    show Go p e below s _ _ _ (s₁.setTop (mkF m 2 #[.val (.ref aa)] [(.int (0 : Int32))]))
    refine Go.st (fun _ k' => XS.iconst X0.here hx rfl (hb hby d16_2) k') ?_
    show Go p e below s _ _ _ (s₁.setTop (mkF m 3 #[.val (.ref aa)] [(.int (1 : Int32)), (.int (0 : Int32))]))
    refine Go.st (fun _ k' => XS.icmpYes X0.here hx rfl (pc0 := 3) (pc' := 18) rfl (hb hby d16_3) rfl (XT.ii_ne_t (by decide)) (by decide) (by decide) k') ?_
    show Go p e below s _ _ _ (s₁.setTop (mkF m 18 #[.val (.ref aa)] []))
    refine Go.st (fun _ k' => XS.iconst X0.here hx rfl (hb hby d16_18) k') ?_
    show Go p e below s _ _ _ (s₁.setTop (mkF m 19 #[.val (.ref aa)] [(.int (0 : Int32))]))
    refine Go.retB X0 hx hlk (t := .boolean) Bd.returns (by simp) (hb hby d16_19) (by decide) (by decide) e0 ?_
    exact ⟨(by simp [nar]), N0, rfl⟩
  · have v3 : Arv Z h0 aa ka .char (1 : Int32) [(.int pa)] (.int (0 : Int32)) := Va
    show Go p e below s _ _ _ (s₁.setTop (mkF m 0 #[.val (.ref aa)] []))
    refine Go.st (fun _ k' => XS.aloadN X0.here hx rfl (hb hby d16_0) rfl rfl k') ?_
    show Go p e below s _ _ _ (s₁.setTop (mkF m 1 #[.val (.ref aa)] [(.ref aa)]))
    obtain ⟨cl4, Ar4, qc4, Sz4, Nn4, Ha4, Gf4⟩ := id v3
    refine Go.st (fun _ k' => X0.arraylength hx (by rw [e0]; exact Ar4.1) (State.isArrayOf_alike hZ.alike Ar4.2.1) (g := (mkF m 1 #[.val (.ref aa)] [(.ref aa)])) rfl rfl (hb hby d16_1) _ k') ?_
    rw [len_of Sz4 Nn4]
    show Go p e below s _ _ _ (s₁.setTop (mkF m 2 #[.val (.ref aa)] [(.int (1 : Int32))]))
    refine Go.st (fun _ k' => XS.iconst X0.here hx rfl (hb hby d16_2) k') ?_
    show Go p e below s _ _ _ (s₁.setTop (mkF m 3 #[.val (.ref aa)] [(.int (1 : Int32)), (.int (1 : Int32))]))
    refine Go.st (fun _ k' => XS.icmpNo X0.here hx rfl (hb hby d16_3) rfl (XT.ii_ne_f (by decide)) k') ?_
    show Go p e below s _ _ _ (s₁.setTop (mkF m 6 #[.val (.ref aa)] []))
    refine Go.st (fun _ k' => XS.aloadN X0.here hx rfl (hb hby d16_6) rfl rfl k') ?_
    show Go p e below s _ _ _ (s₁.setTop (mkF m 7 #[.val (.ref aa)] [(.ref aa)]))
    refine Go.st (fun _ k' => XS.iconst X0.here hx rfl (hb hby d16_7) k') ?_
    show Go p e below s _ _ _ (s₁.setTop (mkF m 8 #[.val (.ref aa)] [(.int (0 : Int32)), (.ref aa)]))
    obtain ⟨cl5, Ar5, qc5, Sz5, Nn5, Ha5, Gf5⟩ := id v3
    refine Go.st (fun _ k' => X0.caload hx (j := (0 : Int32)) (v := (.int pa)) (by rw [e0]; exact Ar5.1) (State.isArrayOf_alike hZ.alike Ar5.2.1) Ar5.2.2 (inb_of Sz5 ⟨by decide, by decide⟩) (Ha5.at (inb_of Sz5 ⟨by decide, by decide⟩) rfl) (g := (mkF m 8 #[.val (.ref aa)] [(.int (0 : Int32)), (.ref aa)])) rfl rfl (hb hby d16_8) _ k') ?_
    show Go p e below s _ _ _ (s₁.setTop (mkF m 9 #[.val (.ref aa)] [(.int pa)]))
    refine Go.st (fun _ k' => XS.bipush X0.here hx rfl (hb hby d16_9) k') ?_
    show Go p e below s _ _ _ (s₁.setTop (mkF m 11 #[.val (.ref aa)] [(.int (37 : Int32)), (.int pa)]))
    by_cases hc6 : pa = (37 : Int32)
    · refine Go.st (fun _ k' => XS.icmpNo X0.here hx rfl (hb hby d16_11) rfl (XT.ii_ne_f hc6) k') ?_
      show Go p e below s _ _ _ (s₁.setTop (mkF m 14 #[.val (.ref aa)] []))
      refine Go.st (fun _ k' => XS.iconst X0.here hx rfl (hb hby d16_14) k') ?_
      show Go p e below s _ _ _ (s₁.setTop (mkF m 15 #[.val (.ref aa)] [(.int (1 : Int32))]))
      refine Go.st (fun _ k' => XS.goto X0.here hx rfl (pc0 := 15) (pc' := 19) rfl (hb hby d16_15) (by decide) (by decide) k') ?_
      show Go p e below s _ _ _ (s₁.setTop (mkF m 19 #[.val (.ref aa)] [(.int (1 : Int32))]))
      refine Go.retB X0 hx hlk (t := .boolean) Bd.returns (by simp) (hb hby d16_19) (by decide) (by decide) e0 ?_
      exact ⟨(by simp [nar, hc6]), N0, rfl⟩
    · refine Go.st (fun _ k' => XS.icmpYes X0.here hx rfl (pc0 := 11) (pc' := 18) rfl (hb hby d16_11) rfl (XT.ii_ne_t hc6) (by decide) (by decide) k') ?_
      show Go p e below s _ _ _ (s₁.setTop (mkF m 18 #[.val (.ref aa)] []))
      refine Go.st (fun _ k' => XS.iconst X0.here hx rfl (hb hby d16_18) k') ?_
      show Go p e below s _ _ _ (s₁.setTop (mkF m 19 #[.val (.ref aa)] [(.int (0 : Int32))]))
      refine Go.retB X0 hx hlk (t := .boolean) Bd.returns (by simp) (hb hby d16_19) (by decide) (by decide) e0 ?_
      exact ⟨(by simp [nar, hc6]), N0, rfl⟩
  · have v7 : Arv Z h0 aa ka .char (2 : Int32) [(.int pa), (.int qa)] (.int (0 : Int32)) := Va
    show Go p e below s _ _ _ (s₁.setTop (mkF m 0 #[.val (.ref aa)] []))
    refine Go.st (fun _ k' => XS.aloadN X0.here hx rfl (hb hby d16_0) rfl rfl k') ?_
    show Go p e below s _ _ _ (s₁.setTop (mkF m 1 #[.val (.ref aa)] [(.ref aa)]))
    obtain ⟨cl8, Ar8, qc8, Sz8, Nn8, Ha8, Gf8⟩ := id v7
    refine Go.st (fun _ k' => X0.arraylength hx (by rw [e0]; exact Ar8.1) (State.isArrayOf_alike hZ.alike Ar8.2.1) (g := (mkF m 1 #[.val (.ref aa)] [(.ref aa)])) rfl rfl (hb hby d16_1) _ k') ?_
    rw [len_of Sz8 Nn8]
    show Go p e below s _ _ _ (s₁.setTop (mkF m 2 #[.val (.ref aa)] [(.int (2 : Int32))]))
    refine Go.st (fun _ k' => XS.iconst X0.here hx rfl (hb hby d16_2) k') ?_
    show Go p e below s _ _ _ (s₁.setTop (mkF m 3 #[.val (.ref aa)] [(.int (1 : Int32)), (.int (2 : Int32))]))
    refine Go.st (fun _ k' => XS.icmpYes X0.here hx rfl (pc0 := 3) (pc' := 18) rfl (hb hby d16_3) rfl (XT.ii_ne_t (by decide)) (by decide) (by decide) k') ?_
    show Go p e below s _ _ _ (s₁.setTop (mkF m 18 #[.val (.ref aa)] []))
    refine Go.st (fun _ k' => XS.iconst X0.here hx rfl (hb hby d16_18) k') ?_
    show Go p e below s _ _ _ (s₁.setTop (mkF m 19 #[.val (.ref aa)] [(.int (0 : Int32))]))
    refine Go.retB X0 hx hlk (t := .boolean) Bd.returns (by simp) (hb hby d16_19) (by decide) (by decide) e0 ?_
    exact ⟨(by simp [nar]), N0, rfl⟩
theorem d17_0 : decode method_5_code 0 = .ok (.aload_n 0, 1) := by decide +kernel
theorem d17_1 : decode method_5_code 1 = .ok (.arraylength, 1) := by decide +kernel
theorem d17_2 : decode method_5_code 2 = .ok (.aload_n 1, 1) := by decide +kernel
theorem d17_3 : decode method_5_code 3 = .ok (.arraylength, 1) := by decide +kernel
theorem d17_4 : decode method_5_code 4 = .ok (.if_icmp .ne 37, 3) := by decide +kernel
theorem d17_7 : decode method_5_code 7 = .ok (.aload_n 0, 1) := by decide +kernel
theorem d17_8 : decode method_5_code 8 = .ok (.arraylength, 1) := by decide +kernel
theorem d17_9 : decode method_5_code 9 = .ok (.iconst 1, 1) := by decide +kernel
theorem d17_10 : decode method_5_code 10 = .ok (.if_icmp .lt 12, 3) := by decide +kernel
theorem d17_22 : decode method_5_code 22 = .ok (.aload_n 0, 1) := by decide +kernel
theorem d17_23 : decode method_5_code 23 = .ok (.arraylength, 1) := by decide +kernel
theorem d17_24 : decode method_5_code 24 = .ok (.iconst 2, 1) := by decide +kernel
theorem d17_25 : decode method_5_code 25 = .ok (.if_icmp .lt 12, 3) := by decide +kernel
theorem d17_37 : decode method_5_code 37 = .ok (.iconst 1, 1) := by decide +kernel
theorem d17_38 : decode method_5_code 38 = .ok (.goto 4, 3) := by decide +kernel
theorem d17_42 : decode method_5_code 42 = .ok (.ireturn, 1) := by decide +kernel
theorem d17_41 : decode method_5_code 41 = .ok (.iconst 0, 1) := by decide +kernel
theorem d17_13 : decode method_5_code 13 = .ok (.aload_n 0, 1) := by decide +kernel
theorem d17_14 : decode method_5_code 14 = .ok (.iconst 0, 1) := by decide +kernel
theorem d17_15 : decode method_5_code 15 = .ok (.caload, 1) := by decide +kernel
theorem d17_16 : decode method_5_code 16 = .ok (.aload_n 1, 1) := by decide +kernel
theorem d17_17 : decode method_5_code 17 = .ok (.iconst 0, 1) := by decide +kernel
theorem d17_18 : decode method_5_code 18 = .ok (.caload, 1) := by decide +kernel
theorem d17_19 : decode method_5_code 19 = .ok (.if_icmp .ne 22, 3) := by decide +kernel
theorem d17_28 : decode method_5_code 28 = .ok (.aload_n 0, 1) := by decide +kernel
theorem d17_29 : decode method_5_code 29 = .ok (.iconst 1, 1) := by decide +kernel
theorem d17_30 : decode method_5_code 30 = .ok (.caload, 1) := by decide +kernel
theorem d17_31 : decode method_5_code 31 = .ok (.aload_n 1, 1) := by decide +kernel
theorem d17_32 : decode method_5_code 32 = .ok (.iconst 1, 1) := by decide +kernel
theorem d17_33 : decode method_5_code 33 = .ok (.caload, 1) := by decide +kernel
theorem d17_34 : decode method_5_code 34 = .ok (.if_icmp .ne 7, 3) := by decide +kernel
theorem ef_rm17 (m : MethodId) (aa : Addr) (ab : Addr) : entryFrame m #[(.ref aa), (.ref ab)] 2 = mkF m 0 #[.val (.ref aa), .val (.ref ab)] [] := by first | (simp [entryFrame, mkF, argsToLocals, Value.category]; done) | rfl
def Q17 (Z : State) (aa : Addr) (ab : Addr) (ka : ClassId) (la : List Int32) (kb : ClassId) (lb : List Int32) (h0 : Heap) (n0 : Nat) (v : Option Value) (h : Heap) (L : List Loc) : Prop := v = some (.int (if la = lb then (1 : Int32) else 0)) ∧ Fr n0 L ∧ h = h0
set_option maxRecDepth 65536 in
set_option maxHeartbeats 40000000 in
theorem rm17 (l : Launch) (Z : State) (a0 : Array Value) (hw : ∀ d ∈ tables_1, d.before a0 Z = true) (ws : List Jvm.Cond) (aa : Addr) (ab : Addr) (ka : ClassId) (la : List Int32) (kb : ClassId) (lb : List Int32) (h0 : Heap) (n0 : Nat) (O0 : Old Z n0 h0) (Va : Arv Z h0 aa ka .char (Int32.ofNat (List.length la)) (List.map Value.int la) (.int (0 : Int32))) (Vb : Arv Z h0 ab kb .char (Int32.ofNat (List.length lb)) (List.map Value.int lb) (.int (0 : Int32))) (q_la : la.length ≤ 2) (q_lb : lb.length ≤ 2) :
    MetFree l (⟨"com/example/indenture/indenture/model/IdentifierMatchesPinLaw", "same", "([C[C)Z"⟩ : MethodName) (head1 (Jvm.Cond.code (⟨"com/example/indenture/indenture/model/IdentifierMatchesPinLaw", "same", "([C[C)Z"⟩ : MethodName) method_5_code 2 (some .boolean) :: ws) ({ frames := 0, cells := 0, slots := 0, locals := 0 } : Room)) (fun ay U => ay = #[(.ref aa), (.ref ab)] ∧ Z.Warmed39 U.vm ∧ U.heap = h0) (fun _ _ _ _ _ => True) (fun _ U o U' => ∃ v L, o = .returned v ∧ Q17 Z aa ab ka la kb lb h0 n0 v U'.heap L ∧ FrameEnd U o U' L ({ frames := 0, cells := 0, slots := 0, locals := 0 } : Room).cells ({ frames := 0, cells := 0, slots := 0, locals := 0 } : Room).slots) := by
  refine MetFree.of_bodySF (plainFor_of_name pn_com_example_indenture_indenture_model_IdentifierMatchesPinLaw) hisR ?_
  intro p e s m args below meth c s₁ Bd hml0 hP hK
  obtain ⟨rfl, hZ, hh⟩ := hP
  have hx := Bd.exec
  have hby := Bd.bytes
  have hlk : meth.locks = false := BodyLoose.notSynchronized Bd
  have hml : c.maxLocals = 2 := hml0
  have hown : s.vm.findClass "com/example/indenture/indenture/model/IdentifierMatchesPinLaw" = some m.cls := findClass_of_methodNamed Bd.named
  have hnm := (name_of_methodNamed Bd.named Bd.method).1
  have X0 : Stand p l e ({ frames := 0, cells := 0, slots := 0, locals := 0 } : Room) s m #[(.ref aa), (.ref ab)] below meth c s₁ [] 0 0 := Stand.of_body Bd
  have e0 : s₁.heap = h0 := by rw [← hh, Bd.state]; rfl
  have N0 := Fr.nil n0
  suffices hgo : Go p e below s 0 0 (Q17 Z aa ab ka la kb lb h0 n0) (s₁.setTop (mkF m 0 #[.val (.ref aa), .val (.ref ab)] [])) by
    obtain ⟨t, o, h1, h2⟩ := hgo; exact ⟨t, o, castTop (ef_rm17 m aa ab) h1, h2⟩
  show Go p e below s _ _ _ (s₁.setTop (mkF m 0 #[.val (.ref aa), .val (.ref ab)] []))
  rcases own_l2 la q_la with rfl | ⟨pa, rfl⟩ | ⟨pa, qa, rfl⟩
  · have v1 : Arv Z h0 aa ka .char (0 : Int32) [] (.int (0 : Int32)) := Va
    rcases own_l2 lb q_lb with rfl | ⟨pb, rfl⟩ | ⟨pb, qb, rfl⟩
    · have v2 : Arv Z h0 ab kb .char (0 : Int32) [] (.int (0 : Int32)) := Vb
      show Go p e below s _ _ _ (s₁.setTop (mkF m 0 #[.val (.ref aa), .val (.ref ab)] []))
      refine Go.st (fun _ k' => XS.aloadN X0.here hx rfl (hb hby d17_0) rfl rfl k') ?_
      show Go p e below s _ _ _ (s₁.setTop (mkF m 1 #[.val (.ref aa), .val (.ref ab)] [(.ref aa)]))
      obtain ⟨cl3, Ar3, qc3, Sz3, Nn3, Ha3, Gf3⟩ := id v1
      refine Go.st (fun _ k' => X0.arraylength hx (by rw [e0]; exact Ar3.1) (State.isArrayOf_alike hZ.alike Ar3.2.1) (g := (mkF m 1 #[.val (.ref aa), .val (.ref ab)] [(.ref aa)])) rfl rfl (hb hby d17_1) _ k') ?_
      rw [len_of Sz3 Nn3]
      show Go p e below s _ _ _ (s₁.setTop (mkF m 2 #[.val (.ref aa), .val (.ref ab)] [(.int (0 : Int32))]))
      refine Go.st (fun _ k' => XS.aloadN X0.here hx rfl (hb hby d17_2) rfl rfl k') ?_
      show Go p e below s _ _ _ (s₁.setTop (mkF m 3 #[.val (.ref aa), .val (.ref ab)] [(.ref ab), (.int (0 : Int32))]))
      obtain ⟨cl4, Ar4, qc4, Sz4, Nn4, Ha4, Gf4⟩ := id v2
      refine Go.st (fun _ k' => X0.arraylength hx (by rw [e0]; exact Ar4.1) (State.isArrayOf_alike hZ.alike Ar4.2.1) (g := (mkF m 3 #[.val (.ref aa), .val (.ref ab)] [(.ref ab), (.int (0 : Int32))])) rfl rfl (hb hby d17_3) _ k') ?_
      rw [len_of Sz4 Nn4]
      show Go p e below s _ _ _ (s₁.setTop (mkF m 4 #[.val (.ref aa), .val (.ref ab)] [(.int (0 : Int32)), (.int (0 : Int32))]))
      refine Go.st (fun _ k' => XS.icmpNo X0.here hx rfl (hb hby d17_4) rfl (XT.ii_ne_f (by decide)) k') ?_
      show Go p e below s _ _ _ (s₁.setTop (mkF m 7 #[.val (.ref aa), .val (.ref ab)] []))
      refine Go.st (fun _ k' => XS.aloadN X0.here hx rfl (hb hby d17_7) rfl rfl k') ?_
      show Go p e below s _ _ _ (s₁.setTop (mkF m 8 #[.val (.ref aa), .val (.ref ab)] [(.ref aa)]))
      obtain ⟨cl5, Ar5, qc5, Sz5, Nn5, Ha5, Gf5⟩ := id v1
      refine Go.st (fun _ k' => X0.arraylength hx (by rw [e0]; exact Ar5.1) (State.isArrayOf_alike hZ.alike Ar5.2.1) (g := (mkF m 8 #[.val (.ref aa), .val (.ref ab)] [(.ref aa)])) rfl rfl (hb hby d17_8) _ k') ?_
      rw [len_of Sz5 Nn5]
      show Go p e below s _ _ _ (s₁.setTop (mkF m 9 #[.val (.ref aa), .val (.ref ab)] [(.int (0 : Int32))]))
      refine Go.st (fun _ k' => XS.iconst X0.here hx rfl (hb hby d17_9) k') ?_
      show Go p e below s _ _ _ (s₁.setTop (mkF m 10 #[.val (.ref aa), .val (.ref ab)] [(.int (1 : Int32)), (.int (0 : Int32))]))
      refine Go.st (fun _ k' => XS.icmpYes X0.here hx rfl (pc0 := 10) (pc' := 22) rfl (hb hby d17_10) rfl (XT.ii_lt_t (by decide)) (by decide) (by decide) k') ?_
      show Go p e below s _ _ _ (s₁.setTop (mkF m 22 #[.val (.ref aa), .val (.ref ab)] []))
      refine Go.st (fun _ k' => XS.aloadN X0.here hx rfl (hb hby d17_22) rfl rfl k') ?_
      show Go p e below s _ _ _ (s₁.setTop (mkF m 23 #[.val (.ref aa), .val (.ref ab)] [(.ref aa)]))
      obtain ⟨cl6, Ar6, qc6, Sz6, Nn6, Ha6, Gf6⟩ := id v1
      refine Go.st (fun _ k' => X0.arraylength hx (by rw [e0]; exact Ar6.1) (State.isArrayOf_alike hZ.alike Ar6.2.1) (g := (mkF m 23 #[.val (.ref aa), .val (.ref ab)] [(.ref aa)])) rfl rfl (hb hby d17_23) _ k') ?_
      rw [len_of Sz6 Nn6]
      show Go p e below s _ _ _ (s₁.setTop (mkF m 24 #[.val (.ref aa), .val (.ref ab)] [(.int (0 : Int32))]))
      refine Go.st (fun _ k' => XS.iconst X0.here hx rfl (hb hby d17_24) k') ?_
      show Go p e below s _ _ _ (s₁.setTop (mkF m 25 #[.val (.ref aa), .val (.ref ab)] [(.int (2 : Int32)), (.int (0 : Int32))]))
      refine Go.st (fun _ k' => XS.icmpYes X0.here hx rfl (pc0 := 25) (pc' := 37) rfl (hb hby d17_25) rfl (XT.ii_lt_t (by decide)) (by decide) (by decide) k') ?_
      show Go p e below s _ _ _ (s₁.setTop (mkF m 37 #[.val (.ref aa), .val (.ref ab)] []))
      refine Go.st (fun _ k' => XS.iconst X0.here hx rfl (hb hby d17_37) k') ?_
      show Go p e below s _ _ _ (s₁.setTop (mkF m 38 #[.val (.ref aa), .val (.ref ab)] [(.int (1 : Int32))]))
      refine Go.st (fun _ k' => XS.goto X0.here hx rfl (pc0 := 38) (pc' := 42) rfl (hb hby d17_38) (by decide) (by decide) k') ?_
      show Go p e below s _ _ _ (s₁.setTop (mkF m 42 #[.val (.ref aa), .val (.ref ab)] [(.int (1 : Int32))]))
      refine Go.retB X0 hx hlk (t := .boolean) Bd.returns (by simp) (hb hby d17_42) (by decide) (by decide) e0 ?_
      exact ⟨(by simp [nar]), N0, rfl⟩
    · have v7 : Arv Z h0 ab kb .char (1 : Int32) [(.int pb)] (.int (0 : Int32)) := Vb
      show Go p e below s _ _ _ (s₁.setTop (mkF m 0 #[.val (.ref aa), .val (.ref ab)] []))
      refine Go.st (fun _ k' => XS.aloadN X0.here hx rfl (hb hby d17_0) rfl rfl k') ?_
      show Go p e below s _ _ _ (s₁.setTop (mkF m 1 #[.val (.ref aa), .val (.ref ab)] [(.ref aa)]))
      obtain ⟨cl8, Ar8, qc8, Sz8, Nn8, Ha8, Gf8⟩ := id v1
      refine Go.st (fun _ k' => X0.arraylength hx (by rw [e0]; exact Ar8.1) (State.isArrayOf_alike hZ.alike Ar8.2.1) (g := (mkF m 1 #[.val (.ref aa), .val (.ref ab)] [(.ref aa)])) rfl rfl (hb hby d17_1) _ k') ?_
      rw [len_of Sz8 Nn8]
      show Go p e below s _ _ _ (s₁.setTop (mkF m 2 #[.val (.ref aa), .val (.ref ab)] [(.int (0 : Int32))]))
      refine Go.st (fun _ k' => XS.aloadN X0.here hx rfl (hb hby d17_2) rfl rfl k') ?_
      show Go p e below s _ _ _ (s₁.setTop (mkF m 3 #[.val (.ref aa), .val (.ref ab)] [(.ref ab), (.int (0 : Int32))]))
      obtain ⟨cl9, Ar9, qc9, Sz9, Nn9, Ha9, Gf9⟩ := id v7
      refine Go.st (fun _ k' => X0.arraylength hx (by rw [e0]; exact Ar9.1) (State.isArrayOf_alike hZ.alike Ar9.2.1) (g := (mkF m 3 #[.val (.ref aa), .val (.ref ab)] [(.ref ab), (.int (0 : Int32))])) rfl rfl (hb hby d17_3) _ k') ?_
      rw [len_of Sz9 Nn9]
      show Go p e below s _ _ _ (s₁.setTop (mkF m 4 #[.val (.ref aa), .val (.ref ab)] [(.int (1 : Int32)), (.int (0 : Int32))]))
      refine Go.st (fun _ k' => XS.icmpYes X0.here hx rfl (pc0 := 4) (pc' := 41) rfl (hb hby d17_4) rfl (XT.ii_ne_t (by decide)) (by decide) (by decide) k') ?_
      show Go p e below s _ _ _ (s₁.setTop (mkF m 41 #[.val (.ref aa), .val (.ref ab)] []))
      refine Go.st (fun _ k' => XS.iconst X0.here hx rfl (hb hby d17_41) k') ?_
      show Go p e below s _ _ _ (s₁.setTop (mkF m 42 #[.val (.ref aa), .val (.ref ab)] [(.int (0 : Int32))]))
      refine Go.retB X0 hx hlk (t := .boolean) Bd.returns (by simp) (hb hby d17_42) (by decide) (by decide) e0 ?_
      exact ⟨(by simp [nar]), N0, rfl⟩
    · have v10 : Arv Z h0 ab kb .char (2 : Int32) [(.int pb), (.int qb)] (.int (0 : Int32)) := Vb
      show Go p e below s _ _ _ (s₁.setTop (mkF m 0 #[.val (.ref aa), .val (.ref ab)] []))
      refine Go.st (fun _ k' => XS.aloadN X0.here hx rfl (hb hby d17_0) rfl rfl k') ?_
      show Go p e below s _ _ _ (s₁.setTop (mkF m 1 #[.val (.ref aa), .val (.ref ab)] [(.ref aa)]))
      obtain ⟨cl11, Ar11, qc11, Sz11, Nn11, Ha11, Gf11⟩ := id v1
      refine Go.st (fun _ k' => X0.arraylength hx (by rw [e0]; exact Ar11.1) (State.isArrayOf_alike hZ.alike Ar11.2.1) (g := (mkF m 1 #[.val (.ref aa), .val (.ref ab)] [(.ref aa)])) rfl rfl (hb hby d17_1) _ k') ?_
      rw [len_of Sz11 Nn11]
      show Go p e below s _ _ _ (s₁.setTop (mkF m 2 #[.val (.ref aa), .val (.ref ab)] [(.int (0 : Int32))]))
      refine Go.st (fun _ k' => XS.aloadN X0.here hx rfl (hb hby d17_2) rfl rfl k') ?_
      show Go p e below s _ _ _ (s₁.setTop (mkF m 3 #[.val (.ref aa), .val (.ref ab)] [(.ref ab), (.int (0 : Int32))]))
      obtain ⟨cl12, Ar12, qc12, Sz12, Nn12, Ha12, Gf12⟩ := id v10
      refine Go.st (fun _ k' => X0.arraylength hx (by rw [e0]; exact Ar12.1) (State.isArrayOf_alike hZ.alike Ar12.2.1) (g := (mkF m 3 #[.val (.ref aa), .val (.ref ab)] [(.ref ab), (.int (0 : Int32))])) rfl rfl (hb hby d17_3) _ k') ?_
      rw [len_of Sz12 Nn12]
      show Go p e below s _ _ _ (s₁.setTop (mkF m 4 #[.val (.ref aa), .val (.ref ab)] [(.int (2 : Int32)), (.int (0 : Int32))]))
      refine Go.st (fun _ k' => XS.icmpYes X0.here hx rfl (pc0 := 4) (pc' := 41) rfl (hb hby d17_4) rfl (XT.ii_ne_t (by decide)) (by decide) (by decide) k') ?_
      show Go p e below s _ _ _ (s₁.setTop (mkF m 41 #[.val (.ref aa), .val (.ref ab)] []))
      refine Go.st (fun _ k' => XS.iconst X0.here hx rfl (hb hby d17_41) k') ?_
      show Go p e below s _ _ _ (s₁.setTop (mkF m 42 #[.val (.ref aa), .val (.ref ab)] [(.int (0 : Int32))]))
      refine Go.retB X0 hx hlk (t := .boolean) Bd.returns (by simp) (hb hby d17_42) (by decide) (by decide) e0 ?_
      exact ⟨(by simp [nar]), N0, rfl⟩
  · have v13 : Arv Z h0 aa ka .char (1 : Int32) [(.int pa)] (.int (0 : Int32)) := Va
    rcases own_l2 lb q_lb with rfl | ⟨pb, rfl⟩ | ⟨pb, qb, rfl⟩
    · have v14 : Arv Z h0 ab kb .char (0 : Int32) [] (.int (0 : Int32)) := Vb
      show Go p e below s _ _ _ (s₁.setTop (mkF m 0 #[.val (.ref aa), .val (.ref ab)] []))
      refine Go.st (fun _ k' => XS.aloadN X0.here hx rfl (hb hby d17_0) rfl rfl k') ?_
      show Go p e below s _ _ _ (s₁.setTop (mkF m 1 #[.val (.ref aa), .val (.ref ab)] [(.ref aa)]))
      obtain ⟨cl15, Ar15, qc15, Sz15, Nn15, Ha15, Gf15⟩ := id v13
      refine Go.st (fun _ k' => X0.arraylength hx (by rw [e0]; exact Ar15.1) (State.isArrayOf_alike hZ.alike Ar15.2.1) (g := (mkF m 1 #[.val (.ref aa), .val (.ref ab)] [(.ref aa)])) rfl rfl (hb hby d17_1) _ k') ?_
      rw [len_of Sz15 Nn15]
      show Go p e below s _ _ _ (s₁.setTop (mkF m 2 #[.val (.ref aa), .val (.ref ab)] [(.int (1 : Int32))]))
      refine Go.st (fun _ k' => XS.aloadN X0.here hx rfl (hb hby d17_2) rfl rfl k') ?_
      show Go p e below s _ _ _ (s₁.setTop (mkF m 3 #[.val (.ref aa), .val (.ref ab)] [(.ref ab), (.int (1 : Int32))]))
      obtain ⟨cl16, Ar16, qc16, Sz16, Nn16, Ha16, Gf16⟩ := id v14
      refine Go.st (fun _ k' => X0.arraylength hx (by rw [e0]; exact Ar16.1) (State.isArrayOf_alike hZ.alike Ar16.2.1) (g := (mkF m 3 #[.val (.ref aa), .val (.ref ab)] [(.ref ab), (.int (1 : Int32))])) rfl rfl (hb hby d17_3) _ k') ?_
      rw [len_of Sz16 Nn16]
      show Go p e below s _ _ _ (s₁.setTop (mkF m 4 #[.val (.ref aa), .val (.ref ab)] [(.int (0 : Int32)), (.int (1 : Int32))]))
      refine Go.st (fun _ k' => XS.icmpYes X0.here hx rfl (pc0 := 4) (pc' := 41) rfl (hb hby d17_4) rfl (XT.ii_ne_t (by decide)) (by decide) (by decide) k') ?_
      show Go p e below s _ _ _ (s₁.setTop (mkF m 41 #[.val (.ref aa), .val (.ref ab)] []))
      refine Go.st (fun _ k' => XS.iconst X0.here hx rfl (hb hby d17_41) k') ?_
      show Go p e below s _ _ _ (s₁.setTop (mkF m 42 #[.val (.ref aa), .val (.ref ab)] [(.int (0 : Int32))]))
      refine Go.retB X0 hx hlk (t := .boolean) Bd.returns (by simp) (hb hby d17_42) (by decide) (by decide) e0 ?_
      exact ⟨(by simp [nar]), N0, rfl⟩
    · have v17 : Arv Z h0 ab kb .char (1 : Int32) [(.int pb)] (.int (0 : Int32)) := Vb
      show Go p e below s _ _ _ (s₁.setTop (mkF m 0 #[.val (.ref aa), .val (.ref ab)] []))
      refine Go.st (fun _ k' => XS.aloadN X0.here hx rfl (hb hby d17_0) rfl rfl k') ?_
      show Go p e below s _ _ _ (s₁.setTop (mkF m 1 #[.val (.ref aa), .val (.ref ab)] [(.ref aa)]))
      obtain ⟨cl18, Ar18, qc18, Sz18, Nn18, Ha18, Gf18⟩ := id v13
      refine Go.st (fun _ k' => X0.arraylength hx (by rw [e0]; exact Ar18.1) (State.isArrayOf_alike hZ.alike Ar18.2.1) (g := (mkF m 1 #[.val (.ref aa), .val (.ref ab)] [(.ref aa)])) rfl rfl (hb hby d17_1) _ k') ?_
      rw [len_of Sz18 Nn18]
      show Go p e below s _ _ _ (s₁.setTop (mkF m 2 #[.val (.ref aa), .val (.ref ab)] [(.int (1 : Int32))]))
      refine Go.st (fun _ k' => XS.aloadN X0.here hx rfl (hb hby d17_2) rfl rfl k') ?_
      show Go p e below s _ _ _ (s₁.setTop (mkF m 3 #[.val (.ref aa), .val (.ref ab)] [(.ref ab), (.int (1 : Int32))]))
      obtain ⟨cl19, Ar19, qc19, Sz19, Nn19, Ha19, Gf19⟩ := id v17
      refine Go.st (fun _ k' => X0.arraylength hx (by rw [e0]; exact Ar19.1) (State.isArrayOf_alike hZ.alike Ar19.2.1) (g := (mkF m 3 #[.val (.ref aa), .val (.ref ab)] [(.ref ab), (.int (1 : Int32))])) rfl rfl (hb hby d17_3) _ k') ?_
      rw [len_of Sz19 Nn19]
      show Go p e below s _ _ _ (s₁.setTop (mkF m 4 #[.val (.ref aa), .val (.ref ab)] [(.int (1 : Int32)), (.int (1 : Int32))]))
      refine Go.st (fun _ k' => XS.icmpNo X0.here hx rfl (hb hby d17_4) rfl (XT.ii_ne_f (by decide)) k') ?_
      show Go p e below s _ _ _ (s₁.setTop (mkF m 7 #[.val (.ref aa), .val (.ref ab)] []))
      refine Go.st (fun _ k' => XS.aloadN X0.here hx rfl (hb hby d17_7) rfl rfl k') ?_
      show Go p e below s _ _ _ (s₁.setTop (mkF m 8 #[.val (.ref aa), .val (.ref ab)] [(.ref aa)]))
      obtain ⟨cl20, Ar20, qc20, Sz20, Nn20, Ha20, Gf20⟩ := id v13
      refine Go.st (fun _ k' => X0.arraylength hx (by rw [e0]; exact Ar20.1) (State.isArrayOf_alike hZ.alike Ar20.2.1) (g := (mkF m 8 #[.val (.ref aa), .val (.ref ab)] [(.ref aa)])) rfl rfl (hb hby d17_8) _ k') ?_
      rw [len_of Sz20 Nn20]
      show Go p e below s _ _ _ (s₁.setTop (mkF m 9 #[.val (.ref aa), .val (.ref ab)] [(.int (1 : Int32))]))
      refine Go.st (fun _ k' => XS.iconst X0.here hx rfl (hb hby d17_9) k') ?_
      show Go p e below s _ _ _ (s₁.setTop (mkF m 10 #[.val (.ref aa), .val (.ref ab)] [(.int (1 : Int32)), (.int (1 : Int32))]))
      refine Go.st (fun _ k' => XS.icmpNo X0.here hx rfl (hb hby d17_10) rfl (XT.ii_lt_f (by decide)) k') ?_
      show Go p e below s _ _ _ (s₁.setTop (mkF m 13 #[.val (.ref aa), .val (.ref ab)] []))
      refine Go.st (fun _ k' => XS.aloadN X0.here hx rfl (hb hby d17_13) rfl rfl k') ?_
      show Go p e below s _ _ _ (s₁.setTop (mkF m 14 #[.val (.ref aa), .val (.ref ab)] [(.ref aa)]))
      refine Go.st (fun _ k' => XS.iconst X0.here hx rfl (hb hby d17_14) k') ?_
      show Go p e below s _ _ _ (s₁.setTop (mkF m 15 #[.val (.ref aa), .val (.ref ab)] [(.int (0 : Int32)), (.ref aa)]))
      obtain ⟨cl21, Ar21, qc21, Sz21, Nn21, Ha21, Gf21⟩ := id v13
      refine Go.st (fun _ k' => X0.caload hx (j := (0 : Int32)) (v := (.int pa)) (by rw [e0]; exact Ar21.1) (State.isArrayOf_alike hZ.alike Ar21.2.1) Ar21.2.2 (inb_of Sz21 ⟨by decide, by decide⟩) (Ha21.at (inb_of Sz21 ⟨by decide, by decide⟩) rfl) (g := (mkF m 15 #[.val (.ref aa), .val (.ref ab)] [(.int (0 : Int32)), (.ref aa)])) rfl rfl (hb hby d17_15) _ k') ?_
      show Go p e below s _ _ _ (s₁.setTop (mkF m 16 #[.val (.ref aa), .val (.ref ab)] [(.int pa)]))
      refine Go.st (fun _ k' => XS.aloadN X0.here hx rfl (hb hby d17_16) rfl rfl k') ?_
      show Go p e below s _ _ _ (s₁.setTop (mkF m 17 #[.val (.ref aa), .val (.ref ab)] [(.ref ab), (.int pa)]))
      refine Go.st (fun _ k' => XS.iconst X0.here hx rfl (hb hby d17_17) k') ?_
      show Go p e below s _ _ _ (s₁.setTop (mkF m 18 #[.val (.ref aa), .val (.ref ab)] [(.int (0 : Int32)), (.ref ab), (.int pa)]))
      obtain ⟨cl22, Ar22, qc22, Sz22, Nn22, Ha22, Gf22⟩ := id v17
      refine Go.st (fun _ k' => X0.caload hx (j := (0 : Int32)) (v := (.int pb)) (by rw [e0]; exact Ar22.1) (State.isArrayOf_alike hZ.alike Ar22.2.1) Ar22.2.2 (inb_of Sz22 ⟨by decide, by decide⟩) (Ha22.at (inb_of Sz22 ⟨by decide, by decide⟩) rfl) (g := (mkF m 18 #[.val (.ref aa), .val (.ref ab)] [(.int (0 : Int32)), (.ref ab), (.int pa)])) rfl rfl (hb hby d17_18) _ k') ?_
      show Go p e below s _ _ _ (s₁.setTop (mkF m 19 #[.val (.ref aa), .val (.ref ab)] [(.int pb), (.int pa)]))
      by_cases hc23 : pa = pb
      · refine Go.st (fun _ k' => XS.icmpNo X0.here hx rfl (hb hby d17_19) rfl (XT.ii_ne_f hc23) k') ?_
        show Go p e below s _ _ _ (s₁.setTop (mkF m 22 #[.val (.ref aa), .val (.ref ab)] []))
        refine Go.st (fun _ k' => XS.aloadN X0.here hx rfl (hb hby d17_22) rfl rfl k') ?_
        show Go p e below s _ _ _ (s₁.setTop (mkF m 23 #[.val (.ref aa), .val (.ref ab)] [(.ref aa)]))
        obtain ⟨cl24, Ar24, qc24, Sz24, Nn24, Ha24, Gf24⟩ := id v13
        refine Go.st (fun _ k' => X0.arraylength hx (by rw [e0]; exact Ar24.1) (State.isArrayOf_alike hZ.alike Ar24.2.1) (g := (mkF m 23 #[.val (.ref aa), .val (.ref ab)] [(.ref aa)])) rfl rfl (hb hby d17_23) _ k') ?_
        rw [len_of Sz24 Nn24]
        show Go p e below s _ _ _ (s₁.setTop (mkF m 24 #[.val (.ref aa), .val (.ref ab)] [(.int (1 : Int32))]))
        refine Go.st (fun _ k' => XS.iconst X0.here hx rfl (hb hby d17_24) k') ?_
        show Go p e below s _ _ _ (s₁.setTop (mkF m 25 #[.val (.ref aa), .val (.ref ab)] [(.int (2 : Int32)), (.int (1 : Int32))]))
        refine Go.st (fun _ k' => XS.icmpYes X0.here hx rfl (pc0 := 25) (pc' := 37) rfl (hb hby d17_25) rfl (XT.ii_lt_t (by decide)) (by decide) (by decide) k') ?_
        show Go p e below s _ _ _ (s₁.setTop (mkF m 37 #[.val (.ref aa), .val (.ref ab)] []))
        refine Go.st (fun _ k' => XS.iconst X0.here hx rfl (hb hby d17_37) k') ?_
        show Go p e below s _ _ _ (s₁.setTop (mkF m 38 #[.val (.ref aa), .val (.ref ab)] [(.int (1 : Int32))]))
        refine Go.st (fun _ k' => XS.goto X0.here hx rfl (pc0 := 38) (pc' := 42) rfl (hb hby d17_38) (by decide) (by decide) k') ?_
        show Go p e below s _ _ _ (s₁.setTop (mkF m 42 #[.val (.ref aa), .val (.ref ab)] [(.int (1 : Int32))]))
        refine Go.retB X0 hx hlk (t := .boolean) Bd.returns (by simp) (hb hby d17_42) (by decide) (by decide) e0 ?_
        exact ⟨(by simp [nar, hc23]), N0, rfl⟩
      · refine Go.st (fun _ k' => XS.icmpYes X0.here hx rfl (pc0 := 19) (pc' := 41) rfl (hb hby d17_19) rfl (XT.ii_ne_t hc23) (by decide) (by decide) k') ?_
        show Go p e below s _ _ _ (s₁.setTop (mkF m 41 #[.val (.ref aa), .val (.ref ab)] []))
        refine Go.st (fun _ k' => XS.iconst X0.here hx rfl (hb hby d17_41) k') ?_
        show Go p e below s _ _ _ (s₁.setTop (mkF m 42 #[.val (.ref aa), .val (.ref ab)] [(.int (0 : Int32))]))
        refine Go.retB X0 hx hlk (t := .boolean) Bd.returns (by simp) (hb hby d17_42) (by decide) (by decide) e0 ?_
        exact ⟨(by simp [nar, hc23]), N0, rfl⟩
    · have v25 : Arv Z h0 ab kb .char (2 : Int32) [(.int pb), (.int qb)] (.int (0 : Int32)) := Vb
      show Go p e below s _ _ _ (s₁.setTop (mkF m 0 #[.val (.ref aa), .val (.ref ab)] []))
      refine Go.st (fun _ k' => XS.aloadN X0.here hx rfl (hb hby d17_0) rfl rfl k') ?_
      show Go p e below s _ _ _ (s₁.setTop (mkF m 1 #[.val (.ref aa), .val (.ref ab)] [(.ref aa)]))
      obtain ⟨cl26, Ar26, qc26, Sz26, Nn26, Ha26, Gf26⟩ := id v13
      refine Go.st (fun _ k' => X0.arraylength hx (by rw [e0]; exact Ar26.1) (State.isArrayOf_alike hZ.alike Ar26.2.1) (g := (mkF m 1 #[.val (.ref aa), .val (.ref ab)] [(.ref aa)])) rfl rfl (hb hby d17_1) _ k') ?_
      rw [len_of Sz26 Nn26]
      show Go p e below s _ _ _ (s₁.setTop (mkF m 2 #[.val (.ref aa), .val (.ref ab)] [(.int (1 : Int32))]))
      refine Go.st (fun _ k' => XS.aloadN X0.here hx rfl (hb hby d17_2) rfl rfl k') ?_
      show Go p e below s _ _ _ (s₁.setTop (mkF m 3 #[.val (.ref aa), .val (.ref ab)] [(.ref ab), (.int (1 : Int32))]))
      obtain ⟨cl27, Ar27, qc27, Sz27, Nn27, Ha27, Gf27⟩ := id v25
      refine Go.st (fun _ k' => X0.arraylength hx (by rw [e0]; exact Ar27.1) (State.isArrayOf_alike hZ.alike Ar27.2.1) (g := (mkF m 3 #[.val (.ref aa), .val (.ref ab)] [(.ref ab), (.int (1 : Int32))])) rfl rfl (hb hby d17_3) _ k') ?_
      rw [len_of Sz27 Nn27]
      show Go p e below s _ _ _ (s₁.setTop (mkF m 4 #[.val (.ref aa), .val (.ref ab)] [(.int (2 : Int32)), (.int (1 : Int32))]))
      refine Go.st (fun _ k' => XS.icmpYes X0.here hx rfl (pc0 := 4) (pc' := 41) rfl (hb hby d17_4) rfl (XT.ii_ne_t (by decide)) (by decide) (by decide) k') ?_
      show Go p e below s _ _ _ (s₁.setTop (mkF m 41 #[.val (.ref aa), .val (.ref ab)] []))
      refine Go.st (fun _ k' => XS.iconst X0.here hx rfl (hb hby d17_41) k') ?_
      show Go p e below s _ _ _ (s₁.setTop (mkF m 42 #[.val (.ref aa), .val (.ref ab)] [(.int (0 : Int32))]))
      refine Go.retB X0 hx hlk (t := .boolean) Bd.returns (by simp) (hb hby d17_42) (by decide) (by decide) e0 ?_
      exact ⟨(by simp [nar]), N0, rfl⟩
  · have v28 : Arv Z h0 aa ka .char (2 : Int32) [(.int pa), (.int qa)] (.int (0 : Int32)) := Va
    rcases own_l2 lb q_lb with rfl | ⟨pb, rfl⟩ | ⟨pb, qb, rfl⟩
    · have v29 : Arv Z h0 ab kb .char (0 : Int32) [] (.int (0 : Int32)) := Vb
      show Go p e below s _ _ _ (s₁.setTop (mkF m 0 #[.val (.ref aa), .val (.ref ab)] []))
      refine Go.st (fun _ k' => XS.aloadN X0.here hx rfl (hb hby d17_0) rfl rfl k') ?_
      show Go p e below s _ _ _ (s₁.setTop (mkF m 1 #[.val (.ref aa), .val (.ref ab)] [(.ref aa)]))
      obtain ⟨cl30, Ar30, qc30, Sz30, Nn30, Ha30, Gf30⟩ := id v28
      refine Go.st (fun _ k' => X0.arraylength hx (by rw [e0]; exact Ar30.1) (State.isArrayOf_alike hZ.alike Ar30.2.1) (g := (mkF m 1 #[.val (.ref aa), .val (.ref ab)] [(.ref aa)])) rfl rfl (hb hby d17_1) _ k') ?_
      rw [len_of Sz30 Nn30]
      show Go p e below s _ _ _ (s₁.setTop (mkF m 2 #[.val (.ref aa), .val (.ref ab)] [(.int (2 : Int32))]))
      refine Go.st (fun _ k' => XS.aloadN X0.here hx rfl (hb hby d17_2) rfl rfl k') ?_
      show Go p e below s _ _ _ (s₁.setTop (mkF m 3 #[.val (.ref aa), .val (.ref ab)] [(.ref ab), (.int (2 : Int32))]))
      obtain ⟨cl31, Ar31, qc31, Sz31, Nn31, Ha31, Gf31⟩ := id v29
      refine Go.st (fun _ k' => X0.arraylength hx (by rw [e0]; exact Ar31.1) (State.isArrayOf_alike hZ.alike Ar31.2.1) (g := (mkF m 3 #[.val (.ref aa), .val (.ref ab)] [(.ref ab), (.int (2 : Int32))])) rfl rfl (hb hby d17_3) _ k') ?_
      rw [len_of Sz31 Nn31]
      show Go p e below s _ _ _ (s₁.setTop (mkF m 4 #[.val (.ref aa), .val (.ref ab)] [(.int (0 : Int32)), (.int (2 : Int32))]))
      refine Go.st (fun _ k' => XS.icmpYes X0.here hx rfl (pc0 := 4) (pc' := 41) rfl (hb hby d17_4) rfl (XT.ii_ne_t (by decide)) (by decide) (by decide) k') ?_
      show Go p e below s _ _ _ (s₁.setTop (mkF m 41 #[.val (.ref aa), .val (.ref ab)] []))
      refine Go.st (fun _ k' => XS.iconst X0.here hx rfl (hb hby d17_41) k') ?_
      show Go p e below s _ _ _ (s₁.setTop (mkF m 42 #[.val (.ref aa), .val (.ref ab)] [(.int (0 : Int32))]))
      refine Go.retB X0 hx hlk (t := .boolean) Bd.returns (by simp) (hb hby d17_42) (by decide) (by decide) e0 ?_
      exact ⟨(by simp [nar]), N0, rfl⟩
    · have v32 : Arv Z h0 ab kb .char (1 : Int32) [(.int pb)] (.int (0 : Int32)) := Vb
      show Go p e below s _ _ _ (s₁.setTop (mkF m 0 #[.val (.ref aa), .val (.ref ab)] []))
      refine Go.st (fun _ k' => XS.aloadN X0.here hx rfl (hb hby d17_0) rfl rfl k') ?_
      show Go p e below s _ _ _ (s₁.setTop (mkF m 1 #[.val (.ref aa), .val (.ref ab)] [(.ref aa)]))
      obtain ⟨cl33, Ar33, qc33, Sz33, Nn33, Ha33, Gf33⟩ := id v28
      refine Go.st (fun _ k' => X0.arraylength hx (by rw [e0]; exact Ar33.1) (State.isArrayOf_alike hZ.alike Ar33.2.1) (g := (mkF m 1 #[.val (.ref aa), .val (.ref ab)] [(.ref aa)])) rfl rfl (hb hby d17_1) _ k') ?_
      rw [len_of Sz33 Nn33]
      show Go p e below s _ _ _ (s₁.setTop (mkF m 2 #[.val (.ref aa), .val (.ref ab)] [(.int (2 : Int32))]))
      refine Go.st (fun _ k' => XS.aloadN X0.here hx rfl (hb hby d17_2) rfl rfl k') ?_
      show Go p e below s _ _ _ (s₁.setTop (mkF m 3 #[.val (.ref aa), .val (.ref ab)] [(.ref ab), (.int (2 : Int32))]))
      obtain ⟨cl34, Ar34, qc34, Sz34, Nn34, Ha34, Gf34⟩ := id v32
      refine Go.st (fun _ k' => X0.arraylength hx (by rw [e0]; exact Ar34.1) (State.isArrayOf_alike hZ.alike Ar34.2.1) (g := (mkF m 3 #[.val (.ref aa), .val (.ref ab)] [(.ref ab), (.int (2 : Int32))])) rfl rfl (hb hby d17_3) _ k') ?_
      rw [len_of Sz34 Nn34]
      show Go p e below s _ _ _ (s₁.setTop (mkF m 4 #[.val (.ref aa), .val (.ref ab)] [(.int (1 : Int32)), (.int (2 : Int32))]))
      refine Go.st (fun _ k' => XS.icmpYes X0.here hx rfl (pc0 := 4) (pc' := 41) rfl (hb hby d17_4) rfl (XT.ii_ne_t (by decide)) (by decide) (by decide) k') ?_
      show Go p e below s _ _ _ (s₁.setTop (mkF m 41 #[.val (.ref aa), .val (.ref ab)] []))
      refine Go.st (fun _ k' => XS.iconst X0.here hx rfl (hb hby d17_41) k') ?_
      show Go p e below s _ _ _ (s₁.setTop (mkF m 42 #[.val (.ref aa), .val (.ref ab)] [(.int (0 : Int32))]))
      refine Go.retB X0 hx hlk (t := .boolean) Bd.returns (by simp) (hb hby d17_42) (by decide) (by decide) e0 ?_
      exact ⟨(by simp [nar]), N0, rfl⟩
    · have v35 : Arv Z h0 ab kb .char (2 : Int32) [(.int pb), (.int qb)] (.int (0 : Int32)) := Vb
      show Go p e below s _ _ _ (s₁.setTop (mkF m 0 #[.val (.ref aa), .val (.ref ab)] []))
      refine Go.st (fun _ k' => XS.aloadN X0.here hx rfl (hb hby d17_0) rfl rfl k') ?_
      show Go p e below s _ _ _ (s₁.setTop (mkF m 1 #[.val (.ref aa), .val (.ref ab)] [(.ref aa)]))
      obtain ⟨cl36, Ar36, qc36, Sz36, Nn36, Ha36, Gf36⟩ := id v28
      refine Go.st (fun _ k' => X0.arraylength hx (by rw [e0]; exact Ar36.1) (State.isArrayOf_alike hZ.alike Ar36.2.1) (g := (mkF m 1 #[.val (.ref aa), .val (.ref ab)] [(.ref aa)])) rfl rfl (hb hby d17_1) _ k') ?_
      rw [len_of Sz36 Nn36]
      show Go p e below s _ _ _ (s₁.setTop (mkF m 2 #[.val (.ref aa), .val (.ref ab)] [(.int (2 : Int32))]))
      refine Go.st (fun _ k' => XS.aloadN X0.here hx rfl (hb hby d17_2) rfl rfl k') ?_
      show Go p e below s _ _ _ (s₁.setTop (mkF m 3 #[.val (.ref aa), .val (.ref ab)] [(.ref ab), (.int (2 : Int32))]))
      obtain ⟨cl37, Ar37, qc37, Sz37, Nn37, Ha37, Gf37⟩ := id v35
      refine Go.st (fun _ k' => X0.arraylength hx (by rw [e0]; exact Ar37.1) (State.isArrayOf_alike hZ.alike Ar37.2.1) (g := (mkF m 3 #[.val (.ref aa), .val (.ref ab)] [(.ref ab), (.int (2 : Int32))])) rfl rfl (hb hby d17_3) _ k') ?_
      rw [len_of Sz37 Nn37]
      show Go p e below s _ _ _ (s₁.setTop (mkF m 4 #[.val (.ref aa), .val (.ref ab)] [(.int (2 : Int32)), (.int (2 : Int32))]))
      refine Go.st (fun _ k' => XS.icmpNo X0.here hx rfl (hb hby d17_4) rfl (XT.ii_ne_f (by decide)) k') ?_
      show Go p e below s _ _ _ (s₁.setTop (mkF m 7 #[.val (.ref aa), .val (.ref ab)] []))
      refine Go.st (fun _ k' => XS.aloadN X0.here hx rfl (hb hby d17_7) rfl rfl k') ?_
      show Go p e below s _ _ _ (s₁.setTop (mkF m 8 #[.val (.ref aa), .val (.ref ab)] [(.ref aa)]))
      obtain ⟨cl38, Ar38, qc38, Sz38, Nn38, Ha38, Gf38⟩ := id v28
      refine Go.st (fun _ k' => X0.arraylength hx (by rw [e0]; exact Ar38.1) (State.isArrayOf_alike hZ.alike Ar38.2.1) (g := (mkF m 8 #[.val (.ref aa), .val (.ref ab)] [(.ref aa)])) rfl rfl (hb hby d17_8) _ k') ?_
      rw [len_of Sz38 Nn38]
      show Go p e below s _ _ _ (s₁.setTop (mkF m 9 #[.val (.ref aa), .val (.ref ab)] [(.int (2 : Int32))]))
      refine Go.st (fun _ k' => XS.iconst X0.here hx rfl (hb hby d17_9) k') ?_
      show Go p e below s _ _ _ (s₁.setTop (mkF m 10 #[.val (.ref aa), .val (.ref ab)] [(.int (1 : Int32)), (.int (2 : Int32))]))
      refine Go.st (fun _ k' => XS.icmpNo X0.here hx rfl (hb hby d17_10) rfl (XT.ii_lt_f (by decide)) k') ?_
      show Go p e below s _ _ _ (s₁.setTop (mkF m 13 #[.val (.ref aa), .val (.ref ab)] []))
      refine Go.st (fun _ k' => XS.aloadN X0.here hx rfl (hb hby d17_13) rfl rfl k') ?_
      show Go p e below s _ _ _ (s₁.setTop (mkF m 14 #[.val (.ref aa), .val (.ref ab)] [(.ref aa)]))
      refine Go.st (fun _ k' => XS.iconst X0.here hx rfl (hb hby d17_14) k') ?_
      show Go p e below s _ _ _ (s₁.setTop (mkF m 15 #[.val (.ref aa), .val (.ref ab)] [(.int (0 : Int32)), (.ref aa)]))
      obtain ⟨cl39, Ar39, qc39, Sz39, Nn39, Ha39, Gf39⟩ := id v28
      refine Go.st (fun _ k' => X0.caload hx (j := (0 : Int32)) (v := (.int pa)) (by rw [e0]; exact Ar39.1) (State.isArrayOf_alike hZ.alike Ar39.2.1) Ar39.2.2 (inb_of Sz39 ⟨by decide, by decide⟩) (Ha39.at (inb_of Sz39 ⟨by decide, by decide⟩) rfl) (g := (mkF m 15 #[.val (.ref aa), .val (.ref ab)] [(.int (0 : Int32)), (.ref aa)])) rfl rfl (hb hby d17_15) _ k') ?_
      show Go p e below s _ _ _ (s₁.setTop (mkF m 16 #[.val (.ref aa), .val (.ref ab)] [(.int pa)]))
      refine Go.st (fun _ k' => XS.aloadN X0.here hx rfl (hb hby d17_16) rfl rfl k') ?_
      show Go p e below s _ _ _ (s₁.setTop (mkF m 17 #[.val (.ref aa), .val (.ref ab)] [(.ref ab), (.int pa)]))
      refine Go.st (fun _ k' => XS.iconst X0.here hx rfl (hb hby d17_17) k') ?_
      show Go p e below s _ _ _ (s₁.setTop (mkF m 18 #[.val (.ref aa), .val (.ref ab)] [(.int (0 : Int32)), (.ref ab), (.int pa)]))
      obtain ⟨cl40, Ar40, qc40, Sz40, Nn40, Ha40, Gf40⟩ := id v35
      refine Go.st (fun _ k' => X0.caload hx (j := (0 : Int32)) (v := (.int pb)) (by rw [e0]; exact Ar40.1) (State.isArrayOf_alike hZ.alike Ar40.2.1) Ar40.2.2 (inb_of Sz40 ⟨by decide, by decide⟩) (Ha40.at (inb_of Sz40 ⟨by decide, by decide⟩) rfl) (g := (mkF m 18 #[.val (.ref aa), .val (.ref ab)] [(.int (0 : Int32)), (.ref ab), (.int pa)])) rfl rfl (hb hby d17_18) _ k') ?_
      show Go p e below s _ _ _ (s₁.setTop (mkF m 19 #[.val (.ref aa), .val (.ref ab)] [(.int pb), (.int pa)]))
      by_cases hc41 : pa = pb
      · refine Go.st (fun _ k' => XS.icmpNo X0.here hx rfl (hb hby d17_19) rfl (XT.ii_ne_f hc41) k') ?_
        show Go p e below s _ _ _ (s₁.setTop (mkF m 22 #[.val (.ref aa), .val (.ref ab)] []))
        refine Go.st (fun _ k' => XS.aloadN X0.here hx rfl (hb hby d17_22) rfl rfl k') ?_
        show Go p e below s _ _ _ (s₁.setTop (mkF m 23 #[.val (.ref aa), .val (.ref ab)] [(.ref aa)]))
        obtain ⟨cl42, Ar42, qc42, Sz42, Nn42, Ha42, Gf42⟩ := id v28
        refine Go.st (fun _ k' => X0.arraylength hx (by rw [e0]; exact Ar42.1) (State.isArrayOf_alike hZ.alike Ar42.2.1) (g := (mkF m 23 #[.val (.ref aa), .val (.ref ab)] [(.ref aa)])) rfl rfl (hb hby d17_23) _ k') ?_
        rw [len_of Sz42 Nn42]
        show Go p e below s _ _ _ (s₁.setTop (mkF m 24 #[.val (.ref aa), .val (.ref ab)] [(.int (2 : Int32))]))
        refine Go.st (fun _ k' => XS.iconst X0.here hx rfl (hb hby d17_24) k') ?_
        show Go p e below s _ _ _ (s₁.setTop (mkF m 25 #[.val (.ref aa), .val (.ref ab)] [(.int (2 : Int32)), (.int (2 : Int32))]))
        refine Go.st (fun _ k' => XS.icmpNo X0.here hx rfl (hb hby d17_25) rfl (XT.ii_lt_f (by decide)) k') ?_
        show Go p e below s _ _ _ (s₁.setTop (mkF m 28 #[.val (.ref aa), .val (.ref ab)] []))
        refine Go.st (fun _ k' => XS.aloadN X0.here hx rfl (hb hby d17_28) rfl rfl k') ?_
        show Go p e below s _ _ _ (s₁.setTop (mkF m 29 #[.val (.ref aa), .val (.ref ab)] [(.ref aa)]))
        refine Go.st (fun _ k' => XS.iconst X0.here hx rfl (hb hby d17_29) k') ?_
        show Go p e below s _ _ _ (s₁.setTop (mkF m 30 #[.val (.ref aa), .val (.ref ab)] [(.int (1 : Int32)), (.ref aa)]))
        obtain ⟨cl43, Ar43, qc43, Sz43, Nn43, Ha43, Gf43⟩ := id v28
        refine Go.st (fun _ k' => X0.caload hx (j := (1 : Int32)) (v := (.int qa)) (by rw [e0]; exact Ar43.1) (State.isArrayOf_alike hZ.alike Ar43.2.1) Ar43.2.2 (inb_of Sz43 ⟨by decide, by decide⟩) (Ha43.at (inb_of Sz43 ⟨by decide, by decide⟩) rfl) (g := (mkF m 30 #[.val (.ref aa), .val (.ref ab)] [(.int (1 : Int32)), (.ref aa)])) rfl rfl (hb hby d17_30) _ k') ?_
        show Go p e below s _ _ _ (s₁.setTop (mkF m 31 #[.val (.ref aa), .val (.ref ab)] [(.int qa)]))
        refine Go.st (fun _ k' => XS.aloadN X0.here hx rfl (hb hby d17_31) rfl rfl k') ?_
        show Go p e below s _ _ _ (s₁.setTop (mkF m 32 #[.val (.ref aa), .val (.ref ab)] [(.ref ab), (.int qa)]))
        refine Go.st (fun _ k' => XS.iconst X0.here hx rfl (hb hby d17_32) k') ?_
        show Go p e below s _ _ _ (s₁.setTop (mkF m 33 #[.val (.ref aa), .val (.ref ab)] [(.int (1 : Int32)), (.ref ab), (.int qa)]))
        obtain ⟨cl44, Ar44, qc44, Sz44, Nn44, Ha44, Gf44⟩ := id v35
        refine Go.st (fun _ k' => X0.caload hx (j := (1 : Int32)) (v := (.int qb)) (by rw [e0]; exact Ar44.1) (State.isArrayOf_alike hZ.alike Ar44.2.1) Ar44.2.2 (inb_of Sz44 ⟨by decide, by decide⟩) (Ha44.at (inb_of Sz44 ⟨by decide, by decide⟩) rfl) (g := (mkF m 33 #[.val (.ref aa), .val (.ref ab)] [(.int (1 : Int32)), (.ref ab), (.int qa)])) rfl rfl (hb hby d17_33) _ k') ?_
        show Go p e below s _ _ _ (s₁.setTop (mkF m 34 #[.val (.ref aa), .val (.ref ab)] [(.int qb), (.int qa)]))
        by_cases hc45 : qa = qb
        · refine Go.st (fun _ k' => XS.icmpNo X0.here hx rfl (hb hby d17_34) rfl (XT.ii_ne_f hc45) k') ?_
          show Go p e below s _ _ _ (s₁.setTop (mkF m 37 #[.val (.ref aa), .val (.ref ab)] []))
          refine Go.st (fun _ k' => XS.iconst X0.here hx rfl (hb hby d17_37) k') ?_
          show Go p e below s _ _ _ (s₁.setTop (mkF m 38 #[.val (.ref aa), .val (.ref ab)] [(.int (1 : Int32))]))
          refine Go.st (fun _ k' => XS.goto X0.here hx rfl (pc0 := 38) (pc' := 42) rfl (hb hby d17_38) (by decide) (by decide) k') ?_
          show Go p e below s _ _ _ (s₁.setTop (mkF m 42 #[.val (.ref aa), .val (.ref ab)] [(.int (1 : Int32))]))
          refine Go.retB X0 hx hlk (t := .boolean) Bd.returns (by simp) (hb hby d17_42) (by decide) (by decide) e0 ?_
          exact ⟨(by simp [nar, hc41, hc45]), N0, rfl⟩
        · refine Go.st (fun _ k' => XS.icmpYes X0.here hx rfl (pc0 := 34) (pc' := 41) rfl (hb hby d17_34) rfl (XT.ii_ne_t hc45) (by decide) (by decide) k') ?_
          show Go p e below s _ _ _ (s₁.setTop (mkF m 41 #[.val (.ref aa), .val (.ref ab)] []))
          refine Go.st (fun _ k' => XS.iconst X0.here hx rfl (hb hby d17_41) k') ?_
          show Go p e below s _ _ _ (s₁.setTop (mkF m 42 #[.val (.ref aa), .val (.ref ab)] [(.int (0 : Int32))]))
          refine Go.retB X0 hx hlk (t := .boolean) Bd.returns (by simp) (hb hby d17_42) (by decide) (by decide) e0 ?_
          exact ⟨(by simp [nar, hc41, hc45]), N0, rfl⟩
      · refine Go.st (fun _ k' => XS.icmpYes X0.here hx rfl (pc0 := 19) (pc' := 41) rfl (hb hby d17_19) rfl (XT.ii_ne_t hc41) (by decide) (by decide) k') ?_
        show Go p e below s _ _ _ (s₁.setTop (mkF m 41 #[.val (.ref aa), .val (.ref ab)] []))
        refine Go.st (fun _ k' => XS.iconst X0.here hx rfl (hb hby d17_41) k') ?_
        show Go p e below s _ _ _ (s₁.setTop (mkF m 42 #[.val (.ref aa), .val (.ref ab)] [(.int (0 : Int32))]))
        refine Go.retB X0 hx hlk (t := .boolean) Bd.returns (by simp) (hb hby d17_42) (by decide) (by decide) e0 ?_
        exact ⟨(by simp [nar, hc41]), N0, rfl⟩
theorem d15_0 : decode method_6_code 0 = .ok (.aload_n 0, 1) := by decide +kernel
theorem pd___C_Z : parseMethodDescriptor "([C)Z" = some ⟨[(.array .char)], some .boolean⟩ := by decide +kernel
theorem d15_1 : decode method_6_code 1 = .ok (.invokestatic 33, 3) := by decide +kernel
theorem d15_4 : decode method_6_code 4 = .ok (.ifCond .ne 11, 3) := by decide +kernel
theorem d15_7 : decode method_6_code 7 = .ok (.aload_n 0, 1) := by decide +kernel
theorem d15_8 : decode method_6_code 8 = .ok (.aload_n 1, 1) := by decide +kernel
theorem pd___C_C_Z : parseMethodDescriptor "([C[C)Z" = some ⟨[(.array .char), (.array .char)], some .boolean⟩ := by decide +kernel
theorem d15_9 : decode method_6_code 9 = .ok (.invokestatic 37, 3) := by decide +kernel
theorem d15_12 : decode method_6_code 12 = .ok (.ifCond .eq 7, 3) := by decide +kernel
theorem d15_19 : decode method_6_code 19 = .ok (.iconst 0, 1) := by decide +kernel
theorem d15_20 : decode method_6_code 20 = .ok (.ireturn, 1) := by decide +kernel
theorem d15_15 : decode method_6_code 15 = .ok (.iconst 1, 1) := by decide +kernel
theorem d15_16 : decode method_6_code 16 = .ok (.goto 4, 3) := by decide +kernel
theorem ef_rm15 (m : MethodId) (aa : Addr) (ab : Addr) : entryFrame m #[(.ref aa), (.ref ab)] 2 = mkF m 0 #[.val (.ref aa), .val (.ref ab)] [] := by first | (simp [entryFrame, mkF, argsToLocals, Value.category]; done) | rfl
def Q15 (Z : State) (aa : Addr) (ab : Addr) (ka : ClassId) (la : List Int32) (kb : ClassId) (lb : List Int32) (h0 : Heap) (n0 : Nat) (v : Option Value) (h : Heap) (L : List Loc) : Prop := v = some (.int (fm la lb)) ∧ Fr n0 L ∧ h = h0
set_option maxRecDepth 65536 in
set_option maxHeartbeats 40000000 in
theorem rm15 (l : Launch) (Z : State) (a0 : Array Value) (hw : ∀ d ∈ tables_1, d.before a0 Z = true) (ws : List Jvm.Cond) (aa : Addr) (ab : Addr) (ka : ClassId) (la : List Int32) (kb : ClassId) (lb : List Int32) (h0 : Heap) (n0 : Nat) (O0 : Old Z n0 h0) (Va : Arv Z h0 aa ka .char (Int32.ofNat (List.length la)) (List.map Value.int la) (.int (0 : Int32))) (Vb : Arv Z h0 ab kb .char (Int32.ofNat (List.length lb)) (List.map Value.int lb) (.int (0 : Int32))) (q_la : la.length ≤ 2) (q_lb : lb.length ≤ 2) :
    MetFree l (⟨"com/example/indenture/indenture/model/IdentifierMatchesPinLaw", "field", "([C[C)Z"⟩ : MethodName) (head1 (Jvm.Cond.code (⟨"com/example/indenture/indenture/model/IdentifierMatchesPinLaw", "field", "([C[C)Z"⟩ : MethodName) method_6_code 2 (some .boolean) :: ws) ({ frames := 1, cells := 0, slots := 0, locals := 13 } : Room)) (fun ay U => ay = #[(.ref aa), (.ref ab)] ∧ Z.Warmed39 U.vm ∧ U.heap = h0) (fun _ _ _ _ _ => True) (fun _ U o U' => ∃ v L, o = .returned v ∧ Q15 Z aa ab ka la kb lb h0 n0 v U'.heap L ∧ FrameEnd U o U' L ({ frames := 1, cells := 0, slots := 0, locals := 13 } : Room).cells ({ frames := 1, cells := 0, slots := 0, locals := 13 } : Room).slots) := by
  refine MetFree.of_bodySF (plainFor_of_name pn_com_example_indenture_indenture_model_IdentifierMatchesPinLaw) hisR ?_
  intro p e s m args below meth c s₁ Bd hml0 hP hK
  obtain ⟨rfl, hZ, hh⟩ := hP
  have hx := Bd.exec
  have hby := Bd.bytes
  have hlk : meth.locks = false := BodyLoose.notSynchronized Bd
  have hml : c.maxLocals = 2 := hml0
  have hown : s.vm.findClass "com/example/indenture/indenture/model/IdentifierMatchesPinLaw" = some m.cls := findClass_of_methodNamed Bd.named
  have hnm := (name_of_methodNamed Bd.named Bd.method).1
  have X0 : Stand p l e ({ frames := 1, cells := 0, slots := 0, locals := 13 } : Room) s m #[(.ref aa), (.ref ab)] below meth c s₁ [] 0 0 := Stand.of_body Bd
  have e0 : s₁.heap = h0 := by rw [← hh, Bd.state]; rfl
  have N0 := Fr.nil n0
  suffices hgo : Go p e below s 0 0 (Q15 Z aa ab ka la kb lb h0 n0) (s₁.setTop (mkF m 0 #[.val (.ref aa), .val (.ref ab)] [])) by
    obtain ⟨t, o, h1, h2⟩ := hgo; exact ⟨t, o, castTop (ef_rm15 m aa ab) h1, h2⟩
  show Go p e below s _ _ _ (s₁.setTop (mkF m 0 #[.val (.ref aa), .val (.ref ab)] []))
  refine Go.st (fun _ k' => XS.aloadN X0.here hx rfl (hb hby d15_0) rfl rfl k') ?_
  show Go p e below s _ _ _ (s₁.setTop (mkF m 1 #[.val (.ref aa), .val (.ref ab)] [(.ref aa)]))
  obtain ⟨_, _, ⟨T1, L1, k1, n1⟩, -, X1, ⟨Lc1, hQ1, l1, y1, z1⟩, st1⟩ := Jvm.LawKit.callS X0 hx (y := (⟨"com/example/indenture/indenture/model/IdentifierMatchesPinLaw", "isAny", "([C)Z"⟩ : MethodName)) hown (mvT hZ (wdx hw 88 rfl)) (mvT hZ (wdx hw 89 rfl)) (mvT hZ (wdx hw 2 rfl)) (mvT hZ (wdx hw 90 rfl)) (by decide) (backOf (W := 0) (rm16 l Z a0 hw [] aa ka la h0 n0 O0 Va q_la) hZ (wdx hw 90 rfl) (wdx hw 2 rfl) (by decide) (by decide)) (g := (mkF m 1 #[.val (.ref aa), .val (.ref ab)] [(.ref aa)])) rfl (by rw [hml]; rfl) (argsL := [(.ref aa)]) (rest := []) (lenOf pd___C_Z rfl) rfl (by show 2 * 0 + _ ≤ _; exact Nat.le_of_eq rfl) (hb hby d15_1) (fun _ _ => ⟨rfl, e0, (by exact Nat.le_of_ble_eq_true rfl), (by exact Nat.le_of_ble_eq_true rfl)⟩)
  dsimp only [Pt.U, Pt.locs, Pt.cells, Pt.slots] at X1 l1 y1 z1 st1 hQ1
  subst l1 y1 z1
  obtain ⟨rfl, Nq1, eq1⟩ := hQ1
  have N1 := Fr.app N0 Nq1
  refine Go.st st1 ?_
  show Go p e below s _ _ _ (T1.setTop (mkF m 4 #[.val (.ref aa), .val (.ref ab)] [(.int (if la = [(37 : Int32)] then (1 : Int32) else 0))]))
  by_cases hc2 : (if la = [(37 : Int32)] then (1 : Int32) else 0) = (0 : Int32)
  · refine Go.st (fun _ k' => XS.ifNo X1.here hx rfl (hb hby d15_4) rfl (XT.i0_ne_f hc2) k') ?_
    show Go p e below s _ _ _ (T1.setTop (mkF m 7 #[.val (.ref aa), .val (.ref ab)] []))
    refine Go.st (fun _ k' => XS.aloadN X1.here hx rfl (hb hby d15_7) rfl rfl k') ?_
    show Go p e below s _ _ _ (T1.setTop (mkF m 8 #[.val (.ref aa), .val (.ref ab)] [(.ref aa)]))
    refine Go.st (fun _ k' => XS.aloadN X1.here hx rfl (hb hby d15_8) rfl rfl k') ?_
    show Go p e below s _ _ _ (T1.setTop (mkF m 9 #[.val (.ref aa), .val (.ref ab)] [(.ref ab), (.ref aa)]))
    obtain ⟨_, _, ⟨T3, L3, k3, n3⟩, -, X3, ⟨Lc3, hQ3, l3, y3, z3⟩, st3⟩ := Jvm.LawKit.callS X1 hx (y := (⟨"com/example/indenture/indenture/model/IdentifierMatchesPinLaw", "same", "([C[C)Z"⟩ : MethodName)) hown (mvT hZ (wdx hw 91 rfl)) (mvT hZ (wdx hw 92 rfl)) (mvT hZ (wdx hw 2 rfl)) (mvT hZ (wdx hw 93 rfl)) (by decide) (backOf (W := 0) (rm17 l Z a0 hw [] aa ab ka la kb lb h0 n0 O0 Va Vb q_la q_lb) hZ (wdx hw 93 rfl) (wdx hw 2 rfl) (by decide) (by decide)) (g := (mkF m 9 #[.val (.ref aa), .val (.ref ab)] [(.ref ab), (.ref aa)])) rfl (by rw [hml]; rfl) (argsL := [(.ref aa), (.ref ab)]) (rest := []) (lenOf pd___C_C_Z rfl) rfl (by show 2 * 0 + _ ≤ _; exact Nat.le_of_eq rfl) (hb hby d15_9) (fun _ _ => ⟨rfl, eq1, (by exact Nat.le_of_ble_eq_true rfl), (by exact Nat.le_of_ble_eq_true rfl)⟩)
    dsimp only [Pt.U, Pt.locs, Pt.cells, Pt.slots] at X3 l3 y3 z3 st3 hQ3
    subst l3 y3 z3
    obtain ⟨rfl, Nq3, eq3⟩ := hQ3
    have N3 := Fr.app N1 Nq3
    refine Go.st st3 ?_
    show Go p e below s _ _ _ (T3.setTop (mkF m 12 #[.val (.ref aa), .val (.ref ab)] [(.int (if la = lb then (1 : Int32) else 0))]))
    by_cases hc4 : (if la = lb then (1 : Int32) else 0) = (0 : Int32)
    · refine Go.st (fun _ k' => XS.ifYes X3.here hx rfl (pc0 := 12) (pc' := 19) rfl (hb hby d15_12) rfl (XT.i0_eq_t hc4) (by decide) (by decide) k') ?_
      show Go p e below s _ _ _ (T3.setTop (mkF m 19 #[.val (.ref aa), .val (.ref ab)] []))
      refine Go.st (fun _ k' => XS.iconst X3.here hx rfl (hb hby d15_19) k') ?_
      show Go p e below s _ _ _ (T3.setTop (mkF m 20 #[.val (.ref aa), .val (.ref ab)] [(.int (0 : Int32))]))
      refine Go.retB X3 hx hlk (t := .boolean) Bd.returns (by simp) (hb hby d15_20) (by decide) (by decide) eq3 ?_
      exact ⟨(by have z0 := hc2; have z1 := hc4; simp_all [fm, nar]), N3, rfl⟩
    · refine Go.st (fun _ k' => XS.ifNo X3.here hx rfl (hb hby d15_12) rfl (XT.i0_eq_f hc4) k') ?_
      show Go p e below s _ _ _ (T3.setTop (mkF m 15 #[.val (.ref aa), .val (.ref ab)] []))
      refine Go.st (fun _ k' => XS.iconst X3.here hx rfl (hb hby d15_15) k') ?_
      show Go p e below s _ _ _ (T3.setTop (mkF m 16 #[.val (.ref aa), .val (.ref ab)] [(.int (1 : Int32))]))
      refine Go.st (fun _ k' => XS.goto X3.here hx rfl (pc0 := 16) (pc' := 20) rfl (hb hby d15_16) (by decide) (by decide) k') ?_
      show Go p e below s _ _ _ (T3.setTop (mkF m 20 #[.val (.ref aa), .val (.ref ab)] [(.int (1 : Int32))]))
      refine Go.retB X3 hx hlk (t := .boolean) Bd.returns (by simp) (hb hby d15_20) (by decide) (by decide) eq3 ?_
      exact ⟨(by have z0 := hc2; have z1 := hc4; simp_all [fm, nar]), N3, rfl⟩
  · refine Go.st (fun _ k' => XS.ifYes X1.here hx rfl (pc0 := 4) (pc' := 15) rfl (hb hby d15_4) rfl (XT.i0_ne_t hc2) (by decide) (by decide) k') ?_
    show Go p e below s _ _ _ (T1.setTop (mkF m 15 #[.val (.ref aa), .val (.ref ab)] []))
    refine Go.st (fun _ k' => XS.iconst X1.here hx rfl (hb hby d15_15) k') ?_
    show Go p e below s _ _ _ (T1.setTop (mkF m 16 #[.val (.ref aa), .val (.ref ab)] [(.int (1 : Int32))]))
    refine Go.st (fun _ k' => XS.goto X1.here hx rfl (pc0 := 16) (pc' := 20) rfl (hb hby d15_16) (by decide) (by decide) k') ?_
    show Go p e below s _ _ _ (T1.setTop (mkF m 20 #[.val (.ref aa), .val (.ref ab)] [(.int (1 : Int32))]))
    refine Go.retB X1 hx hlk (t := .boolean) Bd.returns (by simp) (hb hby d15_20) (by decide) (by decide) eq1 ?_
    exact ⟨(by have z0 := hc2; simp_all [fm, nar]), N1, rfl⟩
theorem d8_0 : decode prog_23_method_1_code 0 = .ok (.aload_n 0, 1) := by decide +kernel
theorem pd___V : parseMethodDescriptor "()V" = some ⟨[], none⟩ := by decide +kernel
theorem d8_1 : decode prog_23_method_1_code 1 = .ok (.invokespecial 1, 3) := by decide +kernel
theorem d8_4 : decode prog_23_method_1_code 4 = .ok (.aload_n 1, 1) := by decide +kernel
theorem d8_5 : decode prog_23_method_1_code 5 = .ok (.ldc 7, 2) := by decide +kernel
theorem pd__Ljava_lang_Object_Ljava_lang_String__Ljava_lang_Object_ : parseMethodDescriptor "(Ljava/lang/Object;Ljava/lang/String;)Ljava/lang/Object;" = some ⟨[(.object "java/lang/Object"), (.object "java/lang/String")], some (.object "java/lang/Object")⟩ := by decide +kernel
theorem d8_7 : decode prog_23_method_1_code 7 = .ok (.invokestatic 9, 3) := by decide +kernel
theorem d8_10 : decode prog_23_method_1_code 10 = .ok (.pop, 1) := by decide +kernel
theorem d8_11 : decode prog_23_method_1_code 11 = .ok (.aload_n 2, 1) := by decide +kernel
theorem d8_12 : decode prog_23_method_1_code 12 = .ok (.ldc 15, 2) := by decide +kernel
theorem d8_14 : decode prog_23_method_1_code 14 = .ok (.invokestatic 9, 3) := by decide +kernel
theorem d8_17 : decode prog_23_method_1_code 17 = .ok (.pop, 1) := by decide +kernel
theorem d8_18 : decode prog_23_method_1_code 18 = .ok (.aload_n 3, 1) := by decide +kernel
theorem d8_19 : decode prog_23_method_1_code 19 = .ok (.ldc 17, 2) := by decide +kernel
theorem d8_21 : decode prog_23_method_1_code 21 = .ok (.invokestatic 9, 3) := by decide +kernel
theorem d8_24 : decode prog_23_method_1_code 24 = .ok (.pop, 1) := by decide +kernel
theorem d8_25 : decode prog_23_method_1_code 25 = .ok (.aload 4, 2) := by decide +kernel
theorem d8_27 : decode prog_23_method_1_code 27 = .ok (.ldc 19, 2) := by decide +kernel
theorem d8_29 : decode prog_23_method_1_code 29 = .ok (.invokestatic 9, 3) := by decide +kernel
theorem d8_32 : decode prog_23_method_1_code 32 = .ok (.pop, 1) := by decide +kernel
theorem d8_33 : decode prog_23_method_1_code 33 = .ok (.aload_n 0, 1) := by decide +kernel
theorem d8_34 : decode prog_23_method_1_code 34 = .ok (.aload_n 1, 1) := by decide +kernel
theorem d8_35 : decode prog_23_method_1_code 35 = .ok (.putfield 21, 3) := by decide +kernel
theorem d8_38 : decode prog_23_method_1_code 38 = .ok (.aload_n 0, 1) := by decide +kernel
theorem d8_39 : decode prog_23_method_1_code 39 = .ok (.aload_n 2, 1) := by decide +kernel
theorem d8_40 : decode prog_23_method_1_code 40 = .ok (.putfield 26, 3) := by decide +kernel
theorem d8_43 : decode prog_23_method_1_code 43 = .ok (.aload_n 0, 1) := by decide +kernel
theorem d8_44 : decode prog_23_method_1_code 44 = .ok (.aload_n 3, 1) := by decide +kernel
theorem d8_45 : decode prog_23_method_1_code 45 = .ok (.putfield 28, 3) := by decide +kernel
theorem d8_48 : decode prog_23_method_1_code 48 = .ok (.aload_n 0, 1) := by decide +kernel
theorem d8_49 : decode prog_23_method_1_code 49 = .ok (.aload 4, 2) := by decide +kernel
theorem d8_51 : decode prog_23_method_1_code 51 = .ok (.putfield 30, 3) := by decide +kernel
theorem d8_54 : decode prog_23_method_1_code 54 = .ok (.return_, 1) := by decide +kernel
theorem pn_com_example_indenture_indenture_model_Identifier : plainName "com/example/indenture/indenture/model/Identifier" = true := by first | (simp [plainName, overriddenIn]; done) | decide +kernel
theorem ef_rm8 (m : MethodId) (ob : Addr) (sg : Addr) (sa : Addr) (sb : Addr) (sc : Addr) : entryFrame m #[(.ref ob), (.ref sg), (.ref sa), (.ref sb), (.ref sc)] 5 = mkF m 0 #[.val (.ref ob), .val (.ref sg), .val (.ref sa), .val (.ref sb), .val (.ref sc)] [] := by first | (simp [entryFrame, mkF, argsToLocals, Value.category]; done) | rfl
def Q8 (Z : State) (ob : Addr) (sg : Addr) (sa : Addr) (sb : Addr) (sc : Addr) (h0 : Heap) (n0 : Nat) (v : Option Value) (h : Heap) (L : List Loc) : Prop := v = none ∧ Fr n0 L ∧ Keep h0 h [ob] ∧ Fld Z h ob "com/example/indenture/indenture/model/Identifier" "id" "Ljava/lang/String;" (.ref sg) ∧ Fld Z h ob "com/example/indenture/indenture/model/Identifier" "sourceType" "Ljava/lang/String;" (.ref sa) ∧ Fld Z h ob "com/example/indenture/indenture/model/Identifier" "category" "Ljava/lang/String;" (.ref sb) ∧ Fld Z h ob "com/example/indenture/indenture/model/Identifier" "subcategory" "Ljava/lang/String;" (.ref sc)
set_option maxRecDepth 65536 in
set_option maxHeartbeats 40000000 in
theorem rm8 (l : Launch) (Z : State) (a0 : Array Value) (hw : ∀ d ∈ tables_1, d.before a0 Z = true) (ws : List Jvm.Cond) (ob : Addr) (sg : Addr) (sa : Addr) (sb : Addr) (sc : Addr) (h0 : Heap) (n0 : Nat) (O0 : Old Z n0 h0) (E_o : Exa Z h0 ob "com/example/indenture/indenture/model/Identifier") (Fid : Fld Z h0 ob "com/example/indenture/indenture/model/Identifier" "id" "Ljava/lang/String;" .null) (FsourceType : Fld Z h0 ob "com/example/indenture/indenture/model/Identifier" "sourceType" "Ljava/lang/String;" .null) (Fcategory : Fld Z h0 ob "com/example/indenture/indenture/model/Identifier" "category" "Ljava/lang/String;" .null) (Fsubcategory : Fld Z h0 ob "com/example/indenture/indenture/model/Identifier" "subcategory" "Ljava/lang/String;" .null) (g_o : n0 ≤ ob) :
    MetFree l (⟨"com/example/indenture/indenture/model/Identifier", "<init>", "(Ljava/lang/String;Ljava/lang/String;Ljava/lang/String;Ljava/lang/String;)V"⟩ : MethodName) (head1 (Jvm.Cond.code (⟨"com/example/indenture/indenture/model/Identifier", "<init>", "(Ljava/lang/String;Ljava/lang/String;Ljava/lang/String;Ljava/lang/String;)V"⟩ : MethodName) prog_23_method_1_code 5 none :: ws) ({ frames := 2, cells := 8, slots := 140, locals := 24 } : Room)) (fun ay U => ay = #[(.ref ob), (.ref sg), (.ref sa), (.ref sb), (.ref sc)] ∧ Z.Warmed39 U.vm ∧ U.heap = h0 ∧ CHv Z EL U.vm h0 ∧ ∀ y ∈ ([ob] : List Addr), Safe Z EL U.vm h0 y) (fun _ _ _ _ _ => True) (fun _ U o U' => ∃ v L, o = .returned v ∧ Q8 Z ob sg sa sb sc h0 n0 v U'.heap L ∧ CHr Z EL U.vm U.heap U'.vm U'.heap ∧ ReturnedEndW U o U' L ({ frames := 2, cells := 8, slots := 140, locals := 24 } : Room).cells ({ frames := 2, cells := 8, slots := 140, locals := 24 } : Room).slots) := by
  refine MetFree.of_bodySF (plainFor_of_name pn_com_example_indenture_indenture_model_Identifier) hisR ?_
  intro p e s m args below meth c s₁ Bd hml0 hP hK
  obtain ⟨rfl, hZ, hh, hCH, hSf⟩ := hP
  have hx := Bd.exec
  have hby := Bd.bytes
  have hlk : meth.locks = false := BodyLoose.notSynchronized Bd
  have hml : c.maxLocals = 5 := hml0
  have hown : s.vm.findClass "com/example/indenture/indenture/model/Identifier" = some m.cls := findClass_of_methodNamed Bd.named
  have hnm := (name_of_methodNamed Bd.named Bd.method).1
  have X0 : Stand p l e ({ frames := 2, cells := 8, slots := 140, locals := 24 } : Room) (s.setVm s.vm) m #[(.ref ob), (.ref sg), (.ref sa), (.ref sb), (.ref sc)] below meth c s₁ [] 0 0 := Stand.of_body Bd
  have e0 : s₁.heap = h0 := by rw [← hh, Bd.state]; rfl
  have N0 := Fr.nil n0
  have hS0 : s.Since s.vm 0 := (State.WarmedH.refl s).since 0
  have hk0 : 0 ≤ h0.size := Nat.zero_le _
  have CH0 : CHr Z EL s.vm s.heap s.vm h0 := by rw [hh]; exact CHr.refl hCH
  have hEL : EW Z a0 EL := own_EW hw
  have hwS := own_wS hw
  suffices hgo : GoW p e below s 8 140 Z EL (Q8 Z ob sg sa sb sc h0 n0) (s₁.setTop (mkF m 0 #[.val (.ref ob), .val (.ref sg), .val (.ref sa), .val (.ref sb), .val (.ref sc)] [])) by
    obtain ⟨t, o, h1, h2⟩ := hgo; exact ⟨t, o, castTop (ef_rm8 m ob sg sa sb sc) h1, h2⟩
  show GoW p e below s _ _ _ _ _ (s₁.setTop (mkF m 0 #[.val (.ref ob), .val (.ref sg), .val (.ref sa), .val (.ref sb), .val (.ref sc)] []))
  refine GoW.st (fun _ k' => XS.aloadN X0.here hx rfl (hb hby d8_0) rfl rfl k') ?_
  show GoW p e below s _ _ _ _ _ (s₁.setTop (mkF m 1 #[.val (.ref ob), .val (.ref sg), .val (.ref sa), .val (.ref sb), .val (.ref sc)] [(.ref ob)]))
  obtain ⟨_, _, ⟨T1, L1, k1, n1⟩, -, X1, ⟨Lc1, hQ1, l1, y1, z1⟩, st1⟩ := X0.specialBack hx (y := (⟨"java/lang/Record", "<init>", "()V"⟩ : MethodName)) rfl hown (mvT hZ (wdx hw 44 rfl)) (mvT hZ (wdx hw 45 rfl)) (mvT hZ (wdx hw 48 rfl)) (by decide) (backOf (W := 0) (rm9 l Z a0 hw [] ob h0 n0 O0 ) hZ (wdx hw 48 rfl) (wdx hw 47 rfl) (by decide) (by decide)) (g := (mkF m 1 #[.val (.ref ob), .val (.ref sg), .val (.ref sa), .val (.ref sb), .val (.ref sc)] [(.ref ob)])) rfl (by rw [hml]; rfl) (Steps.refl _) (a := ob) (argsL := []) (rest := []) (lenOf pd___V rfl) rfl (by show 2 * 0 + _ ≤ _; exact Nat.le_of_eq rfl) (hb hby d8_1) (fun _ _ => ⟨rfl, e0, (by exact Nat.le_of_ble_eq_true rfl), (by exact Nat.le_of_ble_eq_true rfl)⟩)
  dsimp only [Pt.U, Pt.locs, Pt.cells, Pt.slots] at X1 l1 y1 z1 st1 hQ1
  subst l1 y1 z1
  obtain ⟨rfl, Nq1, eq1⟩ := hQ1
  have N1 := Fr.app N0 Nq1
  refine GoW.tr st1 ?_
  show GoW p e below s _ _ _ _ _ (T1.setTop (mkF m 4 #[.val (.ref ob), .val (.ref sg), .val (.ref sa), .val (.ref sb), .val (.ref sc)] []))
  refine GoW.st (fun _ k' => XS.aloadN X1.here hx rfl (hb hby d8_4) rfl rfl k') ?_
  show GoW p e below s _ _ _ _ _ (T1.setTop (mkF m 5 #[.val (.ref ob), .val (.ref sg), .val (.ref sa), .val (.ref sb), .val (.ref sc)] [(.ref sg)]))
  obtain ⟨a2, T2, h2, q2, X2, e2, E2, hS2, hk2, hZ2, hown2, C2, -, st2⟩ := ldcOH X1 hx hZ hown (wdx hw 50 rfl) hwS eq1 hS0 hk0 hEL CH0.1 (g := (mkF m 5 #[.val (.ref ob), .val (.ref sg), .val (.ref sa), .val (.ref sb), .val (.ref sc)] [(.ref sg)])) rfl (hb hby d8_5) (n := 8) (by decide) (by decide) (by decide) (by decide)
  refine GoW.st st2 ?_
  have f3 : Exa Z h2 ob "com/example/indenture/indenture/model/Identifier" := E_o.ext E2
  have f4 : Fld Z h2 ob "com/example/indenture/indenture/model/Identifier" "id" "Ljava/lang/String;" .null := Fid.ext E2
  have f5 : Fld Z h2 ob "com/example/indenture/indenture/model/Identifier" "sourceType" "Ljava/lang/String;" .null := FsourceType.ext E2
  have f6 : Fld Z h2 ob "com/example/indenture/indenture/model/Identifier" "category" "Ljava/lang/String;" .null := Fcategory.ext E2
  have f7 : Fld Z h2 ob "com/example/indenture/indenture/model/Identifier" "subcategory" "Ljava/lang/String;" .null := Fsubcategory.ext E2
  have f8 : Safe Z EL T2.vm h2 ob := C2.safe E_o.lt (hSf ob (List.mem_of_getElem? (i := 0) rfl))
  have CH2 : CHr Z EL s.vm s.heap T2.vm h2 := CH0.trans C2
  have O2 : Old Z n0 h2 := O0.ext E2
  have K2 : Keep h0 h2 [ob] := (Keep.refl h0 [ob]).ext E2
  show GoW p e below s _ _ _ _ _ (T2.setTop (mkF m 7 #[.val (.ref ob), .val (.ref sg), .val (.ref sa), .val (.ref sb), .val (.ref sc)] [(.ref a2), (.ref sg)]))
  obtain ⟨_, _, ⟨T9, L9, k9, n9⟩, -, X9, ⟨Lc9, hQ9, l9, y9, z9⟩, st9⟩ := Jvm.LawKit.callS X2 hx (y := (⟨"java/util/Objects", "requireNonNull", "(Ljava/lang/Object;Ljava/lang/String;)Ljava/lang/Object;"⟩ : MethodName)) hown2 (mvT hZ2 (wdx hw 51 rfl)) (mvT hZ2 (wdx hw 52 rfl)) (mvT hZ2 (wdx hw 53 rfl)) (mvT hZ2 (wdx hw 54 rfl)) (by decide) (backOf (W := 0) (rm10 l Z a0 hw [] sg a2 h2 n0 O2 ) hZ2 (wdx hw 54 rfl) (wdx hw 53 rfl) (by decide) (by decide)) (g := (mkF m 7 #[.val (.ref ob), .val (.ref sg), .val (.ref sa), .val (.ref sb), .val (.ref sc)] [(.ref a2), (.ref sg)])) rfl (by rw [hml]; rfl) (argsL := [(.ref sg), (.ref a2)]) (rest := []) (lenOf pd__Ljava_lang_Object_Ljava_lang_String__Ljava_lang_Object_ rfl) rfl (by show 2 * 0 + _ ≤ _; exact Nat.le_of_eq rfl) (hb hby d8_7) (fun _ _ => ⟨rfl, e2, (by exact Nat.le_of_ble_eq_true rfl), (by exact Nat.le_of_ble_eq_true rfl)⟩)
  dsimp only [Pt.U, Pt.locs, Pt.cells, Pt.slots] at X9 l9 y9 z9 st9 hQ9
  subst l9 y9 z9
  obtain ⟨rfl, Nq9, eq9⟩ := hQ9
  have N9 := Fr.app N1 Nq9
  refine GoW.st st9 ?_
  show GoW p e below s _ _ _ _ _ (T9.setTop (mkF m 10 #[.val (.ref ob), .val (.ref sg), .val (.ref sa), .val (.ref sb), .val (.ref sc)] [(.ref sg)]))
  refine GoW.st (fun _ k' => XS.pop X9.here hx rfl (hb hby d8_10) rfl rfl k') ?_
  show GoW p e below s _ _ _ _ _ (T9.setTop (mkF m 11 #[.val (.ref ob), .val (.ref sg), .val (.ref sa), .val (.ref sb), .val (.ref sc)] []))
  refine GoW.st (fun _ k' => XS.aloadN X9.here hx rfl (hb hby d8_11) rfl rfl k') ?_
  show GoW p e below s _ _ _ _ _ (T9.setTop (mkF m 12 #[.val (.ref ob), .val (.ref sg), .val (.ref sa), .val (.ref sb), .val (.ref sc)] [(.ref sa)]))
  obtain ⟨a10, T10, h10, q10, X10, e10, E10, hS10, hk10, hZ10, hown10, C10, -, st10⟩ := ldcOH X9 hx hZ2 hown2 (wdx hw 55 rfl) hwS eq9 hS2 hk2 hEL CH2.1 (g := (mkF m 12 #[.val (.ref ob), .val (.ref sg), .val (.ref sa), .val (.ref sb), .val (.ref sc)] [(.ref sa)])) rfl (hb hby d8_12) (n := 40) (by decide) (by decide) (by decide) (by decide)
  refine GoW.st st10 ?_
  have f11 : Exa Z h10 ob "com/example/indenture/indenture/model/Identifier" := f3.ext E10
  have f12 : Fld Z h10 ob "com/example/indenture/indenture/model/Identifier" "id" "Ljava/lang/String;" .null := f4.ext E10
  have f13 : Fld Z h10 ob "com/example/indenture/indenture/model/Identifier" "sourceType" "Ljava/lang/String;" .null := f5.ext E10
  have f14 : Fld Z h10 ob "com/example/indenture/indenture/model/Identifier" "category" "Ljava/lang/String;" .null := f6.ext E10
  have f15 : Fld Z h10 ob "com/example/indenture/indenture/model/Identifier" "subcategory" "Ljava/lang/String;" .null := f7.ext E10
  have f16 : Safe Z EL T10.vm h10 ob := C10.safe f3.lt f8
  have CH10 : CHr Z EL s.vm s.heap T10.vm h10 := CH2.trans C10
  have O10 : Old Z n0 h10 := O2.ext E10
  have K10 : Keep h0 h10 [ob] := K2.ext E10
  show GoW p e below s _ _ _ _ _ (T10.setTop (mkF m 14 #[.val (.ref ob), .val (.ref sg), .val (.ref sa), .val (.ref sb), .val (.ref sc)] [(.ref a10), (.ref sa)]))
  obtain ⟨_, _, ⟨T17, L17, k17, n17⟩, -, X17, ⟨Lc17, hQ17, l17, y17, z17⟩, st17⟩ := Jvm.LawKit.callS X10 hx (y := (⟨"java/util/Objects", "requireNonNull", "(Ljava/lang/Object;Ljava/lang/String;)Ljava/lang/Object;"⟩ : MethodName)) hown10 (mvT hZ10 (wdx hw 51 rfl)) (mvT hZ10 (wdx hw 52 rfl)) (mvT hZ10 (wdx hw 53 rfl)) (mvT hZ10 (wdx hw 54 rfl)) (by decide) (backOf (W := 0) (rm10 l Z a0 hw [] sa a10 h10 n0 O10 ) hZ10 (wdx hw 54 rfl) (wdx hw 53 rfl) (by decide) (by decide)) (g := (mkF m 14 #[.val (.ref ob), .val (.ref sg), .val (.ref sa), .val (.ref sb), .val (.ref sc)] [(.ref a10), (.ref sa)])) rfl (by rw [hml]; rfl) (argsL := [(.ref sa), (.ref a10)]) (rest := []) (lenOf pd__Ljava_lang_Object_Ljava_lang_String__Ljava_lang_Object_ rfl) rfl (by show 2 * 0 + _ ≤ _; exact Nat.le_of_eq rfl) (hb hby d8_14) (fun _ _ => ⟨rfl, e10, (by exact Nat.le_of_ble_eq_true rfl), (by exact Nat.le_of_ble_eq_true rfl)⟩)
  dsimp only [Pt.U, Pt.locs, Pt.cells, Pt.slots] at X17 l17 y17 z17 st17 hQ17
  subst l17 y17 z17
  obtain ⟨rfl, Nq17, eq17⟩ := hQ17
  have N17 := Fr.app N9 Nq17
  refine GoW.st st17 ?_
  show GoW p e below s _ _ _ _ _ (T17.setTop (mkF m 17 #[.val (.ref ob), .val (.ref sg), .val (.ref sa), .val (.ref sb), .val (.ref sc)] [(.ref sa)]))
  refine GoW.st (fun _ k' => XS.pop X17.here hx rfl (hb hby d8_17) rfl rfl k') ?_
  show GoW p e below s _ _ _ _ _ (T17.setTop (mkF m 18 #[.val (.ref ob), .val (.ref sg), .val (.ref sa), .val (.ref sb), .val (.ref sc)] []))
  refine GoW.st (fun _ k' => XS.aloadN X17.here hx rfl (hb hby d8_18) rfl rfl k') ?_
  show GoW p e below s _ _ _ _ _ (T17.setTop (mkF m 19 #[.val (.ref ob), .val (.ref sg), .val (.ref sa), .val (.ref sb), .val (.ref sc)] [(.ref sb)]))
  obtain ⟨a18, T18, h18, q18, X18, e18, E18, hS18, hk18, hZ18, hown18, C18, -, st18⟩ := ldcOH X17 hx hZ10 hown10 (wdx hw 56 rfl) hwS eq17 hS10 hk10 hEL CH10.1 (g := (mkF m 19 #[.val (.ref ob), .val (.ref sg), .val (.ref sa), .val (.ref sb), .val (.ref sc)] [(.ref sb)])) rfl (hb hby d8_19) (n := 32) (by decide) (by decide) (by decide) (by decide)
  refine GoW.st st18 ?_
  have f19 : Exa Z h18 ob "com/example/indenture/indenture/model/Identifier" := f11.ext E18
  have f20 : Fld Z h18 ob "com/example/indenture/indenture/model/Identifier" "id" "Ljava/lang/String;" .null := f12.ext E18
  have f21 : Fld Z h18 ob "com/example/indenture/indenture/model/Identifier" "sourceType" "Ljava/lang/String;" .null := f13.ext E18
  have f22 : Fld Z h18 ob "com/example/indenture/indenture/model/Identifier" "category" "Ljava/lang/String;" .null := f14.ext E18
  have f23 : Fld Z h18 ob "com/example/indenture/indenture/model/Identifier" "subcategory" "Ljava/lang/String;" .null := f15.ext E18
  have f24 : Safe Z EL T18.vm h18 ob := C18.safe f11.lt f16
  have CH18 : CHr Z EL s.vm s.heap T18.vm h18 := CH10.trans C18
  have O18 : Old Z n0 h18 := O10.ext E18
  have K18 : Keep h0 h18 [ob] := K10.ext E18
  show GoW p e below s _ _ _ _ _ (T18.setTop (mkF m 21 #[.val (.ref ob), .val (.ref sg), .val (.ref sa), .val (.ref sb), .val (.ref sc)] [(.ref a18), (.ref sb)]))
  obtain ⟨_, _, ⟨T25, L25, k25, n25⟩, -, X25, ⟨Lc25, hQ25, l25, y25, z25⟩, st25⟩ := Jvm.LawKit.callS X18 hx (y := (⟨"java/util/Objects", "requireNonNull", "(Ljava/lang/Object;Ljava/lang/String;)Ljava/lang/Object;"⟩ : MethodName)) hown18 (mvT hZ18 (wdx hw 51 rfl)) (mvT hZ18 (wdx hw 52 rfl)) (mvT hZ18 (wdx hw 53 rfl)) (mvT hZ18 (wdx hw 54 rfl)) (by decide) (backOf (W := 0) (rm10 l Z a0 hw [] sb a18 h18 n0 O18 ) hZ18 (wdx hw 54 rfl) (wdx hw 53 rfl) (by decide) (by decide)) (g := (mkF m 21 #[.val (.ref ob), .val (.ref sg), .val (.ref sa), .val (.ref sb), .val (.ref sc)] [(.ref a18), (.ref sb)])) rfl (by rw [hml]; rfl) (argsL := [(.ref sb), (.ref a18)]) (rest := []) (lenOf pd__Ljava_lang_Object_Ljava_lang_String__Ljava_lang_Object_ rfl) rfl (by show 2 * 0 + _ ≤ _; exact Nat.le_of_eq rfl) (hb hby d8_21) (fun _ _ => ⟨rfl, e18, (by exact Nat.le_of_ble_eq_true rfl), (by exact Nat.le_of_ble_eq_true rfl)⟩)
  dsimp only [Pt.U, Pt.locs, Pt.cells, Pt.slots] at X25 l25 y25 z25 st25 hQ25
  subst l25 y25 z25
  obtain ⟨rfl, Nq25, eq25⟩ := hQ25
  have N25 := Fr.app N17 Nq25
  refine GoW.st st25 ?_
  show GoW p e below s _ _ _ _ _ (T25.setTop (mkF m 24 #[.val (.ref ob), .val (.ref sg), .val (.ref sa), .val (.ref sb), .val (.ref sc)] [(.ref sb)]))
  refine GoW.st (fun _ k' => XS.pop X25.here hx rfl (hb hby d8_24) rfl rfl k') ?_
  show GoW p e below s _ _ _ _ _ (T25.setTop (mkF m 25 #[.val (.ref ob), .val (.ref sg), .val (.ref sa), .val (.ref sb), .val (.ref sc)] []))
  refine GoW.st (fun _ k' => XS.aload X25.here hx rfl (hb hby d8_25) rfl rfl k') ?_
  show GoW p e below s _ _ _ _ _ (T25.setTop (mkF m 27 #[.val (.ref ob), .val (.ref sg), .val (.ref sa), .val (.ref sb), .val (.ref sc)] [(.ref sc)]))
  obtain ⟨a26, T26, h26, q26, X26, e26, E26, hS26, hk26, hZ26, hown26, C26, -, st26⟩ := ldcOH X25 hx hZ18 hown18 (wdx hw 57 rfl) hwS eq25 hS18 hk18 hEL CH18.1 (g := (mkF m 27 #[.val (.ref ob), .val (.ref sg), .val (.ref sa), .val (.ref sb), .val (.ref sc)] [(.ref sc)])) rfl (hb hby d8_27) (n := 44) (by decide) (by decide) (by decide) (by decide)
  refine GoW.st st26 ?_
  have f27 : Exa Z h26 ob "com/example/indenture/indenture/model/Identifier" := f19.ext E26
  have f28 : Fld Z h26 ob "com/example/indenture/indenture/model/Identifier" "id" "Ljava/lang/String;" .null := f20.ext E26
  have f29 : Fld Z h26 ob "com/example/indenture/indenture/model/Identifier" "sourceType" "Ljava/lang/String;" .null := f21.ext E26
  have f30 : Fld Z h26 ob "com/example/indenture/indenture/model/Identifier" "category" "Ljava/lang/String;" .null := f22.ext E26
  have f31 : Fld Z h26 ob "com/example/indenture/indenture/model/Identifier" "subcategory" "Ljava/lang/String;" .null := f23.ext E26
  have f32 : Safe Z EL T26.vm h26 ob := C26.safe f19.lt f24
  have CH26 : CHr Z EL s.vm s.heap T26.vm h26 := CH18.trans C26
  have O26 : Old Z n0 h26 := O18.ext E26
  have K26 : Keep h0 h26 [ob] := K18.ext E26
  show GoW p e below s _ _ _ _ _ (T26.setTop (mkF m 29 #[.val (.ref ob), .val (.ref sg), .val (.ref sa), .val (.ref sb), .val (.ref sc)] [(.ref a26), (.ref sc)]))
  obtain ⟨_, _, ⟨T33, L33, k33, n33⟩, -, X33, ⟨Lc33, hQ33, l33, y33, z33⟩, st33⟩ := Jvm.LawKit.callS X26 hx (y := (⟨"java/util/Objects", "requireNonNull", "(Ljava/lang/Object;Ljava/lang/String;)Ljava/lang/Object;"⟩ : MethodName)) hown26 (mvT hZ26 (wdx hw 51 rfl)) (mvT hZ26 (wdx hw 52 rfl)) (mvT hZ26 (wdx hw 53 rfl)) (mvT hZ26 (wdx hw 54 rfl)) (by decide) (backOf (W := 0) (rm10 l Z a0 hw [] sc a26 h26 n0 O26 ) hZ26 (wdx hw 54 rfl) (wdx hw 53 rfl) (by decide) (by decide)) (g := (mkF m 29 #[.val (.ref ob), .val (.ref sg), .val (.ref sa), .val (.ref sb), .val (.ref sc)] [(.ref a26), (.ref sc)])) rfl (by rw [hml]; rfl) (argsL := [(.ref sc), (.ref a26)]) (rest := []) (lenOf pd__Ljava_lang_Object_Ljava_lang_String__Ljava_lang_Object_ rfl) rfl (by show 2 * 0 + _ ≤ _; exact Nat.le_of_eq rfl) (hb hby d8_29) (fun _ _ => ⟨rfl, e26, (by exact Nat.le_of_ble_eq_true rfl), (by exact Nat.le_of_ble_eq_true rfl)⟩)
  dsimp only [Pt.U, Pt.locs, Pt.cells, Pt.slots] at X33 l33 y33 z33 st33 hQ33
  subst l33 y33 z33
  obtain ⟨rfl, Nq33, eq33⟩ := hQ33
  have N33 := Fr.app N25 Nq33
  refine GoW.st st33 ?_
  show GoW p e below s _ _ _ _ _ (T33.setTop (mkF m 32 #[.val (.ref ob), .val (.ref sg), .val (.ref sa), .val (.ref sb), .val (.ref sc)] [(.ref sc)]))
  refine GoW.st (fun _ k' => XS.pop X33.here hx rfl (hb hby d8_32) rfl rfl k') ?_
  show GoW p e below s _ _ _ _ _ (T33.setTop (mkF m 33 #[.val (.ref ob), .val (.ref sg), .val (.ref sa), .val (.ref sb), .val (.ref sc)] []))
  refine GoW.st (fun _ k' => XS.aloadN X33.here hx rfl (hb hby d8_33) rfl rfl k') ?_
  show GoW p e below s _ _ _ _ _ (T33.setTop (mkF m 34 #[.val (.ref ob), .val (.ref sg), .val (.ref sa), .val (.ref sb), .val (.ref sc)] [(.ref ob)]))
  refine GoW.st (fun _ k' => XS.aloadN X33.here hx rfl (hb hby d8_34) rfl rfl k') ?_
  show GoW p e below s _ _ _ _ _ (T33.setTop (mkF m 35 #[.val (.ref ob), .val (.ref sg), .val (.ref sa), .val (.ref sb), .val (.ref sc)] [(.ref sg), (.ref ob)]))
  obtain ⟨T34, h34, X34, e34, W34, st34⟩ := putF X33 hx hZ26 hown26 (host := "") (Or.inl (wdx hw 58 rfl)) Via.refl eq33 f28 f27 (Or.inr ⟨(wdx hw 59 rfl), rfl, hnm⟩) (wdx hw 6 rfl) (ty := (.object "java/lang/String")) (by decide) rfl rfl (g := (mkF m 35 #[.val (.ref ob), .val (.ref sg), .val (.ref sa), .val (.ref sb), .val (.ref sc)] [(.ref sg), (.ref ob)])) rfl rfl (hb hby d8_35)
  refine GoW.st st34 ?_
  have f35 : Exa Z h34 ob "com/example/indenture/indenture/model/Identifier" := f27.wr W34
  have f36 : Fld Z h34 ob "com/example/indenture/indenture/model/Identifier" "id" "Ljava/lang/String;" (.ref sg) := f28.same W34
  have f37 : Fld Z h34 ob "com/example/indenture/indenture/model/Identifier" "sourceType" "Ljava/lang/String;" .null := f29.other W34 (Or.inr (slot_ne (Or.inr (wdx hw 61 rfl)) (Or.inr (wdx hw 59 rfl)) (by decide) (t := (.object "java/lang/String")) (t' := (.object "java/lang/String")) (by decide) (by decide)))
  have f38 : Fld Z h34 ob "com/example/indenture/indenture/model/Identifier" "category" "Ljava/lang/String;" .null := f30.other W34 (Or.inr (slot_ne (Or.inr (wdx hw 63 rfl)) (Or.inr (wdx hw 59 rfl)) (by decide) (t := (.object "java/lang/String")) (t' := (.object "java/lang/String")) (by decide) (by decide)))
  have f39 : Fld Z h34 ob "com/example/indenture/indenture/model/Identifier" "subcategory" "Ljava/lang/String;" .null := f31.other W34 (Or.inr (slot_ne (Or.inr (wdx hw 65 rfl)) (Or.inr (wdx hw 59 rfl)) (by decide) (t := (.object "java/lang/String")) (t' := (.object "java/lang/String")) (by decide) (by decide)))
  have f40 : Safe Z EL T26.vm h34 ob := Safe.wr W34 f32 CH26.1 f32
  have CH34 : CHr Z EL s.vm s.heap T26.vm h34 := CH26.trans (CHr.wr W34 f32 CH26.1)
  have hk34 : q26 ≤ Array.size h34 := Nat.le_trans hk26 (Keep.of_wr W34).1
  have O34 : Old Z n0 h34 := O26.wr W34 g_o
  have N34 := Fr.snoc X34 N33 g_o
  have K34 : Keep h0 h34 [ob] := K26.wr W34 (Or.inl (by simp))
  show GoW p e below s _ _ _ _ _ (T34.setTop (mkF m 38 #[.val (.ref ob), .val (.ref sg), .val (.ref sa), .val (.ref sb), .val (.ref sc)] []))
  refine GoW.st (fun _ k' => XS.aloadN X34.here hx rfl (hb hby d8_38) rfl rfl k') ?_
  show GoW p e below s _ _ _ _ _ (T34.setTop (mkF m 39 #[.val (.ref ob), .val (.ref sg), .val (.ref sa), .val (.ref sb), .val (.ref sc)] [(.ref ob)]))
  refine GoW.st (fun _ k' => XS.aloadN X34.here hx rfl (hb hby d8_39) rfl rfl k') ?_
  show GoW p e below s _ _ _ _ _ (T34.setTop (mkF m 40 #[.val (.ref ob), .val (.ref sg), .val (.ref sa), .val (.ref sb), .val (.ref sc)] [(.ref sa), (.ref ob)]))
  obtain ⟨T41, h41, X41, e41, W41, st41⟩ := putF X34 hx hZ26 hown26 (host := "") (Or.inl (wdx hw 60 rfl)) Via.refl e34 f37 f35 (Or.inr ⟨(wdx hw 61 rfl), rfl, hnm⟩) (wdx hw 6 rfl) (ty := (.object "java/lang/String")) (by decide) rfl rfl (g := (mkF m 40 #[.val (.ref ob), .val (.ref sg), .val (.ref sa), .val (.ref sb), .val (.ref sc)] [(.ref sa), (.ref ob)])) rfl rfl (hb hby d8_40)
  refine GoW.st st41 ?_
  have f42 : Exa Z h41 ob "com/example/indenture/indenture/model/Identifier" := f35.wr W41
  have f43 : Fld Z h41 ob "com/example/indenture/indenture/model/Identifier" "id" "Ljava/lang/String;" (.ref sg) := f36.other W41 (Or.inr (slot_ne (Or.inr (wdx hw 59 rfl)) (Or.inr (wdx hw 61 rfl)) (by decide) (t := (.object "java/lang/String")) (t' := (.object "java/lang/String")) (by decide) (by decide)))
  have f44 : Fld Z h41 ob "com/example/indenture/indenture/model/Identifier" "sourceType" "Ljava/lang/String;" (.ref sa) := f37.same W41
  have f45 : Fld Z h41 ob "com/example/indenture/indenture/model/Identifier" "category" "Ljava/lang/String;" .null := f38.other W41 (Or.inr (slot_ne (Or.inr (wdx hw 63 rfl)) (Or.inr (wdx hw 61 rfl)) (by decide) (t := (.object "java/lang/String")) (t' := (.object "java/lang/String")) (by decide) (by decide)))
  have f46 : Fld Z h41 ob "com/example/indenture/indenture/model/Identifier" "subcategory" "Ljava/lang/String;" .null := f39.other W41 (Or.inr (slot_ne (Or.inr (wdx hw 65 rfl)) (Or.inr (wdx hw 61 rfl)) (by decide) (t := (.object "java/lang/String")) (t' := (.object "java/lang/String")) (by decide) (by decide)))
  have f47 : Safe Z EL T26.vm h41 ob := Safe.wr W41 f40 CH34.1 f40
  have CH41 : CHr Z EL s.vm s.heap T26.vm h41 := CH34.trans (CHr.wr W41 f40 CH34.1)
  have hk41 : q26 ≤ Array.size h41 := Nat.le_trans hk34 (Keep.of_wr W41).1
  have O41 : Old Z n0 h41 := O34.wr W41 g_o
  have N41 := Fr.snoc X41 N34 g_o
  have K41 : Keep h0 h41 [ob] := K34.wr W41 (Or.inl (by simp))
  show GoW p e below s _ _ _ _ _ (T41.setTop (mkF m 43 #[.val (.ref ob), .val (.ref sg), .val (.ref sa), .val (.ref sb), .val (.ref sc)] []))
  refine GoW.st (fun _ k' => XS.aloadN X41.here hx rfl (hb hby d8_43) rfl rfl k') ?_
  show GoW p e below s _ _ _ _ _ (T41.setTop (mkF m 44 #[.val (.ref ob), .val (.ref sg), .val (.ref sa), .val (.ref sb), .val (.ref sc)] [(.ref ob)]))
  refine GoW.st (fun _ k' => XS.aloadN X41.here hx rfl (hb hby d8_44) rfl rfl k') ?_
  show GoW p e below s _ _ _ _ _ (T41.setTop (mkF m 45 #[.val (.ref ob), .val (.ref sg), .val (.ref sa), .val (.ref sb), .val (.ref sc)] [(.ref sb), (.ref ob)]))
  obtain ⟨T48, h48, X48, e48, W48, st48⟩ := putF X41 hx hZ26 hown26 (host := "") (Or.inl (wdx hw 62 rfl)) Via.refl e41 f45 f42 (Or.inr ⟨(wdx hw 63 rfl), rfl, hnm⟩) (wdx hw 6 rfl) (ty := (.object "java/lang/String")) (by decide) rfl rfl (g := (mkF m 45 #[.val (.ref ob), .val (.ref sg), .val (.ref sa), .val (.ref sb), .val (.ref sc)] [(.ref sb), (.ref ob)])) rfl rfl (hb hby d8_45)
  refine GoW.st st48 ?_
  have f49 : Exa Z h48 ob "com/example/indenture/indenture/model/Identifier" := f42.wr W48
  have f50 : Fld Z h48 ob "com/example/indenture/indenture/model/Identifier" "id" "Ljava/lang/String;" (.ref sg) := f43.other W48 (Or.inr (slot_ne (Or.inr (wdx hw 59 rfl)) (Or.inr (wdx hw 63 rfl)) (by decide) (t := (.object "java/lang/String")) (t' := (.object "java/lang/String")) (by decide) (by decide)))
  have f51 : Fld Z h48 ob "com/example/indenture/indenture/model/Identifier" "sourceType" "Ljava/lang/String;" (.ref sa) := f44.other W48 (Or.inr (slot_ne (Or.inr (wdx hw 61 rfl)) (Or.inr (wdx hw 63 rfl)) (by decide) (t := (.object "java/lang/String")) (t' := (.object "java/lang/String")) (by decide) (by decide)))
  have f52 : Fld Z h48 ob "com/example/indenture/indenture/model/Identifier" "category" "Ljava/lang/String;" (.ref sb) := f45.same W48
  have f53 : Fld Z h48 ob "com/example/indenture/indenture/model/Identifier" "subcategory" "Ljava/lang/String;" .null := f46.other W48 (Or.inr (slot_ne (Or.inr (wdx hw 65 rfl)) (Or.inr (wdx hw 63 rfl)) (by decide) (t := (.object "java/lang/String")) (t' := (.object "java/lang/String")) (by decide) (by decide)))
  have f54 : Safe Z EL T26.vm h48 ob := Safe.wr W48 f47 CH41.1 f47
  have CH48 : CHr Z EL s.vm s.heap T26.vm h48 := CH41.trans (CHr.wr W48 f47 CH41.1)
  have hk48 : q26 ≤ Array.size h48 := Nat.le_trans hk41 (Keep.of_wr W48).1
  have O48 : Old Z n0 h48 := O41.wr W48 g_o
  have N48 := Fr.snoc X48 N41 g_o
  have K48 : Keep h0 h48 [ob] := K41.wr W48 (Or.inl (by simp))
  show GoW p e below s _ _ _ _ _ (T48.setTop (mkF m 48 #[.val (.ref ob), .val (.ref sg), .val (.ref sa), .val (.ref sb), .val (.ref sc)] []))
  refine GoW.st (fun _ k' => XS.aloadN X48.here hx rfl (hb hby d8_48) rfl rfl k') ?_
  show GoW p e below s _ _ _ _ _ (T48.setTop (mkF m 49 #[.val (.ref ob), .val (.ref sg), .val (.ref sa), .val (.ref sb), .val (.ref sc)] [(.ref ob)]))
  refine GoW.st (fun _ k' => XS.aload X48.here hx rfl (hb hby d8_49) rfl rfl k') ?_
  show GoW p e below s _ _ _ _ _ (T48.setTop (mkF m 51 #[.val (.ref ob), .val (.ref sg), .val (.ref sa), .val (.ref sb), .val (.ref sc)] [(.ref sc), (.ref ob)]))
  obtain ⟨T55, h55, X55, e55, W55, st55⟩ := putF X48 hx hZ26 hown26 (host := "") (Or.inl (wdx hw 64 rfl)) Via.refl e48 f53 f49 (Or.inr ⟨(wdx hw 65 rfl), rfl, hnm⟩) (wdx hw 6 rfl) (ty := (.object "java/lang/String")) (by decide) rfl rfl (g := (mkF m 51 #[.val (.ref ob), .val (.ref sg), .val (.ref sa), .val (.ref sb), .val (.ref sc)] [(.ref sc), (.ref ob)])) rfl rfl (hb hby d8_51)
  refine GoW.st st55 ?_
  have f56 : Exa Z h55 ob "com/example/indenture/indenture/model/Identifier" := f49.wr W55
  have f57 : Fld Z h55 ob "com/example/indenture/indenture/model/Identifier" "id" "Ljava/lang/String;" (.ref sg) := f50.other W55 (Or.inr (slot_ne (Or.inr (wdx hw 59 rfl)) (Or.inr (wdx hw 65 rfl)) (by decide) (t := (.object "java/lang/String")) (t' := (.object "java/lang/String")) (by decide) (by decide)))
  have f58 : Fld Z h55 ob "com/example/indenture/indenture/model/Identifier" "sourceType" "Ljava/lang/String;" (.ref sa) := f51.other W55 (Or.inr (slot_ne (Or.inr (wdx hw 61 rfl)) (Or.inr (wdx hw 65 rfl)) (by decide) (t := (.object "java/lang/String")) (t' := (.object "java/lang/String")) (by decide) (by decide)))
  have f59 : Fld Z h55 ob "com/example/indenture/indenture/model/Identifier" "category" "Ljava/lang/String;" (.ref sb) := f52.other W55 (Or.inr (slot_ne (Or.inr (wdx hw 63 rfl)) (Or.inr (wdx hw 65 rfl)) (by decide) (t := (.object "java/lang/String")) (t' := (.object "java/lang/String")) (by decide) (by decide)))
  have f60 : Fld Z h55 ob "com/example/indenture/indenture/model/Identifier" "subcategory" "Ljava/lang/String;" (.ref sc) := f53.same W55
  have f61 : Safe Z EL T26.vm h55 ob := Safe.wr W55 f54 CH48.1 f54
  have CH55 : CHr Z EL s.vm s.heap T26.vm h55 := CH48.trans (CHr.wr W55 f54 CH48.1)
  have hk55 : q26 ≤ Array.size h55 := Nat.le_trans hk48 (Keep.of_wr W55).1
  have O55 : Old Z n0 h55 := O48.wr W55 g_o
  have N55 := Fr.snoc X55 N48 g_o
  have K55 : Keep h0 h55 [ob] := K48.wr W55 (Or.inl (by simp))
  show GoW p e below s _ _ _ _ _ (T55.setTop (mkF m 54 #[.val (.ref ob), .val (.ref sg), .val (.ref sa), .val (.ref sb), .val (.ref sc)] []))
  refine GoW.retV X55 hx hlk hS26 (by rw [e55]; exact hk55) hZ26 hEL CH55 Bd.returns (hb hby d8_54) (by decide) (by decide) e55 ?_
  exact ⟨rfl, N55, K55, f57, f58, f59, f60⟩
theorem d12_0 : decode prog_23_method_5_code 0 = .ok (.aload_n 0, 1) := by decide +kernel
theorem d12_1 : decode prog_23_method_5_code 1 = .ok (.ldc 39, 2) := by decide +kernel
theorem pd__Ljava_lang_Object__Z : parseMethodDescriptor "(Ljava/lang/Object;)Z" = some ⟨[(.object "java/lang/Object")], some .boolean⟩ := by decide +kernel
theorem d12_3 : decode prog_23_method_5_code 3 = .ok (.invokevirtual 41, 3) := by decide +kernel
theorem d12_6 : decode prog_23_method_5_code 6 = .ok (.ifCond .ne 11, 3) := by decide +kernel
theorem d12_9 : decode prog_23_method_5_code 9 = .ok (.aload_n 0, 1) := by decide +kernel
theorem d12_10 : decode prog_23_method_5_code 10 = .ok (.aload_n 1, 1) := by decide +kernel
theorem d12_11 : decode prog_23_method_5_code 11 = .ok (.invokevirtual 41, 3) := by decide +kernel
theorem d12_14 : decode prog_23_method_5_code 14 = .ok (.ifCond .eq 7, 3) := by decide +kernel
theorem d12_21 : decode prog_23_method_5_code 21 = .ok (.iconst 0, 1) := by decide +kernel
theorem d12_22 : decode prog_23_method_5_code 22 = .ok (.ireturn, 1) := by decide +kernel
theorem d12_17 : decode prog_23_method_5_code 17 = .ok (.iconst 1, 1) := by decide +kernel
theorem d12_18 : decode prog_23_method_5_code 18 = .ok (.goto 4, 3) := by decide +kernel
theorem ef_rm12 (m : MethodId) (sa : Addr) (sd : Addr) : entryFrame m #[(.ref sa), (.ref sd)] 2 = mkF m 0 #[.val (.ref sa), .val (.ref sd)] [] := by first | (simp [entryFrame, mkF, argsToLocals, Value.category]; done) | rfl
def Q12 (Z : State) (sa : Addr) (sd : Addr) (cs : Int32) (ta : Addr) (ka : ClassId) (la : List Int32) (td : Addr) (kd : ClassId) (ld : List Int32) (h0 : Heap) (n0 : Nat) (v : Option Value) (h : Heap) (L : List Loc) : Prop := v = some (.int (fm la ld)) ∧ Fr n0 L ∧ Keep h0 h []
set_option maxRecDepth 65536 in
set_option maxHeartbeats 40000000 in
theorem rm12 (l : Launch) (Z : State) (a0 : Array Value) (hw : ∀ d ∈ tables_1, d.before a0 Z = true) (ws : List Jvm.Cond) (sa : Addr) (sd : Addr) (cs : Int32) (ta : Addr) (ka : ClassId) (la : List Int32) (td : Addr) (kd : ClassId) (ld : List Int32) (h0 : Heap) (n0 : Nat) (O0 : Old Z n0 h0) (Ea : Exa Z h0 sa "java/lang/String") (Va : Fld Z h0 sa "java/lang/String" "value" "[B" (.ref ta)) (Ca : Fld Z h0 sa "java/lang/String" "coder" "B" (.int (0 : Int32))) (Aa : Arv Z h0 ta ka .byte (Int32.ofNat (List.length la)) (List.map Value.int la) (.int (0 : Int32))) (Ed : Exa Z h0 sd "java/lang/String") (Vd : Fld Z h0 sd "java/lang/String" "value" "[B" (.ref td)) (Cd : Fld Z h0 sd "java/lang/String" "coder" "B" (.int (0 : Int32))) (Ad : Arv Z h0 td kd .byte (Int32.ofNat (List.length ld)) (List.map Value.int ld) (.int (0 : Int32))) (S_cs : Sta Z Z.heap "java/lang/String" "COMPACT_STRINGS" "Z" (.int cs)) (q_cs : ¬ cs = (0 : Int32)) (q_la : la.length ≤ 2) (q_ld : ld.length ≤ 2) (ne_ad : sa ≠ sd) :
    MetFree l (⟨"com/example/indenture/indenture/model/Identifier", "fieldMatches", "(Ljava/lang/String;Ljava/lang/String;)Z"⟩ : MethodName) (head1 (Jvm.Cond.code (⟨"com/example/indenture/indenture/model/Identifier", "fieldMatches", "(Ljava/lang/String;Ljava/lang/String;)Z"⟩ : MethodName) prog_23_method_5_code 2 (some .boolean) :: ws) ({ frames := 2, cells := 2, slots := 8, locals := 28 } : Room)) (fun ay U => ay = #[(.ref sa), (.ref sd)] ∧ Z.Warmed39 U.vm ∧ U.heap = h0 ∧ CHv Z EL U.vm h0 ∧ ∀ y ∈ ([sa] : List Addr), Safe Z EL U.vm h0 y) (fun _ _ _ _ _ => True) (fun _ U o U' => ∃ v L, o = .returned v ∧ Q12 Z sa sd cs ta ka la td kd ld h0 n0 v U'.heap L ∧ CHr Z EL U.vm U.heap U'.vm U'.heap ∧ ReturnedEndW U o U' L ({ frames := 2, cells := 2, slots := 8, locals := 28 } : Room).cells ({ frames := 2, cells := 2, slots := 8, locals := 28 } : Room).slots) := by
  refine MetFree.of_bodySF (plainFor_of_name pn_com_example_indenture_indenture_model_Identifier) hisR ?_
  intro p e s m args below meth c s₁ Bd hml0 hP hK
  obtain ⟨rfl, hZ, hh, hCH, hSf⟩ := hP
  have hx := Bd.exec
  have hby := Bd.bytes
  have hlk : meth.locks = false := BodyLoose.notSynchronized Bd
  have hml : c.maxLocals = 2 := hml0
  have hown : s.vm.findClass "com/example/indenture/indenture/model/Identifier" = some m.cls := findClass_of_methodNamed Bd.named
  have hnm := (name_of_methodNamed Bd.named Bd.method).1
  have X0 : Stand p l e ({ frames := 2, cells := 2, slots := 8, locals := 28 } : Room) (s.setVm s.vm) m #[(.ref sa), (.ref sd)] below meth c s₁ [] 0 0 := Stand.of_body Bd
  have e0 : s₁.heap = h0 := by rw [← hh, Bd.state]; rfl
  have N0 := Fr.nil n0
  have hS0 : s.Since s.vm 0 := (State.WarmedH.refl s).since 0
  have hk0 : 0 ≤ h0.size := Nat.zero_le _
  have CH0 : CHr Z EL s.vm s.heap s.vm h0 := by rw [hh]; exact CHr.refl hCH
  have hEL : EW Z a0 EL := own_EW hw
  have hwS := own_wS hw
  suffices hgo : GoW p e below s 2 8 Z EL (Q12 Z sa sd cs ta ka la td kd ld h0 n0) (s₁.setTop (mkF m 0 #[.val (.ref sa), .val (.ref sd)] [])) by
    obtain ⟨t, o, h1, h2⟩ := hgo; exact ⟨t, o, castTop (ef_rm12 m sa sd) h1, h2⟩
  show GoW p e below s _ _ _ _ _ (s₁.setTop (mkF m 0 #[.val (.ref sa), .val (.ref sd)] []))
  refine GoW.st (fun _ k' => XS.aloadN X0.here hx rfl (hb hby d12_0) rfl rfl k') ?_
  show GoW p e below s _ _ _ _ _ (s₁.setTop (mkF m 1 #[.val (.ref sa), .val (.ref sd)] [(.ref sa)]))
  obtain ⟨a1, T1, h1, q1, b1, kb1, X1, e1, E1, hS1, hk1, hZ1, hown1, Ea1, Fc1, Fv1, Vb1, lta1, ltb1, C1, -, hne1, st1⟩ := ldcCH X0 hx hZ hown (wdx hw 74 rfl) hwS e0 hS0 hk0 hEL (List.mem_of_getElem? (i := 1) rfl) CH0.1 (vs := [(.int (37 : Int32))]) (z := (1 : Int32)) ⟨by decide, rfl⟩ (by decide) (by decide) (g := (mkF m 1 #[.val (.ref sa), .val (.ref sd)] [(.ref sa)])) rfl (hb hby d12_1) (n := 4) (by decide) (by decide) (by decide) (by decide)
  refine GoW.st st1 ?_
  have f2 : Exa Z h1 sa "java/lang/String" := Ea.ext E1
  have f3 : Fld Z h1 sa "java/lang/String" "value" "[B" (.ref ta) := Va.ext E1
  have f4 : Fld Z h1 sa "java/lang/String" "coder" "B" (.int (0 : Int32)) := Ca.ext E1
  have f5 : Arv Z h1 ta ka .byte (Int32.ofNat (List.length la)) (List.map Value.int la) (.int (0 : Int32)) := Aa.ext E1
  have f6 : Exa Z h1 sd "java/lang/String" := Ed.ext E1
  have f7 : Fld Z h1 sd "java/lang/String" "value" "[B" (.ref td) := Vd.ext E1
  have f8 : Fld Z h1 sd "java/lang/String" "coder" "B" (.int (0 : Int32)) := Cd.ext E1
  have f9 : Arv Z h1 td kd .byte (Int32.ofNat (List.length ld)) (List.map Value.int ld) (.int (0 : Int32)) := Ad.ext E1
  have f10 : Safe Z EL T1.vm h1 sa := C1.safe Ea.lt (hSf sa (List.mem_of_getElem? (i := 0) rfl))
  have CH1 : CHr Z EL s.vm s.heap T1.vm h1 := CH0.trans C1
  have O1 : Old Z n0 h1 := O0.ext E1
  have K1 : Keep h0 h1 [] := (Keep.refl h0 []).ext E1
  have hn11 := hne1 sa f10
  show GoW p e below s _ _ _ _ _ (T1.setTop (mkF m 3 #[.val (.ref sa), .val (.ref sd)] [(.ref a1), (.ref sa)]))
  obtain ⟨cq12, kq12, q12a, q12b, q12c⟩ := isOf hZ1 e1 f2
  obtain ⟨_, _, ⟨T12, L12, k12, n12⟩, -, X12, ⟨Lc12, hQ12, l12, y12, z12⟩, st12⟩ := X1.virtualBack hx (y := (⟨"java/lang/String", "equals", "(Ljava/lang/Object;)Z"⟩ : MethodName)) (z := (⟨"java/lang/String", "equals", "(Ljava/lang/Object;)Z"⟩ : MethodName)) hown1 (mvT hZ1 (wdx hw 75 rfl)) (mvT hZ1 (wdx hw 76 rfl)) (notFace_of_selects (args := #[]) (mvT hZ1 (wdx hw 78 rfl))) (mvT hZ1 (wdx hw 78 rfl)) (mvT hZ1 (wdx hw 77 rfl)) (by decide) (backOf (W := 0) (rm13_d l Z a0 hw [] sa a1 cs ta ka la b1 kb1 ([(37 : Int32)]) h1 n0 O1 Ea1 f3 f4 Fv1 Fc1 f5 Vb1 S_cs q_cs hn11.1 q_la (by decide)) hZ1 (wdx hw 79 rfl) (wdx hw 9 rfl) (by decide) (by decide)) q12a q12c (g := (mkF m 3 #[.val (.ref sa), .val (.ref sd)] [(.ref a1), (.ref sa)])) rfl (by rw [hml]; rfl) (Steps.refl _) (argsL := [(.ref a1)]) (rest := []) (lenOf pd__Ljava_lang_Object__Z rfl) rfl (by show 2 * 0 + _ ≤ _; exact Nat.le_of_eq rfl) (hb hby d12_3) (fun _ _ => ⟨rfl, e1, (by exact Nat.le_of_ble_eq_true rfl), (by exact Nat.le_of_ble_eq_true rfl)⟩)
  dsimp only [Pt.U, Pt.locs, Pt.cells, Pt.slots] at X12 l12 y12 z12 st12 hQ12
  subst l12 y12 z12
  obtain ⟨rfl, Nq12, eq12⟩ := hQ12
  have N12 := Fr.app N0 Nq12
  refine GoW.tr st12 ?_
  show GoW p e below s _ _ _ _ _ (T12.setTop (mkF m 6 #[.val (.ref sa), .val (.ref sd)] [(.int (if la = [(37 : Int32)] then (1 : Int32) else 0))]))
  by_cases hc13 : (if la = [(37 : Int32)] then (1 : Int32) else 0) = (0 : Int32)
  · refine GoW.st (fun _ k' => XS.ifNo X12.here hx rfl (hb hby d12_6) rfl (XT.i0_ne_f hc13) k') ?_
    show GoW p e below s _ _ _ _ _ (T12.setTop (mkF m 9 #[.val (.ref sa), .val (.ref sd)] []))
    refine GoW.st (fun _ k' => XS.aloadN X12.here hx rfl (hb hby d12_9) rfl rfl k') ?_
    show GoW p e below s _ _ _ _ _ (T12.setTop (mkF m 10 #[.val (.ref sa), .val (.ref sd)] [(.ref sa)]))
    refine GoW.st (fun _ k' => XS.aloadN X12.here hx rfl (hb hby d12_10) rfl rfl k') ?_
    show GoW p e below s _ _ _ _ _ (T12.setTop (mkF m 11 #[.val (.ref sa), .val (.ref sd)] [(.ref sd), (.ref sa)]))
    obtain ⟨cq14, kq14, q14a, q14b, q14c⟩ := isOf hZ1 eq12 f2
    obtain ⟨_, _, ⟨T14, L14, k14, n14⟩, -, X14, ⟨Lc14, hQ14, l14, y14, z14⟩, st14⟩ := X12.virtualBack hx (y := (⟨"java/lang/String", "equals", "(Ljava/lang/Object;)Z"⟩ : MethodName)) (z := (⟨"java/lang/String", "equals", "(Ljava/lang/Object;)Z"⟩ : MethodName)) hown1 (mvT hZ1 (wdx hw 75 rfl)) (mvT hZ1 (wdx hw 76 rfl)) (notFace_of_selects (args := #[]) (mvT hZ1 (wdx hw 78 rfl))) (mvT hZ1 (wdx hw 78 rfl)) (mvT hZ1 (wdx hw 77 rfl)) (by decide) (backOf (W := 0) (rm13_d l Z a0 hw [] sa sd cs ta ka la td kd ld h1 n0 O1 f6 f3 f4 f7 f8 f5 f9 S_cs q_cs ne_ad q_la q_ld) hZ1 (wdx hw 79 rfl) (wdx hw 9 rfl) (by decide) (by decide)) q14a q14c (g := (mkF m 11 #[.val (.ref sa), .val (.ref sd)] [(.ref sd), (.ref sa)])) rfl (by rw [hml]; rfl) (Steps.refl _) (argsL := [(.ref sd)]) (rest := []) (lenOf pd__Ljava_lang_Object__Z rfl) rfl (by show 2 * 0 + _ ≤ _; exact Nat.le_of_eq rfl) (hb hby d12_11) (fun _ _ => ⟨rfl, eq12, (by exact Nat.le_of_ble_eq_true rfl), (by exact Nat.le_of_ble_eq_true rfl)⟩)
    dsimp only [Pt.U, Pt.locs, Pt.cells, Pt.slots] at X14 l14 y14 z14 st14 hQ14
    subst l14 y14 z14
    obtain ⟨rfl, Nq14, eq14⟩ := hQ14
    have N14 := Fr.app N12 Nq14
    refine GoW.tr st14 ?_
    show GoW p e below s _ _ _ _ _ (T14.setTop (mkF m 14 #[.val (.ref sa), .val (.ref sd)] [(.int (if la = ld then (1 : Int32) else 0))]))
    by_cases hc15 : (if la = ld then (1 : Int32) else 0) = (0 : Int32)
    · refine GoW.st (fun _ k' => XS.ifYes X14.here hx rfl (pc0 := 14) (pc' := 21) rfl (hb hby d12_14) rfl (XT.i0_eq_t hc15) (by decide) (by decide) k') ?_
      show GoW p e below s _ _ _ _ _ (T14.setTop (mkF m 21 #[.val (.ref sa), .val (.ref sd)] []))
      refine GoW.st (fun _ k' => XS.iconst X14.here hx rfl (hb hby d12_21) k') ?_
      show GoW p e below s _ _ _ _ _ (T14.setTop (mkF m 22 #[.val (.ref sa), .val (.ref sd)] [(.int (0 : Int32))]))
      refine GoW.retB X14 hx hlk hS1 (by rw [eq14]; exact hk1) hZ1 hEL CH1 (t := .boolean) Bd.returns (by simp) (hb hby d12_22) (by decide) (by decide) eq14 ?_
      exact ⟨(by have z0 := hc13; have z1 := hc15; simp_all [fm, nar]), N14, K1⟩
    · refine GoW.st (fun _ k' => XS.ifNo X14.here hx rfl (hb hby d12_14) rfl (XT.i0_eq_f hc15) k') ?_
      show GoW p e below s _ _ _ _ _ (T14.setTop (mkF m 17 #[.val (.ref sa), .val (.ref sd)] []))
      refine GoW.st (fun _ k' => XS.iconst X14.here hx rfl (hb hby d12_17) k') ?_
      show GoW p e below s _ _ _ _ _ (T14.setTop (mkF m 18 #[.val (.ref sa), .val (.ref sd)] [(.int (1 : Int32))]))
      refine GoW.st (fun _ k' => XS.goto X14.here hx rfl (pc0 := 18) (pc' := 22) rfl (hb hby d12_18) (by decide) (by decide) k') ?_
      show GoW p e below s _ _ _ _ _ (T14.setTop (mkF m 22 #[.val (.ref sa), .val (.ref sd)] [(.int (1 : Int32))]))
      refine GoW.retB X14 hx hlk hS1 (by rw [eq14]; exact hk1) hZ1 hEL CH1 (t := .boolean) Bd.returns (by simp) (hb hby d12_22) (by decide) (by decide) eq14 ?_
      exact ⟨(by have z0 := hc13; have z1 := hc15; simp_all [fm, nar]), N14, K1⟩
  · refine GoW.st (fun _ k' => XS.ifYes X12.here hx rfl (pc0 := 6) (pc' := 17) rfl (hb hby d12_6) rfl (XT.i0_ne_t hc13) (by decide) (by decide) k') ?_
    show GoW p e below s _ _ _ _ _ (T12.setTop (mkF m 17 #[.val (.ref sa), .val (.ref sd)] []))
    refine GoW.st (fun _ k' => XS.iconst X12.here hx rfl (hb hby d12_17) k') ?_
    show GoW p e below s _ _ _ _ _ (T12.setTop (mkF m 18 #[.val (.ref sa), .val (.ref sd)] [(.int (1 : Int32))]))
    refine GoW.st (fun _ k' => XS.goto X12.here hx rfl (pc0 := 18) (pc' := 22) rfl (hb hby d12_18) (by decide) (by decide) k') ?_
    show GoW p e below s _ _ _ _ _ (T12.setTop (mkF m 22 #[.val (.ref sa), .val (.ref sd)] [(.int (1 : Int32))]))
    refine GoW.retB X12 hx hlk hS1 (by rw [eq12]; exact hk1) hZ1 hEL CH1 (t := .boolean) Bd.returns (by simp) (hb hby d12_22) (by decide) (by decide) eq12 ?_
    exact ⟨(by have z0 := hc13; simp_all [fm, nar]), N12, K1⟩
theorem d11_0 : decode prog_23_method_2_code 0 = .ok (.aload_n 0, 1) := by decide +kernel
theorem d11_1 : decode prog_23_method_2_code 1 = .ok (.getfield 26, 3) := by decide +kernel
theorem d11_4 : decode prog_23_method_2_code 4 = .ok (.aload_n 1, 1) := by decide +kernel
theorem pd__Ljava_lang_String_Ljava_lang_String__Z : parseMethodDescriptor "(Ljava/lang/String;Ljava/lang/String;)Z" = some ⟨[(.object "java/lang/String"), (.object "java/lang/String")], some .boolean⟩ := by decide +kernel
theorem d11_5 : decode prog_23_method_2_code 5 = .ok (.invokestatic 32, 3) := by decide +kernel
theorem d11_8 : decode prog_23_method_2_code 8 = .ok (.ifCond .eq 29, 3) := by decide +kernel
theorem d11_37 : decode prog_23_method_2_code 37 = .ok (.iconst 0, 1) := by decide +kernel
theorem d11_38 : decode prog_23_method_2_code 38 = .ok (.ireturn, 1) := by decide +kernel
theorem d11_11 : decode prog_23_method_2_code 11 = .ok (.aload_n 0, 1) := by decide +kernel
theorem d11_12 : decode prog_23_method_2_code 12 = .ok (.getfield 28, 3) := by decide +kernel
theorem d11_15 : decode prog_23_method_2_code 15 = .ok (.aload_n 2, 1) := by decide +kernel
theorem d11_16 : decode prog_23_method_2_code 16 = .ok (.invokestatic 32, 3) := by decide +kernel
theorem d11_19 : decode prog_23_method_2_code 19 = .ok (.ifCond .eq 18, 3) := by decide +kernel
theorem d11_22 : decode prog_23_method_2_code 22 = .ok (.aload_n 0, 1) := by decide +kernel
theorem d11_23 : decode prog_23_method_2_code 23 = .ok (.getfield 30, 3) := by decide +kernel
theorem d11_26 : decode prog_23_method_2_code 26 = .ok (.aload_n 3, 1) := by decide +kernel
theorem d11_27 : decode prog_23_method_2_code 27 = .ok (.invokestatic 32, 3) := by decide +kernel
theorem d11_30 : decode prog_23_method_2_code 30 = .ok (.ifCond .eq 7, 3) := by decide +kernel
theorem d11_33 : decode prog_23_method_2_code 33 = .ok (.iconst 1, 1) := by decide +kernel
theorem d11_34 : decode prog_23_method_2_code 34 = .ok (.goto 4, 3) := by decide +kernel
theorem ef_rm11 (m : MethodId) (ob : Addr) (sd : Addr) (se : Addr) (sf : Addr) : entryFrame m #[(.ref ob), (.ref sd), (.ref se), (.ref sf)] 4 = mkF m 0 #[.val (.ref ob), .val (.ref sd), .val (.ref se), .val (.ref sf)] [] := by first | (simp [entryFrame, mkF, argsToLocals, Value.category]; done) | rfl
def Q11 (Z : State) (ob : Addr) (sd : Addr) (se : Addr) (sf : Addr) (cs : Int32) (sa : Addr) (sb : Addr) (sc : Addr) (ta : Addr) (ka : ClassId) (la : List Int32) (tb : Addr) (kb : ClassId) (lb : List Int32) (tc : Addr) (kc : ClassId) (lc : List Int32) (td : Addr) (kd : ClassId) (ld : List Int32) (te : Addr) (ke : ClassId) (le : List Int32) (tf : Addr) (kf : ClassId) (lf : List Int32) (h0 : Heap) (n0 : Nat) (v : Option Value) (h : Heap) (L : List Loc) : Prop := v = some (.int (fa3 (fm la ld) (fm lb le) (fm lc lf))) ∧ Fr n0 L ∧ Keep h0 h []
set_option maxRecDepth 65536 in
set_option maxHeartbeats 40000000 in
theorem rm11 (l : Launch) (Z : State) (a0 : Array Value) (hw : ∀ d ∈ tables_1, d.before a0 Z = true) (ws : List Jvm.Cond) (ob : Addr) (sd : Addr) (se : Addr) (sf : Addr) (cs : Int32) (sa : Addr) (sb : Addr) (sc : Addr) (ta : Addr) (ka : ClassId) (la : List Int32) (tb : Addr) (kb : ClassId) (lb : List Int32) (tc : Addr) (kc : ClassId) (lc : List Int32) (td : Addr) (kd : ClassId) (ld : List Int32) (te : Addr) (ke : ClassId) (le : List Int32) (tf : Addr) (kf : ClassId) (lf : List Int32) (h0 : Heap) (n0 : Nat) (O0 : Old Z n0 h0) (E_o : Exa Z h0 ob "com/example/indenture/indenture/model/Identifier") (FsourceType : Fld Z h0 ob "com/example/indenture/indenture/model/Identifier" "sourceType" "Ljava/lang/String;" (.ref sa)) (Fcategory : Fld Z h0 ob "com/example/indenture/indenture/model/Identifier" "category" "Ljava/lang/String;" (.ref sb)) (Fsubcategory : Fld Z h0 ob "com/example/indenture/indenture/model/Identifier" "subcategory" "Ljava/lang/String;" (.ref sc)) (Ea : Exa Z h0 sa "java/lang/String") (Va : Fld Z h0 sa "java/lang/String" "value" "[B" (.ref ta)) (Ca : Fld Z h0 sa "java/lang/String" "coder" "B" (.int (0 : Int32))) (Aa : Arv Z h0 ta ka .byte (Int32.ofNat (List.length la)) (List.map Value.int la) (.int (0 : Int32))) (Eb : Exa Z h0 sb "java/lang/String") (Vb : Fld Z h0 sb "java/lang/String" "value" "[B" (.ref tb)) (Cb : Fld Z h0 sb "java/lang/String" "coder" "B" (.int (0 : Int32))) (Ab : Arv Z h0 tb kb .byte (Int32.ofNat (List.length lb)) (List.map Value.int lb) (.int (0 : Int32))) (Ec : Exa Z h0 sc "java/lang/String") (Vc : Fld Z h0 sc "java/lang/String" "value" "[B" (.ref tc)) (Cc : Fld Z h0 sc "java/lang/String" "coder" "B" (.int (0 : Int32))) (Ac : Arv Z h0 tc kc .byte (Int32.ofNat (List.length lc)) (List.map Value.int lc) (.int (0 : Int32))) (Ed : Exa Z h0 sd "java/lang/String") (Vd : Fld Z h0 sd "java/lang/String" "value" "[B" (.ref td)) (Cd : Fld Z h0 sd "java/lang/String" "coder" "B" (.int (0 : Int32))) (Ad : Arv Z h0 td kd .byte (Int32.ofNat (List.length ld)) (List.map Value.int ld) (.int (0 : Int32))) (Ee : Exa Z h0 se "java/lang/String") (Ve : Fld Z h0 se "java/lang/String" "value" "[B" (.ref te)) (Ce : Fld Z h0 se "java/lang/String" "coder" "B" (.int (0 : Int32))) (Ae : Arv Z h0 te ke .byte (Int32.ofNat (List.length le)) (List.map Value.int le) (.int (0 : Int32))) (Ef : Exa Z h0 sf "java/lang/String") (Vf : Fld Z h0 sf "java/lang/String" "value" "[B" (.ref tf)) (Cf : Fld Z h0 sf "java/lang/String" "coder" "B" (.int (0 : Int32))) (Af : Arv Z h0 tf kf .byte (Int32.ofNat (List.length lf)) (List.map Value.int lf) (.int (0 : Int32))) (S_cs : Sta Z Z.heap "java/lang/String" "COMPACT_STRINGS" "Z" (.int cs)) (q_cs : ¬ cs = (0 : Int32)) (q_la : la.length ≤ 2) (q_lb : lb.length ≤ 2) (q_lc : lc.length ≤ 2) (q_ld : ld.length ≤ 2) (q_le : le.length ≤ 2) (q_lf : lf.length ≤ 2) (ne_ad : sa ≠ sd) (ne_be : sb ≠ se) (ne_cf : sc ≠ sf) :
    MetFree l (⟨"com/example/indenture/indenture/model/Identifier", "matches", "(Ljava/lang/String;Ljava/lang/String;Ljava/lang/String;)Z"⟩ : MethodName) (head1 (Jvm.Cond.code (⟨"com/example/indenture/indenture/model/Identifier", "matches", "(Ljava/lang/String;Ljava/lang/String;Ljava/lang/String;)Z"⟩ : MethodName) prog_23_method_2_code 4 (some .boolean) :: ws) ({ frames := 3, cells := 6, slots := 24, locals := 41 } : Room)) (fun ay U => ay = #[(.ref ob), (.ref sd), (.ref se), (.ref sf)] ∧ Z.Warmed39 U.vm ∧ U.heap = h0 ∧ CHv Z EL U.vm h0 ∧ ∀ y ∈ ([sa, sb, sc] : List Addr), Safe Z EL U.vm h0 y) (fun _ _ _ _ _ => True) (fun _ U o U' => ∃ v L, o = .returned v ∧ Q11 Z ob sd se sf cs sa sb sc ta ka la tb kb lb tc kc lc td kd ld te ke le tf kf lf h0 n0 v U'.heap L ∧ CHr Z EL U.vm U.heap U'.vm U'.heap ∧ ReturnedEndW U o U' L ({ frames := 3, cells := 6, slots := 24, locals := 41 } : Room).cells ({ frames := 3, cells := 6, slots := 24, locals := 41 } : Room).slots) := by
  refine MetFree.of_bodySF (plainFor_of_name pn_com_example_indenture_indenture_model_Identifier) hisR ?_
  intro p e s m args below meth c s₁ Bd hml0 hP hK
  obtain ⟨rfl, hZ, hh, hCH, hSf⟩ := hP
  have hx := Bd.exec
  have hby := Bd.bytes
  have hlk : meth.locks = false := BodyLoose.notSynchronized Bd
  have hml : c.maxLocals = 4 := hml0
  have hown : s.vm.findClass "com/example/indenture/indenture/model/Identifier" = some m.cls := findClass_of_methodNamed Bd.named
  have hnm := (name_of_methodNamed Bd.named Bd.method).1
  have X0 : Stand p l e ({ frames := 3, cells := 6, slots := 24, locals := 41 } : Room) (s.setVm s.vm) m #[(.ref ob), (.ref sd), (.ref se), (.ref sf)] below meth c s₁ [] 0 0 := Stand.of_body Bd
  have e0 : s₁.heap = h0 := by rw [← hh, Bd.state]; rfl
  have N0 := Fr.nil n0
  have hS0 : s.Since s.vm 0 := (State.WarmedH.refl s).since 0
  have hk0 : 0 ≤ h0.size := Nat.zero_le _
  have CH0 : CHr Z EL s.vm s.heap s.vm h0 := by rw [hh]; exact CHr.refl hCH
  have hEL : EW Z a0 EL := own_EW hw
  have hwS := own_wS hw
  suffices hgo : GoW p e below s 6 24 Z EL (Q11 Z ob sd se sf cs sa sb sc ta ka la tb kb lb tc kc lc td kd ld te ke le tf kf lf h0 n0) (s₁.setTop (mkF m 0 #[.val (.ref ob), .val (.ref sd), .val (.ref se), .val (.ref sf)] [])) by
    obtain ⟨t, o, h1, h2⟩ := hgo; exact ⟨t, o, castTop (ef_rm11 m ob sd se sf) h1, h2⟩
  show GoW p e below s _ _ _ _ _ (s₁.setTop (mkF m 0 #[.val (.ref ob), .val (.ref sd), .val (.ref se), .val (.ref sf)] []))
  refine GoW.st (fun _ k' => XS.aloadN X0.here hx rfl (hb hby d11_0) rfl rfl k') ?_
  show GoW p e below s _ _ _ _ _ (s₁.setTop (mkF m 1 #[.val (.ref ob), .val (.ref sd), .val (.ref se), .val (.ref sf)] [(.ref ob)]))
  obtain ⟨T1, X1, e1, st1⟩ := getF X0 hx hZ hown (host := "") (Or.inl (wdx hw 60 rfl)) Via.refl e0 FsourceType (g := (mkF m 1 #[.val (.ref ob), .val (.ref sd), .val (.ref se), .val (.ref sf)] [(.ref ob)])) rfl rfl (hb hby d11_1)
  refine GoW.st st1 ?_
  show GoW p e below s _ _ _ _ _ (T1.setTop (mkF m 4 #[.val (.ref ob), .val (.ref sd), .val (.ref se), .val (.ref sf)] [(.ref sa)]))
  refine GoW.st (fun _ k' => XS.aloadN X1.here hx rfl (hb hby d11_4) rfl rfl k') ?_
  show GoW p e below s _ _ _ _ _ (T1.setTop (mkF m 5 #[.val (.ref ob), .val (.ref sd), .val (.ref se), .val (.ref sf)] [(.ref sd), (.ref sa)]))
  obtain ⟨_, _, ⟨T2, L2, k2, n2⟩, -, Xr2, hSr2, hgr2, ⟨Lc2, hQ2, l2, y2, z2, C2⟩, st2⟩ := callSS X1 hx (y := (⟨"com/example/indenture/indenture/model/Identifier", "fieldMatches", "(Ljava/lang/String;Ljava/lang/String;)Z"⟩ : MethodName)) hown (mvT hZ (wdx hw 71 rfl)) (mvT hZ (wdx hw 72 rfl)) (mvT hZ (wdx hw 7 rfl)) (mvT hZ (wdx hw 73 rfl)) (by decide) (own_back (W := 0) (rm12 l Z a0 hw [] sa sd cs ta ka la td kd ld h0 n0 O0 Ea Va Ca Aa Ed Vd Cd Ad S_cs q_cs q_la q_ld ne_ad) hZ (wdx hw 73 rfl) (wdx hw 7 rfl) (by decide) (by decide) hEL CH0.1 (allS ⟨Ea.lt, (hSf sa (List.mem_of_getElem? (i := 0) rfl))⟩ all0)) (g := (mkF m 5 #[.val (.ref ob), .val (.ref sd), .val (.ref se), .val (.ref sf)] [(.ref sd), (.ref sa)])) rfl (by rw [hml]; rfl) (argsL := [(.ref sa), (.ref sd)]) (rest := []) (lenOf pd__Ljava_lang_String_Ljava_lang_String__Z rfl) rfl (by show 2 * 0 + _ ≤ _; exact Nat.le_of_eq rfl) (hb hby d11_5) (fun _ _ => ⟨rfl, e1, (by exact Nat.le_of_ble_eq_true rfl), (by exact Nat.le_of_ble_eq_true rfl)⟩)
  dsimp only [Pt.U, Pt.locs, Pt.cells, Pt.slots] at Xr2 hSr2 hgr2 l2 y2 z2 C2 st2 hQ2
  subst l2 y2 z2
  obtain ⟨X2, hS2, hZ2, hown2⟩ := rebS hS0 (by rw [e1]; exact hk0) Xr2 hSr2 hgr2 hZ hown
  obtain ⟨rfl, Nq2, Kq2⟩ := hQ2
  have N2 := Fr.app N0 Nq2
  refine GoW.tr st2 ?_
  have f3 : Exa Z T2.heap ob "com/example/indenture/indenture/model/Identifier" := E_o.keep Kq2
  have f4 : Fld Z T2.heap ob "com/example/indenture/indenture/model/Identifier" "sourceType" "Ljava/lang/String;" (.ref sa) := FsourceType.keep Kq2 nin0
  have f5 : Fld Z T2.heap ob "com/example/indenture/indenture/model/Identifier" "category" "Ljava/lang/String;" (.ref sb) := Fcategory.keep Kq2 nin0
  have f6 : Fld Z T2.heap ob "com/example/indenture/indenture/model/Identifier" "subcategory" "Ljava/lang/String;" (.ref sc) := Fsubcategory.keep Kq2 nin0
  have f7 : Exa Z T2.heap sa "java/lang/String" := Ea.keep Kq2
  have f8 : Fld Z T2.heap sa "java/lang/String" "value" "[B" (.ref ta) := Va.keep Kq2 nin0
  have f9 : Fld Z T2.heap sa "java/lang/String" "coder" "B" (.int (0 : Int32)) := Ca.keep Kq2 nin0
  have f10 : Arv Z T2.heap ta ka .byte (Int32.ofNat (List.length la)) (List.map Value.int la) (.int (0 : Int32)) := Aa.keep Kq2 nin0
  have f11 : Exa Z T2.heap sb "java/lang/String" := Eb.keep Kq2
  have f12 : Fld Z T2.heap sb "java/lang/String" "value" "[B" (.ref tb) := Vb.keep Kq2 nin0
  have f13 : Fld Z T2.heap sb "java/lang/String" "coder" "B" (.int (0 : Int32)) := Cb.keep Kq2 nin0
  have f14 : Arv Z T2.heap tb kb .byte (Int32.ofNat (List.length lb)) (List.map Value.int lb) (.int (0 : Int32)) := Ab.keep Kq2 nin0
  have f15 : Exa Z T2.heap sc "java/lang/String" := Ec.keep Kq2
  have f16 : Fld Z T2.heap sc "java/lang/String" "value" "[B" (.ref tc) := Vc.keep Kq2 nin0
  have f17 : Fld Z T2.heap sc "java/lang/String" "coder" "B" (.int (0 : Int32)) := Cc.keep Kq2 nin0
  have f18 : Arv Z T2.heap tc kc .byte (Int32.ofNat (List.length lc)) (List.map Value.int lc) (.int (0 : Int32)) := Ac.keep Kq2 nin0
  have f19 : Exa Z T2.heap sd "java/lang/String" := Ed.keep Kq2
  have f20 : Fld Z T2.heap sd "java/lang/String" "value" "[B" (.ref td) := Vd.keep Kq2 nin0
  have f21 : Fld Z T2.heap sd "java/lang/String" "coder" "B" (.int (0 : Int32)) := Cd.keep Kq2 nin0
  have f22 : Arv Z T2.heap td kd .byte (Int32.ofNat (List.length ld)) (List.map Value.int ld) (.int (0 : Int32)) := Ad.keep Kq2 nin0
  have f23 : Exa Z T2.heap se "java/lang/String" := Ee.keep Kq2
  have f24 : Fld Z T2.heap se "java/lang/String" "value" "[B" (.ref te) := Ve.keep Kq2 nin0
  have f25 : Fld Z T2.heap se "java/lang/String" "coder" "B" (.int (0 : Int32)) := Ce.keep Kq2 nin0
  have f26 : Arv Z T2.heap te ke .byte (Int32.ofNat (List.length le)) (List.map Value.int le) (.int (0 : Int32)) := Ae.keep Kq2 nin0
  have f27 : Exa Z T2.heap sf "java/lang/String" := Ef.keep Kq2
  have f28 : Fld Z T2.heap sf "java/lang/String" "value" "[B" (.ref tf) := Vf.keep Kq2 nin0
  have f29 : Fld Z T2.heap sf "java/lang/String" "coder" "B" (.int (0 : Int32)) := Cf.keep Kq2 nin0
  have f30 : Arv Z T2.heap tf kf .byte (Int32.ofNat (List.length lf)) (List.map Value.int lf) (.int (0 : Int32)) := Af.keep Kq2 nin0
  have f31 : Safe Z EL T2.vm T2.heap sa := C2.safe Ea.lt (hSf sa (List.mem_of_getElem? (i := 0) rfl))
  have f32 : Safe Z EL T2.vm T2.heap sb := C2.safe Eb.lt (hSf sb (List.mem_of_getElem? (i := 1) rfl))
  have f33 : Safe Z EL T2.vm T2.heap sc := C2.safe Ec.lt (hSf sc (List.mem_of_getElem? (i := 2) rfl))
  have CH2 : CHr Z EL s.vm s.heap T2.vm T2.heap := CH0.trans C2
  have O2 : Old Z n0 T2.heap := O0.keep Kq2 all0
  have K2 : Keep h0 T2.heap [] := (Keep.refl h0 []).trans Kq2 all0
  show GoW p e below s _ _ _ _ _ (T2.setTop (mkF m 8 #[.val (.ref ob), .val (.ref sd), .val (.ref se), .val (.ref sf)] [(.int (fm la ld))]))
  by_cases hc34 : (fm la ld) = (0 : Int32)
  · refine GoW.st (fun _ k' => XS.ifYes X2.here hx rfl (pc0 := 8) (pc' := 37) rfl (hb hby d11_8) rfl (XT.i0_eq_t hc34) (by decide) (by decide) k') ?_
    show GoW p e below s _ _ _ _ _ (T2.setTop (mkF m 37 #[.val (.ref ob), .val (.ref sd), .val (.ref se), .val (.ref sf)] []))
    refine GoW.st (fun _ k' => XS.iconst X2.here hx rfl (hb hby d11_37) k') ?_
    show GoW p e below s _ _ _ _ _ (T2.setTop (mkF m 38 #[.val (.ref ob), .val (.ref sd), .val (.ref se), .val (.ref sf)] [(.int (0 : Int32))]))
    refine GoW.retB X2 hx hlk hS2 (Nat.le_refl _) hZ2 hEL CH2 (t := .boolean) Bd.returns (by simp) (hb hby d11_38) (by decide) (by decide) rfl ?_
    exact ⟨(by have z0 := hc34; simp_all [fa3, nar]), N2, K2⟩
  · refine GoW.st (fun _ k' => XS.ifNo X2.here hx rfl (hb hby d11_8) rfl (XT.i0_eq_f hc34) k') ?_
    show GoW p e below s _ _ _ _ _ (T2.setTop (mkF m 11 #[.val (.ref ob), .val (.ref sd), .val (.ref se), .val (.ref sf)] []))
    refine GoW.st (fun _ k' => XS.aloadN X2.here hx rfl (hb hby d11_11) rfl rfl k') ?_
    show GoW p e below s _ _ _ _ _ (T2.setTop (mkF m 12 #[.val (.ref ob), .val (.ref sd), .val (.ref se), .val (.ref sf)] [(.ref ob)]))
    obtain ⟨T35, X35, e35, st35⟩ := getF X2 hx hZ2 hown2 (host := "") (Or.inl (wdx hw 62 rfl)) Via.refl rfl f5 (g := (mkF m 12 #[.val (.ref ob), .val (.ref sd), .val (.ref se), .val (.ref sf)] [(.ref ob)])) rfl rfl (hb hby d11_12)
    refine GoW.st st35 ?_
    show GoW p e below s _ _ _ _ _ (T35.setTop (mkF m 15 #[.val (.ref ob), .val (.ref sd), .val (.ref se), .val (.ref sf)] [(.ref sb)]))
    refine GoW.st (fun _ k' => XS.aloadN X35.here hx rfl (hb hby d11_15) rfl rfl k') ?_
    show GoW p e below s _ _ _ _ _ (T35.setTop (mkF m 16 #[.val (.ref ob), .val (.ref sd), .val (.ref se), .val (.ref sf)] [(.ref se), (.ref sb)]))
    obtain ⟨_, _, ⟨T36, L36, k36, n36⟩, -, Xr36, hSr36, hgr36, ⟨Lc36, hQ36, l36, y36, z36, C36⟩, st36⟩ := callSS X35 hx (y := (⟨"com/example/indenture/indenture/model/Identifier", "fieldMatches", "(Ljava/lang/String;Ljava/lang/String;)Z"⟩ : MethodName)) hown2 (mvT hZ2 (wdx hw 71 rfl)) (mvT hZ2 (wdx hw 72 rfl)) (mvT hZ2 (wdx hw 7 rfl)) (mvT hZ2 (wdx hw 73 rfl)) (by decide) (own_back (W := 0) (rm12 l Z a0 hw [] sb se cs tb kb lb te ke le T2.heap n0 O2 f11 f12 f13 f14 f23 f24 f25 f26 S_cs q_cs q_lb q_le ne_be) hZ2 (wdx hw 73 rfl) (wdx hw 7 rfl) (by decide) (by decide) hEL CH2.1 (allS ⟨f11.lt, f32⟩ all0)) (g := (mkF m 16 #[.val (.ref ob), .val (.ref sd), .val (.ref se), .val (.ref sf)] [(.ref se), (.ref sb)])) rfl (by rw [hml]; rfl) (argsL := [(.ref sb), (.ref se)]) (rest := []) (lenOf pd__Ljava_lang_String_Ljava_lang_String__Z rfl) rfl (by show 2 * 0 + _ ≤ _; exact Nat.le_of_eq rfl) (hb hby d11_16) (fun _ _ => ⟨rfl, e35, (by exact Nat.le_of_ble_eq_true rfl), (by exact Nat.le_of_ble_eq_true rfl)⟩)
    dsimp only [Pt.U, Pt.locs, Pt.cells, Pt.slots] at Xr36 hSr36 hgr36 l36 y36 z36 C36 st36 hQ36
    subst l36 y36 z36
    obtain ⟨X36, hS36, hZ36, hown36⟩ := rebS hS2 (by rw [e35]; exact (Nat.le_refl _)) Xr36 hSr36 hgr36 hZ2 hown2
    obtain ⟨rfl, Nq36, Kq36⟩ := hQ36
    have N36 := Fr.app N2 Nq36
    refine GoW.tr st36 ?_
    have f37 : Exa Z T36.heap ob "com/example/indenture/indenture/model/Identifier" := f3.keep Kq36
    have f38 : Fld Z T36.heap ob "com/example/indenture/indenture/model/Identifier" "sourceType" "Ljava/lang/String;" (.ref sa) := f4.keep Kq36 nin0
    have f39 : Fld Z T36.heap ob "com/example/indenture/indenture/model/Identifier" "category" "Ljava/lang/String;" (.ref sb) := f5.keep Kq36 nin0
    have f40 : Fld Z T36.heap ob "com/example/indenture/indenture/model/Identifier" "subcategory" "Ljava/lang/String;" (.ref sc) := f6.keep Kq36 nin0
    have f41 : Exa Z T36.heap sa "java/lang/String" := f7.keep Kq36
    have f42 : Fld Z T36.heap sa "java/lang/String" "value" "[B" (.ref ta) := f8.keep Kq36 nin0
    have f43 : Fld Z T36.heap sa "java/lang/String" "coder" "B" (.int (0 : Int32)) := f9.keep Kq36 nin0
    have f44 : Arv Z T36.heap ta ka .byte (Int32.ofNat (List.length la)) (List.map Value.int la) (.int (0 : Int32)) := f10.keep Kq36 nin0
    have f45 : Exa Z T36.heap sb "java/lang/String" := f11.keep Kq36
    have f46 : Fld Z T36.heap sb "java/lang/String" "value" "[B" (.ref tb) := f12.keep Kq36 nin0
    have f47 : Fld Z T36.heap sb "java/lang/String" "coder" "B" (.int (0 : Int32)) := f13.keep Kq36 nin0
    have f48 : Arv Z T36.heap tb kb .byte (Int32.ofNat (List.length lb)) (List.map Value.int lb) (.int (0 : Int32)) := f14.keep Kq36 nin0
    have f49 : Exa Z T36.heap sc "java/lang/String" := f15.keep Kq36
    have f50 : Fld Z T36.heap sc "java/lang/String" "value" "[B" (.ref tc) := f16.keep Kq36 nin0
    have f51 : Fld Z T36.heap sc "java/lang/String" "coder" "B" (.int (0 : Int32)) := f17.keep Kq36 nin0
    have f52 : Arv Z T36.heap tc kc .byte (Int32.ofNat (List.length lc)) (List.map Value.int lc) (.int (0 : Int32)) := f18.keep Kq36 nin0
    have f53 : Exa Z T36.heap sd "java/lang/String" := f19.keep Kq36
    have f54 : Fld Z T36.heap sd "java/lang/String" "value" "[B" (.ref td) := f20.keep Kq36 nin0
    have f55 : Fld Z T36.heap sd "java/lang/String" "coder" "B" (.int (0 : Int32)) := f21.keep Kq36 nin0
    have f56 : Arv Z T36.heap td kd .byte (Int32.ofNat (List.length ld)) (List.map Value.int ld) (.int (0 : Int32)) := f22.keep Kq36 nin0
    have f57 : Exa Z T36.heap se "java/lang/String" := f23.keep Kq36
    have f58 : Fld Z T36.heap se "java/lang/String" "value" "[B" (.ref te) := f24.keep Kq36 nin0
    have f59 : Fld Z T36.heap se "java/lang/String" "coder" "B" (.int (0 : Int32)) := f25.keep Kq36 nin0
    have f60 : Arv Z T36.heap te ke .byte (Int32.ofNat (List.length le)) (List.map Value.int le) (.int (0 : Int32)) := f26.keep Kq36 nin0
    have f61 : Exa Z T36.heap sf "java/lang/String" := f27.keep Kq36
    have f62 : Fld Z T36.heap sf "java/lang/String" "value" "[B" (.ref tf) := f28.keep Kq36 nin0
    have f63 : Fld Z T36.heap sf "java/lang/String" "coder" "B" (.int (0 : Int32)) := f29.keep Kq36 nin0
    have f64 : Arv Z T36.heap tf kf .byte (Int32.ofNat (List.length lf)) (List.map Value.int lf) (.int (0 : Int32)) := f30.keep Kq36 nin0
    have f65 : Safe Z EL T36.vm T36.heap sa := C36.safe f7.lt f31
    have f66 : Safe Z EL T36.vm T36.heap sb := C36.safe f11.lt f32
    have f67 : Safe Z EL T36.vm T36.heap sc := C36.safe f15.lt f33
    have CH36 : CHr Z EL s.vm s.heap T36.vm T36.heap := CH2.trans C36
    have O36 : Old Z n0 T36.heap := O2.keep Kq36 all0
    have K36 : Keep h0 T36.heap [] := K2.trans Kq36 all0
    show GoW p e below s _ _ _ _ _ (T36.setTop (mkF m 19 #[.val (.ref ob), .val (.ref sd), .val (.ref se), .val (.ref sf)] [(.int (fm lb le))]))
    by_cases hc68 : (fm lb le) = (0 : Int32)
    · refine GoW.st (fun _ k' => XS.ifYes X36.here hx rfl (pc0 := 19) (pc' := 37) rfl (hb hby d11_19) rfl (XT.i0_eq_t hc68) (by decide) (by decide) k') ?_
      show GoW p e below s _ _ _ _ _ (T36.setTop (mkF m 37 #[.val (.ref ob), .val (.ref sd), .val (.ref se), .val (.ref sf)] []))
      refine GoW.st (fun _ k' => XS.iconst X36.here hx rfl (hb hby d11_37) k') ?_
      show GoW p e below s _ _ _ _ _ (T36.setTop (mkF m 38 #[.val (.ref ob), .val (.ref sd), .val (.ref se), .val (.ref sf)] [(.int (0 : Int32))]))
      refine GoW.retB X36 hx hlk hS36 (Nat.le_refl _) hZ36 hEL CH36 (t := .boolean) Bd.returns (by simp) (hb hby d11_38) (by decide) (by decide) rfl ?_
      exact ⟨(by have z0 := hc34; have z1 := hc68; simp_all [fa3, nar]), N36, K36⟩
    · refine GoW.st (fun _ k' => XS.ifNo X36.here hx rfl (hb hby d11_19) rfl (XT.i0_eq_f hc68) k') ?_
      show GoW p e below s _ _ _ _ _ (T36.setTop (mkF m 22 #[.val (.ref ob), .val (.ref sd), .val (.ref se), .val (.ref sf)] []))
      refine GoW.st (fun _ k' => XS.aloadN X36.here hx rfl (hb hby d11_22) rfl rfl k') ?_
      show GoW p e below s _ _ _ _ _ (T36.setTop (mkF m 23 #[.val (.ref ob), .val (.ref sd), .val (.ref se), .val (.ref sf)] [(.ref ob)]))
      obtain ⟨T69, X69, e69, st69⟩ := getF X36 hx hZ36 hown36 (host := "") (Or.inl (wdx hw 64 rfl)) Via.refl rfl f40 (g := (mkF m 23 #[.val (.ref ob), .val (.ref sd), .val (.ref se), .val (.ref sf)] [(.ref ob)])) rfl rfl (hb hby d11_23)
      refine GoW.st st69 ?_
      show GoW p e below s _ _ _ _ _ (T69.setTop (mkF m 26 #[.val (.ref ob), .val (.ref sd), .val (.ref se), .val (.ref sf)] [(.ref sc)]))
      refine GoW.st (fun _ k' => XS.aloadN X69.here hx rfl (hb hby d11_26) rfl rfl k') ?_
      show GoW p e below s _ _ _ _ _ (T69.setTop (mkF m 27 #[.val (.ref ob), .val (.ref sd), .val (.ref se), .val (.ref sf)] [(.ref sf), (.ref sc)]))
      obtain ⟨_, _, ⟨T70, L70, k70, n70⟩, -, Xr70, hSr70, hgr70, ⟨Lc70, hQ70, l70, y70, z70, C70⟩, st70⟩ := callSS X69 hx (y := (⟨"com/example/indenture/indenture/model/Identifier", "fieldMatches", "(Ljava/lang/String;Ljava/lang/String;)Z"⟩ : MethodName)) hown36 (mvT hZ36 (wdx hw 71 rfl)) (mvT hZ36 (wdx hw 72 rfl)) (mvT hZ36 (wdx hw 7 rfl)) (mvT hZ36 (wdx hw 73 rfl)) (by decide) (own_back (W := 0) (rm12 l Z a0 hw [] sc sf cs tc kc lc tf kf lf T36.heap n0 O36 f49 f50 f51 f52 f61 f62 f63 f64 S_cs q_cs q_lc q_lf ne_cf) hZ36 (wdx hw 73 rfl) (wdx hw 7 rfl) (by decide) (by decide) hEL CH36.1 (allS ⟨f49.lt, f67⟩ all0)) (g := (mkF m 27 #[.val (.ref ob), .val (.ref sd), .val (.ref se), .val (.ref sf)] [(.ref sf), (.ref sc)])) rfl (by rw [hml]; rfl) (argsL := [(.ref sc), (.ref sf)]) (rest := []) (lenOf pd__Ljava_lang_String_Ljava_lang_String__Z rfl) rfl (by show 2 * 0 + _ ≤ _; exact Nat.le_of_eq rfl) (hb hby d11_27) (fun _ _ => ⟨rfl, e69, (by exact Nat.le_of_ble_eq_true rfl), (by exact Nat.le_of_ble_eq_true rfl)⟩)
      dsimp only [Pt.U, Pt.locs, Pt.cells, Pt.slots] at Xr70 hSr70 hgr70 l70 y70 z70 C70 st70 hQ70
      subst l70 y70 z70
      obtain ⟨X70, hS70, hZ70, hown70⟩ := rebS hS36 (by rw [e69]; exact (Nat.le_refl _)) Xr70 hSr70 hgr70 hZ36 hown36
      obtain ⟨rfl, Nq70, Kq70⟩ := hQ70
      have N70 := Fr.app N36 Nq70
      refine GoW.tr st70 ?_
      have f71 : Exa Z T70.heap ob "com/example/indenture/indenture/model/Identifier" := f37.keep Kq70
      have f72 : Fld Z T70.heap ob "com/example/indenture/indenture/model/Identifier" "sourceType" "Ljava/lang/String;" (.ref sa) := f38.keep Kq70 nin0
      have f73 : Fld Z T70.heap ob "com/example/indenture/indenture/model/Identifier" "category" "Ljava/lang/String;" (.ref sb) := f39.keep Kq70 nin0
      have f74 : Fld Z T70.heap ob "com/example/indenture/indenture/model/Identifier" "subcategory" "Ljava/lang/String;" (.ref sc) := f40.keep Kq70 nin0
      have f75 : Exa Z T70.heap sa "java/lang/String" := f41.keep Kq70
      have f76 : Fld Z T70.heap sa "java/lang/String" "value" "[B" (.ref ta) := f42.keep Kq70 nin0
      have f77 : Fld Z T70.heap sa "java/lang/String" "coder" "B" (.int (0 : Int32)) := f43.keep Kq70 nin0
      have f78 : Arv Z T70.heap ta ka .byte (Int32.ofNat (List.length la)) (List.map Value.int la) (.int (0 : Int32)) := f44.keep Kq70 nin0
      have f79 : Exa Z T70.heap sb "java/lang/String" := f45.keep Kq70
      have f80 : Fld Z T70.heap sb "java/lang/String" "value" "[B" (.ref tb) := f46.keep Kq70 nin0
      have f81 : Fld Z T70.heap sb "java/lang/String" "coder" "B" (.int (0 : Int32)) := f47.keep Kq70 nin0
      have f82 : Arv Z T70.heap tb kb .byte (Int32.ofNat (List.length lb)) (List.map Value.int lb) (.int (0 : Int32)) := f48.keep Kq70 nin0
      have f83 : Exa Z T70.heap sc "java/lang/String" := f49.keep Kq70
      have f84 : Fld Z T70.heap sc "java/lang/String" "value" "[B" (.ref tc) := f50.keep Kq70 nin0
      have f85 : Fld Z T70.heap sc "java/lang/String" "coder" "B" (.int (0 : Int32)) := f51.keep Kq70 nin0
      have f86 : Arv Z T70.heap tc kc .byte (Int32.ofNat (List.length lc)) (List.map Value.int lc) (.int (0 : Int32)) := f52.keep Kq70 nin0
      have f87 : Exa Z T70.heap sd "java/lang/String" := f53.keep Kq70
      have f88 : Fld Z T70.heap sd "java/lang/String" "value" "[B" (.ref td) := f54.keep Kq70 nin0
      have f89 : Fld Z T70.heap sd "java/lang/String" "coder" "B" (.int (0 : Int32)) := f55.keep Kq70 nin0
      have f90 : Arv Z T70.heap td kd .byte (Int32.ofNat (List.length ld)) (List.map Value.int ld) (.int (0 : Int32)) := f56.keep Kq70 nin0
      have f91 : Exa Z T70.heap se "java/lang/String" := f57.keep Kq70
      have f92 : Fld Z T70.heap se "java/lang/String" "value" "[B" (.ref te) := f58.keep Kq70 nin0
      have f93 : Fld Z T70.heap se "java/lang/String" "coder" "B" (.int (0 : Int32)) := f59.keep Kq70 nin0
      have f94 : Arv Z T70.heap te ke .byte (Int32.ofNat (List.length le)) (List.map Value.int le) (.int (0 : Int32)) := f60.keep Kq70 nin0
      have f95 : Exa Z T70.heap sf "java/lang/String" := f61.keep Kq70
      have f96 : Fld Z T70.heap sf "java/lang/String" "value" "[B" (.ref tf) := f62.keep Kq70 nin0
      have f97 : Fld Z T70.heap sf "java/lang/String" "coder" "B" (.int (0 : Int32)) := f63.keep Kq70 nin0
      have f98 : Arv Z T70.heap tf kf .byte (Int32.ofNat (List.length lf)) (List.map Value.int lf) (.int (0 : Int32)) := f64.keep Kq70 nin0
      have f99 : Safe Z EL T70.vm T70.heap sa := C70.safe f41.lt f65
      have f100 : Safe Z EL T70.vm T70.heap sb := C70.safe f45.lt f66
      have f101 : Safe Z EL T70.vm T70.heap sc := C70.safe f49.lt f67
      have CH70 : CHr Z EL s.vm s.heap T70.vm T70.heap := CH36.trans C70
      have O70 : Old Z n0 T70.heap := O36.keep Kq70 all0
      have K70 : Keep h0 T70.heap [] := K36.trans Kq70 all0
      show GoW p e below s _ _ _ _ _ (T70.setTop (mkF m 30 #[.val (.ref ob), .val (.ref sd), .val (.ref se), .val (.ref sf)] [(.int (fm lc lf))]))
      by_cases hc102 : (fm lc lf) = (0 : Int32)
      · refine GoW.st (fun _ k' => XS.ifYes X70.here hx rfl (pc0 := 30) (pc' := 37) rfl (hb hby d11_30) rfl (XT.i0_eq_t hc102) (by decide) (by decide) k') ?_
        show GoW p e below s _ _ _ _ _ (T70.setTop (mkF m 37 #[.val (.ref ob), .val (.ref sd), .val (.ref se), .val (.ref sf)] []))
        refine GoW.st (fun _ k' => XS.iconst X70.here hx rfl (hb hby d11_37) k') ?_
        show GoW p e below s _ _ _ _ _ (T70.setTop (mkF m 38 #[.val (.ref ob), .val (.ref sd), .val (.ref se), .val (.ref sf)] [(.int (0 : Int32))]))
        refine GoW.retB X70 hx hlk hS70 (Nat.le_refl _) hZ70 hEL CH70 (t := .boolean) Bd.returns (by simp) (hb hby d11_38) (by decide) (by decide) rfl ?_
        exact ⟨(by have z0 := hc34; have z1 := hc68; have z2 := hc102; simp_all [fa3, nar]), N70, K70⟩
      · refine GoW.st (fun _ k' => XS.ifNo X70.here hx rfl (hb hby d11_30) rfl (XT.i0_eq_f hc102) k') ?_
        show GoW p e below s _ _ _ _ _ (T70.setTop (mkF m 33 #[.val (.ref ob), .val (.ref sd), .val (.ref se), .val (.ref sf)] []))
        refine GoW.st (fun _ k' => XS.iconst X70.here hx rfl (hb hby d11_33) k') ?_
        show GoW p e below s _ _ _ _ _ (T70.setTop (mkF m 34 #[.val (.ref ob), .val (.ref sd), .val (.ref se), .val (.ref sf)] [(.int (1 : Int32))]))
        refine GoW.st (fun _ k' => XS.goto X70.here hx rfl (pc0 := 34) (pc' := 38) rfl (hb hby d11_34) (by decide) (by decide) k') ?_
        show GoW p e below s _ _ _ _ _ (T70.setTop (mkF m 38 #[.val (.ref ob), .val (.ref sd), .val (.ref se), .val (.ref sf)] [(.int (1 : Int32))]))
        refine GoW.retB X70 hx hlk hS70 (Nat.le_refl _) hZ70 hEL CH70 (t := .boolean) Bd.returns (by simp) (hb hby d11_38) (by decide) (by decide) rfl ?_
        exact ⟨(by have z0 := hc34; have z1 := hc68; have z2 := hc102; simp_all [fa3, nar]), N70, K70⟩
theorem pd__I__C : parseMethodDescriptor "(I)[C" = some ⟨[.int], some (.array .char)⟩ := by decide +kernel
theorem pd___C_V : parseMethodDescriptor "([C)V" = some ⟨[(.array .char)], none⟩ := by decide +kernel
theorem pd__Ljava_lang_String_Ljava_lang_String_Ljava_lang_String_Ljava_lang_String__V : parseMethodDescriptor "(Ljava/lang/String;Ljava/lang/String;Ljava/lang/String;Ljava/lang/String;)V" = some ⟨[(.object "java/lang/String"), (.object "java/lang/String"), (.object "java/lang/String"), (.object "java/lang/String")], none⟩ := by decide +kernel
theorem pd__Ljava_lang_String_Ljava_lang_String_Ljava_lang_String__Z : parseMethodDescriptor "(Ljava/lang/String;Ljava/lang/String;Ljava/lang/String;)Z" = some ⟨[(.object "java/lang/String"), (.object "java/lang/String"), (.object "java/lang/String")], some .boolean⟩ := by decide +kernel
theorem ef_rm0 (m : MethodId) (ua : Int32) (va : Int32) (ub : Int32) (vb : Int32) (uc : Int32) (vc : Int32) : entryFrame m #[(.int ua), (.int va), (.int ub), (.int vb), (.int uc), (.int vc)] maxLocals = mkF m 0 #[.val (.int ua), .val (.int va), .val (.int ub), .val (.int vb), .val (.int uc), .val (.int vc), .unset, .unset, .unset, .unset, .unset, .unset, .unset, .unset, .unset] [] := by first | (simp [entryFrame, mkF, argsToLocals, Value.category, maxLocals]; done) | rfl
def Q0 (Z : State) (ua : Int32) (va : Int32) (ub : Int32) (vb : Int32) (uc : Int32) (vc : Int32) (cs : Int32) (h0 : Heap) (n0 : Nat) (v : Option Value) (h : Heap) (L : List Loc) : Prop := v = some (.int (1 : Int32)) ∧ Fr n0 L ∧ True
set_option maxRecDepth 65536 in
set_option maxHeartbeats 40000000 in
theorem rm0 (l : Launch) (Z : State) (a0 : Array Value) (hw : ∀ d ∈ tables_1, d.before a0 Z = true) (ws : List Jvm.Cond) (ua : Int32) (va : Int32) (ub : Int32) (vb : Int32) (uc : Int32) (vc : Int32) (cs : Int32) (h0 : Heap) (n0 : Nat) (O0 : Old Z n0 h0) (S_cs : Sta Z Z.heap "java/lang/String" "COMPACT_STRINGS" "Z" (.int cs)) (q_cs : ¬ cs = (0 : Int32)) :
    MetFree l x (head1 (Jvm.Cond.code x code maxLocals ret :: ws) room_1) (fun ay U => ay = #[(.int ua), (.int va), (.int ub), (.int vb), (.int uc), (.int vc)] ∧ Z.Warmed39 U.vm ∧ U.heap = h0 ∧ CHv Z EL U.vm h0 ∧ ∀ y ∈ ([] : List Addr), Safe Z EL U.vm h0 y) (fun _ _ _ _ _ => True) (fun _ U o U' => ∃ v L, o = .returned v ∧ Q0 Z ua va ub vb uc vc cs h0 n0 v U'.heap L ∧ CHr Z EL U.vm U.heap U'.vm U'.heap ∧ ReturnedEndW U o U' L room_1.cells room_1.slots) := by
  refine MetFree.of_bodySF (plainFor_of_name pn_com_example_indenture_indenture_model_IdentifierMatchesPinLaw) hisR ?_
  intro p e s m args below meth c s₁ Bd hml0 hP hK
  obtain ⟨rfl, hZ, hh, hCH, hSf⟩ := hP
  have hx := Bd.exec
  have hby := Bd.bytes
  have hlk : meth.locks = false := BodyLoose.notSynchronized Bd
  have hml : c.maxLocals = 15 := hml0
  have hown : s.vm.findClass "com/example/indenture/indenture/model/IdentifierMatchesPinLaw" = some m.cls := findClass_of_methodNamed Bd.named
  have hnm := (name_of_methodNamed Bd.named Bd.method).1
  have X0 : Stand p l e room_1 (s.setVm s.vm) m #[(.int ua), (.int va), (.int ub), (.int vb), (.int uc), (.int vc)] below meth c s₁ [] 0 0 := Stand.of_body Bd
  have e0 : s₁.heap = h0 := by rw [← hh, Bd.state]; rfl
  have N0 := Fr.nil n0
  have hS0 : s.Since s.vm 0 := (State.WarmedH.refl s).since 0
  have hk0 : 0 ≤ h0.size := Nat.zero_le _
  have CH0 : CHr Z EL s.vm s.heap s.vm h0 := by rw [hh]; exact CHr.refl hCH
  have hEL : EW Z a0 EL := own_EW hw
  have hwS := own_wS hw
  suffices hgo : GoW p e below s 64 7424 Z EL (Q0 Z ua va ub vb uc vc cs h0 n0) (s₁.setTop (mkF m 0 #[.val (.int ua), .val (.int va), .val (.int ub), .val (.int vb), .val (.int uc), .val (.int vc), .unset, .unset, .unset, .unset, .unset, .unset, .unset, .unset, .unset] [])) by
    obtain ⟨t, o, h1, h2⟩ := hgo; exact ⟨t, o, castTop (ef_rm0 m ua va ub vb uc vc) h1, h2⟩
  show GoW p e below s _ _ _ _ _ (s₁.setTop (mkF m 0 #[.val (.int ua), .val (.int va), .val (.int ub), .val (.int vb), .val (.int uc), .val (.int vc), .unset, .unset, .unset, .unset, .unset, .unset, .unset, .unset, .unset] []))
  refine GoW.st (fun _ k' => XS.iloadN X0.here hx rfl (hb hby at_0) rfl k') ?_
  show GoW p e below s _ _ _ _ _ (s₁.setTop (mkF m 1 #[.val (.int ua), .val (.int va), .val (.int ub), .val (.int vb), .val (.int uc), .val (.int vc), .unset, .unset, .unset, .unset, .unset, .unset, .unset, .unset, .unset] [(.int ua)]))
  obtain ⟨_, _, ⟨T1, L1, k1, n1⟩, -, X1, ⟨Lc1, hQ1, l1, y1, z1⟩, st1⟩ := Jvm.LawKit.callS X0 hx (y := (⟨"com/example/indenture/indenture/model/IdentifierMatchesPinLaw", "chars", "(I)[C"⟩ : MethodName)) hown (mvT hZ (wdx hw 0 rfl)) (mvT hZ (wdx hw 1 rfl)) (mvT hZ (wdx hw 2 rfl)) (mvT hZ (wdx hw 3 rfl)) (by decide) (backOf (W := 0) (rm1 l Z a0 hw [] ua h0 n0 O0 ) hZ (wdx hw 3 rfl) (wdx hw 2 rfl) (by decide) (by decide)) (g := (mkF m 1 #[.val (.int ua), .val (.int va), .val (.int ub), .val (.int vb), .val (.int uc), .val (.int vc), .unset, .unset, .unset, .unset, .unset, .unset, .unset, .unset, .unset] [(.int ua)])) rfl (by rw [hml]; rfl) (argsL := [(.int ua)]) (rest := []) (lenOf pd__I__C rfl) rfl (by show 2 * 0 + _ ≤ _; exact Nat.le_of_eq rfl) (hb hby at_1) (fun _ _ => ⟨rfl, e0, (by exact Nat.le_of_ble_eq_true rfl), (by exact Nat.le_of_ble_eq_true rfl)⟩)
  dsimp only [Pt.U, Pt.locs, Pt.cells, Pt.slots] at X1 l1 y1 z1 st1 hQ1
  subst l1 y1 z1
  obtain ⟨rr_1, kr_1, rfl, Nq1, Kq1, f2, szr_1⟩ := hQ1
  have N1 := Fr.app N0 Nq1
  refine GoW.st st1 ?_
  have CH1 : CHr Z EL s.vm s.heap s.vm T1.heap := CH0.trans (CHr.keep Kq1 all0 CH0.1)
  have hk1 : 0 ≤ Array.size T1.heap := Nat.le_trans hk0 Kq1.1
  have O1 : Old Z n0 T1.heap := O0.keep Kq1 all0
  have g_rr_1 : n0 ≤ rr_1 := Nat.le_trans (own_le O0) szr_1
  have sf_rr_1 : Safe Z EL s.vm T1.heap rr_1 := Safe.keep Kq1 all0 CH0.1 (Safe.new szr_1)
  show GoW p e below s _ _ _ _ _ (T1.setTop (mkF m 4 #[.val (.int ua), .val (.int va), .val (.int ub), .val (.int vb), .val (.int uc), .val (.int vc), .unset, .unset, .unset, .unset, .unset, .unset, .unset, .unset, .unset] [(.ref rr_1)]))
  refine GoW.st (fun _ k' => XS.astore X1.here hx rfl (hb hby at_4) rfl rfl (l' := #[.val (.int ua), .val (.int va), .val (.int ub), .val (.int vb), .val (.int uc), .val (.int vc), .val (.ref rr_1), .unset, .unset, .unset, .unset, .unset, .unset, .unset, .unset]) rfl k') ?_
  show GoW p e below s _ _ _ _ _ (T1.setTop (mkF m 6 #[.val (.int ua), .val (.int va), .val (.int ub), .val (.int vb), .val (.int uc), .val (.int vc), .val (.ref rr_1), .unset, .unset, .unset, .unset, .unset, .unset, .unset, .unset] []))
  refine GoW.st (fun _ k' => XS.iloadN X1.here hx rfl (hb hby at_6) rfl k') ?_
  show GoW p e below s _ _ _ _ _ (T1.setTop (mkF m 7 #[.val (.int ua), .val (.int va), .val (.int ub), .val (.int vb), .val (.int uc), .val (.int vc), .val (.ref rr_1), .unset, .unset, .unset, .unset, .unset, .unset, .unset, .unset] [(.int ub)]))
  obtain ⟨_, _, ⟨T3, L3, k3, n3⟩, -, X3, ⟨Lc3, hQ3, l3, y3, z3⟩, st3⟩ := Jvm.LawKit.callS X1 hx (y := (⟨"com/example/indenture/indenture/model/IdentifierMatchesPinLaw", "chars", "(I)[C"⟩ : MethodName)) hown (mvT hZ (wdx hw 0 rfl)) (mvT hZ (wdx hw 1 rfl)) (mvT hZ (wdx hw 2 rfl)) (mvT hZ (wdx hw 3 rfl)) (by decide) (backOf (W := 0) (rm1 l Z a0 hw [] ub T1.heap n0 O1 ) hZ (wdx hw 3 rfl) (wdx hw 2 rfl) (by decide) (by decide)) (g := (mkF m 7 #[.val (.int ua), .val (.int va), .val (.int ub), .val (.int vb), .val (.int uc), .val (.int vc), .val (.ref rr_1), .unset, .unset, .unset, .unset, .unset, .unset, .unset, .unset] [(.int ub)])) rfl (by rw [hml]; rfl) (argsL := [(.int ub)]) (rest := []) (lenOf pd__I__C rfl) rfl (by show 2 * 0 + _ ≤ _; exact Nat.le_of_eq rfl) (hb hby at_7) (fun _ _ => ⟨rfl, rfl, (by exact Nat.le_of_ble_eq_true rfl), (by exact Nat.le_of_ble_eq_true rfl)⟩)
  dsimp only [Pt.U, Pt.locs, Pt.cells, Pt.slots] at X3 l3 y3 z3 st3 hQ3
  subst l3 y3 z3
  obtain ⟨rr_3, kr_3, rfl, Nq3, Kq3, f4, szr_3⟩ := hQ3
  have N3 := Fr.app N1 Nq3
  refine GoW.st st3 ?_
  have f5 : Arv Z T3.heap rr_1 kr_1 .char (Int32.ofNat (List.length (fch ua))) (List.map Value.int (fch ua)) (.int (0 : Int32)) := f2.keep Kq3 nin0
  have f6 : Safe Z EL s.vm T3.heap rr_1 := Safe.keep Kq3 all0 CH1.1 sf_rr_1
  have CH3 : CHr Z EL s.vm s.heap s.vm T3.heap := CH1.trans (CHr.keep Kq3 all0 CH1.1)
  have hk3 : 0 ≤ Array.size T3.heap := Nat.le_trans hk1 Kq3.1
  have O3 : Old Z n0 T3.heap := O1.keep Kq3 all0
  have g_rr_3 : n0 ≤ rr_3 := Nat.le_trans (own_le O1) szr_3
  have sf_rr_3 : Safe Z EL s.vm T3.heap rr_3 := Safe.keep Kq3 all0 CH1.1 (Safe.new szr_3)
  have ne7 : rr_1 ≠ rr_3 := Nat.ne_of_lt (Nat.lt_of_lt_of_le f2.lt szr_3)
  show GoW p e below s _ _ _ _ _ (T3.setTop (mkF m 10 #[.val (.int ua), .val (.int va), .val (.int ub), .val (.int vb), .val (.int uc), .val (.int vc), .val (.ref rr_1), .unset, .unset, .unset, .unset, .unset, .unset, .unset, .unset] [(.ref rr_3)]))
  refine GoW.st (fun _ k' => XS.astore X3.here hx rfl (hb hby at_10) rfl rfl (l' := #[.val (.int ua), .val (.int va), .val (.int ub), .val (.int vb), .val (.int uc), .val (.int vc), .val (.ref rr_1), .val (.ref rr_3), .unset, .unset, .unset, .unset, .unset, .unset, .unset]) rfl k') ?_
  show GoW p e below s _ _ _ _ _ (T3.setTop (mkF m 12 #[.val (.int ua), .val (.int va), .val (.int ub), .val (.int vb), .val (.int uc), .val (.int vc), .val (.ref rr_1), .val (.ref rr_3), .unset, .unset, .unset, .unset, .unset, .unset, .unset] []))
  refine GoW.st (fun _ k' => XS.iload X3.here hx rfl (hb hby at_12) rfl k') ?_
  show GoW p e below s _ _ _ _ _ (T3.setTop (mkF m 14 #[.val (.int ua), .val (.int va), .val (.int ub), .val (.int vb), .val (.int uc), .val (.int vc), .val (.ref rr_1), .val (.ref rr_3), .unset, .unset, .unset, .unset, .unset, .unset, .unset] [(.int uc)]))
  obtain ⟨_, _, ⟨T8, L8, k8, n8⟩, -, X8, ⟨Lc8, hQ8, l8, y8, z8⟩, st8⟩ := Jvm.LawKit.callS X3 hx (y := (⟨"com/example/indenture/indenture/model/IdentifierMatchesPinLaw", "chars", "(I)[C"⟩ : MethodName)) hown (mvT hZ (wdx hw 0 rfl)) (mvT hZ (wdx hw 1 rfl)) (mvT hZ (wdx hw 2 rfl)) (mvT hZ (wdx hw 3 rfl)) (by decide) (backOf (W := 0) (rm1 l Z a0 hw [] uc T3.heap n0 O3 ) hZ (wdx hw 3 rfl) (wdx hw 2 rfl) (by decide) (by decide)) (g := (mkF m 14 #[.val (.int ua), .val (.int va), .val (.int ub), .val (.int vb), .val (.int uc), .val (.int vc), .val (.ref rr_1), .val (.ref rr_3), .unset, .unset, .unset, .unset, .unset, .unset, .unset] [(.int uc)])) rfl (by rw [hml]; rfl) (argsL := [(.int uc)]) (rest := []) (lenOf pd__I__C rfl) rfl (by show 2 * 0 + _ ≤ _; exact Nat.le_of_eq rfl) (hb hby at_14) (fun _ _ => ⟨rfl, rfl, (by exact Nat.le_of_ble_eq_true rfl), (by exact Nat.le_of_ble_eq_true rfl)⟩)
  dsimp only [Pt.U, Pt.locs, Pt.cells, Pt.slots] at X8 l8 y8 z8 st8 hQ8
  subst l8 y8 z8
  obtain ⟨rr_8, kr_8, rfl, Nq8, Kq8, f9, szr_8⟩ := hQ8
  have N8 := Fr.app N3 Nq8
  refine GoW.st st8 ?_
  have f10 : Arv Z T8.heap rr_1 kr_1 .char (Int32.ofNat (List.length (fch ua))) (List.map Value.int (fch ua)) (.int (0 : Int32)) := f5.keep Kq8 nin0
  have f11 : Safe Z EL s.vm T8.heap rr_1 := Safe.keep Kq8 all0 CH3.1 f6
  have f12 : Arv Z T8.heap rr_3 kr_3 .char (Int32.ofNat (List.length (fch ub))) (List.map Value.int (fch ub)) (.int (0 : Int32)) := f4.keep Kq8 nin0
  have f13 : Safe Z EL s.vm T8.heap rr_3 := Safe.keep Kq8 all0 CH3.1 sf_rr_3
  have CH8 : CHr Z EL s.vm s.heap s.vm T8.heap := CH3.trans (CHr.keep Kq8 all0 CH3.1)
  have hk8 : 0 ≤ Array.size T8.heap := Nat.le_trans hk3 Kq8.1
  have O8 : Old Z n0 T8.heap := O3.keep Kq8 all0
  have g_rr_8 : n0 ≤ rr_8 := Nat.le_trans (own_le O3) szr_8
  have sf_rr_8 : Safe Z EL s.vm T8.heap rr_8 := Safe.keep Kq8 all0 CH3.1 (Safe.new szr_8)
  have ne14 : rr_1 ≠ rr_8 := Nat.ne_of_lt (Nat.lt_of_lt_of_le f5.lt szr_8)
  have ne15 : rr_3 ≠ rr_8 := Nat.ne_of_lt (Nat.lt_of_lt_of_le f4.lt szr_8)
  show GoW p e below s _ _ _ _ _ (T8.setTop (mkF m 17 #[.val (.int ua), .val (.int va), .val (.int ub), .val (.int vb), .val (.int uc), .val (.int vc), .val (.ref rr_1), .val (.ref rr_3), .unset, .unset, .unset, .unset, .unset, .unset, .unset] [(.ref rr_8)]))
  refine GoW.st (fun _ k' => XS.astore X8.here hx rfl (hb hby at_17) rfl rfl (l' := #[.val (.int ua), .val (.int va), .val (.int ub), .val (.int vb), .val (.int uc), .val (.int vc), .val (.ref rr_1), .val (.ref rr_3), .val (.ref rr_8), .unset, .unset, .unset, .unset, .unset, .unset]) rfl k') ?_
  show GoW p e below s _ _ _ _ _ (T8.setTop (mkF m 19 #[.val (.int ua), .val (.int va), .val (.int ub), .val (.int vb), .val (.int uc), .val (.int vc), .val (.ref rr_1), .val (.ref rr_3), .val (.ref rr_8), .unset, .unset, .unset, .unset, .unset, .unset] []))
  have J16 : ∀ (T_J16 : State) (l_J16 : List Loc) (h_J16 : Heap) (X_J16 : Stand p l e room_1 (s.setVm s.vm) m #[(.int ua), (.int va), (.int ub), (.int vb), (.int uc), (.int vc)] below meth c T_J16 l_J16 4 8) (e_J16 : T_J16.heap = h_J16) (N_J16 : Fr n0 l_J16) (O_J16 : Old Z n0 h_J16) (CH_J16 : CHr Z EL s.vm s.heap s.vm h_J16) (hk_J16 : 0 ≤ Array.size h_J16) (cxa : Addr) (kxa : ClassId) (lxa : List Int32) (gJ16_0 : Arv Z h_J16 rr_1 kr_1 .char (Int32.ofNat (List.length (fch ua))) (List.map Value.int (fch ua)) (.int (0 : Int32))) (gJ16_1 : Safe Z EL s.vm h_J16 rr_1) (gJ16_2 : Arv Z h_J16 rr_3 kr_3 .char (Int32.ofNat (List.length (fch ub))) (List.map Value.int (fch ub)) (.int (0 : Int32))) (gJ16_3 : Safe Z EL s.vm h_J16 rr_3) (gJ16_4 : Arv Z h_J16 rr_8 kr_8 .char (Int32.ofNat (List.length (fch uc))) (List.map Value.int (fch uc)) (.int (0 : Int32))) (gJ16_5 : Safe Z EL s.vm h_J16 rr_8) (gJ16_6 : Arv Z h_J16 cxa kxa .char (Int32.ofNat (List.length lxa)) (List.map Value.int lxa) (.int (0 : Int32))) (q_lxa : lxa.length ≤ 2) (r_lxa : ∀ y ∈ lxa, 0 ≤ y.toInt ∧ y.toInt ≤ 255), GoW p e below s 64 7424 Z EL (Q0 Z ua va ub vb uc vc cs h0 n0) (T_J16.setTop (mkF m 38 #[.val (.int ua), .val (.int va), .val (.int ub), .val (.int vb), .val (.int uc), .val (.int vc), .val (.ref rr_1), .val (.ref rr_3), .val (.ref rr_8), .unset, .unset, .unset, .unset, .unset, .unset] [(.ref cxa)])) := by
    intro T_J16 l_J16 h_J16 X_J16 e_J16 N_J16 O_J16 CH_J16 hk_J16 cxa kxa lxa gJ16_0 gJ16_1 gJ16_2 gJ16_3 gJ16_4 gJ16_5 gJ16_6 q_lxa r_lxa
    show GoW p e below s _ _ _ _ _ (T_J16.setTop (mkF m 38 #[.val (.int ua), .val (.int va), .val (.int ub), .val (.int vb), .val (.int uc), .val (.int vc), .val (.ref rr_1), .val (.ref rr_3), .val (.ref rr_8), .unset, .unset, .unset, .unset, .unset, .unset] [(.ref cxa)]))
    refine GoW.st (fun _ k' => XS.astore X_J16.here hx rfl (hb hby at_38) rfl rfl (l' := #[.val (.int ua), .val (.int va), .val (.int ub), .val (.int vb), .val (.int uc), .val (.int vc), .val (.ref rr_1), .val (.ref rr_3), .val (.ref rr_8), .val (.ref cxa), .unset, .unset, .unset, .unset, .unset]) rfl k') ?_
    show GoW p e below s _ _ _ _ _ (T_J16.setTop (mkF m 40 #[.val (.int ua), .val (.int va), .val (.int ub), .val (.int vb), .val (.int uc), .val (.int vc), .val (.ref rr_1), .val (.ref rr_3), .val (.ref rr_8), .val (.ref cxa), .unset, .unset, .unset, .unset, .unset] []))
    have J17 : ∀ (T_J17 : State) (l_J17 : List Loc) (h_J17 : Heap) (X_J17 : Stand p l e room_1 (s.setVm s.vm) m #[(.int ua), (.int va), (.int ub), (.int vb), (.int uc), (.int vc)] below meth c T_J17 l_J17 5 10) (e_J17 : T_J17.heap = h_J17) (N_J17 : Fr n0 l_J17) (O_J17 : Old Z n0 h_J17) (CH_J17 : CHr Z EL s.vm s.heap s.vm h_J17) (hk_J17 : 0 ≤ Array.size h_J17) (cxb : Addr) (kxb : ClassId) (lxb : List Int32) (gJ17_0 : Arv Z h_J17 rr_1 kr_1 .char (Int32.ofNat (List.length (fch ua))) (List.map Value.int (fch ua)) (.int (0 : Int32))) (gJ17_1 : Safe Z EL s.vm h_J17 rr_1) (gJ17_2 : Arv Z h_J17 rr_3 kr_3 .char (Int32.ofNat (List.length (fch ub))) (List.map Value.int (fch ub)) (.int (0 : Int32))) (gJ17_3 : Safe Z EL s.vm h_J17 rr_3) (gJ17_4 : Arv Z h_J17 rr_8 kr_8 .char (Int32.ofNat (List.length (fch uc))) (List.map Value.int (fch uc)) (.int (0 : Int32))) (gJ17_5 : Safe Z EL s.vm h_J17 rr_8) (gJ17_6 : Arv Z h_J17 cxa kxa .char (Int32.ofNat (List.length lxa)) (List.map Value.int lxa) (.int (0 : Int32))) (gJ17_7 : Arv Z h_J17 cxb kxb .char (Int32.ofNat (List.length lxb)) (List.map Value.int lxb) (.int (0 : Int32))) (q_lxb : lxb.length ≤ 2) (r_lxb : ∀ y ∈ lxb, 0 ≤ y.toInt ∧ y.toInt ≤ 255), GoW p e below s 64 7424 Z EL (Q0 Z ua va ub vb uc vc cs h0 n0) (T_J17.setTop (mkF m 59 #[.val (.int ua), .val (.int va), .val (.int ub), .val (.int vb), .val (.int uc), .val (.int vc), .val (.ref rr_1), .val (.ref rr_3), .val (.ref rr_8), .val (.ref cxa), .unset, .unset, .unset, .unset, .unset] [(.ref cxb)])) := by
      intro T_J17 l_J17 h_J17 X_J17 e_J17 N_J17 O_J17 CH_J17 hk_J17 cxb kxb lxb gJ17_0 gJ17_1 gJ17_2 gJ17_3 gJ17_4 gJ17_5 gJ17_6 gJ17_7 q_lxb r_lxb
      show GoW p e below s _ _ _ _ _ (T_J17.setTop (mkF m 59 #[.val (.int ua), .val (.int va), .val (.int ub), .val (.int vb), .val (.int uc), .val (.int vc), .val (.ref rr_1), .val (.ref rr_3), .val (.ref rr_8), .val (.ref cxa), .unset, .unset, .unset, .unset, .unset] [(.ref cxb)]))
      refine GoW.st (fun _ k' => XS.astore X_J17.here hx rfl (hb hby at_59) rfl rfl (l' := #[.val (.int ua), .val (.int va), .val (.int ub), .val (.int vb), .val (.int uc), .val (.int vc), .val (.ref rr_1), .val (.ref rr_3), .val (.ref rr_8), .val (.ref cxa), .val (.ref cxb), .unset, .unset, .unset, .unset]) rfl k') ?_
      show GoW p e below s _ _ _ _ _ (T_J17.setTop (mkF m 61 #[.val (.int ua), .val (.int va), .val (.int ub), .val (.int vb), .val (.int uc), .val (.int vc), .val (.ref rr_1), .val (.ref rr_3), .val (.ref rr_8), .val (.ref cxa), .val (.ref cxb), .unset, .unset, .unset, .unset] []))
      have J18 : ∀ (T_J18 : State) (l_J18 : List Loc) (h_J18 : Heap) (X_J18 : Stand p l e room_1 (s.setVm s.vm) m #[(.int ua), (.int va), (.int ub), (.int vb), (.int uc), (.int vc)] below meth c T_J18 l_J18 6 12) (e_J18 : T_J18.heap = h_J18) (N_J18 : Fr n0 l_J18) (O_J18 : Old Z n0 h_J18) (CH_J18 : CHr Z EL s.vm s.heap s.vm h_J18) (hk_J18 : 0 ≤ Array.size h_J18) (cxc : Addr) (kxc : ClassId) (lxc : List Int32) (gJ18_0 : Arv Z h_J18 rr_1 kr_1 .char (Int32.ofNat (List.length (fch ua))) (List.map Value.int (fch ua)) (.int (0 : Int32))) (gJ18_1 : Safe Z EL s.vm h_J18 rr_1) (gJ18_2 : Arv Z h_J18 rr_3 kr_3 .char (Int32.ofNat (List.length (fch ub))) (List.map Value.int (fch ub)) (.int (0 : Int32))) (gJ18_3 : Safe Z EL s.vm h_J18 rr_3) (gJ18_4 : Arv Z h_J18 rr_8 kr_8 .char (Int32.ofNat (List.length (fch uc))) (List.map Value.int (fch uc)) (.int (0 : Int32))) (gJ18_5 : Safe Z EL s.vm h_J18 rr_8) (gJ18_6 : Arv Z h_J18 cxa kxa .char (Int32.ofNat (List.length lxa)) (List.map Value.int lxa) (.int (0 : Int32))) (gJ18_7 : Arv Z h_J18 cxb kxb .char (Int32.ofNat (List.length lxb)) (List.map Value.int lxb) (.int (0 : Int32))) (gJ18_8 : Arv Z h_J18 cxc kxc .char (Int32.ofNat (List.length lxc)) (List.map Value.int lxc) (.int (0 : Int32))) (q_lxc : lxc.length ≤ 2) (r_lxc : ∀ y ∈ lxc, 0 ≤ y.toInt ∧ y.toInt ≤ 255), GoW p e below s 64 7424 Z EL (Q0 Z ua va ub vb uc vc cs h0 n0) (T_J18.setTop (mkF m 83 #[.val (.int ua), .val (.int va), .val (.int ub), .val (.int vb), .val (.int uc), .val (.int vc), .val (.ref rr_1), .val (.ref rr_3), .val (.ref rr_8), .val (.ref cxa), .val (.ref cxb), .unset, .unset, .unset, .unset] [(.ref cxc)])) := by
        intro T_J18 l_J18 h_J18 X_J18 e_J18 N_J18 O_J18 CH_J18 hk_J18 cxc kxc lxc gJ18_0 gJ18_1 gJ18_2 gJ18_3 gJ18_4 gJ18_5 gJ18_6 gJ18_7 gJ18_8 q_lxc r_lxc
        show GoW p e below s _ _ _ _ _ (T_J18.setTop (mkF m 83 #[.val (.int ua), .val (.int va), .val (.int ub), .val (.int vb), .val (.int uc), .val (.int vc), .val (.ref rr_1), .val (.ref rr_3), .val (.ref rr_8), .val (.ref cxa), .val (.ref cxb), .unset, .unset, .unset, .unset] [(.ref cxc)]))
        refine GoW.st (fun _ k' => XS.astore X_J18.here hx rfl (hb hby at_83) rfl rfl (l' := #[.val (.int ua), .val (.int va), .val (.int ub), .val (.int vb), .val (.int uc), .val (.int vc), .val (.ref rr_1), .val (.ref rr_3), .val (.ref rr_8), .val (.ref cxa), .val (.ref cxb), .val (.ref cxc), .unset, .unset, .unset]) rfl k') ?_
        show GoW p e below s _ _ _ _ _ (T_J18.setTop (mkF m 85 #[.val (.int ua), .val (.int va), .val (.int ub), .val (.int vb), .val (.int uc), .val (.int vc), .val (.ref rr_1), .val (.ref rr_3), .val (.ref rr_8), .val (.ref cxa), .val (.ref cxb), .val (.ref cxc), .unset, .unset, .unset] []))
        obtain ⟨T19, h19, X19, e19, E19, A19, D19, -, st19⟩ := newO X_J18 hx hZ hown (wdx hw 5 rfl) (wdx hw 6 rfl) (wdx hw 7 rfl) e_J18 (g := (mkF m 85 #[.val (.int ua), .val (.int va), .val (.int ub), .val (.int vb), .val (.int uc), .val (.int vc), .val (.ref rr_1), .val (.ref rr_3), .val (.ref rr_8), .val (.ref cxa), .val (.ref cxb), .val (.ref cxc), .unset, .unset, .unset] [])) rfl (hb hby at_85) (by decide) (by decide)
        obtain ⟨b19, g19⟩ : ∃ z, z = h_J18.size := ⟨_, rfl⟩
        rw [← g19] at A19 D19 st19
        refine GoW.st st19 ?_
        have g_b19 : n0 ≤ b19 := Nat.le_trans (own_le O_J18) (Nat.le_of_eq g19.symm)
        have sf_b19 : Safe Z EL s.vm h_J18 b19 := Safe.new (Nat.le_of_eq g19.symm)
        have ne20 : rr_1 ≠ b19 := Nat.ne_of_lt (Nat.lt_of_lt_of_le gJ18_0.lt (Nat.le_of_eq g19.symm))
        have ne21 : rr_3 ≠ b19 := Nat.ne_of_lt (Nat.lt_of_lt_of_le gJ18_2.lt (Nat.le_of_eq g19.symm))
        have ne22 : rr_8 ≠ b19 := Nat.ne_of_lt (Nat.lt_of_lt_of_le gJ18_4.lt (Nat.le_of_eq g19.symm))
        have ne23 : cxa ≠ b19 := Nat.ne_of_lt (Nat.lt_of_lt_of_le gJ18_6.lt (Nat.le_of_eq g19.symm))
        have ne24 : cxb ≠ b19 := Nat.ne_of_lt (Nat.lt_of_lt_of_le gJ18_7.lt (Nat.le_of_eq g19.symm))
        have ne25 : cxc ≠ b19 := Nat.ne_of_lt (Nat.lt_of_lt_of_le gJ18_8.lt (Nat.le_of_eq g19.symm))
        have f26 : Arv Z h19 rr_1 kr_1 .char (Int32.ofNat (List.length (fch ua))) (List.map Value.int (fch ua)) (.int (0 : Int32)) := gJ18_0.ext E19
        have f27 : Safe Z EL s.vm h19 rr_1 := Safe.ext E19 CH_J18.1 gJ18_1
        have f28 : Arv Z h19 rr_3 kr_3 .char (Int32.ofNat (List.length (fch ub))) (List.map Value.int (fch ub)) (.int (0 : Int32)) := gJ18_2.ext E19
        have f29 : Safe Z EL s.vm h19 rr_3 := Safe.ext E19 CH_J18.1 gJ18_3
        have f30 : Arv Z h19 rr_8 kr_8 .char (Int32.ofNat (List.length (fch uc))) (List.map Value.int (fch uc)) (.int (0 : Int32)) := gJ18_4.ext E19
        have f31 : Safe Z EL s.vm h19 rr_8 := Safe.ext E19 CH_J18.1 gJ18_5
        have f32 : Arv Z h19 cxa kxa .char (Int32.ofNat (List.length lxa)) (List.map Value.int lxa) (.int (0 : Int32)) := gJ18_6.ext E19
        have f33 : Arv Z h19 cxb kxb .char (Int32.ofNat (List.length lxb)) (List.map Value.int lxb) (.int (0 : Int32)) := gJ18_7.ext E19
        have f34 : Arv Z h19 cxc kxc .char (Int32.ofNat (List.length lxc)) (List.map Value.int lxc) (.int (0 : Int32)) := gJ18_8.ext E19
        have f35 : Safe Z EL s.vm h19 b19 := Safe.ext E19 CH_J18.1 sf_b19
        have CH19 : CHr Z EL s.vm s.heap s.vm h19 := CH_J18.trans (CHr.ext E19 CH_J18.1)
        have hk19 : 0 ≤ Array.size h19 := Nat.le_trans hk_J18 E19.1
        have O19 : Old Z n0 h19 := O_J18.ext E19
        have f36 : Fld Z h19 b19 "com/example/indenture/indenture/model/Identifier" "id" "Ljava/lang/String;" .null := D19 (Or.inr (wdx hw 59 rfl)) (ty := (.object "java/lang/String")) (by decide)
        have f37 : Fld Z h19 b19 "com/example/indenture/indenture/model/Identifier" "sourceType" "Ljava/lang/String;" .null := D19 (Or.inr (wdx hw 61 rfl)) (ty := (.object "java/lang/String")) (by decide)
        have f38 : Fld Z h19 b19 "com/example/indenture/indenture/model/Identifier" "category" "Ljava/lang/String;" .null := D19 (Or.inr (wdx hw 63 rfl)) (ty := (.object "java/lang/String")) (by decide)
        have f39 : Fld Z h19 b19 "com/example/indenture/indenture/model/Identifier" "subcategory" "Ljava/lang/String;" .null := D19 (Or.inr (wdx hw 65 rfl)) (ty := (.object "java/lang/String")) (by decide)
        show GoW p e below s _ _ _ _ _ (T19.setTop (mkF m 88 #[.val (.int ua), .val (.int va), .val (.int ub), .val (.int vb), .val (.int uc), .val (.int vc), .val (.ref rr_1), .val (.ref rr_3), .val (.ref rr_8), .val (.ref cxa), .val (.ref cxb), .val (.ref cxc), .unset, .unset, .unset] [(.ref b19)]))
        refine GoW.st (fun _ k' => XS.dup X19.here hx rfl (hb hby at_88) rfl rfl k') ?_
        show GoW p e below s _ _ _ _ _ (T19.setTop (mkF m 89 #[.val (.int ua), .val (.int va), .val (.int ub), .val (.int vb), .val (.int uc), .val (.int vc), .val (.ref rr_1), .val (.ref rr_3), .val (.ref rr_8), .val (.ref cxa), .val (.ref cxb), .val (.ref cxc), .unset, .unset, .unset] [(.ref b19), (.ref b19)]))
        obtain ⟨a40, T40, h40, q40, X40, e40, E40, hS40, hk40, hZ40, hown40, C40, -, st40⟩ := ldcOH X19 hx hZ hown (wdx hw 8 rfl) hwS e19 hS0 hk19 hEL CH19.1 (g := (mkF m 89 #[.val (.int ua), .val (.int va), .val (.int ub), .val (.int vb), .val (.int uc), .val (.int vc), .val (.ref rr_1), .val (.ref rr_3), .val (.ref rr_8), .val (.ref cxa), .val (.ref cxb), .val (.ref cxc), .unset, .unset, .unset] [(.ref b19), (.ref b19)])) rfl (hb hby at_89) (n := 4) (by decide) (by decide) (by decide) (by decide)
        refine GoW.st st40 ?_
        have f41 : Arv Z h40 rr_1 kr_1 .char (Int32.ofNat (List.length (fch ua))) (List.map Value.int (fch ua)) (.int (0 : Int32)) := f26.ext E40
        have f42 : Safe Z EL T40.vm h40 rr_1 := C40.safe f26.lt f27
        have f43 : Arv Z h40 rr_3 kr_3 .char (Int32.ofNat (List.length (fch ub))) (List.map Value.int (fch ub)) (.int (0 : Int32)) := f28.ext E40
        have f44 : Safe Z EL T40.vm h40 rr_3 := C40.safe f28.lt f29
        have f45 : Arv Z h40 rr_8 kr_8 .char (Int32.ofNat (List.length (fch uc))) (List.map Value.int (fch uc)) (.int (0 : Int32)) := f30.ext E40
        have f46 : Safe Z EL T40.vm h40 rr_8 := C40.safe f30.lt f31
        have f47 : Arv Z h40 cxa kxa .char (Int32.ofNat (List.length lxa)) (List.map Value.int lxa) (.int (0 : Int32)) := f32.ext E40
        have f48 : Arv Z h40 cxb kxb .char (Int32.ofNat (List.length lxb)) (List.map Value.int lxb) (.int (0 : Int32)) := f33.ext E40
        have f49 : Arv Z h40 cxc kxc .char (Int32.ofNat (List.length lxc)) (List.map Value.int lxc) (.int (0 : Int32)) := f34.ext E40
        have f50 : Safe Z EL T40.vm h40 b19 := C40.safe A19.lt f35
        have f51 : Exa Z h40 b19 "com/example/indenture/indenture/model/Identifier" := A19.ext E40
        have f52 : Fld Z h40 b19 "com/example/indenture/indenture/model/Identifier" "id" "Ljava/lang/String;" .null := f36.ext E40
        have f53 : Fld Z h40 b19 "com/example/indenture/indenture/model/Identifier" "sourceType" "Ljava/lang/String;" .null := f37.ext E40
        have f54 : Fld Z h40 b19 "com/example/indenture/indenture/model/Identifier" "category" "Ljava/lang/String;" .null := f38.ext E40
        have f55 : Fld Z h40 b19 "com/example/indenture/indenture/model/Identifier" "subcategory" "Ljava/lang/String;" .null := f39.ext E40
        have CH40 : CHr Z EL s.vm s.heap T40.vm h40 := CH19.trans C40
        have O40 : Old Z n0 h40 := O19.ext E40
        show GoW p e below s _ _ _ _ _ (T40.setTop (mkF m 91 #[.val (.int ua), .val (.int va), .val (.int ub), .val (.int vb), .val (.int uc), .val (.int vc), .val (.ref rr_1), .val (.ref rr_3), .val (.ref rr_8), .val (.ref cxa), .val (.ref cxb), .val (.ref cxc), .unset, .unset, .unset] [(.ref a40), (.ref b19), (.ref b19)]))
        obtain ⟨T56, h56, X56, e56, E56, A56, D56, -, st56⟩ := newO X40 hx hZ40 hown40 (wdx hw 16 rfl) (wdx hw 10 rfl) (wdx hw 9 rfl) e40 (g := (mkF m 91 #[.val (.int ua), .val (.int va), .val (.int ub), .val (.int vb), .val (.int uc), .val (.int vc), .val (.ref rr_1), .val (.ref rr_3), .val (.ref rr_8), .val (.ref cxa), .val (.ref cxb), .val (.ref cxc), .unset, .unset, .unset] [(.ref a40), (.ref b19), (.ref b19)])) rfl (hb hby at_91) (by decide) (by decide)
        obtain ⟨b56, g56⟩ : ∃ z, z = h40.size := ⟨_, rfl⟩
        rw [← g56] at A56 D56 st56
        refine GoW.st st56 ?_
        have g_b56 : n0 ≤ b56 := Nat.le_trans (own_le O40) (Nat.le_of_eq g56.symm)
        have sf_b56 : Safe Z EL T40.vm h40 b56 := Safe.new (Nat.le_of_eq g56.symm)
        have ne57 : rr_1 ≠ b56 := Nat.ne_of_lt (Nat.lt_of_lt_of_le f41.lt (Nat.le_of_eq g56.symm))
        have ne58 : rr_3 ≠ b56 := Nat.ne_of_lt (Nat.lt_of_lt_of_le f43.lt (Nat.le_of_eq g56.symm))
        have ne59 : rr_8 ≠ b56 := Nat.ne_of_lt (Nat.lt_of_lt_of_le f45.lt (Nat.le_of_eq g56.symm))
        have ne60 : cxa ≠ b56 := Nat.ne_of_lt (Nat.lt_of_lt_of_le f47.lt (Nat.le_of_eq g56.symm))
        have ne61 : cxb ≠ b56 := Nat.ne_of_lt (Nat.lt_of_lt_of_le f48.lt (Nat.le_of_eq g56.symm))
        have ne62 : cxc ≠ b56 := Nat.ne_of_lt (Nat.lt_of_lt_of_le f49.lt (Nat.le_of_eq g56.symm))
        have ne63 : b19 ≠ b56 := Nat.ne_of_lt (Nat.lt_of_lt_of_le f51.lt (Nat.le_of_eq g56.symm))
        have f64 : Arv Z h56 rr_1 kr_1 .char (Int32.ofNat (List.length (fch ua))) (List.map Value.int (fch ua)) (.int (0 : Int32)) := f41.ext E56
        have f65 : Safe Z EL T40.vm h56 rr_1 := Safe.ext E56 CH40.1 f42
        have f66 : Arv Z h56 rr_3 kr_3 .char (Int32.ofNat (List.length (fch ub))) (List.map Value.int (fch ub)) (.int (0 : Int32)) := f43.ext E56
        have f67 : Safe Z EL T40.vm h56 rr_3 := Safe.ext E56 CH40.1 f44
        have f68 : Arv Z h56 rr_8 kr_8 .char (Int32.ofNat (List.length (fch uc))) (List.map Value.int (fch uc)) (.int (0 : Int32)) := f45.ext E56
        have f69 : Safe Z EL T40.vm h56 rr_8 := Safe.ext E56 CH40.1 f46
        have f70 : Arv Z h56 cxa kxa .char (Int32.ofNat (List.length lxa)) (List.map Value.int lxa) (.int (0 : Int32)) := f47.ext E56
        have f71 : Arv Z h56 cxb kxb .char (Int32.ofNat (List.length lxb)) (List.map Value.int lxb) (.int (0 : Int32)) := f48.ext E56
        have f72 : Arv Z h56 cxc kxc .char (Int32.ofNat (List.length lxc)) (List.map Value.int lxc) (.int (0 : Int32)) := f49.ext E56
        have f73 : Safe Z EL T40.vm h56 b19 := Safe.ext E56 CH40.1 f50
        have f74 : Exa Z h56 b19 "com/example/indenture/indenture/model/Identifier" := f51.ext E56
        have f75 : Fld Z h56 b19 "com/example/indenture/indenture/model/Identifier" "id" "Ljava/lang/String;" .null := f52.ext E56
        have f76 : Fld Z h56 b19 "com/example/indenture/indenture/model/Identifier" "sourceType" "Ljava/lang/String;" .null := f53.ext E56
        have f77 : Fld Z h56 b19 "com/example/indenture/indenture/model/Identifier" "category" "Ljava/lang/String;" .null := f54.ext E56
        have f78 : Fld Z h56 b19 "com/example/indenture/indenture/model/Identifier" "subcategory" "Ljava/lang/String;" .null := f55.ext E56
        have f79 : Safe Z EL T40.vm h56 b56 := Safe.ext E56 CH40.1 sf_b56
        have CH56 : CHr Z EL s.vm s.heap T40.vm h56 := CH40.trans (CHr.ext E56 CH40.1)
        have hk56 : q40 ≤ Array.size h56 := Nat.le_trans hk40 E56.1
        have O56 : Old Z n0 h56 := O40.ext E56
        have f80 : Fld Z h56 b56 "java/lang/String" "value" "[B" .null := D56 (Or.inr (wdx hw 12 rfl)) (ty := (.array .byte)) (by decide)
        have f81 : Fld Z h56 b56 "java/lang/String" "coder" "B" (.int (0 : Int32)) := D56 (Or.inr (wdx hw 13 rfl)) (ty := .byte) (by decide)
        show GoW p e below s _ _ _ _ _ (T56.setTop (mkF m 94 #[.val (.int ua), .val (.int va), .val (.int ub), .val (.int vb), .val (.int uc), .val (.int vc), .val (.ref rr_1), .val (.ref rr_3), .val (.ref rr_8), .val (.ref cxa), .val (.ref cxb), .val (.ref cxc), .unset, .unset, .unset] [(.ref b56), (.ref a40), (.ref b19), (.ref b19)]))
        refine GoW.st (fun _ k' => XS.dup X56.here hx rfl (hb hby at_94) rfl rfl k') ?_
        show GoW p e below s _ _ _ _ _ (T56.setTop (mkF m 95 #[.val (.int ua), .val (.int va), .val (.int ub), .val (.int vb), .val (.int uc), .val (.int vc), .val (.ref rr_1), .val (.ref rr_3), .val (.ref rr_8), .val (.ref cxa), .val (.ref cxb), .val (.ref cxc), .unset, .unset, .unset] [(.ref b56), (.ref b56), (.ref a40), (.ref b19), (.ref b19)]))
        refine GoW.st (fun _ k' => XS.aload X56.here hx rfl (hb hby at_95) rfl rfl k') ?_
        show GoW p e below s _ _ _ _ _ (T56.setTop (mkF m 97 #[.val (.int ua), .val (.int va), .val (.int ub), .val (.int vb), .val (.int uc), .val (.int vc), .val (.ref rr_1), .val (.ref rr_3), .val (.ref rr_8), .val (.ref cxa), .val (.ref cxb), .val (.ref cxc), .unset, .unset, .unset] [(.ref rr_1), (.ref b56), (.ref b56), (.ref a40), (.ref b19), (.ref b19)]))
        obtain ⟨_, _, ⟨T82, L82, k82, n82⟩, -, Xr82, hSr82, hgr82, ⟨Lc82, hQ82, l82, y82, z82, C82⟩, st82⟩ := X56.specialBackS hx (y := (⟨"java/lang/String", "<init>", "([C)V"⟩ : MethodName)) rfl hown40 (mvT hZ40 (wdx hw 17 rfl)) (mvT hZ40 (wdx hw 18 rfl)) (mvT hZ40 (wdx hw 19 rfl)) (by decide) (own_back (W := 4) (rm2_y l Z a0 hw [] b56 rr_1 kr_1 (fch ua) cs h56 n0 O56 A56 f80 f81 f64 S_cs q_cs g_b56 (own_chl _) (fun y hy => own_lq y (own_chr _ y hy))) hZ40 (wdx hw 19 rfl) (wdx hw 9 rfl) (by decide) (by decide) hEL CH56.1 (allS ⟨A56.lt, f79⟩ all0)) (g := (mkF m 97 #[.val (.int ua), .val (.int va), .val (.int ub), .val (.int vb), .val (.int uc), .val (.int vc), .val (.ref rr_1), .val (.ref rr_3), .val (.ref rr_8), .val (.ref cxa), .val (.ref cxb), .val (.ref cxc), .unset, .unset, .unset] [(.ref rr_1), (.ref b56), (.ref b56), (.ref a40), (.ref b19), (.ref b19)])) rfl (by rw [hml]; rfl) (Steps.refl _) (a := b56) (argsL := [(.ref rr_1)]) (rest := [(.ref b56), (.ref a40), (.ref b19), (.ref b19)]) (lenOf pd___C_V rfl) rfl (by show 2 * 0 + _ ≤ _; exact Nat.le_of_eq rfl) (hb hby at_97) (fun _ _ => ⟨rfl, e56, (by exact Nat.le_of_ble_eq_true rfl), (by exact Nat.le_of_ble_eq_true rfl)⟩)
        dsimp only [Pt.U, Pt.locs, Pt.cells, Pt.slots] at Xr82 hSr82 hgr82 l82 y82 z82 C82 st82 hQ82
        subst l82 y82 z82
        obtain ⟨X82, hS82, hZ82, hown82⟩ := rebS hS40 (by rw [e56]; exact hk56) Xr82 hSr82 hgr82 hZ40 hown40
        obtain ⟨tb_82, kt_82, rfl, Nq82, Kq82, f83, f84, f85⟩ := hQ82
        have N82 := Fr.app N_J18 Nq82
        refine GoW.tr st82 ?_
        have f86 : Arv Z T82.heap rr_1 kr_1 .char (Int32.ofNat (List.length (fch ua))) (List.map Value.int (fch ua)) (.int (0 : Int32)) := f64.keep Kq82 (ninS ne57 nin0)
        have f87 : Safe Z EL T82.vm T82.heap rr_1 := C82.safe f64.lt f65
        have f88 : Arv Z T82.heap rr_3 kr_3 .char (Int32.ofNat (List.length (fch ub))) (List.map Value.int (fch ub)) (.int (0 : Int32)) := f66.keep Kq82 (ninS ne58 nin0)
        have f89 : Safe Z EL T82.vm T82.heap rr_3 := C82.safe f66.lt f67
        have f90 : Arv Z T82.heap rr_8 kr_8 .char (Int32.ofNat (List.length (fch uc))) (List.map Value.int (fch uc)) (.int (0 : Int32)) := f68.keep Kq82 (ninS ne59 nin0)
        have f91 : Safe Z EL T82.vm T82.heap rr_8 := C82.safe f68.lt f69
        have f92 : Arv Z T82.heap cxa kxa .char (Int32.ofNat (List.length lxa)) (List.map Value.int lxa) (.int (0 : Int32)) := f70.keep Kq82 (ninS ne60 nin0)
        have f93 : Arv Z T82.heap cxb kxb .char (Int32.ofNat (List.length lxb)) (List.map Value.int lxb) (.int (0 : Int32)) := f71.keep Kq82 (ninS ne61 nin0)
        have f94 : Arv Z T82.heap cxc kxc .char (Int32.ofNat (List.length lxc)) (List.map Value.int lxc) (.int (0 : Int32)) := f72.keep Kq82 (ninS ne62 nin0)
        have f95 : Safe Z EL T82.vm T82.heap b19 := C82.safe f74.lt f73
        have f96 : Exa Z T82.heap b19 "com/example/indenture/indenture/model/Identifier" := f74.keep Kq82
        have f97 : Fld Z T82.heap b19 "com/example/indenture/indenture/model/Identifier" "id" "Ljava/lang/String;" .null := f75.keep Kq82 (ninS ne63 nin0)
        have f98 : Fld Z T82.heap b19 "com/example/indenture/indenture/model/Identifier" "sourceType" "Ljava/lang/String;" .null := f76.keep Kq82 (ninS ne63 nin0)
        have f99 : Fld Z T82.heap b19 "com/example/indenture/indenture/model/Identifier" "category" "Ljava/lang/String;" .null := f77.keep Kq82 (ninS ne63 nin0)
        have f100 : Fld Z T82.heap b19 "com/example/indenture/indenture/model/Identifier" "subcategory" "Ljava/lang/String;" .null := f78.keep Kq82 (ninS ne63 nin0)
        have f101 : Safe Z EL T82.vm T82.heap b56 := C82.safe A56.lt f79
        have f102 : Exa Z T82.heap b56 "java/lang/String" := A56.keep Kq82
        have CH82 : CHr Z EL s.vm s.heap T82.vm T82.heap := CH56.trans C82
        have O82 : Old Z n0 T82.heap := O56.keep Kq82 (allS g_b56 all0)
        show GoW p e below s _ _ _ _ _ (T82.setTop (mkF m 100 #[.val (.int ua), .val (.int va), .val (.int ub), .val (.int vb), .val (.int uc), .val (.int vc), .val (.ref rr_1), .val (.ref rr_3), .val (.ref rr_8), .val (.ref cxa), .val (.ref cxb), .val (.ref cxc), .unset, .unset, .unset] [(.ref b56), (.ref a40), (.ref b19), (.ref b19)]))
        obtain ⟨T103, h103, X103, e103, E103, A103, D103, -, st103⟩ := newO X82 hx hZ82 hown82 (wdx hw 16 rfl) (wdx hw 10 rfl) (wdx hw 9 rfl) rfl (g := (mkF m 100 #[.val (.int ua), .val (.int va), .val (.int ub), .val (.int vb), .val (.int uc), .val (.int vc), .val (.ref rr_1), .val (.ref rr_3), .val (.ref rr_8), .val (.ref cxa), .val (.ref cxb), .val (.ref cxc), .unset, .unset, .unset] [(.ref b56), (.ref a40), (.ref b19), (.ref b19)])) rfl (hb hby at_100) (by decide) (by decide)
        obtain ⟨b103, g103⟩ : ∃ z, z = T82.heap.size := ⟨_, rfl⟩
        rw [← g103] at A103 D103 st103
        refine GoW.st st103 ?_
        have g_b103 : n0 ≤ b103 := Nat.le_trans (own_le O82) (Nat.le_of_eq g103.symm)
        have sf_b103 : Safe Z EL T82.vm T82.heap b103 := Safe.new (Nat.le_of_eq g103.symm)
        have ne104 : rr_1 ≠ b103 := Nat.ne_of_lt (Nat.lt_of_lt_of_le f86.lt (Nat.le_of_eq g103.symm))
        have ne105 : rr_3 ≠ b103 := Nat.ne_of_lt (Nat.lt_of_lt_of_le f88.lt (Nat.le_of_eq g103.symm))
        have ne106 : rr_8 ≠ b103 := Nat.ne_of_lt (Nat.lt_of_lt_of_le f90.lt (Nat.le_of_eq g103.symm))
        have ne107 : cxa ≠ b103 := Nat.ne_of_lt (Nat.lt_of_lt_of_le f92.lt (Nat.le_of_eq g103.symm))
        have ne108 : cxb ≠ b103 := Nat.ne_of_lt (Nat.lt_of_lt_of_le f93.lt (Nat.le_of_eq g103.symm))
        have ne109 : cxc ≠ b103 := Nat.ne_of_lt (Nat.lt_of_lt_of_le f94.lt (Nat.le_of_eq g103.symm))
        have ne110 : b19 ≠ b103 := Nat.ne_of_lt (Nat.lt_of_lt_of_le f96.lt (Nat.le_of_eq g103.symm))
        have ne111 : b56 ≠ b103 := Nat.ne_of_lt (Nat.lt_of_lt_of_le f102.lt (Nat.le_of_eq g103.symm))
        have ne112 : tb_82 ≠ b103 := Nat.ne_of_lt (Nat.lt_of_lt_of_le f85.lt (Nat.le_of_eq g103.symm))
        have f113 : Arv Z h103 rr_1 kr_1 .char (Int32.ofNat (List.length (fch ua))) (List.map Value.int (fch ua)) (.int (0 : Int32)) := f86.ext E103
        have f114 : Safe Z EL T82.vm h103 rr_1 := Safe.ext E103 CH82.1 f87
        have f115 : Arv Z h103 rr_3 kr_3 .char (Int32.ofNat (List.length (fch ub))) (List.map Value.int (fch ub)) (.int (0 : Int32)) := f88.ext E103
        have f116 : Safe Z EL T82.vm h103 rr_3 := Safe.ext E103 CH82.1 f89
        have f117 : Arv Z h103 rr_8 kr_8 .char (Int32.ofNat (List.length (fch uc))) (List.map Value.int (fch uc)) (.int (0 : Int32)) := f90.ext E103
        have f118 : Safe Z EL T82.vm h103 rr_8 := Safe.ext E103 CH82.1 f91
        have f119 : Arv Z h103 cxa kxa .char (Int32.ofNat (List.length lxa)) (List.map Value.int lxa) (.int (0 : Int32)) := f92.ext E103
        have f120 : Arv Z h103 cxb kxb .char (Int32.ofNat (List.length lxb)) (List.map Value.int lxb) (.int (0 : Int32)) := f93.ext E103
        have f121 : Arv Z h103 cxc kxc .char (Int32.ofNat (List.length lxc)) (List.map Value.int lxc) (.int (0 : Int32)) := f94.ext E103
        have f122 : Safe Z EL T82.vm h103 b19 := Safe.ext E103 CH82.1 f95
        have f123 : Exa Z h103 b19 "com/example/indenture/indenture/model/Identifier" := f96.ext E103
        have f124 : Fld Z h103 b19 "com/example/indenture/indenture/model/Identifier" "id" "Ljava/lang/String;" .null := f97.ext E103
        have f125 : Fld Z h103 b19 "com/example/indenture/indenture/model/Identifier" "sourceType" "Ljava/lang/String;" .null := f98.ext E103
        have f126 : Fld Z h103 b19 "com/example/indenture/indenture/model/Identifier" "category" "Ljava/lang/String;" .null := f99.ext E103
        have f127 : Fld Z h103 b19 "com/example/indenture/indenture/model/Identifier" "subcategory" "Ljava/lang/String;" .null := f100.ext E103
        have f128 : Safe Z EL T82.vm h103 b56 := Safe.ext E103 CH82.1 f101
        have f129 : Exa Z h103 b56 "java/lang/String" := f102.ext E103
        have f130 : Fld Z h103 b56 "java/lang/String" "value" "[B" (.ref tb_82) := f83.ext E103
        have f131 : Fld Z h103 b56 "java/lang/String" "coder" "B" (.int (0 : Int32)) := f84.ext E103
        have f132 : Arv Z h103 tb_82 kt_82 .byte (Int32.ofNat (List.length (fbl (fch ua)))) (List.map Value.int (fbl (fch ua))) (.int (0 : Int32)) := f85.ext E103
        have f133 : Safe Z EL T82.vm h103 b103 := Safe.ext E103 CH82.1 sf_b103
        have CH103 : CHr Z EL s.vm s.heap T82.vm h103 := CH82.trans (CHr.ext E103 CH82.1)
        have hk103 : Array.size T82.heap ≤ Array.size h103 := Nat.le_trans (Nat.le_refl _) E103.1
        have O103 : Old Z n0 h103 := O82.ext E103
        have f134 : Fld Z h103 b103 "java/lang/String" "value" "[B" .null := D103 (Or.inr (wdx hw 12 rfl)) (ty := (.array .byte)) (by decide)
        have f135 : Fld Z h103 b103 "java/lang/String" "coder" "B" (.int (0 : Int32)) := D103 (Or.inr (wdx hw 13 rfl)) (ty := .byte) (by decide)
        show GoW p e below s _ _ _ _ _ (T103.setTop (mkF m 103 #[.val (.int ua), .val (.int va), .val (.int ub), .val (.int vb), .val (.int uc), .val (.int vc), .val (.ref rr_1), .val (.ref rr_3), .val (.ref rr_8), .val (.ref cxa), .val (.ref cxb), .val (.ref cxc), .unset, .unset, .unset] [(.ref b103), (.ref b56), (.ref a40), (.ref b19), (.ref b19)]))
        refine GoW.st (fun _ k' => XS.dup X103.here hx rfl (hb hby at_103) rfl rfl k') ?_
        show GoW p e below s _ _ _ _ _ (T103.setTop (mkF m 104 #[.val (.int ua), .val (.int va), .val (.int ub), .val (.int vb), .val (.int uc), .val (.int vc), .val (.ref rr_1), .val (.ref rr_3), .val (.ref rr_8), .val (.ref cxa), .val (.ref cxb), .val (.ref cxc), .unset, .unset, .unset] [(.ref b103), (.ref b103), (.ref b56), (.ref a40), (.ref b19), (.ref b19)]))
        refine GoW.st (fun _ k' => XS.aload X103.here hx rfl (hb hby at_104) rfl rfl k') ?_
        show GoW p e below s _ _ _ _ _ (T103.setTop (mkF m 106 #[.val (.int ua), .val (.int va), .val (.int ub), .val (.int vb), .val (.int uc), .val (.int vc), .val (.ref rr_1), .val (.ref rr_3), .val (.ref rr_8), .val (.ref cxa), .val (.ref cxb), .val (.ref cxc), .unset, .unset, .unset] [(.ref rr_3), (.ref b103), (.ref b103), (.ref b56), (.ref a40), (.ref b19), (.ref b19)]))
        obtain ⟨_, _, ⟨T136, L136, k136, n136⟩, -, Xr136, hSr136, hgr136, ⟨Lc136, hQ136, l136, y136, z136, C136⟩, st136⟩ := X103.specialBackS hx (y := (⟨"java/lang/String", "<init>", "([C)V"⟩ : MethodName)) rfl hown82 (mvT hZ82 (wdx hw 17 rfl)) (mvT hZ82 (wdx hw 18 rfl)) (mvT hZ82 (wdx hw 19 rfl)) (by decide) (own_back (W := 5) (rm2_y l Z a0 hw [] b103 rr_3 kr_3 (fch ub) cs h103 n0 O103 A103 f134 f135 f115 S_cs q_cs g_b103 (own_chl _) (fun y hy => own_lq y (own_chr _ y hy))) hZ82 (wdx hw 19 rfl) (wdx hw 9 rfl) (by decide) (by decide) hEL CH103.1 (allS ⟨A103.lt, f133⟩ all0)) (g := (mkF m 106 #[.val (.int ua), .val (.int va), .val (.int ub), .val (.int vb), .val (.int uc), .val (.int vc), .val (.ref rr_1), .val (.ref rr_3), .val (.ref rr_8), .val (.ref cxa), .val (.ref cxb), .val (.ref cxc), .unset, .unset, .unset] [(.ref rr_3), (.ref b103), (.ref b103), (.ref b56), (.ref a40), (.ref b19), (.ref b19)])) rfl (by rw [hml]; rfl) (Steps.refl _) (a := b103) (argsL := [(.ref rr_3)]) (rest := [(.ref b103), (.ref b56), (.ref a40), (.ref b19), (.ref b19)]) (lenOf pd___C_V rfl) rfl (by show 2 * 0 + _ ≤ _; exact Nat.le_of_eq rfl) (hb hby at_106) (fun _ _ => ⟨rfl, e103, (by exact Nat.le_of_ble_eq_true rfl), (by exact Nat.le_of_ble_eq_true rfl)⟩)
        dsimp only [Pt.U, Pt.locs, Pt.cells, Pt.slots] at Xr136 hSr136 hgr136 l136 y136 z136 C136 st136 hQ136
        subst l136 y136 z136
        obtain ⟨X136, hS136, hZ136, hown136⟩ := rebS hS82 (by rw [e103]; exact hk103) Xr136 hSr136 hgr136 hZ82 hown82
        obtain ⟨tb_136, kt_136, rfl, Nq136, Kq136, f137, f138, f139⟩ := hQ136
        have N136 := Fr.app N82 Nq136
        refine GoW.tr st136 ?_
        have f140 : Arv Z T136.heap rr_1 kr_1 .char (Int32.ofNat (List.length (fch ua))) (List.map Value.int (fch ua)) (.int (0 : Int32)) := f113.keep Kq136 (ninS ne104 nin0)
        have f141 : Safe Z EL T136.vm T136.heap rr_1 := C136.safe f113.lt f114
        have f142 : Arv Z T136.heap rr_3 kr_3 .char (Int32.ofNat (List.length (fch ub))) (List.map Value.int (fch ub)) (.int (0 : Int32)) := f115.keep Kq136 (ninS ne105 nin0)
        have f143 : Safe Z EL T136.vm T136.heap rr_3 := C136.safe f115.lt f116
        have f144 : Arv Z T136.heap rr_8 kr_8 .char (Int32.ofNat (List.length (fch uc))) (List.map Value.int (fch uc)) (.int (0 : Int32)) := f117.keep Kq136 (ninS ne106 nin0)
        have f145 : Safe Z EL T136.vm T136.heap rr_8 := C136.safe f117.lt f118
        have f146 : Arv Z T136.heap cxa kxa .char (Int32.ofNat (List.length lxa)) (List.map Value.int lxa) (.int (0 : Int32)) := f119.keep Kq136 (ninS ne107 nin0)
        have f147 : Arv Z T136.heap cxb kxb .char (Int32.ofNat (List.length lxb)) (List.map Value.int lxb) (.int (0 : Int32)) := f120.keep Kq136 (ninS ne108 nin0)
        have f148 : Arv Z T136.heap cxc kxc .char (Int32.ofNat (List.length lxc)) (List.map Value.int lxc) (.int (0 : Int32)) := f121.keep Kq136 (ninS ne109 nin0)
        have f149 : Safe Z EL T136.vm T136.heap b19 := C136.safe f123.lt f122
        have f150 : Exa Z T136.heap b19 "com/example/indenture/indenture/model/Identifier" := f123.keep Kq136
        have f151 : Fld Z T136.heap b19 "com/example/indenture/indenture/model/Identifier" "id" "Ljava/lang/String;" .null := f124.keep Kq136 (ninS ne110 nin0)
        have f152 : Fld Z T136.heap b19 "com/example/indenture/indenture/model/Identifier" "sourceType" "Ljava/lang/String;" .null := f125.keep Kq136 (ninS ne110 nin0)
        have f153 : Fld Z T136.heap b19 "com/example/indenture/indenture/model/Identifier" "category" "Ljava/lang/String;" .null := f126.keep Kq136 (ninS ne110 nin0)
        have f154 : Fld Z T136.heap b19 "com/example/indenture/indenture/model/Identifier" "subcategory" "Ljava/lang/String;" .null := f127.keep Kq136 (ninS ne110 nin0)
        have f155 : Safe Z EL T136.vm T136.heap b56 := C136.safe f129.lt f128
        have f156 : Exa Z T136.heap b56 "java/lang/String" := f129.keep Kq136
        have f157 : Fld Z T136.heap b56 "java/lang/String" "value" "[B" (.ref tb_82) := f130.keep Kq136 (ninS ne111 nin0)
        have f158 : Fld Z T136.heap b56 "java/lang/String" "coder" "B" (.int (0 : Int32)) := f131.keep Kq136 (ninS ne111 nin0)
        have f159 : Arv Z T136.heap tb_82 kt_82 .byte (Int32.ofNat (List.length (fbl (fch ua)))) (List.map Value.int (fbl (fch ua))) (.int (0 : Int32)) := f132.keep Kq136 (ninS ne112 nin0)
        have f160 : Safe Z EL T136.vm T136.heap b103 := C136.safe A103.lt f133
        have f161 : Exa Z T136.heap b103 "java/lang/String" := A103.keep Kq136
        have CH136 : CHr Z EL s.vm s.heap T136.vm T136.heap := CH103.trans C136
        have O136 : Old Z n0 T136.heap := O103.keep Kq136 (allS g_b103 all0)
        show GoW p e below s _ _ _ _ _ (T136.setTop (mkF m 109 #[.val (.int ua), .val (.int va), .val (.int ub), .val (.int vb), .val (.int uc), .val (.int vc), .val (.ref rr_1), .val (.ref rr_3), .val (.ref rr_8), .val (.ref cxa), .val (.ref cxb), .val (.ref cxc), .unset, .unset, .unset] [(.ref b103), (.ref b56), (.ref a40), (.ref b19), (.ref b19)]))
        obtain ⟨T162, h162, X162, e162, E162, A162, D162, -, st162⟩ := newO X136 hx hZ136 hown136 (wdx hw 16 rfl) (wdx hw 10 rfl) (wdx hw 9 rfl) rfl (g := (mkF m 109 #[.val (.int ua), .val (.int va), .val (.int ub), .val (.int vb), .val (.int uc), .val (.int vc), .val (.ref rr_1), .val (.ref rr_3), .val (.ref rr_8), .val (.ref cxa), .val (.ref cxb), .val (.ref cxc), .unset, .unset, .unset] [(.ref b103), (.ref b56), (.ref a40), (.ref b19), (.ref b19)])) rfl (hb hby at_109) (by decide) (by decide)
        obtain ⟨b162, g162⟩ : ∃ z, z = T136.heap.size := ⟨_, rfl⟩
        rw [← g162] at A162 D162 st162
        refine GoW.st st162 ?_
        have g_b162 : n0 ≤ b162 := Nat.le_trans (own_le O136) (Nat.le_of_eq g162.symm)
        have sf_b162 : Safe Z EL T136.vm T136.heap b162 := Safe.new (Nat.le_of_eq g162.symm)
        have ne163 : rr_1 ≠ b162 := Nat.ne_of_lt (Nat.lt_of_lt_of_le f140.lt (Nat.le_of_eq g162.symm))
        have ne164 : rr_3 ≠ b162 := Nat.ne_of_lt (Nat.lt_of_lt_of_le f142.lt (Nat.le_of_eq g162.symm))
        have ne165 : rr_8 ≠ b162 := Nat.ne_of_lt (Nat.lt_of_lt_of_le f144.lt (Nat.le_of_eq g162.symm))
        have ne166 : cxa ≠ b162 := Nat.ne_of_lt (Nat.lt_of_lt_of_le f146.lt (Nat.le_of_eq g162.symm))
        have ne167 : cxb ≠ b162 := Nat.ne_of_lt (Nat.lt_of_lt_of_le f147.lt (Nat.le_of_eq g162.symm))
        have ne168 : cxc ≠ b162 := Nat.ne_of_lt (Nat.lt_of_lt_of_le f148.lt (Nat.le_of_eq g162.symm))
        have ne169 : b19 ≠ b162 := Nat.ne_of_lt (Nat.lt_of_lt_of_le f150.lt (Nat.le_of_eq g162.symm))
        have ne170 : b56 ≠ b162 := Nat.ne_of_lt (Nat.lt_of_lt_of_le f156.lt (Nat.le_of_eq g162.symm))
        have ne171 : tb_82 ≠ b162 := Nat.ne_of_lt (Nat.lt_of_lt_of_le f159.lt (Nat.le_of_eq g162.symm))
        have ne172 : b103 ≠ b162 := Nat.ne_of_lt (Nat.lt_of_lt_of_le f161.lt (Nat.le_of_eq g162.symm))
        have ne173 : tb_136 ≠ b162 := Nat.ne_of_lt (Nat.lt_of_lt_of_le f139.lt (Nat.le_of_eq g162.symm))
        have f174 : Arv Z h162 rr_1 kr_1 .char (Int32.ofNat (List.length (fch ua))) (List.map Value.int (fch ua)) (.int (0 : Int32)) := f140.ext E162
        have f175 : Safe Z EL T136.vm h162 rr_1 := Safe.ext E162 CH136.1 f141
        have f176 : Arv Z h162 rr_3 kr_3 .char (Int32.ofNat (List.length (fch ub))) (List.map Value.int (fch ub)) (.int (0 : Int32)) := f142.ext E162
        have f177 : Safe Z EL T136.vm h162 rr_3 := Safe.ext E162 CH136.1 f143
        have f178 : Arv Z h162 rr_8 kr_8 .char (Int32.ofNat (List.length (fch uc))) (List.map Value.int (fch uc)) (.int (0 : Int32)) := f144.ext E162
        have f179 : Safe Z EL T136.vm h162 rr_8 := Safe.ext E162 CH136.1 f145
        have f180 : Arv Z h162 cxa kxa .char (Int32.ofNat (List.length lxa)) (List.map Value.int lxa) (.int (0 : Int32)) := f146.ext E162
        have f181 : Arv Z h162 cxb kxb .char (Int32.ofNat (List.length lxb)) (List.map Value.int lxb) (.int (0 : Int32)) := f147.ext E162
        have f182 : Arv Z h162 cxc kxc .char (Int32.ofNat (List.length lxc)) (List.map Value.int lxc) (.int (0 : Int32)) := f148.ext E162
        have f183 : Safe Z EL T136.vm h162 b19 := Safe.ext E162 CH136.1 f149
        have f184 : Exa Z h162 b19 "com/example/indenture/indenture/model/Identifier" := f150.ext E162
        have f185 : Fld Z h162 b19 "com/example/indenture/indenture/model/Identifier" "id" "Ljava/lang/String;" .null := f151.ext E162
        have f186 : Fld Z h162 b19 "com/example/indenture/indenture/model/Identifier" "sourceType" "Ljava/lang/String;" .null := f152.ext E162
        have f187 : Fld Z h162 b19 "com/example/indenture/indenture/model/Identifier" "category" "Ljava/lang/String;" .null := f153.ext E162
        have f188 : Fld Z h162 b19 "com/example/indenture/indenture/model/Identifier" "subcategory" "Ljava/lang/String;" .null := f154.ext E162
        have f189 : Safe Z EL T136.vm h162 b56 := Safe.ext E162 CH136.1 f155
        have f190 : Exa Z h162 b56 "java/lang/String" := f156.ext E162
        have f191 : Fld Z h162 b56 "java/lang/String" "value" "[B" (.ref tb_82) := f157.ext E162
        have f192 : Fld Z h162 b56 "java/lang/String" "coder" "B" (.int (0 : Int32)) := f158.ext E162
        have f193 : Arv Z h162 tb_82 kt_82 .byte (Int32.ofNat (List.length (fbl (fch ua)))) (List.map Value.int (fbl (fch ua))) (.int (0 : Int32)) := f159.ext E162
        have f194 : Safe Z EL T136.vm h162 b103 := Safe.ext E162 CH136.1 f160
        have f195 : Exa Z h162 b103 "java/lang/String" := f161.ext E162
        have f196 : Fld Z h162 b103 "java/lang/String" "value" "[B" (.ref tb_136) := f137.ext E162
        have f197 : Fld Z h162 b103 "java/lang/String" "coder" "B" (.int (0 : Int32)) := f138.ext E162
        have f198 : Arv Z h162 tb_136 kt_136 .byte (Int32.ofNat (List.length (fbl (fch ub)))) (List.map Value.int (fbl (fch ub))) (.int (0 : Int32)) := f139.ext E162
        have f199 : Safe Z EL T136.vm h162 b162 := Safe.ext E162 CH136.1 sf_b162
        have CH162 : CHr Z EL s.vm s.heap T136.vm h162 := CH136.trans (CHr.ext E162 CH136.1)
        have hk162 : Array.size T136.heap ≤ Array.size h162 := Nat.le_trans (Nat.le_refl _) E162.1
        have O162 : Old Z n0 h162 := O136.ext E162
        have f200 : Fld Z h162 b162 "java/lang/String" "value" "[B" .null := D162 (Or.inr (wdx hw 12 rfl)) (ty := (.array .byte)) (by decide)
        have f201 : Fld Z h162 b162 "java/lang/String" "coder" "B" (.int (0 : Int32)) := D162 (Or.inr (wdx hw 13 rfl)) (ty := .byte) (by decide)
        show GoW p e below s _ _ _ _ _ (T162.setTop (mkF m 112 #[.val (.int ua), .val (.int va), .val (.int ub), .val (.int vb), .val (.int uc), .val (.int vc), .val (.ref rr_1), .val (.ref rr_3), .val (.ref rr_8), .val (.ref cxa), .val (.ref cxb), .val (.ref cxc), .unset, .unset, .unset] [(.ref b162), (.ref b103), (.ref b56), (.ref a40), (.ref b19), (.ref b19)]))
        refine GoW.st (fun _ k' => XS.dup X162.here hx rfl (hb hby at_112) rfl rfl k') ?_
        show GoW p e below s _ _ _ _ _ (T162.setTop (mkF m 113 #[.val (.int ua), .val (.int va), .val (.int ub), .val (.int vb), .val (.int uc), .val (.int vc), .val (.ref rr_1), .val (.ref rr_3), .val (.ref rr_8), .val (.ref cxa), .val (.ref cxb), .val (.ref cxc), .unset, .unset, .unset] [(.ref b162), (.ref b162), (.ref b103), (.ref b56), (.ref a40), (.ref b19), (.ref b19)]))
        refine GoW.st (fun _ k' => XS.aload X162.here hx rfl (hb hby at_113) rfl rfl k') ?_
        show GoW p e below s _ _ _ _ _ (T162.setTop (mkF m 115 #[.val (.int ua), .val (.int va), .val (.int ub), .val (.int vb), .val (.int uc), .val (.int vc), .val (.ref rr_1), .val (.ref rr_3), .val (.ref rr_8), .val (.ref cxa), .val (.ref cxb), .val (.ref cxc), .unset, .unset, .unset] [(.ref rr_8), (.ref b162), (.ref b162), (.ref b103), (.ref b56), (.ref a40), (.ref b19), (.ref b19)]))
        obtain ⟨_, _, ⟨T202, L202, k202, n202⟩, -, Xr202, hSr202, hgr202, ⟨Lc202, hQ202, l202, y202, z202, C202⟩, st202⟩ := X162.specialBackS hx (y := (⟨"java/lang/String", "<init>", "([C)V"⟩ : MethodName)) rfl hown136 (mvT hZ136 (wdx hw 17 rfl)) (mvT hZ136 (wdx hw 18 rfl)) (mvT hZ136 (wdx hw 19 rfl)) (by decide) (own_back (W := 6) (rm2_y l Z a0 hw [] b162 rr_8 kr_8 (fch uc) cs h162 n0 O162 A162 f200 f201 f178 S_cs q_cs g_b162 (own_chl _) (fun y hy => own_lq y (own_chr _ y hy))) hZ136 (wdx hw 19 rfl) (wdx hw 9 rfl) (by decide) (by decide) hEL CH162.1 (allS ⟨A162.lt, f199⟩ all0)) (g := (mkF m 115 #[.val (.int ua), .val (.int va), .val (.int ub), .val (.int vb), .val (.int uc), .val (.int vc), .val (.ref rr_1), .val (.ref rr_3), .val (.ref rr_8), .val (.ref cxa), .val (.ref cxb), .val (.ref cxc), .unset, .unset, .unset] [(.ref rr_8), (.ref b162), (.ref b162), (.ref b103), (.ref b56), (.ref a40), (.ref b19), (.ref b19)])) rfl (by rw [hml]; rfl) (Steps.refl _) (a := b162) (argsL := [(.ref rr_8)]) (rest := [(.ref b162), (.ref b103), (.ref b56), (.ref a40), (.ref b19), (.ref b19)]) (lenOf pd___C_V rfl) rfl (by show 2 * 0 + _ ≤ _; exact Nat.le_of_eq rfl) (hb hby at_115) (fun _ _ => ⟨rfl, e162, (by exact Nat.le_of_ble_eq_true rfl), (by exact Nat.le_of_ble_eq_true rfl)⟩)
        dsimp only [Pt.U, Pt.locs, Pt.cells, Pt.slots] at Xr202 hSr202 hgr202 l202 y202 z202 C202 st202 hQ202
        subst l202 y202 z202
        obtain ⟨X202, hS202, hZ202, hown202⟩ := rebS hS136 (by rw [e162]; exact hk162) Xr202 hSr202 hgr202 hZ136 hown136
        obtain ⟨tb_202, kt_202, rfl, Nq202, Kq202, f203, f204, f205⟩ := hQ202
        have N202 := Fr.app N136 Nq202
        refine GoW.tr st202 ?_
        have f206 : Arv Z T202.heap rr_1 kr_1 .char (Int32.ofNat (List.length (fch ua))) (List.map Value.int (fch ua)) (.int (0 : Int32)) := f174.keep Kq202 (ninS ne163 nin0)
        have f207 : Safe Z EL T202.vm T202.heap rr_1 := C202.safe f174.lt f175
        have f208 : Arv Z T202.heap rr_3 kr_3 .char (Int32.ofNat (List.length (fch ub))) (List.map Value.int (fch ub)) (.int (0 : Int32)) := f176.keep Kq202 (ninS ne164 nin0)
        have f209 : Safe Z EL T202.vm T202.heap rr_3 := C202.safe f176.lt f177
        have f210 : Arv Z T202.heap rr_8 kr_8 .char (Int32.ofNat (List.length (fch uc))) (List.map Value.int (fch uc)) (.int (0 : Int32)) := f178.keep Kq202 (ninS ne165 nin0)
        have f211 : Safe Z EL T202.vm T202.heap rr_8 := C202.safe f178.lt f179
        have f212 : Arv Z T202.heap cxa kxa .char (Int32.ofNat (List.length lxa)) (List.map Value.int lxa) (.int (0 : Int32)) := f180.keep Kq202 (ninS ne166 nin0)
        have f213 : Arv Z T202.heap cxb kxb .char (Int32.ofNat (List.length lxb)) (List.map Value.int lxb) (.int (0 : Int32)) := f181.keep Kq202 (ninS ne167 nin0)
        have f214 : Arv Z T202.heap cxc kxc .char (Int32.ofNat (List.length lxc)) (List.map Value.int lxc) (.int (0 : Int32)) := f182.keep Kq202 (ninS ne168 nin0)
        have f215 : Safe Z EL T202.vm T202.heap b19 := C202.safe f184.lt f183
        have f216 : Exa Z T202.heap b19 "com/example/indenture/indenture/model/Identifier" := f184.keep Kq202
        have f217 : Fld Z T202.heap b19 "com/example/indenture/indenture/model/Identifier" "id" "Ljava/lang/String;" .null := f185.keep Kq202 (ninS ne169 nin0)
        have f218 : Fld Z T202.heap b19 "com/example/indenture/indenture/model/Identifier" "sourceType" "Ljava/lang/String;" .null := f186.keep Kq202 (ninS ne169 nin0)
        have f219 : Fld Z T202.heap b19 "com/example/indenture/indenture/model/Identifier" "category" "Ljava/lang/String;" .null := f187.keep Kq202 (ninS ne169 nin0)
        have f220 : Fld Z T202.heap b19 "com/example/indenture/indenture/model/Identifier" "subcategory" "Ljava/lang/String;" .null := f188.keep Kq202 (ninS ne169 nin0)
        have f221 : Safe Z EL T202.vm T202.heap b56 := C202.safe f190.lt f189
        have f222 : Exa Z T202.heap b56 "java/lang/String" := f190.keep Kq202
        have f223 : Fld Z T202.heap b56 "java/lang/String" "value" "[B" (.ref tb_82) := f191.keep Kq202 (ninS ne170 nin0)
        have f224 : Fld Z T202.heap b56 "java/lang/String" "coder" "B" (.int (0 : Int32)) := f192.keep Kq202 (ninS ne170 nin0)
        have f225 : Arv Z T202.heap tb_82 kt_82 .byte (Int32.ofNat (List.length (fbl (fch ua)))) (List.map Value.int (fbl (fch ua))) (.int (0 : Int32)) := f193.keep Kq202 (ninS ne171 nin0)
        have f226 : Safe Z EL T202.vm T202.heap b103 := C202.safe f195.lt f194
        have f227 : Exa Z T202.heap b103 "java/lang/String" := f195.keep Kq202
        have f228 : Fld Z T202.heap b103 "java/lang/String" "value" "[B" (.ref tb_136) := f196.keep Kq202 (ninS ne172 nin0)
        have f229 : Fld Z T202.heap b103 "java/lang/String" "coder" "B" (.int (0 : Int32)) := f197.keep Kq202 (ninS ne172 nin0)
        have f230 : Arv Z T202.heap tb_136 kt_136 .byte (Int32.ofNat (List.length (fbl (fch ub)))) (List.map Value.int (fbl (fch ub))) (.int (0 : Int32)) := f198.keep Kq202 (ninS ne173 nin0)
        have f231 : Safe Z EL T202.vm T202.heap b162 := C202.safe A162.lt f199
        have f232 : Exa Z T202.heap b162 "java/lang/String" := A162.keep Kq202
        have CH202 : CHr Z EL s.vm s.heap T202.vm T202.heap := CH162.trans C202
        have O202 : Old Z n0 T202.heap := O162.keep Kq202 (allS g_b162 all0)
        show GoW p e below s _ _ _ _ _ (T202.setTop (mkF m 118 #[.val (.int ua), .val (.int va), .val (.int ub), .val (.int vb), .val (.int uc), .val (.int vc), .val (.ref rr_1), .val (.ref rr_3), .val (.ref rr_8), .val (.ref cxa), .val (.ref cxb), .val (.ref cxc), .unset, .unset, .unset] [(.ref b162), (.ref b103), (.ref b56), (.ref a40), (.ref b19), (.ref b19)]))
        obtain ⟨_, _, ⟨T233, L233, k233, n233⟩, -, Xr233, hSr233, hgr233, ⟨Lc233, hQ233, l233, y233, z233, C233⟩, st233⟩ := X202.specialBackS hx (y := (⟨"com/example/indenture/indenture/model/Identifier", "<init>", "(Ljava/lang/String;Ljava/lang/String;Ljava/lang/String;Ljava/lang/String;)V"⟩ : MethodName)) rfl hown202 (mvT hZ202 (wdx hw 41 rfl)) (mvT hZ202 (wdx hw 42 rfl)) (mvT hZ202 (wdx hw 43 rfl)) (by decide) (own_back (W := 1) (rm8 l Z a0 hw [] b19 a40 b56 b103 b162 T202.heap n0 O202 f216 f217 f218 f219 f220 g_b19) hZ202 (wdx hw 43 rfl) (wdx hw 7 rfl) (by decide) (by decide) hEL CH202.1 (allS ⟨f216.lt, f215⟩ all0)) (g := (mkF m 118 #[.val (.int ua), .val (.int va), .val (.int ub), .val (.int vb), .val (.int uc), .val (.int vc), .val (.ref rr_1), .val (.ref rr_3), .val (.ref rr_8), .val (.ref cxa), .val (.ref cxb), .val (.ref cxc), .unset, .unset, .unset] [(.ref b162), (.ref b103), (.ref b56), (.ref a40), (.ref b19), (.ref b19)])) rfl (by rw [hml]; rfl) (Steps.refl _) (a := b19) (argsL := [(.ref a40), (.ref b56), (.ref b103), (.ref b162)]) (rest := [(.ref b19)]) (lenOf pd__Ljava_lang_String_Ljava_lang_String_Ljava_lang_String_Ljava_lang_String__V rfl) rfl (by show 2 * 0 + _ ≤ _; exact Nat.le_of_eq rfl) (hb hby at_118) (fun _ _ => ⟨rfl, rfl, (by exact Nat.le_of_ble_eq_true rfl), (by exact Nat.le_of_ble_eq_true rfl)⟩)
        dsimp only [Pt.U, Pt.locs, Pt.cells, Pt.slots] at Xr233 hSr233 hgr233 l233 y233 z233 C233 st233 hQ233
        subst l233 y233 z233
        obtain ⟨X233, hS233, hZ233, hown233⟩ := rebS hS202 (Nat.le_refl _) Xr233 hSr233 hgr233 hZ202 hown202
        obtain ⟨rfl, Nq233, Kq233, f234, f235, f236, f237⟩ := hQ233
        have N233 := Fr.app N202 Nq233
        refine GoW.tr st233 ?_
        have f238 : Arv Z T233.heap rr_1 kr_1 .char (Int32.ofNat (List.length (fch ua))) (List.map Value.int (fch ua)) (.int (0 : Int32)) := f206.keep Kq233 (ninS ne20 nin0)
        have f239 : Safe Z EL T233.vm T233.heap rr_1 := C233.safe f206.lt f207
        have f240 : Arv Z T233.heap rr_3 kr_3 .char (Int32.ofNat (List.length (fch ub))) (List.map Value.int (fch ub)) (.int (0 : Int32)) := f208.keep Kq233 (ninS ne21 nin0)
        have f241 : Safe Z EL T233.vm T233.heap rr_3 := C233.safe f208.lt f209
        have f242 : Arv Z T233.heap rr_8 kr_8 .char (Int32.ofNat (List.length (fch uc))) (List.map Value.int (fch uc)) (.int (0 : Int32)) := f210.keep Kq233 (ninS ne22 nin0)
        have f243 : Safe Z EL T233.vm T233.heap rr_8 := C233.safe f210.lt f211
        have f244 : Arv Z T233.heap cxa kxa .char (Int32.ofNat (List.length lxa)) (List.map Value.int lxa) (.int (0 : Int32)) := f212.keep Kq233 (ninS ne23 nin0)
        have f245 : Arv Z T233.heap cxb kxb .char (Int32.ofNat (List.length lxb)) (List.map Value.int lxb) (.int (0 : Int32)) := f213.keep Kq233 (ninS ne24 nin0)
        have f246 : Arv Z T233.heap cxc kxc .char (Int32.ofNat (List.length lxc)) (List.map Value.int lxc) (.int (0 : Int32)) := f214.keep Kq233 (ninS ne25 nin0)
        have f247 : Safe Z EL T233.vm T233.heap b19 := C233.safe f216.lt f215
        have f248 : Exa Z T233.heap b19 "com/example/indenture/indenture/model/Identifier" := f216.keep Kq233
        have f249 : Safe Z EL T233.vm T233.heap b56 := C233.safe f222.lt f221
        have f250 : Exa Z T233.heap b56 "java/lang/String" := f222.keep Kq233
        have f251 : Fld Z T233.heap b56 "java/lang/String" "value" "[B" (.ref tb_82) := f223.keep Kq233 (ninS (Ne.symm ne63) nin0)
        have f252 : Fld Z T233.heap b56 "java/lang/String" "coder" "B" (.int (0 : Int32)) := f224.keep Kq233 (ninS (Ne.symm ne63) nin0)
        have ne253 : b19 ≠ tb_82 := Exa.neArv f216 f225 (wdx hw 6 rfl)
        have f254 : Arv Z T233.heap tb_82 kt_82 .byte (Int32.ofNat (List.length (fbl (fch ua)))) (List.map Value.int (fbl (fch ua))) (.int (0 : Int32)) := f225.keep Kq233 (ninS (Ne.symm ne253) nin0)
        have f255 : Safe Z EL T233.vm T233.heap b103 := C233.safe f227.lt f226
        have f256 : Exa Z T233.heap b103 "java/lang/String" := f227.keep Kq233
        have f257 : Fld Z T233.heap b103 "java/lang/String" "value" "[B" (.ref tb_136) := f228.keep Kq233 (ninS (Ne.symm ne110) nin0)
        have f258 : Fld Z T233.heap b103 "java/lang/String" "coder" "B" (.int (0 : Int32)) := f229.keep Kq233 (ninS (Ne.symm ne110) nin0)
        have ne259 : b19 ≠ tb_136 := Exa.neArv f216 f230 (wdx hw 6 rfl)
        have f260 : Arv Z T233.heap tb_136 kt_136 .byte (Int32.ofNat (List.length (fbl (fch ub)))) (List.map Value.int (fbl (fch ub))) (.int (0 : Int32)) := f230.keep Kq233 (ninS (Ne.symm ne259) nin0)
        have f261 : Safe Z EL T233.vm T233.heap b162 := C233.safe f232.lt f231
        have f262 : Exa Z T233.heap b162 "java/lang/String" := f232.keep Kq233
        have f263 : Fld Z T233.heap b162 "java/lang/String" "value" "[B" (.ref tb_202) := f203.keep Kq233 (ninS (Ne.symm ne169) nin0)
        have f264 : Fld Z T233.heap b162 "java/lang/String" "coder" "B" (.int (0 : Int32)) := f204.keep Kq233 (ninS (Ne.symm ne169) nin0)
        have ne265 : b19 ≠ tb_202 := Exa.neArv f216 f205 (wdx hw 6 rfl)
        have f266 : Arv Z T233.heap tb_202 kt_202 .byte (Int32.ofNat (List.length (fbl (fch uc)))) (List.map Value.int (fbl (fch uc))) (.int (0 : Int32)) := f205.keep Kq233 (ninS (Ne.symm ne265) nin0)
        have CH233 : CHr Z EL s.vm s.heap T233.vm T233.heap := CH202.trans C233
        have O233 : Old Z n0 T233.heap := O202.keep Kq233 (allS g_b19 all0)
        show GoW p e below s _ _ _ _ _ (T233.setTop (mkF m 121 #[.val (.int ua), .val (.int va), .val (.int ub), .val (.int vb), .val (.int uc), .val (.int vc), .val (.ref rr_1), .val (.ref rr_3), .val (.ref rr_8), .val (.ref cxa), .val (.ref cxb), .val (.ref cxc), .unset, .unset, .unset] [(.ref b19)]))
        refine GoW.st (fun _ k' => XS.astore X233.here hx rfl (hb hby at_121) rfl rfl (l' := #[.val (.int ua), .val (.int va), .val (.int ub), .val (.int vb), .val (.int uc), .val (.int vc), .val (.ref rr_1), .val (.ref rr_3), .val (.ref rr_8), .val (.ref cxa), .val (.ref cxb), .val (.ref cxc), .val (.ref b19), .unset, .unset]) rfl k') ?_
        show GoW p e below s _ _ _ _ _ (T233.setTop (mkF m 123 #[.val (.int ua), .val (.int va), .val (.int ub), .val (.int vb), .val (.int uc), .val (.int vc), .val (.ref rr_1), .val (.ref rr_3), .val (.ref rr_8), .val (.ref cxa), .val (.ref cxb), .val (.ref cxc), .val (.ref b19), .unset, .unset] []))
        refine GoW.st (fun _ k' => XS.aload X233.here hx rfl (hb hby at_123) rfl rfl k') ?_
        show GoW p e below s _ _ _ _ _ (T233.setTop (mkF m 125 #[.val (.int ua), .val (.int va), .val (.int ub), .val (.int vb), .val (.int uc), .val (.int vc), .val (.ref rr_1), .val (.ref rr_3), .val (.ref rr_8), .val (.ref cxa), .val (.ref cxb), .val (.ref cxc), .val (.ref b19), .unset, .unset] [(.ref b19)]))
        obtain ⟨T267, h267, X267, e267, E267, A267, D267, -, st267⟩ := newO X233 hx hZ233 hown233 (wdx hw 16 rfl) (wdx hw 10 rfl) (wdx hw 9 rfl) rfl (g := (mkF m 125 #[.val (.int ua), .val (.int va), .val (.int ub), .val (.int vb), .val (.int uc), .val (.int vc), .val (.ref rr_1), .val (.ref rr_3), .val (.ref rr_8), .val (.ref cxa), .val (.ref cxb), .val (.ref cxc), .val (.ref b19), .unset, .unset] [(.ref b19)])) rfl (hb hby at_125) (by decide) (by decide)
        obtain ⟨b267, g267⟩ : ∃ z, z = T233.heap.size := ⟨_, rfl⟩
        rw [← g267] at A267 D267 st267
        refine GoW.st st267 ?_
        have g_b267 : n0 ≤ b267 := Nat.le_trans (own_le O233) (Nat.le_of_eq g267.symm)
        have sf_b267 : Safe Z EL T233.vm T233.heap b267 := Safe.new (Nat.le_of_eq g267.symm)
        have ne268 : rr_1 ≠ b267 := Nat.ne_of_lt (Nat.lt_of_lt_of_le f238.lt (Nat.le_of_eq g267.symm))
        have ne269 : rr_3 ≠ b267 := Nat.ne_of_lt (Nat.lt_of_lt_of_le f240.lt (Nat.le_of_eq g267.symm))
        have ne270 : rr_8 ≠ b267 := Nat.ne_of_lt (Nat.lt_of_lt_of_le f242.lt (Nat.le_of_eq g267.symm))
        have ne271 : cxa ≠ b267 := Nat.ne_of_lt (Nat.lt_of_lt_of_le f244.lt (Nat.le_of_eq g267.symm))
        have ne272 : cxb ≠ b267 := Nat.ne_of_lt (Nat.lt_of_lt_of_le f245.lt (Nat.le_of_eq g267.symm))
        have ne273 : cxc ≠ b267 := Nat.ne_of_lt (Nat.lt_of_lt_of_le f246.lt (Nat.le_of_eq g267.symm))
        have ne274 : b19 ≠ b267 := Nat.ne_of_lt (Nat.lt_of_lt_of_le f248.lt (Nat.le_of_eq g267.symm))
        have ne275 : b56 ≠ b267 := Nat.ne_of_lt (Nat.lt_of_lt_of_le f250.lt (Nat.le_of_eq g267.symm))
        have ne276 : tb_82 ≠ b267 := Nat.ne_of_lt (Nat.lt_of_lt_of_le f254.lt (Nat.le_of_eq g267.symm))
        have ne277 : b103 ≠ b267 := Nat.ne_of_lt (Nat.lt_of_lt_of_le f256.lt (Nat.le_of_eq g267.symm))
        have ne278 : tb_136 ≠ b267 := Nat.ne_of_lt (Nat.lt_of_lt_of_le f260.lt (Nat.le_of_eq g267.symm))
        have ne279 : b162 ≠ b267 := Nat.ne_of_lt (Nat.lt_of_lt_of_le f262.lt (Nat.le_of_eq g267.symm))
        have ne280 : tb_202 ≠ b267 := Nat.ne_of_lt (Nat.lt_of_lt_of_le f266.lt (Nat.le_of_eq g267.symm))
        have f281 : Arv Z h267 rr_1 kr_1 .char (Int32.ofNat (List.length (fch ua))) (List.map Value.int (fch ua)) (.int (0 : Int32)) := f238.ext E267
        have f282 : Safe Z EL T233.vm h267 rr_1 := Safe.ext E267 CH233.1 f239
        have f283 : Arv Z h267 rr_3 kr_3 .char (Int32.ofNat (List.length (fch ub))) (List.map Value.int (fch ub)) (.int (0 : Int32)) := f240.ext E267
        have f284 : Safe Z EL T233.vm h267 rr_3 := Safe.ext E267 CH233.1 f241
        have f285 : Arv Z h267 rr_8 kr_8 .char (Int32.ofNat (List.length (fch uc))) (List.map Value.int (fch uc)) (.int (0 : Int32)) := f242.ext E267
        have f286 : Safe Z EL T233.vm h267 rr_8 := Safe.ext E267 CH233.1 f243
        have f287 : Arv Z h267 cxa kxa .char (Int32.ofNat (List.length lxa)) (List.map Value.int lxa) (.int (0 : Int32)) := f244.ext E267
        have f288 : Arv Z h267 cxb kxb .char (Int32.ofNat (List.length lxb)) (List.map Value.int lxb) (.int (0 : Int32)) := f245.ext E267
        have f289 : Arv Z h267 cxc kxc .char (Int32.ofNat (List.length lxc)) (List.map Value.int lxc) (.int (0 : Int32)) := f246.ext E267
        have f290 : Safe Z EL T233.vm h267 b19 := Safe.ext E267 CH233.1 f247
        have f291 : Exa Z h267 b19 "com/example/indenture/indenture/model/Identifier" := f248.ext E267
        have f292 : Safe Z EL T233.vm h267 b56 := Safe.ext E267 CH233.1 f249
        have f293 : Exa Z h267 b56 "java/lang/String" := f250.ext E267
        have f294 : Fld Z h267 b56 "java/lang/String" "value" "[B" (.ref tb_82) := f251.ext E267
        have f295 : Fld Z h267 b56 "java/lang/String" "coder" "B" (.int (0 : Int32)) := f252.ext E267
        have f296 : Arv Z h267 tb_82 kt_82 .byte (Int32.ofNat (List.length (fbl (fch ua)))) (List.map Value.int (fbl (fch ua))) (.int (0 : Int32)) := f254.ext E267
        have f297 : Safe Z EL T233.vm h267 b103 := Safe.ext E267 CH233.1 f255
        have f298 : Exa Z h267 b103 "java/lang/String" := f256.ext E267
        have f299 : Fld Z h267 b103 "java/lang/String" "value" "[B" (.ref tb_136) := f257.ext E267
        have f300 : Fld Z h267 b103 "java/lang/String" "coder" "B" (.int (0 : Int32)) := f258.ext E267
        have f301 : Arv Z h267 tb_136 kt_136 .byte (Int32.ofNat (List.length (fbl (fch ub)))) (List.map Value.int (fbl (fch ub))) (.int (0 : Int32)) := f260.ext E267
        have f302 : Safe Z EL T233.vm h267 b162 := Safe.ext E267 CH233.1 f261
        have f303 : Exa Z h267 b162 "java/lang/String" := f262.ext E267
        have f304 : Fld Z h267 b162 "java/lang/String" "value" "[B" (.ref tb_202) := f263.ext E267
        have f305 : Fld Z h267 b162 "java/lang/String" "coder" "B" (.int (0 : Int32)) := f264.ext E267
        have f306 : Arv Z h267 tb_202 kt_202 .byte (Int32.ofNat (List.length (fbl (fch uc)))) (List.map Value.int (fbl (fch uc))) (.int (0 : Int32)) := f266.ext E267
        have f307 : Fld Z h267 b19 "com/example/indenture/indenture/model/Identifier" "id" "Ljava/lang/String;" (.ref a40) := f234.ext E267
        have f308 : Fld Z h267 b19 "com/example/indenture/indenture/model/Identifier" "sourceType" "Ljava/lang/String;" (.ref b56) := f235.ext E267
        have f309 : Fld Z h267 b19 "com/example/indenture/indenture/model/Identifier" "category" "Ljava/lang/String;" (.ref b103) := f236.ext E267
        have f310 : Fld Z h267 b19 "com/example/indenture/indenture/model/Identifier" "subcategory" "Ljava/lang/String;" (.ref b162) := f237.ext E267
        have f311 : Safe Z EL T233.vm h267 b267 := Safe.ext E267 CH233.1 sf_b267
        have CH267 : CHr Z EL s.vm s.heap T233.vm h267 := CH233.trans (CHr.ext E267 CH233.1)
        have hk267 : Array.size T233.heap ≤ Array.size h267 := Nat.le_trans (Nat.le_refl _) E267.1
        have O267 : Old Z n0 h267 := O233.ext E267
        have f312 : Fld Z h267 b267 "java/lang/String" "value" "[B" .null := D267 (Or.inr (wdx hw 12 rfl)) (ty := (.array .byte)) (by decide)
        have f313 : Fld Z h267 b267 "java/lang/String" "coder" "B" (.int (0 : Int32)) := D267 (Or.inr (wdx hw 13 rfl)) (ty := .byte) (by decide)
        show GoW p e below s _ _ _ _ _ (T267.setTop (mkF m 128 #[.val (.int ua), .val (.int va), .val (.int ub), .val (.int vb), .val (.int uc), .val (.int vc), .val (.ref rr_1), .val (.ref rr_3), .val (.ref rr_8), .val (.ref cxa), .val (.ref cxb), .val (.ref cxc), .val (.ref b19), .unset, .unset] [(.ref b267), (.ref b19)]))
        refine GoW.st (fun _ k' => XS.dup X267.here hx rfl (hb hby at_128) rfl rfl k') ?_
        show GoW p e below s _ _ _ _ _ (T267.setTop (mkF m 129 #[.val (.int ua), .val (.int va), .val (.int ub), .val (.int vb), .val (.int uc), .val (.int vc), .val (.ref rr_1), .val (.ref rr_3), .val (.ref rr_8), .val (.ref cxa), .val (.ref cxb), .val (.ref cxc), .val (.ref b19), .unset, .unset] [(.ref b267), (.ref b267), (.ref b19)]))
        refine GoW.st (fun _ k' => XS.aload X267.here hx rfl (hb hby at_129) rfl rfl k') ?_
        show GoW p e below s _ _ _ _ _ (T267.setTop (mkF m 131 #[.val (.int ua), .val (.int va), .val (.int ub), .val (.int vb), .val (.int uc), .val (.int vc), .val (.ref rr_1), .val (.ref rr_3), .val (.ref rr_8), .val (.ref cxa), .val (.ref cxb), .val (.ref cxc), .val (.ref b19), .unset, .unset] [(.ref cxa), (.ref b267), (.ref b267), (.ref b19)]))
        obtain ⟨_, _, ⟨T314, L314, k314, n314⟩, -, Xr314, hSr314, hgr314, ⟨Lc314, hQ314, l314, y314, z314, C314⟩, st314⟩ := X267.specialBackS hx (y := (⟨"java/lang/String", "<init>", "([C)V"⟩ : MethodName)) rfl hown233 (mvT hZ233 (wdx hw 17 rfl)) (mvT hZ233 (wdx hw 18 rfl)) (mvT hZ233 (wdx hw 19 rfl)) (by decide) (own_back (W := 2) (rm2_y l Z a0 hw [] b267 cxa kxa lxa cs h267 n0 O267 A267 f312 f313 f287 S_cs q_cs g_b267 q_lxa (fun y hy => own_lq y (r_lxa y hy))) hZ233 (wdx hw 19 rfl) (wdx hw 9 rfl) (by decide) (by decide) hEL CH267.1 (allS ⟨A267.lt, f311⟩ all0)) (g := (mkF m 131 #[.val (.int ua), .val (.int va), .val (.int ub), .val (.int vb), .val (.int uc), .val (.int vc), .val (.ref rr_1), .val (.ref rr_3), .val (.ref rr_8), .val (.ref cxa), .val (.ref cxb), .val (.ref cxc), .val (.ref b19), .unset, .unset] [(.ref cxa), (.ref b267), (.ref b267), (.ref b19)])) rfl (by rw [hml]; rfl) (Steps.refl _) (a := b267) (argsL := [(.ref cxa)]) (rest := [(.ref b267), (.ref b19)]) (lenOf pd___C_V rfl) rfl (by show 2 * 0 + _ ≤ _; exact Nat.le_of_eq rfl) (hb hby at_131) (fun _ _ => ⟨rfl, e267, (by exact Nat.le_of_ble_eq_true rfl), (by exact Nat.le_of_ble_eq_true rfl)⟩)
        dsimp only [Pt.U, Pt.locs, Pt.cells, Pt.slots] at Xr314 hSr314 hgr314 l314 y314 z314 C314 st314 hQ314
        subst l314 y314 z314
        obtain ⟨X314, hS314, hZ314, hown314⟩ := rebS hS233 (by rw [e267]; exact hk267) Xr314 hSr314 hgr314 hZ233 hown233
        obtain ⟨tb_314, kt_314, rfl, Nq314, Kq314, f315, f316, f317⟩ := hQ314
        have N314 := Fr.app N233 Nq314
        refine GoW.tr st314 ?_
        have f318 : Arv Z T314.heap rr_1 kr_1 .char (Int32.ofNat (List.length (fch ua))) (List.map Value.int (fch ua)) (.int (0 : Int32)) := f281.keep Kq314 (ninS ne268 nin0)
        have f319 : Safe Z EL T314.vm T314.heap rr_1 := C314.safe f281.lt f282
        have f320 : Arv Z T314.heap rr_3 kr_3 .char (Int32.ofNat (List.length (fch ub))) (List.map Value.int (fch ub)) (.int (0 : Int32)) := f283.keep Kq314 (ninS ne269 nin0)
        have f321 : Safe Z EL T314.vm T314.heap rr_3 := C314.safe f283.lt f284
        have f322 : Arv Z T314.heap rr_8 kr_8 .char (Int32.ofNat (List.length (fch uc))) (List.map Value.int (fch uc)) (.int (0 : Int32)) := f285.keep Kq314 (ninS ne270 nin0)
        have f323 : Safe Z EL T314.vm T314.heap rr_8 := C314.safe f285.lt f286
        have f324 : Arv Z T314.heap cxa kxa .char (Int32.ofNat (List.length lxa)) (List.map Value.int lxa) (.int (0 : Int32)) := f287.keep Kq314 (ninS ne271 nin0)
        have f325 : Arv Z T314.heap cxb kxb .char (Int32.ofNat (List.length lxb)) (List.map Value.int lxb) (.int (0 : Int32)) := f288.keep Kq314 (ninS ne272 nin0)
        have f326 : Arv Z T314.heap cxc kxc .char (Int32.ofNat (List.length lxc)) (List.map Value.int lxc) (.int (0 : Int32)) := f289.keep Kq314 (ninS ne273 nin0)
        have f327 : Safe Z EL T314.vm T314.heap b19 := C314.safe f291.lt f290
        have f328 : Exa Z T314.heap b19 "com/example/indenture/indenture/model/Identifier" := f291.keep Kq314
        have f329 : Safe Z EL T314.vm T314.heap b56 := C314.safe f293.lt f292
        have f330 : Exa Z T314.heap b56 "java/lang/String" := f293.keep Kq314
        have f331 : Fld Z T314.heap b56 "java/lang/String" "value" "[B" (.ref tb_82) := f294.keep Kq314 (ninS ne275 nin0)
        have f332 : Fld Z T314.heap b56 "java/lang/String" "coder" "B" (.int (0 : Int32)) := f295.keep Kq314 (ninS ne275 nin0)
        have f333 : Arv Z T314.heap tb_82 kt_82 .byte (Int32.ofNat (List.length (fbl (fch ua)))) (List.map Value.int (fbl (fch ua))) (.int (0 : Int32)) := f296.keep Kq314 (ninS ne276 nin0)
        have f334 : Safe Z EL T314.vm T314.heap b103 := C314.safe f298.lt f297
        have f335 : Exa Z T314.heap b103 "java/lang/String" := f298.keep Kq314
        have f336 : Fld Z T314.heap b103 "java/lang/String" "value" "[B" (.ref tb_136) := f299.keep Kq314 (ninS ne277 nin0)
        have f337 : Fld Z T314.heap b103 "java/lang/String" "coder" "B" (.int (0 : Int32)) := f300.keep Kq314 (ninS ne277 nin0)
        have f338 : Arv Z T314.heap tb_136 kt_136 .byte (Int32.ofNat (List.length (fbl (fch ub)))) (List.map Value.int (fbl (fch ub))) (.int (0 : Int32)) := f301.keep Kq314 (ninS ne278 nin0)
        have f339 : Safe Z EL T314.vm T314.heap b162 := C314.safe f303.lt f302
        have f340 : Exa Z T314.heap b162 "java/lang/String" := f303.keep Kq314
        have f341 : Fld Z T314.heap b162 "java/lang/String" "value" "[B" (.ref tb_202) := f304.keep Kq314 (ninS ne279 nin0)
        have f342 : Fld Z T314.heap b162 "java/lang/String" "coder" "B" (.int (0 : Int32)) := f305.keep Kq314 (ninS ne279 nin0)
        have f343 : Arv Z T314.heap tb_202 kt_202 .byte (Int32.ofNat (List.length (fbl (fch uc)))) (List.map Value.int (fbl (fch uc))) (.int (0 : Int32)) := f306.keep Kq314 (ninS ne280 nin0)
        have f344 : Fld Z T314.heap b19 "com/example/indenture/indenture/model/Identifier" "id" "Ljava/lang/String;" (.ref a40) := f307.keep Kq314 (ninS ne274 nin0)
        have f345 : Fld Z T314.heap b19 "com/example/indenture/indenture/model/Identifier" "sourceType" "Ljava/lang/String;" (.ref b56) := f308.keep Kq314 (ninS ne274 nin0)
        have f346 : Fld Z T314.heap b19 "com/example/indenture/indenture/model/Identifier" "category" "Ljava/lang/String;" (.ref b103) := f309.keep Kq314 (ninS ne274 nin0)
        have f347 : Fld Z T314.heap b19 "com/example/indenture/indenture/model/Identifier" "subcategory" "Ljava/lang/String;" (.ref b162) := f310.keep Kq314 (ninS ne274 nin0)
        have f348 : Safe Z EL T314.vm T314.heap b267 := C314.safe A267.lt f311
        have f349 : Exa Z T314.heap b267 "java/lang/String" := A267.keep Kq314
        have CH314 : CHr Z EL s.vm s.heap T314.vm T314.heap := CH267.trans C314
        have O314 : Old Z n0 T314.heap := O267.keep Kq314 (allS g_b267 all0)
        show GoW p e below s _ _ _ _ _ (T314.setTop (mkF m 134 #[.val (.int ua), .val (.int va), .val (.int ub), .val (.int vb), .val (.int uc), .val (.int vc), .val (.ref rr_1), .val (.ref rr_3), .val (.ref rr_8), .val (.ref cxa), .val (.ref cxb), .val (.ref cxc), .val (.ref b19), .unset, .unset] [(.ref b267), (.ref b19)]))
        obtain ⟨T350, h350, X350, e350, E350, A350, D350, -, st350⟩ := newO X314 hx hZ314 hown314 (wdx hw 16 rfl) (wdx hw 10 rfl) (wdx hw 9 rfl) rfl (g := (mkF m 134 #[.val (.int ua), .val (.int va), .val (.int ub), .val (.int vb), .val (.int uc), .val (.int vc), .val (.ref rr_1), .val (.ref rr_3), .val (.ref rr_8), .val (.ref cxa), .val (.ref cxb), .val (.ref cxc), .val (.ref b19), .unset, .unset] [(.ref b267), (.ref b19)])) rfl (hb hby at_134) (by decide) (by decide)
        obtain ⟨b350, g350⟩ : ∃ z, z = T314.heap.size := ⟨_, rfl⟩
        rw [← g350] at A350 D350 st350
        refine GoW.st st350 ?_
        have g_b350 : n0 ≤ b350 := Nat.le_trans (own_le O314) (Nat.le_of_eq g350.symm)
        have sf_b350 : Safe Z EL T314.vm T314.heap b350 := Safe.new (Nat.le_of_eq g350.symm)
        have ne351 : rr_1 ≠ b350 := Nat.ne_of_lt (Nat.lt_of_lt_of_le f318.lt (Nat.le_of_eq g350.symm))
        have ne352 : rr_3 ≠ b350 := Nat.ne_of_lt (Nat.lt_of_lt_of_le f320.lt (Nat.le_of_eq g350.symm))
        have ne353 : rr_8 ≠ b350 := Nat.ne_of_lt (Nat.lt_of_lt_of_le f322.lt (Nat.le_of_eq g350.symm))
        have ne354 : cxa ≠ b350 := Nat.ne_of_lt (Nat.lt_of_lt_of_le f324.lt (Nat.le_of_eq g350.symm))
        have ne355 : cxb ≠ b350 := Nat.ne_of_lt (Nat.lt_of_lt_of_le f325.lt (Nat.le_of_eq g350.symm))
        have ne356 : cxc ≠ b350 := Nat.ne_of_lt (Nat.lt_of_lt_of_le f326.lt (Nat.le_of_eq g350.symm))
        have ne357 : b19 ≠ b350 := Nat.ne_of_lt (Nat.lt_of_lt_of_le f328.lt (Nat.le_of_eq g350.symm))
        have ne358 : b56 ≠ b350 := Nat.ne_of_lt (Nat.lt_of_lt_of_le f330.lt (Nat.le_of_eq g350.symm))
        have ne359 : tb_82 ≠ b350 := Nat.ne_of_lt (Nat.lt_of_lt_of_le f333.lt (Nat.le_of_eq g350.symm))
        have ne360 : b103 ≠ b350 := Nat.ne_of_lt (Nat.lt_of_lt_of_le f335.lt (Nat.le_of_eq g350.symm))
        have ne361 : tb_136 ≠ b350 := Nat.ne_of_lt (Nat.lt_of_lt_of_le f338.lt (Nat.le_of_eq g350.symm))
        have ne362 : b162 ≠ b350 := Nat.ne_of_lt (Nat.lt_of_lt_of_le f340.lt (Nat.le_of_eq g350.symm))
        have ne363 : tb_202 ≠ b350 := Nat.ne_of_lt (Nat.lt_of_lt_of_le f343.lt (Nat.le_of_eq g350.symm))
        have ne364 : b267 ≠ b350 := Nat.ne_of_lt (Nat.lt_of_lt_of_le f349.lt (Nat.le_of_eq g350.symm))
        have ne365 : tb_314 ≠ b350 := Nat.ne_of_lt (Nat.lt_of_lt_of_le f317.lt (Nat.le_of_eq g350.symm))
        have f366 : Arv Z h350 rr_1 kr_1 .char (Int32.ofNat (List.length (fch ua))) (List.map Value.int (fch ua)) (.int (0 : Int32)) := f318.ext E350
        have f367 : Safe Z EL T314.vm h350 rr_1 := Safe.ext E350 CH314.1 f319
        have f368 : Arv Z h350 rr_3 kr_3 .char (Int32.ofNat (List.length (fch ub))) (List.map Value.int (fch ub)) (.int (0 : Int32)) := f320.ext E350
        have f369 : Safe Z EL T314.vm h350 rr_3 := Safe.ext E350 CH314.1 f321
        have f370 : Arv Z h350 rr_8 kr_8 .char (Int32.ofNat (List.length (fch uc))) (List.map Value.int (fch uc)) (.int (0 : Int32)) := f322.ext E350
        have f371 : Safe Z EL T314.vm h350 rr_8 := Safe.ext E350 CH314.1 f323
        have f372 : Arv Z h350 cxa kxa .char (Int32.ofNat (List.length lxa)) (List.map Value.int lxa) (.int (0 : Int32)) := f324.ext E350
        have f373 : Arv Z h350 cxb kxb .char (Int32.ofNat (List.length lxb)) (List.map Value.int lxb) (.int (0 : Int32)) := f325.ext E350
        have f374 : Arv Z h350 cxc kxc .char (Int32.ofNat (List.length lxc)) (List.map Value.int lxc) (.int (0 : Int32)) := f326.ext E350
        have f375 : Safe Z EL T314.vm h350 b19 := Safe.ext E350 CH314.1 f327
        have f376 : Exa Z h350 b19 "com/example/indenture/indenture/model/Identifier" := f328.ext E350
        have f377 : Safe Z EL T314.vm h350 b56 := Safe.ext E350 CH314.1 f329
        have f378 : Exa Z h350 b56 "java/lang/String" := f330.ext E350
        have f379 : Fld Z h350 b56 "java/lang/String" "value" "[B" (.ref tb_82) := f331.ext E350
        have f380 : Fld Z h350 b56 "java/lang/String" "coder" "B" (.int (0 : Int32)) := f332.ext E350
        have f381 : Arv Z h350 tb_82 kt_82 .byte (Int32.ofNat (List.length (fbl (fch ua)))) (List.map Value.int (fbl (fch ua))) (.int (0 : Int32)) := f333.ext E350
        have f382 : Safe Z EL T314.vm h350 b103 := Safe.ext E350 CH314.1 f334
        have f383 : Exa Z h350 b103 "java/lang/String" := f335.ext E350
        have f384 : Fld Z h350 b103 "java/lang/String" "value" "[B" (.ref tb_136) := f336.ext E350
        have f385 : Fld Z h350 b103 "java/lang/String" "coder" "B" (.int (0 : Int32)) := f337.ext E350
        have f386 : Arv Z h350 tb_136 kt_136 .byte (Int32.ofNat (List.length (fbl (fch ub)))) (List.map Value.int (fbl (fch ub))) (.int (0 : Int32)) := f338.ext E350
        have f387 : Safe Z EL T314.vm h350 b162 := Safe.ext E350 CH314.1 f339
        have f388 : Exa Z h350 b162 "java/lang/String" := f340.ext E350
        have f389 : Fld Z h350 b162 "java/lang/String" "value" "[B" (.ref tb_202) := f341.ext E350
        have f390 : Fld Z h350 b162 "java/lang/String" "coder" "B" (.int (0 : Int32)) := f342.ext E350
        have f391 : Arv Z h350 tb_202 kt_202 .byte (Int32.ofNat (List.length (fbl (fch uc)))) (List.map Value.int (fbl (fch uc))) (.int (0 : Int32)) := f343.ext E350
        have f392 : Fld Z h350 b19 "com/example/indenture/indenture/model/Identifier" "id" "Ljava/lang/String;" (.ref a40) := f344.ext E350
        have f393 : Fld Z h350 b19 "com/example/indenture/indenture/model/Identifier" "sourceType" "Ljava/lang/String;" (.ref b56) := f345.ext E350
        have f394 : Fld Z h350 b19 "com/example/indenture/indenture/model/Identifier" "category" "Ljava/lang/String;" (.ref b103) := f346.ext E350
        have f395 : Fld Z h350 b19 "com/example/indenture/indenture/model/Identifier" "subcategory" "Ljava/lang/String;" (.ref b162) := f347.ext E350
        have f396 : Safe Z EL T314.vm h350 b267 := Safe.ext E350 CH314.1 f348
        have f397 : Exa Z h350 b267 "java/lang/String" := f349.ext E350
        have f398 : Fld Z h350 b267 "java/lang/String" "value" "[B" (.ref tb_314) := f315.ext E350
        have f399 : Fld Z h350 b267 "java/lang/String" "coder" "B" (.int (0 : Int32)) := f316.ext E350
        have f400 : Arv Z h350 tb_314 kt_314 .byte (Int32.ofNat (List.length (fbl lxa))) (List.map Value.int (fbl lxa)) (.int (0 : Int32)) := f317.ext E350
        have f401 : Safe Z EL T314.vm h350 b350 := Safe.ext E350 CH314.1 sf_b350
        have CH350 : CHr Z EL s.vm s.heap T314.vm h350 := CH314.trans (CHr.ext E350 CH314.1)
        have hk350 : Array.size T314.heap ≤ Array.size h350 := Nat.le_trans (Nat.le_refl _) E350.1
        have O350 : Old Z n0 h350 := O314.ext E350
        have f402 : Fld Z h350 b350 "java/lang/String" "value" "[B" .null := D350 (Or.inr (wdx hw 12 rfl)) (ty := (.array .byte)) (by decide)
        have f403 : Fld Z h350 b350 "java/lang/String" "coder" "B" (.int (0 : Int32)) := D350 (Or.inr (wdx hw 13 rfl)) (ty := .byte) (by decide)
        show GoW p e below s _ _ _ _ _ (T350.setTop (mkF m 137 #[.val (.int ua), .val (.int va), .val (.int ub), .val (.int vb), .val (.int uc), .val (.int vc), .val (.ref rr_1), .val (.ref rr_3), .val (.ref rr_8), .val (.ref cxa), .val (.ref cxb), .val (.ref cxc), .val (.ref b19), .unset, .unset] [(.ref b350), (.ref b267), (.ref b19)]))
        refine GoW.st (fun _ k' => XS.dup X350.here hx rfl (hb hby at_137) rfl rfl k') ?_
        show GoW p e below s _ _ _ _ _ (T350.setTop (mkF m 138 #[.val (.int ua), .val (.int va), .val (.int ub), .val (.int vb), .val (.int uc), .val (.int vc), .val (.ref rr_1), .val (.ref rr_3), .val (.ref rr_8), .val (.ref cxa), .val (.ref cxb), .val (.ref cxc), .val (.ref b19), .unset, .unset] [(.ref b350), (.ref b350), (.ref b267), (.ref b19)]))
        refine GoW.st (fun _ k' => XS.aload X350.here hx rfl (hb hby at_138) rfl rfl k') ?_
        show GoW p e below s _ _ _ _ _ (T350.setTop (mkF m 140 #[.val (.int ua), .val (.int va), .val (.int ub), .val (.int vb), .val (.int uc), .val (.int vc), .val (.ref rr_1), .val (.ref rr_3), .val (.ref rr_8), .val (.ref cxa), .val (.ref cxb), .val (.ref cxc), .val (.ref b19), .unset, .unset] [(.ref cxb), (.ref b350), (.ref b350), (.ref b267), (.ref b19)]))
        obtain ⟨_, _, ⟨T404, L404, k404, n404⟩, -, Xr404, hSr404, hgr404, ⟨Lc404, hQ404, l404, y404, z404, C404⟩, st404⟩ := X350.specialBackS hx (y := (⟨"java/lang/String", "<init>", "([C)V"⟩ : MethodName)) rfl hown314 (mvT hZ314 (wdx hw 17 rfl)) (mvT hZ314 (wdx hw 18 rfl)) (mvT hZ314 (wdx hw 19 rfl)) (by decide) (own_back (W := 3) (rm2_y l Z a0 hw [] b350 cxb kxb lxb cs h350 n0 O350 A350 f402 f403 f373 S_cs q_cs g_b350 q_lxb (fun y hy => own_lq y (r_lxb y hy))) hZ314 (wdx hw 19 rfl) (wdx hw 9 rfl) (by decide) (by decide) hEL CH350.1 (allS ⟨A350.lt, f401⟩ all0)) (g := (mkF m 140 #[.val (.int ua), .val (.int va), .val (.int ub), .val (.int vb), .val (.int uc), .val (.int vc), .val (.ref rr_1), .val (.ref rr_3), .val (.ref rr_8), .val (.ref cxa), .val (.ref cxb), .val (.ref cxc), .val (.ref b19), .unset, .unset] [(.ref cxb), (.ref b350), (.ref b350), (.ref b267), (.ref b19)])) rfl (by rw [hml]; rfl) (Steps.refl _) (a := b350) (argsL := [(.ref cxb)]) (rest := [(.ref b350), (.ref b267), (.ref b19)]) (lenOf pd___C_V rfl) rfl (by show 2 * 0 + _ ≤ _; exact Nat.le_of_eq rfl) (hb hby at_140) (fun _ _ => ⟨rfl, e350, (by exact Nat.le_of_ble_eq_true rfl), (by exact Nat.le_of_ble_eq_true rfl)⟩)
        dsimp only [Pt.U, Pt.locs, Pt.cells, Pt.slots] at Xr404 hSr404 hgr404 l404 y404 z404 C404 st404 hQ404
        subst l404 y404 z404
        obtain ⟨X404, hS404, hZ404, hown404⟩ := rebS hS314 (by rw [e350]; exact hk350) Xr404 hSr404 hgr404 hZ314 hown314
        obtain ⟨tb_404, kt_404, rfl, Nq404, Kq404, f405, f406, f407⟩ := hQ404
        have N404 := Fr.app N314 Nq404
        refine GoW.tr st404 ?_
        have f408 : Arv Z T404.heap rr_1 kr_1 .char (Int32.ofNat (List.length (fch ua))) (List.map Value.int (fch ua)) (.int (0 : Int32)) := f366.keep Kq404 (ninS ne351 nin0)
        have f409 : Safe Z EL T404.vm T404.heap rr_1 := C404.safe f366.lt f367
        have f410 : Arv Z T404.heap rr_3 kr_3 .char (Int32.ofNat (List.length (fch ub))) (List.map Value.int (fch ub)) (.int (0 : Int32)) := f368.keep Kq404 (ninS ne352 nin0)
        have f411 : Safe Z EL T404.vm T404.heap rr_3 := C404.safe f368.lt f369
        have f412 : Arv Z T404.heap rr_8 kr_8 .char (Int32.ofNat (List.length (fch uc))) (List.map Value.int (fch uc)) (.int (0 : Int32)) := f370.keep Kq404 (ninS ne353 nin0)
        have f413 : Safe Z EL T404.vm T404.heap rr_8 := C404.safe f370.lt f371
        have f414 : Arv Z T404.heap cxa kxa .char (Int32.ofNat (List.length lxa)) (List.map Value.int lxa) (.int (0 : Int32)) := f372.keep Kq404 (ninS ne354 nin0)
        have f415 : Arv Z T404.heap cxb kxb .char (Int32.ofNat (List.length lxb)) (List.map Value.int lxb) (.int (0 : Int32)) := f373.keep Kq404 (ninS ne355 nin0)
        have f416 : Arv Z T404.heap cxc kxc .char (Int32.ofNat (List.length lxc)) (List.map Value.int lxc) (.int (0 : Int32)) := f374.keep Kq404 (ninS ne356 nin0)
        have f417 : Safe Z EL T404.vm T404.heap b19 := C404.safe f376.lt f375
        have f418 : Exa Z T404.heap b19 "com/example/indenture/indenture/model/Identifier" := f376.keep Kq404
        have f419 : Safe Z EL T404.vm T404.heap b56 := C404.safe f378.lt f377
        have f420 : Exa Z T404.heap b56 "java/lang/String" := f378.keep Kq404
        have f421 : Fld Z T404.heap b56 "java/lang/String" "value" "[B" (.ref tb_82) := f379.keep Kq404 (ninS ne358 nin0)
        have f422 : Fld Z T404.heap b56 "java/lang/String" "coder" "B" (.int (0 : Int32)) := f380.keep Kq404 (ninS ne358 nin0)
        have f423 : Arv Z T404.heap tb_82 kt_82 .byte (Int32.ofNat (List.length (fbl (fch ua)))) (List.map Value.int (fbl (fch ua))) (.int (0 : Int32)) := f381.keep Kq404 (ninS ne359 nin0)
        have f424 : Safe Z EL T404.vm T404.heap b103 := C404.safe f383.lt f382
        have f425 : Exa Z T404.heap b103 "java/lang/String" := f383.keep Kq404
        have f426 : Fld Z T404.heap b103 "java/lang/String" "value" "[B" (.ref tb_136) := f384.keep Kq404 (ninS ne360 nin0)
        have f427 : Fld Z T404.heap b103 "java/lang/String" "coder" "B" (.int (0 : Int32)) := f385.keep Kq404 (ninS ne360 nin0)
        have f428 : Arv Z T404.heap tb_136 kt_136 .byte (Int32.ofNat (List.length (fbl (fch ub)))) (List.map Value.int (fbl (fch ub))) (.int (0 : Int32)) := f386.keep Kq404 (ninS ne361 nin0)
        have f429 : Safe Z EL T404.vm T404.heap b162 := C404.safe f388.lt f387
        have f430 : Exa Z T404.heap b162 "java/lang/String" := f388.keep Kq404
        have f431 : Fld Z T404.heap b162 "java/lang/String" "value" "[B" (.ref tb_202) := f389.keep Kq404 (ninS ne362 nin0)
        have f432 : Fld Z T404.heap b162 "java/lang/String" "coder" "B" (.int (0 : Int32)) := f390.keep Kq404 (ninS ne362 nin0)
        have f433 : Arv Z T404.heap tb_202 kt_202 .byte (Int32.ofNat (List.length (fbl (fch uc)))) (List.map Value.int (fbl (fch uc))) (.int (0 : Int32)) := f391.keep Kq404 (ninS ne363 nin0)
        have f434 : Fld Z T404.heap b19 "com/example/indenture/indenture/model/Identifier" "id" "Ljava/lang/String;" (.ref a40) := f392.keep Kq404 (ninS ne357 nin0)
        have f435 : Fld Z T404.heap b19 "com/example/indenture/indenture/model/Identifier" "sourceType" "Ljava/lang/String;" (.ref b56) := f393.keep Kq404 (ninS ne357 nin0)
        have f436 : Fld Z T404.heap b19 "com/example/indenture/indenture/model/Identifier" "category" "Ljava/lang/String;" (.ref b103) := f394.keep Kq404 (ninS ne357 nin0)
        have f437 : Fld Z T404.heap b19 "com/example/indenture/indenture/model/Identifier" "subcategory" "Ljava/lang/String;" (.ref b162) := f395.keep Kq404 (ninS ne357 nin0)
        have f438 : Safe Z EL T404.vm T404.heap b267 := C404.safe f397.lt f396
        have f439 : Exa Z T404.heap b267 "java/lang/String" := f397.keep Kq404
        have f440 : Fld Z T404.heap b267 "java/lang/String" "value" "[B" (.ref tb_314) := f398.keep Kq404 (ninS ne364 nin0)
        have f441 : Fld Z T404.heap b267 "java/lang/String" "coder" "B" (.int (0 : Int32)) := f399.keep Kq404 (ninS ne364 nin0)
        have f442 : Arv Z T404.heap tb_314 kt_314 .byte (Int32.ofNat (List.length (fbl lxa))) (List.map Value.int (fbl lxa)) (.int (0 : Int32)) := f400.keep Kq404 (ninS ne365 nin0)
        have f443 : Safe Z EL T404.vm T404.heap b350 := C404.safe A350.lt f401
        have f444 : Exa Z T404.heap b350 "java/lang/String" := A350.keep Kq404
        have CH404 : CHr Z EL s.vm s.heap T404.vm T404.heap := CH350.trans C404
        have O404 : Old Z n0 T404.heap := O350.keep Kq404 (allS g_b350 all0)
        show GoW p e below s _ _ _ _ _ (T404.setTop (mkF m 143 #[.val (.int ua), .val (.int va), .val (.int ub), .val (.int vb), .val (.int uc), .val (.int vc), .val (.ref rr_1), .val (.ref rr_3), .val (.ref rr_8), .val (.ref cxa), .val (.ref cxb), .val (.ref cxc), .val (.ref b19), .unset, .unset] [(.ref b350), (.ref b267), (.ref b19)]))
        obtain ⟨T445, h445, X445, e445, E445, A445, D445, -, st445⟩ := newO X404 hx hZ404 hown404 (wdx hw 16 rfl) (wdx hw 10 rfl) (wdx hw 9 rfl) rfl (g := (mkF m 143 #[.val (.int ua), .val (.int va), .val (.int ub), .val (.int vb), .val (.int uc), .val (.int vc), .val (.ref rr_1), .val (.ref rr_3), .val (.ref rr_8), .val (.ref cxa), .val (.ref cxb), .val (.ref cxc), .val (.ref b19), .unset, .unset] [(.ref b350), (.ref b267), (.ref b19)])) rfl (hb hby at_143) (by decide) (by decide)
        obtain ⟨b445, g445⟩ : ∃ z, z = T404.heap.size := ⟨_, rfl⟩
        rw [← g445] at A445 D445 st445
        refine GoW.st st445 ?_
        have g_b445 : n0 ≤ b445 := Nat.le_trans (own_le O404) (Nat.le_of_eq g445.symm)
        have sf_b445 : Safe Z EL T404.vm T404.heap b445 := Safe.new (Nat.le_of_eq g445.symm)
        have ne446 : rr_1 ≠ b445 := Nat.ne_of_lt (Nat.lt_of_lt_of_le f408.lt (Nat.le_of_eq g445.symm))
        have ne447 : rr_3 ≠ b445 := Nat.ne_of_lt (Nat.lt_of_lt_of_le f410.lt (Nat.le_of_eq g445.symm))
        have ne448 : rr_8 ≠ b445 := Nat.ne_of_lt (Nat.lt_of_lt_of_le f412.lt (Nat.le_of_eq g445.symm))
        have ne449 : cxa ≠ b445 := Nat.ne_of_lt (Nat.lt_of_lt_of_le f414.lt (Nat.le_of_eq g445.symm))
        have ne450 : cxb ≠ b445 := Nat.ne_of_lt (Nat.lt_of_lt_of_le f415.lt (Nat.le_of_eq g445.symm))
        have ne451 : cxc ≠ b445 := Nat.ne_of_lt (Nat.lt_of_lt_of_le f416.lt (Nat.le_of_eq g445.symm))
        have ne452 : b19 ≠ b445 := Nat.ne_of_lt (Nat.lt_of_lt_of_le f418.lt (Nat.le_of_eq g445.symm))
        have ne453 : b56 ≠ b445 := Nat.ne_of_lt (Nat.lt_of_lt_of_le f420.lt (Nat.le_of_eq g445.symm))
        have ne454 : tb_82 ≠ b445 := Nat.ne_of_lt (Nat.lt_of_lt_of_le f423.lt (Nat.le_of_eq g445.symm))
        have ne455 : b103 ≠ b445 := Nat.ne_of_lt (Nat.lt_of_lt_of_le f425.lt (Nat.le_of_eq g445.symm))
        have ne456 : tb_136 ≠ b445 := Nat.ne_of_lt (Nat.lt_of_lt_of_le f428.lt (Nat.le_of_eq g445.symm))
        have ne457 : b162 ≠ b445 := Nat.ne_of_lt (Nat.lt_of_lt_of_le f430.lt (Nat.le_of_eq g445.symm))
        have ne458 : tb_202 ≠ b445 := Nat.ne_of_lt (Nat.lt_of_lt_of_le f433.lt (Nat.le_of_eq g445.symm))
        have ne459 : b267 ≠ b445 := Nat.ne_of_lt (Nat.lt_of_lt_of_le f439.lt (Nat.le_of_eq g445.symm))
        have ne460 : tb_314 ≠ b445 := Nat.ne_of_lt (Nat.lt_of_lt_of_le f442.lt (Nat.le_of_eq g445.symm))
        have ne461 : b350 ≠ b445 := Nat.ne_of_lt (Nat.lt_of_lt_of_le f444.lt (Nat.le_of_eq g445.symm))
        have ne462 : tb_404 ≠ b445 := Nat.ne_of_lt (Nat.lt_of_lt_of_le f407.lt (Nat.le_of_eq g445.symm))
        have f463 : Arv Z h445 rr_1 kr_1 .char (Int32.ofNat (List.length (fch ua))) (List.map Value.int (fch ua)) (.int (0 : Int32)) := f408.ext E445
        have f464 : Safe Z EL T404.vm h445 rr_1 := Safe.ext E445 CH404.1 f409
        have f465 : Arv Z h445 rr_3 kr_3 .char (Int32.ofNat (List.length (fch ub))) (List.map Value.int (fch ub)) (.int (0 : Int32)) := f410.ext E445
        have f466 : Safe Z EL T404.vm h445 rr_3 := Safe.ext E445 CH404.1 f411
        have f467 : Arv Z h445 rr_8 kr_8 .char (Int32.ofNat (List.length (fch uc))) (List.map Value.int (fch uc)) (.int (0 : Int32)) := f412.ext E445
        have f468 : Safe Z EL T404.vm h445 rr_8 := Safe.ext E445 CH404.1 f413
        have f469 : Arv Z h445 cxa kxa .char (Int32.ofNat (List.length lxa)) (List.map Value.int lxa) (.int (0 : Int32)) := f414.ext E445
        have f470 : Arv Z h445 cxb kxb .char (Int32.ofNat (List.length lxb)) (List.map Value.int lxb) (.int (0 : Int32)) := f415.ext E445
        have f471 : Arv Z h445 cxc kxc .char (Int32.ofNat (List.length lxc)) (List.map Value.int lxc) (.int (0 : Int32)) := f416.ext E445
        have f472 : Safe Z EL T404.vm h445 b19 := Safe.ext E445 CH404.1 f417
        have f473 : Exa Z h445 b19 "com/example/indenture/indenture/model/Identifier" := f418.ext E445
        have f474 : Safe Z EL T404.vm h445 b56 := Safe.ext E445 CH404.1 f419
        have f475 : Exa Z h445 b56 "java/lang/String" := f420.ext E445
        have f476 : Fld Z h445 b56 "java/lang/String" "value" "[B" (.ref tb_82) := f421.ext E445
        have f477 : Fld Z h445 b56 "java/lang/String" "coder" "B" (.int (0 : Int32)) := f422.ext E445
        have f478 : Arv Z h445 tb_82 kt_82 .byte (Int32.ofNat (List.length (fbl (fch ua)))) (List.map Value.int (fbl (fch ua))) (.int (0 : Int32)) := f423.ext E445
        have f479 : Safe Z EL T404.vm h445 b103 := Safe.ext E445 CH404.1 f424
        have f480 : Exa Z h445 b103 "java/lang/String" := f425.ext E445
        have f481 : Fld Z h445 b103 "java/lang/String" "value" "[B" (.ref tb_136) := f426.ext E445
        have f482 : Fld Z h445 b103 "java/lang/String" "coder" "B" (.int (0 : Int32)) := f427.ext E445
        have f483 : Arv Z h445 tb_136 kt_136 .byte (Int32.ofNat (List.length (fbl (fch ub)))) (List.map Value.int (fbl (fch ub))) (.int (0 : Int32)) := f428.ext E445
        have f484 : Safe Z EL T404.vm h445 b162 := Safe.ext E445 CH404.1 f429
        have f485 : Exa Z h445 b162 "java/lang/String" := f430.ext E445
        have f486 : Fld Z h445 b162 "java/lang/String" "value" "[B" (.ref tb_202) := f431.ext E445
        have f487 : Fld Z h445 b162 "java/lang/String" "coder" "B" (.int (0 : Int32)) := f432.ext E445
        have f488 : Arv Z h445 tb_202 kt_202 .byte (Int32.ofNat (List.length (fbl (fch uc)))) (List.map Value.int (fbl (fch uc))) (.int (0 : Int32)) := f433.ext E445
        have f489 : Fld Z h445 b19 "com/example/indenture/indenture/model/Identifier" "id" "Ljava/lang/String;" (.ref a40) := f434.ext E445
        have f490 : Fld Z h445 b19 "com/example/indenture/indenture/model/Identifier" "sourceType" "Ljava/lang/String;" (.ref b56) := f435.ext E445
        have f491 : Fld Z h445 b19 "com/example/indenture/indenture/model/Identifier" "category" "Ljava/lang/String;" (.ref b103) := f436.ext E445
        have f492 : Fld Z h445 b19 "com/example/indenture/indenture/model/Identifier" "subcategory" "Ljava/lang/String;" (.ref b162) := f437.ext E445
        have f493 : Safe Z EL T404.vm h445 b267 := Safe.ext E445 CH404.1 f438
        have f494 : Exa Z h445 b267 "java/lang/String" := f439.ext E445
        have f495 : Fld Z h445 b267 "java/lang/String" "value" "[B" (.ref tb_314) := f440.ext E445
        have f496 : Fld Z h445 b267 "java/lang/String" "coder" "B" (.int (0 : Int32)) := f441.ext E445
        have f497 : Arv Z h445 tb_314 kt_314 .byte (Int32.ofNat (List.length (fbl lxa))) (List.map Value.int (fbl lxa)) (.int (0 : Int32)) := f442.ext E445
        have f498 : Safe Z EL T404.vm h445 b350 := Safe.ext E445 CH404.1 f443
        have f499 : Exa Z h445 b350 "java/lang/String" := f444.ext E445
        have f500 : Fld Z h445 b350 "java/lang/String" "value" "[B" (.ref tb_404) := f405.ext E445
        have f501 : Fld Z h445 b350 "java/lang/String" "coder" "B" (.int (0 : Int32)) := f406.ext E445
        have f502 : Arv Z h445 tb_404 kt_404 .byte (Int32.ofNat (List.length (fbl lxb))) (List.map Value.int (fbl lxb)) (.int (0 : Int32)) := f407.ext E445
        have f503 : Safe Z EL T404.vm h445 b445 := Safe.ext E445 CH404.1 sf_b445
        have CH445 : CHr Z EL s.vm s.heap T404.vm h445 := CH404.trans (CHr.ext E445 CH404.1)
        have hk445 : Array.size T404.heap ≤ Array.size h445 := Nat.le_trans (Nat.le_refl _) E445.1
        have O445 : Old Z n0 h445 := O404.ext E445
        have f504 : Fld Z h445 b445 "java/lang/String" "value" "[B" .null := D445 (Or.inr (wdx hw 12 rfl)) (ty := (.array .byte)) (by decide)
        have f505 : Fld Z h445 b445 "java/lang/String" "coder" "B" (.int (0 : Int32)) := D445 (Or.inr (wdx hw 13 rfl)) (ty := .byte) (by decide)
        show GoW p e below s _ _ _ _ _ (T445.setTop (mkF m 146 #[.val (.int ua), .val (.int va), .val (.int ub), .val (.int vb), .val (.int uc), .val (.int vc), .val (.ref rr_1), .val (.ref rr_3), .val (.ref rr_8), .val (.ref cxa), .val (.ref cxb), .val (.ref cxc), .val (.ref b19), .unset, .unset] [(.ref b445), (.ref b350), (.ref b267), (.ref b19)]))
        refine GoW.st (fun _ k' => XS.dup X445.here hx rfl (hb hby at_146) rfl rfl k') ?_
        show GoW p e below s _ _ _ _ _ (T445.setTop (mkF m 147 #[.val (.int ua), .val (.int va), .val (.int ub), .val (.int vb), .val (.int uc), .val (.int vc), .val (.ref rr_1), .val (.ref rr_3), .val (.ref rr_8), .val (.ref cxa), .val (.ref cxb), .val (.ref cxc), .val (.ref b19), .unset, .unset] [(.ref b445), (.ref b445), (.ref b350), (.ref b267), (.ref b19)]))
        refine GoW.st (fun _ k' => XS.aload X445.here hx rfl (hb hby at_147) rfl rfl k') ?_
        show GoW p e below s _ _ _ _ _ (T445.setTop (mkF m 149 #[.val (.int ua), .val (.int va), .val (.int ub), .val (.int vb), .val (.int uc), .val (.int vc), .val (.ref rr_1), .val (.ref rr_3), .val (.ref rr_8), .val (.ref cxa), .val (.ref cxb), .val (.ref cxc), .val (.ref b19), .unset, .unset] [(.ref cxc), (.ref b445), (.ref b445), (.ref b350), (.ref b267), (.ref b19)]))
        obtain ⟨_, _, ⟨T506, L506, k506, n506⟩, -, Xr506, hSr506, hgr506, ⟨Lc506, hQ506, l506, y506, z506, C506⟩, st506⟩ := X445.specialBackS hx (y := (⟨"java/lang/String", "<init>", "([C)V"⟩ : MethodName)) rfl hown404 (mvT hZ404 (wdx hw 17 rfl)) (mvT hZ404 (wdx hw 18 rfl)) (mvT hZ404 (wdx hw 19 rfl)) (by decide) (own_back (W := 4) (rm2_y l Z a0 hw [] b445 cxc kxc lxc cs h445 n0 O445 A445 f504 f505 f471 S_cs q_cs g_b445 q_lxc (fun y hy => own_lq y (r_lxc y hy))) hZ404 (wdx hw 19 rfl) (wdx hw 9 rfl) (by decide) (by decide) hEL CH445.1 (allS ⟨A445.lt, f503⟩ all0)) (g := (mkF m 149 #[.val (.int ua), .val (.int va), .val (.int ub), .val (.int vb), .val (.int uc), .val (.int vc), .val (.ref rr_1), .val (.ref rr_3), .val (.ref rr_8), .val (.ref cxa), .val (.ref cxb), .val (.ref cxc), .val (.ref b19), .unset, .unset] [(.ref cxc), (.ref b445), (.ref b445), (.ref b350), (.ref b267), (.ref b19)])) rfl (by rw [hml]; rfl) (Steps.refl _) (a := b445) (argsL := [(.ref cxc)]) (rest := [(.ref b445), (.ref b350), (.ref b267), (.ref b19)]) (lenOf pd___C_V rfl) rfl (by show 2 * 0 + _ ≤ _; exact Nat.le_of_eq rfl) (hb hby at_149) (fun _ _ => ⟨rfl, e445, (by exact Nat.le_of_ble_eq_true rfl), (by exact Nat.le_of_ble_eq_true rfl)⟩)
        dsimp only [Pt.U, Pt.locs, Pt.cells, Pt.slots] at Xr506 hSr506 hgr506 l506 y506 z506 C506 st506 hQ506
        subst l506 y506 z506
        obtain ⟨X506, hS506, hZ506, hown506⟩ := rebS hS404 (by rw [e445]; exact hk445) Xr506 hSr506 hgr506 hZ404 hown404
        obtain ⟨tb_506, kt_506, rfl, Nq506, Kq506, f507, f508, f509⟩ := hQ506
        have N506 := Fr.app N404 Nq506
        refine GoW.tr st506 ?_
        have f510 : Arv Z T506.heap rr_1 kr_1 .char (Int32.ofNat (List.length (fch ua))) (List.map Value.int (fch ua)) (.int (0 : Int32)) := f463.keep Kq506 (ninS ne446 nin0)
        have f511 : Safe Z EL T506.vm T506.heap rr_1 := C506.safe f463.lt f464
        have f512 : Arv Z T506.heap rr_3 kr_3 .char (Int32.ofNat (List.length (fch ub))) (List.map Value.int (fch ub)) (.int (0 : Int32)) := f465.keep Kq506 (ninS ne447 nin0)
        have f513 : Safe Z EL T506.vm T506.heap rr_3 := C506.safe f465.lt f466
        have f514 : Arv Z T506.heap rr_8 kr_8 .char (Int32.ofNat (List.length (fch uc))) (List.map Value.int (fch uc)) (.int (0 : Int32)) := f467.keep Kq506 (ninS ne448 nin0)
        have f515 : Safe Z EL T506.vm T506.heap rr_8 := C506.safe f467.lt f468
        have f516 : Arv Z T506.heap cxa kxa .char (Int32.ofNat (List.length lxa)) (List.map Value.int lxa) (.int (0 : Int32)) := f469.keep Kq506 (ninS ne449 nin0)
        have f517 : Arv Z T506.heap cxb kxb .char (Int32.ofNat (List.length lxb)) (List.map Value.int lxb) (.int (0 : Int32)) := f470.keep Kq506 (ninS ne450 nin0)
        have f518 : Arv Z T506.heap cxc kxc .char (Int32.ofNat (List.length lxc)) (List.map Value.int lxc) (.int (0 : Int32)) := f471.keep Kq506 (ninS ne451 nin0)
        have f519 : Safe Z EL T506.vm T506.heap b19 := C506.safe f473.lt f472
        have f520 : Exa Z T506.heap b19 "com/example/indenture/indenture/model/Identifier" := f473.keep Kq506
        have f521 : Safe Z EL T506.vm T506.heap b56 := C506.safe f475.lt f474
        have f522 : Exa Z T506.heap b56 "java/lang/String" := f475.keep Kq506
        have f523 : Fld Z T506.heap b56 "java/lang/String" "value" "[B" (.ref tb_82) := f476.keep Kq506 (ninS ne453 nin0)
        have f524 : Fld Z T506.heap b56 "java/lang/String" "coder" "B" (.int (0 : Int32)) := f477.keep Kq506 (ninS ne453 nin0)
        have f525 : Arv Z T506.heap tb_82 kt_82 .byte (Int32.ofNat (List.length (fbl (fch ua)))) (List.map Value.int (fbl (fch ua))) (.int (0 : Int32)) := f478.keep Kq506 (ninS ne454 nin0)
        have f526 : Safe Z EL T506.vm T506.heap b103 := C506.safe f480.lt f479
        have f527 : Exa Z T506.heap b103 "java/lang/String" := f480.keep Kq506
        have f528 : Fld Z T506.heap b103 "java/lang/String" "value" "[B" (.ref tb_136) := f481.keep Kq506 (ninS ne455 nin0)
        have f529 : Fld Z T506.heap b103 "java/lang/String" "coder" "B" (.int (0 : Int32)) := f482.keep Kq506 (ninS ne455 nin0)
        have f530 : Arv Z T506.heap tb_136 kt_136 .byte (Int32.ofNat (List.length (fbl (fch ub)))) (List.map Value.int (fbl (fch ub))) (.int (0 : Int32)) := f483.keep Kq506 (ninS ne456 nin0)
        have f531 : Safe Z EL T506.vm T506.heap b162 := C506.safe f485.lt f484
        have f532 : Exa Z T506.heap b162 "java/lang/String" := f485.keep Kq506
        have f533 : Fld Z T506.heap b162 "java/lang/String" "value" "[B" (.ref tb_202) := f486.keep Kq506 (ninS ne457 nin0)
        have f534 : Fld Z T506.heap b162 "java/lang/String" "coder" "B" (.int (0 : Int32)) := f487.keep Kq506 (ninS ne457 nin0)
        have f535 : Arv Z T506.heap tb_202 kt_202 .byte (Int32.ofNat (List.length (fbl (fch uc)))) (List.map Value.int (fbl (fch uc))) (.int (0 : Int32)) := f488.keep Kq506 (ninS ne458 nin0)
        have f536 : Fld Z T506.heap b19 "com/example/indenture/indenture/model/Identifier" "id" "Ljava/lang/String;" (.ref a40) := f489.keep Kq506 (ninS ne452 nin0)
        have f537 : Fld Z T506.heap b19 "com/example/indenture/indenture/model/Identifier" "sourceType" "Ljava/lang/String;" (.ref b56) := f490.keep Kq506 (ninS ne452 nin0)
        have f538 : Fld Z T506.heap b19 "com/example/indenture/indenture/model/Identifier" "category" "Ljava/lang/String;" (.ref b103) := f491.keep Kq506 (ninS ne452 nin0)
        have f539 : Fld Z T506.heap b19 "com/example/indenture/indenture/model/Identifier" "subcategory" "Ljava/lang/String;" (.ref b162) := f492.keep Kq506 (ninS ne452 nin0)
        have f540 : Safe Z EL T506.vm T506.heap b267 := C506.safe f494.lt f493
        have f541 : Exa Z T506.heap b267 "java/lang/String" := f494.keep Kq506
        have f542 : Fld Z T506.heap b267 "java/lang/String" "value" "[B" (.ref tb_314) := f495.keep Kq506 (ninS ne459 nin0)
        have f543 : Fld Z T506.heap b267 "java/lang/String" "coder" "B" (.int (0 : Int32)) := f496.keep Kq506 (ninS ne459 nin0)
        have f544 : Arv Z T506.heap tb_314 kt_314 .byte (Int32.ofNat (List.length (fbl lxa))) (List.map Value.int (fbl lxa)) (.int (0 : Int32)) := f497.keep Kq506 (ninS ne460 nin0)
        have f545 : Safe Z EL T506.vm T506.heap b350 := C506.safe f499.lt f498
        have f546 : Exa Z T506.heap b350 "java/lang/String" := f499.keep Kq506
        have f547 : Fld Z T506.heap b350 "java/lang/String" "value" "[B" (.ref tb_404) := f500.keep Kq506 (ninS ne461 nin0)
        have f548 : Fld Z T506.heap b350 "java/lang/String" "coder" "B" (.int (0 : Int32)) := f501.keep Kq506 (ninS ne461 nin0)
        have f549 : Arv Z T506.heap tb_404 kt_404 .byte (Int32.ofNat (List.length (fbl lxb))) (List.map Value.int (fbl lxb)) (.int (0 : Int32)) := f502.keep Kq506 (ninS ne462 nin0)
        have f550 : Safe Z EL T506.vm T506.heap b445 := C506.safe A445.lt f503
        have f551 : Exa Z T506.heap b445 "java/lang/String" := A445.keep Kq506
        have CH506 : CHr Z EL s.vm s.heap T506.vm T506.heap := CH445.trans C506
        have O506 : Old Z n0 T506.heap := O445.keep Kq506 (allS g_b445 all0)
        show GoW p e below s _ _ _ _ _ (T506.setTop (mkF m 152 #[.val (.int ua), .val (.int va), .val (.int ub), .val (.int vb), .val (.int uc), .val (.int vc), .val (.ref rr_1), .val (.ref rr_3), .val (.ref rr_8), .val (.ref cxa), .val (.ref cxb), .val (.ref cxc), .val (.ref b19), .unset, .unset] [(.ref b445), (.ref b350), (.ref b267), (.ref b19)]))
        obtain ⟨cq552, kq552, q552a, q552b, q552c⟩ := isOf hZ506 rfl f520
        obtain ⟨_, _, ⟨T552, L552, k552, n552⟩, -, Xr552, hSr552, hgr552, ⟨Lc552, hQ552, l552, y552, z552, C552⟩, st552⟩ := X506.virtualBackS hx (y := (⟨"com/example/indenture/indenture/model/Identifier", "matches", "(Ljava/lang/String;Ljava/lang/String;Ljava/lang/String;)Z"⟩ : MethodName)) (z := (⟨"com/example/indenture/indenture/model/Identifier", "matches", "(Ljava/lang/String;Ljava/lang/String;Ljava/lang/String;)Z"⟩ : MethodName)) hown506 (mvT hZ506 (wdx hw 66 rfl)) (mvT hZ506 (wdx hw 67 rfl)) (notFace_of_selects (args := #[]) (mvT hZ506 (wdx hw 69 rfl))) (mvT hZ506 (wdx hw 69 rfl)) (mvT hZ506 (wdx hw 68 rfl)) (by decide) (own_back (W := 0) (rm11 l Z a0 hw [] b19 b267 b350 b445 cs b56 b103 b162 tb_82 kt_82 (fbl (fch ua)) tb_136 kt_136 (fbl (fch ub)) tb_202 kt_202 (fbl (fch uc)) tb_314 kt_314 (fbl lxa) tb_404 kt_404 (fbl lxb) tb_506 kt_506 (fbl lxc) T506.heap n0 O506 f520 f537 f538 f539 f522 f523 f524 f525 f527 f528 f529 f530 f532 f533 f534 f535 f541 f542 f543 f544 f546 f547 f548 f549 f551 f507 f508 f509 S_cs q_cs (by rw [own_fbl]; exact own_chl _) (by rw [own_fbl]; exact own_chl _) (by rw [own_fbl]; exact own_chl _) (by rw [own_fbl]; exact q_lxa) (by rw [own_fbl]; exact q_lxb) (by rw [own_fbl]; exact q_lxc) ne275 ne360 ne457) hZ506 (wdx hw 70 rfl) (wdx hw 7 rfl) (by decide) (by decide) hEL CH506.1 (allS ⟨f522.lt, f521⟩ (allS ⟨f527.lt, f526⟩ (allS ⟨f532.lt, f531⟩ all0)))) q552a q552c (g := (mkF m 152 #[.val (.int ua), .val (.int va), .val (.int ub), .val (.int vb), .val (.int uc), .val (.int vc), .val (.ref rr_1), .val (.ref rr_3), .val (.ref rr_8), .val (.ref cxa), .val (.ref cxb), .val (.ref cxc), .val (.ref b19), .unset, .unset] [(.ref b445), (.ref b350), (.ref b267), (.ref b19)])) rfl (by rw [hml]; rfl) (Steps.refl _) (argsL := [(.ref b267), (.ref b350), (.ref b445)]) (rest := []) (lenOf pd__Ljava_lang_String_Ljava_lang_String_Ljava_lang_String__Z rfl) rfl (by show 2 * 0 + _ ≤ _; exact Nat.le_of_eq rfl) (hb hby at_152) (fun _ _ => ⟨rfl, rfl, (by exact Nat.le_of_ble_eq_true rfl), (by exact Nat.le_of_ble_eq_true rfl)⟩)
        dsimp only [Pt.U, Pt.locs, Pt.cells, Pt.slots] at Xr552 hSr552 hgr552 l552 y552 z552 C552 st552 hQ552
        subst l552 y552 z552
        obtain ⟨X552, hS552, hZ552, hown552⟩ := rebS hS506 (Nat.le_refl _) Xr552 hSr552 hgr552 hZ506 hown506
        obtain ⟨rfl, Nq552, Kq552⟩ := hQ552
        have N552 := Fr.app N506 Nq552
        refine GoW.tr st552 ?_
        have f553 : Arv Z T552.heap rr_1 kr_1 .char (Int32.ofNat (List.length (fch ua))) (List.map Value.int (fch ua)) (.int (0 : Int32)) := f510.keep Kq552 nin0
        have f554 : Safe Z EL T552.vm T552.heap rr_1 := C552.safe f510.lt f511
        have f555 : Arv Z T552.heap rr_3 kr_3 .char (Int32.ofNat (List.length (fch ub))) (List.map Value.int (fch ub)) (.int (0 : Int32)) := f512.keep Kq552 nin0
        have f556 : Safe Z EL T552.vm T552.heap rr_3 := C552.safe f512.lt f513
        have f557 : Arv Z T552.heap rr_8 kr_8 .char (Int32.ofNat (List.length (fch uc))) (List.map Value.int (fch uc)) (.int (0 : Int32)) := f514.keep Kq552 nin0
        have f558 : Safe Z EL T552.vm T552.heap rr_8 := C552.safe f514.lt f515
        have f559 : Arv Z T552.heap cxa kxa .char (Int32.ofNat (List.length lxa)) (List.map Value.int lxa) (.int (0 : Int32)) := f516.keep Kq552 nin0
        have f560 : Arv Z T552.heap cxb kxb .char (Int32.ofNat (List.length lxb)) (List.map Value.int lxb) (.int (0 : Int32)) := f517.keep Kq552 nin0
        have f561 : Arv Z T552.heap cxc kxc .char (Int32.ofNat (List.length lxc)) (List.map Value.int lxc) (.int (0 : Int32)) := f518.keep Kq552 nin0
        have f562 : Safe Z EL T552.vm T552.heap b19 := C552.safe f520.lt f519
        have f563 : Exa Z T552.heap b19 "com/example/indenture/indenture/model/Identifier" := f520.keep Kq552
        have f564 : Safe Z EL T552.vm T552.heap b56 := C552.safe f522.lt f521
        have f565 : Exa Z T552.heap b56 "java/lang/String" := f522.keep Kq552
        have f566 : Fld Z T552.heap b56 "java/lang/String" "value" "[B" (.ref tb_82) := f523.keep Kq552 nin0
        have f567 : Fld Z T552.heap b56 "java/lang/String" "coder" "B" (.int (0 : Int32)) := f524.keep Kq552 nin0
        have f568 : Arv Z T552.heap tb_82 kt_82 .byte (Int32.ofNat (List.length (fbl (fch ua)))) (List.map Value.int (fbl (fch ua))) (.int (0 : Int32)) := f525.keep Kq552 nin0
        have f569 : Safe Z EL T552.vm T552.heap b103 := C552.safe f527.lt f526
        have f570 : Exa Z T552.heap b103 "java/lang/String" := f527.keep Kq552
        have f571 : Fld Z T552.heap b103 "java/lang/String" "value" "[B" (.ref tb_136) := f528.keep Kq552 nin0
        have f572 : Fld Z T552.heap b103 "java/lang/String" "coder" "B" (.int (0 : Int32)) := f529.keep Kq552 nin0
        have f573 : Arv Z T552.heap tb_136 kt_136 .byte (Int32.ofNat (List.length (fbl (fch ub)))) (List.map Value.int (fbl (fch ub))) (.int (0 : Int32)) := f530.keep Kq552 nin0
        have f574 : Safe Z EL T552.vm T552.heap b162 := C552.safe f532.lt f531
        have f575 : Exa Z T552.heap b162 "java/lang/String" := f532.keep Kq552
        have f576 : Fld Z T552.heap b162 "java/lang/String" "value" "[B" (.ref tb_202) := f533.keep Kq552 nin0
        have f577 : Fld Z T552.heap b162 "java/lang/String" "coder" "B" (.int (0 : Int32)) := f534.keep Kq552 nin0
        have f578 : Arv Z T552.heap tb_202 kt_202 .byte (Int32.ofNat (List.length (fbl (fch uc)))) (List.map Value.int (fbl (fch uc))) (.int (0 : Int32)) := f535.keep Kq552 nin0
        have f579 : Fld Z T552.heap b19 "com/example/indenture/indenture/model/Identifier" "id" "Ljava/lang/String;" (.ref a40) := f536.keep Kq552 nin0
        have f580 : Fld Z T552.heap b19 "com/example/indenture/indenture/model/Identifier" "sourceType" "Ljava/lang/String;" (.ref b56) := f537.keep Kq552 nin0
        have f581 : Fld Z T552.heap b19 "com/example/indenture/indenture/model/Identifier" "category" "Ljava/lang/String;" (.ref b103) := f538.keep Kq552 nin0
        have f582 : Fld Z T552.heap b19 "com/example/indenture/indenture/model/Identifier" "subcategory" "Ljava/lang/String;" (.ref b162) := f539.keep Kq552 nin0
        have f583 : Safe Z EL T552.vm T552.heap b267 := C552.safe f541.lt f540
        have f584 : Exa Z T552.heap b267 "java/lang/String" := f541.keep Kq552
        have f585 : Fld Z T552.heap b267 "java/lang/String" "value" "[B" (.ref tb_314) := f542.keep Kq552 nin0
        have f586 : Fld Z T552.heap b267 "java/lang/String" "coder" "B" (.int (0 : Int32)) := f543.keep Kq552 nin0
        have f587 : Arv Z T552.heap tb_314 kt_314 .byte (Int32.ofNat (List.length (fbl lxa))) (List.map Value.int (fbl lxa)) (.int (0 : Int32)) := f544.keep Kq552 nin0
        have f588 : Safe Z EL T552.vm T552.heap b350 := C552.safe f546.lt f545
        have f589 : Exa Z T552.heap b350 "java/lang/String" := f546.keep Kq552
        have f590 : Fld Z T552.heap b350 "java/lang/String" "value" "[B" (.ref tb_404) := f547.keep Kq552 nin0
        have f591 : Fld Z T552.heap b350 "java/lang/String" "coder" "B" (.int (0 : Int32)) := f548.keep Kq552 nin0
        have f592 : Arv Z T552.heap tb_404 kt_404 .byte (Int32.ofNat (List.length (fbl lxb))) (List.map Value.int (fbl lxb)) (.int (0 : Int32)) := f549.keep Kq552 nin0
        have f593 : Safe Z EL T552.vm T552.heap b445 := C552.safe f551.lt f550
        have f594 : Exa Z T552.heap b445 "java/lang/String" := f551.keep Kq552
        have f595 : Fld Z T552.heap b445 "java/lang/String" "value" "[B" (.ref tb_506) := f507.keep Kq552 nin0
        have f596 : Fld Z T552.heap b445 "java/lang/String" "coder" "B" (.int (0 : Int32)) := f508.keep Kq552 nin0
        have f597 : Arv Z T552.heap tb_506 kt_506 .byte (Int32.ofNat (List.length (fbl lxc))) (List.map Value.int (fbl lxc)) (.int (0 : Int32)) := f509.keep Kq552 nin0
        have CH552 : CHr Z EL s.vm s.heap T552.vm T552.heap := CH506.trans C552
        have O552 : Old Z n0 T552.heap := O506.keep Kq552 all0
        show GoW p e below s _ _ _ _ _ (T552.setTop (mkF m 155 #[.val (.int ua), .val (.int va), .val (.int ub), .val (.int vb), .val (.int uc), .val (.int vc), .val (.ref rr_1), .val (.ref rr_3), .val (.ref rr_8), .val (.ref cxa), .val (.ref cxb), .val (.ref cxc), .val (.ref b19), .unset, .unset] [(.int (fa3 (fm (fbl (fch ua)) (fbl lxa)) (fm (fbl (fch ub)) (fbl lxb)) (fm (fbl (fch uc)) (fbl lxc))))]))
        refine GoW.st (fun _ k' => XS.istore X552.here hx rfl (hb hby at_155) rfl (l' := #[.val (.int ua), .val (.int va), .val (.int ub), .val (.int vb), .val (.int uc), .val (.int vc), .val (.ref rr_1), .val (.ref rr_3), .val (.ref rr_8), .val (.ref cxa), .val (.ref cxb), .val (.ref cxc), .val (.ref b19), .val (.int (fa3 (fm (fbl (fch ua)) (fbl lxa)) (fm (fbl (fch ub)) (fbl lxb)) (fm (fbl (fch uc)) (fbl lxc)))), .unset]) rfl k') ?_
        show GoW p e below s _ _ _ _ _ (T552.setTop (mkF m 157 #[.val (.int ua), .val (.int va), .val (.int ub), .val (.int vb), .val (.int uc), .val (.int vc), .val (.ref rr_1), .val (.ref rr_3), .val (.ref rr_8), .val (.ref cxa), .val (.ref cxb), .val (.ref cxc), .val (.ref b19), .val (.int (fa3 (fm (fbl (fch ua)) (fbl lxa)) (fm (fbl (fch ub)) (fbl lxb)) (fm (fbl (fch uc)) (fbl lxc)))), .unset] []))
        have J598 : ∀ (TJ598' : State) (lJ598' : List Loc) (XJ598' : Stand p l e room_1 (s.setVm T552.vm) m #[(.int ua), (.int va), (.int ub), (.int vb), (.int uc), (.int vc)] below meth c TJ598' lJ598' 53 260) (eJ598' : TJ598'.heap = T552.heap) (NJ598' : Fr n0 lJ598') (xe : Int32) (r_xe : xe = (fa3 (fm (fch ua) lxa) (fm (fch ub) lxb) (fm (fch uc) lxc))), GoW p e below s 64 7424 Z EL (Q0 Z ua va ub vb uc vc cs h0 n0) (TJ598'.setTop (mkF m 192 #[.val (.int ua), .val (.int va), .val (.int ub), .val (.int vb), .val (.int uc), .val (.int vc), .val (.ref rr_1), .val (.ref rr_3), .val (.ref rr_8), .val (.ref cxa), .val (.ref cxb), .val (.ref cxc), .val (.ref b19), .val (.int (fa3 (fm (fbl (fch ua)) (fbl lxa)) (fm (fbl (fch ub)) (fbl lxb)) (fm (fbl (fch uc)) (fbl lxc)))), .unset] [(.int xe)])) := by
          intro TJ598' lJ598' XJ598' eJ598' NJ598' xe r_xe
          show GoW p e below s _ _ _ _ _ (TJ598'.setTop (mkF m 192 #[.val (.int ua), .val (.int va), .val (.int ub), .val (.int vb), .val (.int uc), .val (.int vc), .val (.ref rr_1), .val (.ref rr_3), .val (.ref rr_8), .val (.ref cxa), .val (.ref cxb), .val (.ref cxc), .val (.ref b19), .val (.int (fa3 (fm (fbl (fch ua)) (fbl lxa)) (fm (fbl (fch ub)) (fbl lxb)) (fm (fbl (fch uc)) (fbl lxc)))), .unset] [(.int xe)]))
          refine GoW.st (fun _ k' => XS.istore XJ598'.here hx rfl (hb hby at_192) rfl (l' := #[.val (.int ua), .val (.int va), .val (.int ub), .val (.int vb), .val (.int uc), .val (.int vc), .val (.ref rr_1), .val (.ref rr_3), .val (.ref rr_8), .val (.ref cxa), .val (.ref cxb), .val (.ref cxc), .val (.ref b19), .val (.int (fa3 (fm (fbl (fch ua)) (fbl lxa)) (fm (fbl (fch ub)) (fbl lxb)) (fm (fbl (fch uc)) (fbl lxc)))), .val (.int xe)]) rfl k') ?_
          show GoW p e below s _ _ _ _ _ (TJ598'.setTop (mkF m 194 #[.val (.int ua), .val (.int va), .val (.int ub), .val (.int vb), .val (.int uc), .val (.int vc), .val (.ref rr_1), .val (.ref rr_3), .val (.ref rr_8), .val (.ref cxa), .val (.ref cxb), .val (.ref cxc), .val (.ref b19), .val (.int (fa3 (fm (fbl (fch ua)) (fbl lxa)) (fm (fbl (fch ub)) (fbl lxb)) (fm (fbl (fch uc)) (fbl lxc)))), .val (.int xe)] []))
          refine GoW.st (fun _ k' => XS.iload XJ598'.here hx rfl (hb hby at_194) rfl k') ?_
          show GoW p e below s _ _ _ _ _ (TJ598'.setTop (mkF m 196 #[.val (.int ua), .val (.int va), .val (.int ub), .val (.int vb), .val (.int uc), .val (.int vc), .val (.ref rr_1), .val (.ref rr_3), .val (.ref rr_8), .val (.ref cxa), .val (.ref cxb), .val (.ref cxc), .val (.ref b19), .val (.int (fa3 (fm (fbl (fch ua)) (fbl lxa)) (fm (fbl (fch ub)) (fbl lxb)) (fm (fbl (fch uc)) (fbl lxc)))), .val (.int xe)] [(.int (fa3 (fm (fbl (fch ua)) (fbl lxa)) (fm (fbl (fch ub)) (fbl lxb)) (fm (fbl (fch uc)) (fbl lxc))))]))
          refine GoW.st (fun _ k' => XS.iload XJ598'.here hx rfl (hb hby at_196) rfl k') ?_
          show GoW p e below s _ _ _ _ _ (TJ598'.setTop (mkF m 198 #[.val (.int ua), .val (.int va), .val (.int ub), .val (.int vb), .val (.int uc), .val (.int vc), .val (.ref rr_1), .val (.ref rr_3), .val (.ref rr_8), .val (.ref cxa), .val (.ref cxb), .val (.ref cxc), .val (.ref b19), .val (.int (fa3 (fm (fbl (fch ua)) (fbl lxa)) (fm (fbl (fch ub)) (fbl lxb)) (fm (fbl (fch uc)) (fbl lxc)))), .val (.int xe)] [(.int xe), (.int (fa3 (fm (fbl (fch ua)) (fbl lxa)) (fm (fbl (fch ub)) (fbl lxb)) (fm (fbl (fch uc)) (fbl lxc))))]))
          refine GoW.st (fun _ k' => XS.icmpNo XJ598'.here hx rfl (hb hby at_198) rfl (XT.ii_ne_f (by rw [r_xe, own_fm _ _ (own_chr ua) r_lxa, own_fm _ _ (own_chr ub) r_lxb, own_fm _ _ (own_chr uc) r_lxc])) k') ?_
          show GoW p e below s _ _ _ _ _ (TJ598'.setTop (mkF m 201 #[.val (.int ua), .val (.int va), .val (.int ub), .val (.int vb), .val (.int uc), .val (.int vc), .val (.ref rr_1), .val (.ref rr_3), .val (.ref rr_8), .val (.ref cxa), .val (.ref cxb), .val (.ref cxc), .val (.ref b19), .val (.int (fa3 (fm (fbl (fch ua)) (fbl lxa)) (fm (fbl (fch ub)) (fbl lxb)) (fm (fbl (fch uc)) (fbl lxc)))), .val (.int xe)] []))
          refine GoW.st (fun _ k' => XS.iconst XJ598'.here hx rfl (hb hby at_201) k') ?_
          show GoW p e below s _ _ _ _ _ (TJ598'.setTop (mkF m 202 #[.val (.int ua), .val (.int va), .val (.int ub), .val (.int vb), .val (.int uc), .val (.int vc), .val (.ref rr_1), .val (.ref rr_3), .val (.ref rr_8), .val (.ref cxa), .val (.ref cxb), .val (.ref cxc), .val (.ref b19), .val (.int (fa3 (fm (fbl (fch ua)) (fbl lxa)) (fm (fbl (fch ub)) (fbl lxb)) (fm (fbl (fch uc)) (fbl lxc)))), .val (.int xe)] [(.int (1 : Int32))]))
          refine GoW.st (fun _ k' => XS.goto XJ598'.here hx rfl (pc0 := 202) (pc' := 206) rfl (hb hby at_202) (by decide) (by decide) k') ?_
          show GoW p e below s _ _ _ _ _ (TJ598'.setTop (mkF m 206 #[.val (.int ua), .val (.int va), .val (.int ub), .val (.int vb), .val (.int uc), .val (.int vc), .val (.ref rr_1), .val (.ref rr_3), .val (.ref rr_8), .val (.ref cxa), .val (.ref cxb), .val (.ref cxc), .val (.ref b19), .val (.int (fa3 (fm (fbl (fch ua)) (fbl lxa)) (fm (fbl (fch ub)) (fbl lxb)) (fm (fbl (fch uc)) (fbl lxc)))), .val (.int xe)] [(.int (1 : Int32))]))
          refine GoW.retB XJ598' hx hlk hS552 (by rw [eJ598']; exact (Nat.le_refl _)) hZ552 hEL CH552 (t := .boolean) Bd.returns (by simp) (hb hby at_206) (by decide) (by decide) eJ598' ?_
          exact ⟨rfl, NJ598', trivial⟩
        refine GoW.st (fun _ k' => XS.aload X552.here hx rfl (hb hby at_157) rfl rfl k') ?_
        show GoW p e below s _ _ _ _ _ (T552.setTop (mkF m 159 #[.val (.int ua), .val (.int va), .val (.int ub), .val (.int vb), .val (.int uc), .val (.int vc), .val (.ref rr_1), .val (.ref rr_3), .val (.ref rr_8), .val (.ref cxa), .val (.ref cxb), .val (.ref cxc), .val (.ref b19), .val (.int (fa3 (fm (fbl (fch ua)) (fbl lxa)) (fm (fbl (fch ub)) (fbl lxb)) (fm (fbl (fch uc)) (fbl lxc)))), .unset] [(.ref rr_1)]))
        refine GoW.st (fun _ k' => XS.aload X552.here hx rfl (hb hby at_159) rfl rfl k') ?_
        show GoW p e below s _ _ _ _ _ (T552.setTop (mkF m 161 #[.val (.int ua), .val (.int va), .val (.int ub), .val (.int vb), .val (.int uc), .val (.int vc), .val (.ref rr_1), .val (.ref rr_3), .val (.ref rr_8), .val (.ref cxa), .val (.ref cxb), .val (.ref cxc), .val (.ref b19), .val (.int (fa3 (fm (fbl (fch ua)) (fbl lxa)) (fm (fbl (fch ub)) (fbl lxb)) (fm (fbl (fch uc)) (fbl lxc)))), .unset] [(.ref cxa), (.ref rr_1)]))
        obtain ⟨_, _, ⟨T599, L599, k599, n599⟩, -, X599, ⟨Lc599, hQ599, l599, y599, z599⟩, st599⟩ := Jvm.LawKit.callS X552 hx (y := (⟨"com/example/indenture/indenture/model/IdentifierMatchesPinLaw", "field", "([C[C)Z"⟩ : MethodName)) hown552 (mvT hZ552 (wdx hw 85 rfl)) (mvT hZ552 (wdx hw 86 rfl)) (mvT hZ552 (wdx hw 2 rfl)) (mvT hZ552 (wdx hw 87 rfl)) (by decide) (backOf (W := 0) (rm15 l Z a0 hw [] rr_1 cxa kr_1 (fch ua) kxa lxa T552.heap n0 O552 f553 f559 (own_chl _) q_lxa) hZ552 (wdx hw 87 rfl) (wdx hw 2 rfl) (by decide) (by decide)) (g := (mkF m 161 #[.val (.int ua), .val (.int va), .val (.int ub), .val (.int vb), .val (.int uc), .val (.int vc), .val (.ref rr_1), .val (.ref rr_3), .val (.ref rr_8), .val (.ref cxa), .val (.ref cxb), .val (.ref cxc), .val (.ref b19), .val (.int (fa3 (fm (fbl (fch ua)) (fbl lxa)) (fm (fbl (fch ub)) (fbl lxb)) (fm (fbl (fch uc)) (fbl lxc)))), .unset] [(.ref cxa), (.ref rr_1)])) rfl (by rw [hml]; rfl) (argsL := [(.ref rr_1), (.ref cxa)]) (rest := []) (lenOf pd___C_C_Z rfl) rfl (by show 2 * 0 + _ ≤ _; exact Nat.le_of_eq rfl) (hb hby at_161) (fun _ _ => ⟨rfl, rfl, (by exact Nat.le_of_ble_eq_true rfl), (by exact Nat.le_of_ble_eq_true rfl)⟩)
        dsimp only [Pt.U, Pt.locs, Pt.cells, Pt.slots] at X599 l599 y599 z599 st599 hQ599
        subst l599 y599 z599
        obtain ⟨rfl, Nq599, eq599⟩ := hQ599
        have N599 := Fr.app N552 Nq599
        refine GoW.st st599 ?_
        show GoW p e below s _ _ _ _ _ (T599.setTop (mkF m 164 #[.val (.int ua), .val (.int va), .val (.int ub), .val (.int vb), .val (.int uc), .val (.int vc), .val (.ref rr_1), .val (.ref rr_3), .val (.ref rr_8), .val (.ref cxa), .val (.ref cxb), .val (.ref cxc), .val (.ref b19), .val (.int (fa3 (fm (fbl (fch ua)) (fbl lxa)) (fm (fbl (fch ub)) (fbl lxb)) (fm (fbl (fch uc)) (fbl lxc)))), .unset] [(.int (fm (fch ua) lxa))]))
        by_cases hc600 : (fm (fch ua) lxa) = (0 : Int32)
        · refine GoW.st (fun _ k' => XS.ifYes X599.here hx rfl (pc0 := 164) (pc' := 191) rfl (hb hby at_164) rfl (XT.i0_eq_t hc600) (by decide) (by decide) k') ?_
          show GoW p e below s _ _ _ _ _ (T599.setTop (mkF m 191 #[.val (.int ua), .val (.int va), .val (.int ub), .val (.int vb), .val (.int uc), .val (.int vc), .val (.ref rr_1), .val (.ref rr_3), .val (.ref rr_8), .val (.ref cxa), .val (.ref cxb), .val (.ref cxc), .val (.ref b19), .val (.int (fa3 (fm (fbl (fch ua)) (fbl lxa)) (fm (fbl (fch ub)) (fbl lxb)) (fm (fbl (fch uc)) (fbl lxc)))), .unset] []))
          refine GoW.st (fun _ k' => XS.iconst X599.here hx rfl (hb hby at_191) k') ?_
          show GoW p e below s _ _ _ _ _ (T599.setTop (mkF m 192 #[.val (.int ua), .val (.int va), .val (.int ub), .val (.int vb), .val (.int uc), .val (.int vc), .val (.ref rr_1), .val (.ref rr_3), .val (.ref rr_8), .val (.ref cxa), .val (.ref cxb), .val (.ref cxc), .val (.ref b19), .val (.int (fa3 (fm (fbl (fch ua)) (fbl lxa)) (fm (fbl (fch ub)) (fbl lxb)) (fm (fbl (fch uc)) (fbl lxc)))), .unset] [(.int (0 : Int32))]))
          exact J598 T599 _ X599 eq599 N599 (0 : Int32) (by have z0 := hc600; simp_all [fa3])
        · refine GoW.st (fun _ k' => XS.ifNo X599.here hx rfl (hb hby at_164) rfl (XT.i0_eq_f hc600) k') ?_
          show GoW p e below s _ _ _ _ _ (T599.setTop (mkF m 167 #[.val (.int ua), .val (.int va), .val (.int ub), .val (.int vb), .val (.int uc), .val (.int vc), .val (.ref rr_1), .val (.ref rr_3), .val (.ref rr_8), .val (.ref cxa), .val (.ref cxb), .val (.ref cxc), .val (.ref b19), .val (.int (fa3 (fm (fbl (fch ua)) (fbl lxa)) (fm (fbl (fch ub)) (fbl lxb)) (fm (fbl (fch uc)) (fbl lxc)))), .unset] []))
          refine GoW.st (fun _ k' => XS.aload X599.here hx rfl (hb hby at_167) rfl rfl k') ?_
          show GoW p e below s _ _ _ _ _ (T599.setTop (mkF m 169 #[.val (.int ua), .val (.int va), .val (.int ub), .val (.int vb), .val (.int uc), .val (.int vc), .val (.ref rr_1), .val (.ref rr_3), .val (.ref rr_8), .val (.ref cxa), .val (.ref cxb), .val (.ref cxc), .val (.ref b19), .val (.int (fa3 (fm (fbl (fch ua)) (fbl lxa)) (fm (fbl (fch ub)) (fbl lxb)) (fm (fbl (fch uc)) (fbl lxc)))), .unset] [(.ref rr_3)]))
          refine GoW.st (fun _ k' => XS.aload X599.here hx rfl (hb hby at_169) rfl rfl k') ?_
          show GoW p e below s _ _ _ _ _ (T599.setTop (mkF m 171 #[.val (.int ua), .val (.int va), .val (.int ub), .val (.int vb), .val (.int uc), .val (.int vc), .val (.ref rr_1), .val (.ref rr_3), .val (.ref rr_8), .val (.ref cxa), .val (.ref cxb), .val (.ref cxc), .val (.ref b19), .val (.int (fa3 (fm (fbl (fch ua)) (fbl lxa)) (fm (fbl (fch ub)) (fbl lxb)) (fm (fbl (fch uc)) (fbl lxc)))), .unset] [(.ref cxb), (.ref rr_3)]))
          obtain ⟨_, _, ⟨T601, L601, k601, n601⟩, -, X601, ⟨Lc601, hQ601, l601, y601, z601⟩, st601⟩ := Jvm.LawKit.callS X599 hx (y := (⟨"com/example/indenture/indenture/model/IdentifierMatchesPinLaw", "field", "([C[C)Z"⟩ : MethodName)) hown552 (mvT hZ552 (wdx hw 85 rfl)) (mvT hZ552 (wdx hw 86 rfl)) (mvT hZ552 (wdx hw 2 rfl)) (mvT hZ552 (wdx hw 87 rfl)) (by decide) (backOf (W := 0) (rm15 l Z a0 hw [] rr_3 cxb kr_3 (fch ub) kxb lxb T552.heap n0 O552 f555 f560 (own_chl _) q_lxb) hZ552 (wdx hw 87 rfl) (wdx hw 2 rfl) (by decide) (by decide)) (g := (mkF m 171 #[.val (.int ua), .val (.int va), .val (.int ub), .val (.int vb), .val (.int uc), .val (.int vc), .val (.ref rr_1), .val (.ref rr_3), .val (.ref rr_8), .val (.ref cxa), .val (.ref cxb), .val (.ref cxc), .val (.ref b19), .val (.int (fa3 (fm (fbl (fch ua)) (fbl lxa)) (fm (fbl (fch ub)) (fbl lxb)) (fm (fbl (fch uc)) (fbl lxc)))), .unset] [(.ref cxb), (.ref rr_3)])) rfl (by rw [hml]; rfl) (argsL := [(.ref rr_3), (.ref cxb)]) (rest := []) (lenOf pd___C_C_Z rfl) rfl (by show 2 * 0 + _ ≤ _; exact Nat.le_of_eq rfl) (hb hby at_171) (fun _ _ => ⟨rfl, eq599, (by exact Nat.le_of_ble_eq_true rfl), (by exact Nat.le_of_ble_eq_true rfl)⟩)
          dsimp only [Pt.U, Pt.locs, Pt.cells, Pt.slots] at X601 l601 y601 z601 st601 hQ601
          subst l601 y601 z601
          obtain ⟨rfl, Nq601, eq601⟩ := hQ601
          have N601 := Fr.app N599 Nq601
          refine GoW.st st601 ?_
          show GoW p e below s _ _ _ _ _ (T601.setTop (mkF m 174 #[.val (.int ua), .val (.int va), .val (.int ub), .val (.int vb), .val (.int uc), .val (.int vc), .val (.ref rr_1), .val (.ref rr_3), .val (.ref rr_8), .val (.ref cxa), .val (.ref cxb), .val (.ref cxc), .val (.ref b19), .val (.int (fa3 (fm (fbl (fch ua)) (fbl lxa)) (fm (fbl (fch ub)) (fbl lxb)) (fm (fbl (fch uc)) (fbl lxc)))), .unset] [(.int (fm (fch ub) lxb))]))
          by_cases hc602 : (fm (fch ub) lxb) = (0 : Int32)
          · refine GoW.st (fun _ k' => XS.ifYes X601.here hx rfl (pc0 := 174) (pc' := 191) rfl (hb hby at_174) rfl (XT.i0_eq_t hc602) (by decide) (by decide) k') ?_
            show GoW p e below s _ _ _ _ _ (T601.setTop (mkF m 191 #[.val (.int ua), .val (.int va), .val (.int ub), .val (.int vb), .val (.int uc), .val (.int vc), .val (.ref rr_1), .val (.ref rr_3), .val (.ref rr_8), .val (.ref cxa), .val (.ref cxb), .val (.ref cxc), .val (.ref b19), .val (.int (fa3 (fm (fbl (fch ua)) (fbl lxa)) (fm (fbl (fch ub)) (fbl lxb)) (fm (fbl (fch uc)) (fbl lxc)))), .unset] []))
            refine GoW.st (fun _ k' => XS.iconst X601.here hx rfl (hb hby at_191) k') ?_
            show GoW p e below s _ _ _ _ _ (T601.setTop (mkF m 192 #[.val (.int ua), .val (.int va), .val (.int ub), .val (.int vb), .val (.int uc), .val (.int vc), .val (.ref rr_1), .val (.ref rr_3), .val (.ref rr_8), .val (.ref cxa), .val (.ref cxb), .val (.ref cxc), .val (.ref b19), .val (.int (fa3 (fm (fbl (fch ua)) (fbl lxa)) (fm (fbl (fch ub)) (fbl lxb)) (fm (fbl (fch uc)) (fbl lxc)))), .unset] [(.int (0 : Int32))]))
            exact J598 T601 _ X601 eq601 N601 (0 : Int32) (by have z0 := hc600; have z1 := hc602; simp_all [fa3])
          · refine GoW.st (fun _ k' => XS.ifNo X601.here hx rfl (hb hby at_174) rfl (XT.i0_eq_f hc602) k') ?_
            show GoW p e below s _ _ _ _ _ (T601.setTop (mkF m 177 #[.val (.int ua), .val (.int va), .val (.int ub), .val (.int vb), .val (.int uc), .val (.int vc), .val (.ref rr_1), .val (.ref rr_3), .val (.ref rr_8), .val (.ref cxa), .val (.ref cxb), .val (.ref cxc), .val (.ref b19), .val (.int (fa3 (fm (fbl (fch ua)) (fbl lxa)) (fm (fbl (fch ub)) (fbl lxb)) (fm (fbl (fch uc)) (fbl lxc)))), .unset] []))
            refine GoW.st (fun _ k' => XS.aload X601.here hx rfl (hb hby at_177) rfl rfl k') ?_
            show GoW p e below s _ _ _ _ _ (T601.setTop (mkF m 179 #[.val (.int ua), .val (.int va), .val (.int ub), .val (.int vb), .val (.int uc), .val (.int vc), .val (.ref rr_1), .val (.ref rr_3), .val (.ref rr_8), .val (.ref cxa), .val (.ref cxb), .val (.ref cxc), .val (.ref b19), .val (.int (fa3 (fm (fbl (fch ua)) (fbl lxa)) (fm (fbl (fch ub)) (fbl lxb)) (fm (fbl (fch uc)) (fbl lxc)))), .unset] [(.ref rr_8)]))
            refine GoW.st (fun _ k' => XS.aload X601.here hx rfl (hb hby at_179) rfl rfl k') ?_
            show GoW p e below s _ _ _ _ _ (T601.setTop (mkF m 181 #[.val (.int ua), .val (.int va), .val (.int ub), .val (.int vb), .val (.int uc), .val (.int vc), .val (.ref rr_1), .val (.ref rr_3), .val (.ref rr_8), .val (.ref cxa), .val (.ref cxb), .val (.ref cxc), .val (.ref b19), .val (.int (fa3 (fm (fbl (fch ua)) (fbl lxa)) (fm (fbl (fch ub)) (fbl lxb)) (fm (fbl (fch uc)) (fbl lxc)))), .unset] [(.ref cxc), (.ref rr_8)]))
            obtain ⟨_, _, ⟨T603, L603, k603, n603⟩, -, X603, ⟨Lc603, hQ603, l603, y603, z603⟩, st603⟩ := Jvm.LawKit.callS X601 hx (y := (⟨"com/example/indenture/indenture/model/IdentifierMatchesPinLaw", "field", "([C[C)Z"⟩ : MethodName)) hown552 (mvT hZ552 (wdx hw 85 rfl)) (mvT hZ552 (wdx hw 86 rfl)) (mvT hZ552 (wdx hw 2 rfl)) (mvT hZ552 (wdx hw 87 rfl)) (by decide) (backOf (W := 0) (rm15 l Z a0 hw [] rr_8 cxc kr_8 (fch uc) kxc lxc T552.heap n0 O552 f557 f561 (own_chl _) q_lxc) hZ552 (wdx hw 87 rfl) (wdx hw 2 rfl) (by decide) (by decide)) (g := (mkF m 181 #[.val (.int ua), .val (.int va), .val (.int ub), .val (.int vb), .val (.int uc), .val (.int vc), .val (.ref rr_1), .val (.ref rr_3), .val (.ref rr_8), .val (.ref cxa), .val (.ref cxb), .val (.ref cxc), .val (.ref b19), .val (.int (fa3 (fm (fbl (fch ua)) (fbl lxa)) (fm (fbl (fch ub)) (fbl lxb)) (fm (fbl (fch uc)) (fbl lxc)))), .unset] [(.ref cxc), (.ref rr_8)])) rfl (by rw [hml]; rfl) (argsL := [(.ref rr_8), (.ref cxc)]) (rest := []) (lenOf pd___C_C_Z rfl) rfl (by show 2 * 0 + _ ≤ _; exact Nat.le_of_eq rfl) (hb hby at_181) (fun _ _ => ⟨rfl, eq601, (by exact Nat.le_of_ble_eq_true rfl), (by exact Nat.le_of_ble_eq_true rfl)⟩)
            dsimp only [Pt.U, Pt.locs, Pt.cells, Pt.slots] at X603 l603 y603 z603 st603 hQ603
            subst l603 y603 z603
            obtain ⟨rfl, Nq603, eq603⟩ := hQ603
            have N603 := Fr.app N601 Nq603
            refine GoW.st st603 ?_
            show GoW p e below s _ _ _ _ _ (T603.setTop (mkF m 184 #[.val (.int ua), .val (.int va), .val (.int ub), .val (.int vb), .val (.int uc), .val (.int vc), .val (.ref rr_1), .val (.ref rr_3), .val (.ref rr_8), .val (.ref cxa), .val (.ref cxb), .val (.ref cxc), .val (.ref b19), .val (.int (fa3 (fm (fbl (fch ua)) (fbl lxa)) (fm (fbl (fch ub)) (fbl lxb)) (fm (fbl (fch uc)) (fbl lxc)))), .unset] [(.int (fm (fch uc) lxc))]))
            by_cases hc604 : (fm (fch uc) lxc) = (0 : Int32)
            · refine GoW.st (fun _ k' => XS.ifYes X603.here hx rfl (pc0 := 184) (pc' := 191) rfl (hb hby at_184) rfl (XT.i0_eq_t hc604) (by decide) (by decide) k') ?_
              show GoW p e below s _ _ _ _ _ (T603.setTop (mkF m 191 #[.val (.int ua), .val (.int va), .val (.int ub), .val (.int vb), .val (.int uc), .val (.int vc), .val (.ref rr_1), .val (.ref rr_3), .val (.ref rr_8), .val (.ref cxa), .val (.ref cxb), .val (.ref cxc), .val (.ref b19), .val (.int (fa3 (fm (fbl (fch ua)) (fbl lxa)) (fm (fbl (fch ub)) (fbl lxb)) (fm (fbl (fch uc)) (fbl lxc)))), .unset] []))
              refine GoW.st (fun _ k' => XS.iconst X603.here hx rfl (hb hby at_191) k') ?_
              show GoW p e below s _ _ _ _ _ (T603.setTop (mkF m 192 #[.val (.int ua), .val (.int va), .val (.int ub), .val (.int vb), .val (.int uc), .val (.int vc), .val (.ref rr_1), .val (.ref rr_3), .val (.ref rr_8), .val (.ref cxa), .val (.ref cxb), .val (.ref cxc), .val (.ref b19), .val (.int (fa3 (fm (fbl (fch ua)) (fbl lxa)) (fm (fbl (fch ub)) (fbl lxb)) (fm (fbl (fch uc)) (fbl lxc)))), .unset] [(.int (0 : Int32))]))
              exact J598 T603 _ X603 eq603 N603 (0 : Int32) (by have z0 := hc600; have z1 := hc602; have z2 := hc604; simp_all [fa3])
            · refine GoW.st (fun _ k' => XS.ifNo X603.here hx rfl (hb hby at_184) rfl (XT.i0_eq_f hc604) k') ?_
              show GoW p e below s _ _ _ _ _ (T603.setTop (mkF m 187 #[.val (.int ua), .val (.int va), .val (.int ub), .val (.int vb), .val (.int uc), .val (.int vc), .val (.ref rr_1), .val (.ref rr_3), .val (.ref rr_8), .val (.ref cxa), .val (.ref cxb), .val (.ref cxc), .val (.ref b19), .val (.int (fa3 (fm (fbl (fch ua)) (fbl lxa)) (fm (fbl (fch ub)) (fbl lxb)) (fm (fbl (fch uc)) (fbl lxc)))), .unset] []))
              refine GoW.st (fun _ k' => XS.iconst X603.here hx rfl (hb hby at_187) k') ?_
              show GoW p e below s _ _ _ _ _ (T603.setTop (mkF m 188 #[.val (.int ua), .val (.int va), .val (.int ub), .val (.int vb), .val (.int uc), .val (.int vc), .val (.ref rr_1), .val (.ref rr_3), .val (.ref rr_8), .val (.ref cxa), .val (.ref cxb), .val (.ref cxc), .val (.ref b19), .val (.int (fa3 (fm (fbl (fch ua)) (fbl lxa)) (fm (fbl (fch ub)) (fbl lxb)) (fm (fbl (fch uc)) (fbl lxc)))), .unset] [(.int (1 : Int32))]))
              refine GoW.st (fun _ k' => XS.goto X603.here hx rfl (pc0 := 188) (pc' := 192) rfl (hb hby at_188) (by decide) (by decide) k') ?_
              show GoW p e below s _ _ _ _ _ (T603.setTop (mkF m 192 #[.val (.int ua), .val (.int va), .val (.int ub), .val (.int vb), .val (.int uc), .val (.int vc), .val (.ref rr_1), .val (.ref rr_3), .val (.ref rr_8), .val (.ref cxa), .val (.ref cxb), .val (.ref cxc), .val (.ref b19), .val (.int (fa3 (fm (fbl (fch ua)) (fbl lxa)) (fm (fbl (fch ub)) (fbl lxb)) (fm (fbl (fch uc)) (fbl lxc)))), .unset] [(.int (1 : Int32))]))
              exact J598 T603 _ X603 eq603 N603 (1 : Int32) (by have z0 := hc600; have z1 := hc602; have z2 := hc604; simp_all [fa3])
      refine GoW.st (fun _ k' => XS.iload X_J17.here hx rfl (hb hby at_61) rfl k') ?_
      show GoW p e below s _ _ _ _ _ (T_J17.setTop (mkF m 63 #[.val (.int ua), .val (.int va), .val (.int ub), .val (.int vb), .val (.int uc), .val (.int vc), .val (.ref rr_1), .val (.ref rr_3), .val (.ref rr_8), .val (.ref cxa), .val (.ref cxb), .unset, .unset, .unset, .unset] [(.int vc)]))
      refine GoW.st (fun _ k' => XS.iconst X_J17.here hx rfl (hb hby at_63) k') ?_
      show GoW p e below s _ _ _ _ _ (T_J17.setTop (mkF m 64 #[.val (.int ua), .val (.int va), .val (.int ub), .val (.int vb), .val (.int uc), .val (.int vc), .val (.ref rr_1), .val (.ref rr_3), .val (.ref rr_8), .val (.ref cxa), .val (.ref cxb), .unset, .unset, .unset, .unset] [(.int (1 : Int32)), (.int vc)]))
      refine GoW.st (fun _ k' => XS.iand X_J17.here hx rfl (hb hby at_64) rfl k') ?_
      show GoW p e below s _ _ _ _ _ (T_J17.setTop (mkF m 65 #[.val (.int ua), .val (.int va), .val (.int ub), .val (.int vb), .val (.int uc), .val (.int vc), .val (.ref rr_1), .val (.ref rr_3), .val (.ref rr_8), .val (.ref cxa), .val (.ref cxb), .unset, .unset, .unset, .unset] [(.int (vc &&& (1 : Int32)))]))
      by_cases hc605 : (vc &&& (1 : Int32)) = (0 : Int32)
      · refine GoW.st (fun _ k' => XS.ifYes X_J17.here hx rfl (pc0 := 65) (pc' := 76) rfl (hb hby at_65) rfl (XT.i0_eq_t hc605) (by decide) (by decide) k') ?_
        show GoW p e below s _ _ _ _ _ (T_J17.setTop (mkF m 76 #[.val (.int ua), .val (.int va), .val (.int ub), .val (.int vb), .val (.int uc), .val (.int vc), .val (.ref rr_1), .val (.ref rr_3), .val (.ref rr_8), .val (.ref cxa), .val (.ref cxb), .unset, .unset, .unset, .unset] []))
        refine GoW.st (fun _ k' => XS.iload X_J17.here hx rfl (hb hby at_76) rfl k') ?_
        show GoW p e below s _ _ _ _ _ (T_J17.setTop (mkF m 78 #[.val (.int ua), .val (.int va), .val (.int ub), .val (.int vb), .val (.int uc), .val (.int vc), .val (.ref rr_1), .val (.ref rr_3), .val (.ref rr_8), .val (.ref cxa), .val (.ref cxb), .unset, .unset, .unset, .unset] [(.int vc)]))
        refine GoW.st (fun _ k' => XS.iconst X_J17.here hx rfl (hb hby at_78) k') ?_
        show GoW p e below s _ _ _ _ _ (T_J17.setTop (mkF m 79 #[.val (.int ua), .val (.int va), .val (.int ub), .val (.int vb), .val (.int uc), .val (.int vc), .val (.ref rr_1), .val (.ref rr_3), .val (.ref rr_8), .val (.ref cxa), .val (.ref cxb), .unset, .unset, .unset, .unset] [(.int (1 : Int32)), (.int vc)]))
        refine GoW.st (fun _ k' => XS.iushr X_J17.here hx rfl (hb hby at_79) rfl k') ?_
        show GoW p e below s _ _ _ _ _ (T_J17.setTop (mkF m 80 #[.val (.int ua), .val (.int va), .val (.int ub), .val (.int vb), .val (.int uc), .val (.int vc), .val (.ref rr_1), .val (.ref rr_3), .val (.ref rr_8), .val (.ref cxa), .val (.ref cxb), .unset, .unset, .unset, .unset] [(.int ((vc.toUInt32 >>> ((1 : Int32) &&& 31).toUInt32).toInt32))]))
        obtain ⟨_, _, ⟨T606, L606, k606, n606⟩, -, X606, ⟨Lc606, hQ606, l606, y606, z606⟩, st606⟩ := Jvm.LawKit.callS X_J17 hx (y := (⟨"com/example/indenture/indenture/model/IdentifierMatchesPinLaw", "chars", "(I)[C"⟩ : MethodName)) hown (mvT hZ (wdx hw 0 rfl)) (mvT hZ (wdx hw 1 rfl)) (mvT hZ (wdx hw 2 rfl)) (mvT hZ (wdx hw 3 rfl)) (by decide) (backOf (W := 0) (rm1 l Z a0 hw [] ((vc.toUInt32 >>> ((1 : Int32) &&& 31).toUInt32).toInt32) h_J17 n0 O_J17 ) hZ (wdx hw 3 rfl) (wdx hw 2 rfl) (by decide) (by decide)) (g := (mkF m 80 #[.val (.int ua), .val (.int va), .val (.int ub), .val (.int vb), .val (.int uc), .val (.int vc), .val (.ref rr_1), .val (.ref rr_3), .val (.ref rr_8), .val (.ref cxa), .val (.ref cxb), .unset, .unset, .unset, .unset] [(.int ((vc.toUInt32 >>> ((1 : Int32) &&& 31).toUInt32).toInt32))])) rfl (by rw [hml]; rfl) (argsL := [(.int ((vc.toUInt32 >>> ((1 : Int32) &&& 31).toUInt32).toInt32))]) (rest := []) (lenOf pd__I__C rfl) rfl (by show 2 * 0 + _ ≤ _; exact Nat.le_of_eq rfl) (hb hby at_80) (fun _ _ => ⟨rfl, e_J17, (by exact Nat.le_of_ble_eq_true rfl), (by exact Nat.le_of_ble_eq_true rfl)⟩)
        dsimp only [Pt.U, Pt.locs, Pt.cells, Pt.slots] at X606 l606 y606 z606 st606 hQ606
        subst l606 y606 z606
        obtain ⟨rr_606, kr_606, rfl, Nq606, Kq606, f607, szr_606⟩ := hQ606
        have N606 := Fr.app N_J17 Nq606
        refine GoW.st st606 ?_
        have f608 : Arv Z T606.heap rr_1 kr_1 .char (Int32.ofNat (List.length (fch ua))) (List.map Value.int (fch ua)) (.int (0 : Int32)) := gJ17_0.keep Kq606 nin0
        have f609 : Safe Z EL s.vm T606.heap rr_1 := Safe.keep Kq606 all0 CH_J17.1 gJ17_1
        have f610 : Arv Z T606.heap rr_3 kr_3 .char (Int32.ofNat (List.length (fch ub))) (List.map Value.int (fch ub)) (.int (0 : Int32)) := gJ17_2.keep Kq606 nin0
        have f611 : Safe Z EL s.vm T606.heap rr_3 := Safe.keep Kq606 all0 CH_J17.1 gJ17_3
        have f612 : Arv Z T606.heap rr_8 kr_8 .char (Int32.ofNat (List.length (fch uc))) (List.map Value.int (fch uc)) (.int (0 : Int32)) := gJ17_4.keep Kq606 nin0
        have f613 : Safe Z EL s.vm T606.heap rr_8 := Safe.keep Kq606 all0 CH_J17.1 gJ17_5
        have f614 : Arv Z T606.heap cxa kxa .char (Int32.ofNat (List.length lxa)) (List.map Value.int lxa) (.int (0 : Int32)) := gJ17_6.keep Kq606 nin0
        have f615 : Arv Z T606.heap cxb kxb .char (Int32.ofNat (List.length lxb)) (List.map Value.int lxb) (.int (0 : Int32)) := gJ17_7.keep Kq606 nin0
        have CH606 : CHr Z EL s.vm s.heap s.vm T606.heap := CH_J17.trans (CHr.keep Kq606 all0 CH_J17.1)
        have hk606 : 0 ≤ Array.size T606.heap := Nat.le_trans hk_J17 Kq606.1
        have O606 : Old Z n0 T606.heap := O_J17.keep Kq606 all0
        have g_rr_606 : n0 ≤ rr_606 := Nat.le_trans (own_le O_J17) szr_606
        have sf_rr_606 : Safe Z EL s.vm T606.heap rr_606 := Safe.keep Kq606 all0 CH_J17.1 (Safe.new szr_606)
        have ne616 : rr_1 ≠ rr_606 := Nat.ne_of_lt (Nat.lt_of_lt_of_le gJ17_0.lt szr_606)
        have ne617 : rr_3 ≠ rr_606 := Nat.ne_of_lt (Nat.lt_of_lt_of_le gJ17_2.lt szr_606)
        have ne618 : rr_8 ≠ rr_606 := Nat.ne_of_lt (Nat.lt_of_lt_of_le gJ17_4.lt szr_606)
        have ne619 : cxa ≠ rr_606 := Nat.ne_of_lt (Nat.lt_of_lt_of_le gJ17_6.lt szr_606)
        have ne620 : cxb ≠ rr_606 := Nat.ne_of_lt (Nat.lt_of_lt_of_le gJ17_7.lt szr_606)
        show GoW p e below s _ _ _ _ _ (T606.setTop (mkF m 83 #[.val (.int ua), .val (.int va), .val (.int ub), .val (.int vb), .val (.int uc), .val (.int vc), .val (.ref rr_1), .val (.ref rr_3), .val (.ref rr_8), .val (.ref cxa), .val (.ref cxb), .unset, .unset, .unset, .unset] [(.ref rr_606)]))
        exact J18 T606 _ T606.heap X606 rfl N606 O606 CH606 hk606 rr_606 kr_606 (fch ((vc.toUInt32 >>> ((1 : Int32) &&& 31).toUInt32).toInt32)) f608 f609 f610 f611 f612 f613 f614 f615 f607 (own_chl _) (own_chr _)
      · refine GoW.st (fun _ k' => XS.ifNo X_J17.here hx rfl (hb hby at_65) rfl (XT.i0_eq_f hc605) k') ?_
        show GoW p e below s _ _ _ _ _ (T_J17.setTop (mkF m 68 #[.val (.int ua), .val (.int va), .val (.int ub), .val (.int vb), .val (.int uc), .val (.int vc), .val (.ref rr_1), .val (.ref rr_3), .val (.ref rr_8), .val (.ref cxa), .val (.ref cxb), .unset, .unset, .unset, .unset] []))
        refine GoW.st (fun _ k' => XS.iload X_J17.here hx rfl (hb hby at_68) rfl k') ?_
        show GoW p e below s _ _ _ _ _ (T_J17.setTop (mkF m 70 #[.val (.int ua), .val (.int va), .val (.int ub), .val (.int vb), .val (.int uc), .val (.int vc), .val (.ref rr_1), .val (.ref rr_3), .val (.ref rr_8), .val (.ref cxa), .val (.ref cxb), .unset, .unset, .unset, .unset] [(.int uc)]))
        obtain ⟨_, _, ⟨T621, L621, k621, n621⟩, -, X621, ⟨Lc621, hQ621, l621, y621, z621⟩, st621⟩ := Jvm.LawKit.callS X_J17 hx (y := (⟨"com/example/indenture/indenture/model/IdentifierMatchesPinLaw", "chars", "(I)[C"⟩ : MethodName)) hown (mvT hZ (wdx hw 0 rfl)) (mvT hZ (wdx hw 1 rfl)) (mvT hZ (wdx hw 2 rfl)) (mvT hZ (wdx hw 3 rfl)) (by decide) (backOf (W := 0) (rm1 l Z a0 hw [] uc h_J17 n0 O_J17 ) hZ (wdx hw 3 rfl) (wdx hw 2 rfl) (by decide) (by decide)) (g := (mkF m 70 #[.val (.int ua), .val (.int va), .val (.int ub), .val (.int vb), .val (.int uc), .val (.int vc), .val (.ref rr_1), .val (.ref rr_3), .val (.ref rr_8), .val (.ref cxa), .val (.ref cxb), .unset, .unset, .unset, .unset] [(.int uc)])) rfl (by rw [hml]; rfl) (argsL := [(.int uc)]) (rest := []) (lenOf pd__I__C rfl) rfl (by show 2 * 0 + _ ≤ _; exact Nat.le_of_eq rfl) (hb hby at_70) (fun _ _ => ⟨rfl, e_J17, (by exact Nat.le_of_ble_eq_true rfl), (by exact Nat.le_of_ble_eq_true rfl)⟩)
        dsimp only [Pt.U, Pt.locs, Pt.cells, Pt.slots] at X621 l621 y621 z621 st621 hQ621
        subst l621 y621 z621
        obtain ⟨rr_621, kr_621, rfl, Nq621, Kq621, f622, szr_621⟩ := hQ621
        have N621 := Fr.app N_J17 Nq621
        refine GoW.st st621 ?_
        have f623 : Arv Z T621.heap rr_1 kr_1 .char (Int32.ofNat (List.length (fch ua))) (List.map Value.int (fch ua)) (.int (0 : Int32)) := gJ17_0.keep Kq621 nin0
        have f624 : Safe Z EL s.vm T621.heap rr_1 := Safe.keep Kq621 all0 CH_J17.1 gJ17_1
        have f625 : Arv Z T621.heap rr_3 kr_3 .char (Int32.ofNat (List.length (fch ub))) (List.map Value.int (fch ub)) (.int (0 : Int32)) := gJ17_2.keep Kq621 nin0
        have f626 : Safe Z EL s.vm T621.heap rr_3 := Safe.keep Kq621 all0 CH_J17.1 gJ17_3
        have f627 : Arv Z T621.heap rr_8 kr_8 .char (Int32.ofNat (List.length (fch uc))) (List.map Value.int (fch uc)) (.int (0 : Int32)) := gJ17_4.keep Kq621 nin0
        have f628 : Safe Z EL s.vm T621.heap rr_8 := Safe.keep Kq621 all0 CH_J17.1 gJ17_5
        have f629 : Arv Z T621.heap cxa kxa .char (Int32.ofNat (List.length lxa)) (List.map Value.int lxa) (.int (0 : Int32)) := gJ17_6.keep Kq621 nin0
        have f630 : Arv Z T621.heap cxb kxb .char (Int32.ofNat (List.length lxb)) (List.map Value.int lxb) (.int (0 : Int32)) := gJ17_7.keep Kq621 nin0
        have CH621 : CHr Z EL s.vm s.heap s.vm T621.heap := CH_J17.trans (CHr.keep Kq621 all0 CH_J17.1)
        have hk621 : 0 ≤ Array.size T621.heap := Nat.le_trans hk_J17 Kq621.1
        have O621 : Old Z n0 T621.heap := O_J17.keep Kq621 all0
        have g_rr_621 : n0 ≤ rr_621 := Nat.le_trans (own_le O_J17) szr_621
        have sf_rr_621 : Safe Z EL s.vm T621.heap rr_621 := Safe.keep Kq621 all0 CH_J17.1 (Safe.new szr_621)
        have ne631 : rr_1 ≠ rr_621 := Nat.ne_of_lt (Nat.lt_of_lt_of_le gJ17_0.lt szr_621)
        have ne632 : rr_3 ≠ rr_621 := Nat.ne_of_lt (Nat.lt_of_lt_of_le gJ17_2.lt szr_621)
        have ne633 : rr_8 ≠ rr_621 := Nat.ne_of_lt (Nat.lt_of_lt_of_le gJ17_4.lt szr_621)
        have ne634 : cxa ≠ rr_621 := Nat.ne_of_lt (Nat.lt_of_lt_of_le gJ17_6.lt szr_621)
        have ne635 : cxb ≠ rr_621 := Nat.ne_of_lt (Nat.lt_of_lt_of_le gJ17_7.lt szr_621)
        show GoW p e below s _ _ _ _ _ (T621.setTop (mkF m 73 #[.val (.int ua), .val (.int va), .val (.int ub), .val (.int vb), .val (.int uc), .val (.int vc), .val (.ref rr_1), .val (.ref rr_3), .val (.ref rr_8), .val (.ref cxa), .val (.ref cxb), .unset, .unset, .unset, .unset] [(.ref rr_621)]))
        refine GoW.st (fun _ k' => XS.goto X621.here hx rfl (pc0 := 73) (pc' := 83) rfl (hb hby at_73) (by decide) (by decide) k') ?_
        show GoW p e below s _ _ _ _ _ (T621.setTop (mkF m 83 #[.val (.int ua), .val (.int va), .val (.int ub), .val (.int vb), .val (.int uc), .val (.int vc), .val (.ref rr_1), .val (.ref rr_3), .val (.ref rr_8), .val (.ref cxa), .val (.ref cxb), .unset, .unset, .unset, .unset] [(.ref rr_621)]))
        exact J18 T621 _ T621.heap X621 rfl N621 O621 CH621 hk621 rr_621 kr_621 (fch uc) f623 f624 f625 f626 f627 f628 f629 f630 f622 (own_chl _) (own_chr _)
    refine GoW.st (fun _ k' => XS.iloadN X_J16.here hx rfl (hb hby at_40) rfl k') ?_
    show GoW p e below s _ _ _ _ _ (T_J16.setTop (mkF m 41 #[.val (.int ua), .val (.int va), .val (.int ub), .val (.int vb), .val (.int uc), .val (.int vc), .val (.ref rr_1), .val (.ref rr_3), .val (.ref rr_8), .val (.ref cxa), .unset, .unset, .unset, .unset, .unset] [(.int vb)]))
    refine GoW.st (fun _ k' => XS.iconst X_J16.here hx rfl (hb hby at_41) k') ?_
    show GoW p e below s _ _ _ _ _ (T_J16.setTop (mkF m 42 #[.val (.int ua), .val (.int va), .val (.int ub), .val (.int vb), .val (.int uc), .val (.int vc), .val (.ref rr_1), .val (.ref rr_3), .val (.ref rr_8), .val (.ref cxa), .unset, .unset, .unset, .unset, .unset] [(.int (1 : Int32)), (.int vb)]))
    refine GoW.st (fun _ k' => XS.iand X_J16.here hx rfl (hb hby at_42) rfl k') ?_
    show GoW p e below s _ _ _ _ _ (T_J16.setTop (mkF m 43 #[.val (.int ua), .val (.int va), .val (.int ub), .val (.int vb), .val (.int uc), .val (.int vc), .val (.ref rr_1), .val (.ref rr_3), .val (.ref rr_8), .val (.ref cxa), .unset, .unset, .unset, .unset, .unset] [(.int (vb &&& (1 : Int32)))]))
    by_cases hc636 : (vb &&& (1 : Int32)) = (0 : Int32)
    · refine GoW.st (fun _ k' => XS.ifYes X_J16.here hx rfl (pc0 := 43) (pc' := 53) rfl (hb hby at_43) rfl (XT.i0_eq_t hc636) (by decide) (by decide) k') ?_
      show GoW p e below s _ _ _ _ _ (T_J16.setTop (mkF m 53 #[.val (.int ua), .val (.int va), .val (.int ub), .val (.int vb), .val (.int uc), .val (.int vc), .val (.ref rr_1), .val (.ref rr_3), .val (.ref rr_8), .val (.ref cxa), .unset, .unset, .unset, .unset, .unset] []))
      refine GoW.st (fun _ k' => XS.iloadN X_J16.here hx rfl (hb hby at_53) rfl k') ?_
      show GoW p e below s _ _ _ _ _ (T_J16.setTop (mkF m 54 #[.val (.int ua), .val (.int va), .val (.int ub), .val (.int vb), .val (.int uc), .val (.int vc), .val (.ref rr_1), .val (.ref rr_3), .val (.ref rr_8), .val (.ref cxa), .unset, .unset, .unset, .unset, .unset] [(.int vb)]))
      refine GoW.st (fun _ k' => XS.iconst X_J16.here hx rfl (hb hby at_54) k') ?_
      show GoW p e below s _ _ _ _ _ (T_J16.setTop (mkF m 55 #[.val (.int ua), .val (.int va), .val (.int ub), .val (.int vb), .val (.int uc), .val (.int vc), .val (.ref rr_1), .val (.ref rr_3), .val (.ref rr_8), .val (.ref cxa), .unset, .unset, .unset, .unset, .unset] [(.int (1 : Int32)), (.int vb)]))
      refine GoW.st (fun _ k' => XS.iushr X_J16.here hx rfl (hb hby at_55) rfl k') ?_
      show GoW p e below s _ _ _ _ _ (T_J16.setTop (mkF m 56 #[.val (.int ua), .val (.int va), .val (.int ub), .val (.int vb), .val (.int uc), .val (.int vc), .val (.ref rr_1), .val (.ref rr_3), .val (.ref rr_8), .val (.ref cxa), .unset, .unset, .unset, .unset, .unset] [(.int ((vb.toUInt32 >>> ((1 : Int32) &&& 31).toUInt32).toInt32))]))
      obtain ⟨_, _, ⟨T637, L637, k637, n637⟩, -, X637, ⟨Lc637, hQ637, l637, y637, z637⟩, st637⟩ := Jvm.LawKit.callS X_J16 hx (y := (⟨"com/example/indenture/indenture/model/IdentifierMatchesPinLaw", "chars", "(I)[C"⟩ : MethodName)) hown (mvT hZ (wdx hw 0 rfl)) (mvT hZ (wdx hw 1 rfl)) (mvT hZ (wdx hw 2 rfl)) (mvT hZ (wdx hw 3 rfl)) (by decide) (backOf (W := 0) (rm1 l Z a0 hw [] ((vb.toUInt32 >>> ((1 : Int32) &&& 31).toUInt32).toInt32) h_J16 n0 O_J16 ) hZ (wdx hw 3 rfl) (wdx hw 2 rfl) (by decide) (by decide)) (g := (mkF m 56 #[.val (.int ua), .val (.int va), .val (.int ub), .val (.int vb), .val (.int uc), .val (.int vc), .val (.ref rr_1), .val (.ref rr_3), .val (.ref rr_8), .val (.ref cxa), .unset, .unset, .unset, .unset, .unset] [(.int ((vb.toUInt32 >>> ((1 : Int32) &&& 31).toUInt32).toInt32))])) rfl (by rw [hml]; rfl) (argsL := [(.int ((vb.toUInt32 >>> ((1 : Int32) &&& 31).toUInt32).toInt32))]) (rest := []) (lenOf pd__I__C rfl) rfl (by show 2 * 0 + _ ≤ _; exact Nat.le_of_eq rfl) (hb hby at_56) (fun _ _ => ⟨rfl, e_J16, (by exact Nat.le_of_ble_eq_true rfl), (by exact Nat.le_of_ble_eq_true rfl)⟩)
      dsimp only [Pt.U, Pt.locs, Pt.cells, Pt.slots] at X637 l637 y637 z637 st637 hQ637
      subst l637 y637 z637
      obtain ⟨rr_637, kr_637, rfl, Nq637, Kq637, f638, szr_637⟩ := hQ637
      have N637 := Fr.app N_J16 Nq637
      refine GoW.st st637 ?_
      have f639 : Arv Z T637.heap rr_1 kr_1 .char (Int32.ofNat (List.length (fch ua))) (List.map Value.int (fch ua)) (.int (0 : Int32)) := gJ16_0.keep Kq637 nin0
      have f640 : Safe Z EL s.vm T637.heap rr_1 := Safe.keep Kq637 all0 CH_J16.1 gJ16_1
      have f641 : Arv Z T637.heap rr_3 kr_3 .char (Int32.ofNat (List.length (fch ub))) (List.map Value.int (fch ub)) (.int (0 : Int32)) := gJ16_2.keep Kq637 nin0
      have f642 : Safe Z EL s.vm T637.heap rr_3 := Safe.keep Kq637 all0 CH_J16.1 gJ16_3
      have f643 : Arv Z T637.heap rr_8 kr_8 .char (Int32.ofNat (List.length (fch uc))) (List.map Value.int (fch uc)) (.int (0 : Int32)) := gJ16_4.keep Kq637 nin0
      have f644 : Safe Z EL s.vm T637.heap rr_8 := Safe.keep Kq637 all0 CH_J16.1 gJ16_5
      have f645 : Arv Z T637.heap cxa kxa .char (Int32.ofNat (List.length lxa)) (List.map Value.int lxa) (.int (0 : Int32)) := gJ16_6.keep Kq637 nin0
      have CH637 : CHr Z EL s.vm s.heap s.vm T637.heap := CH_J16.trans (CHr.keep Kq637 all0 CH_J16.1)
      have hk637 : 0 ≤ Array.size T637.heap := Nat.le_trans hk_J16 Kq637.1
      have O637 : Old Z n0 T637.heap := O_J16.keep Kq637 all0
      have g_rr_637 : n0 ≤ rr_637 := Nat.le_trans (own_le O_J16) szr_637
      have sf_rr_637 : Safe Z EL s.vm T637.heap rr_637 := Safe.keep Kq637 all0 CH_J16.1 (Safe.new szr_637)
      have ne646 : rr_1 ≠ rr_637 := Nat.ne_of_lt (Nat.lt_of_lt_of_le gJ16_0.lt szr_637)
      have ne647 : rr_3 ≠ rr_637 := Nat.ne_of_lt (Nat.lt_of_lt_of_le gJ16_2.lt szr_637)
      have ne648 : rr_8 ≠ rr_637 := Nat.ne_of_lt (Nat.lt_of_lt_of_le gJ16_4.lt szr_637)
      have ne649 : cxa ≠ rr_637 := Nat.ne_of_lt (Nat.lt_of_lt_of_le gJ16_6.lt szr_637)
      show GoW p e below s _ _ _ _ _ (T637.setTop (mkF m 59 #[.val (.int ua), .val (.int va), .val (.int ub), .val (.int vb), .val (.int uc), .val (.int vc), .val (.ref rr_1), .val (.ref rr_3), .val (.ref rr_8), .val (.ref cxa), .unset, .unset, .unset, .unset, .unset] [(.ref rr_637)]))
      exact J17 T637 _ T637.heap X637 rfl N637 O637 CH637 hk637 rr_637 kr_637 (fch ((vb.toUInt32 >>> ((1 : Int32) &&& 31).toUInt32).toInt32)) f639 f640 f641 f642 f643 f644 f645 f638 (own_chl _) (own_chr _)
    · refine GoW.st (fun _ k' => XS.ifNo X_J16.here hx rfl (hb hby at_43) rfl (XT.i0_eq_f hc636) k') ?_
      show GoW p e below s _ _ _ _ _ (T_J16.setTop (mkF m 46 #[.val (.int ua), .val (.int va), .val (.int ub), .val (.int vb), .val (.int uc), .val (.int vc), .val (.ref rr_1), .val (.ref rr_3), .val (.ref rr_8), .val (.ref cxa), .unset, .unset, .unset, .unset, .unset] []))
      refine GoW.st (fun _ k' => XS.iloadN X_J16.here hx rfl (hb hby at_46) rfl k') ?_
      show GoW p e below s _ _ _ _ _ (T_J16.setTop (mkF m 47 #[.val (.int ua), .val (.int va), .val (.int ub), .val (.int vb), .val (.int uc), .val (.int vc), .val (.ref rr_1), .val (.ref rr_3), .val (.ref rr_8), .val (.ref cxa), .unset, .unset, .unset, .unset, .unset] [(.int ub)]))
      obtain ⟨_, _, ⟨T650, L650, k650, n650⟩, -, X650, ⟨Lc650, hQ650, l650, y650, z650⟩, st650⟩ := Jvm.LawKit.callS X_J16 hx (y := (⟨"com/example/indenture/indenture/model/IdentifierMatchesPinLaw", "chars", "(I)[C"⟩ : MethodName)) hown (mvT hZ (wdx hw 0 rfl)) (mvT hZ (wdx hw 1 rfl)) (mvT hZ (wdx hw 2 rfl)) (mvT hZ (wdx hw 3 rfl)) (by decide) (backOf (W := 0) (rm1 l Z a0 hw [] ub h_J16 n0 O_J16 ) hZ (wdx hw 3 rfl) (wdx hw 2 rfl) (by decide) (by decide)) (g := (mkF m 47 #[.val (.int ua), .val (.int va), .val (.int ub), .val (.int vb), .val (.int uc), .val (.int vc), .val (.ref rr_1), .val (.ref rr_3), .val (.ref rr_8), .val (.ref cxa), .unset, .unset, .unset, .unset, .unset] [(.int ub)])) rfl (by rw [hml]; rfl) (argsL := [(.int ub)]) (rest := []) (lenOf pd__I__C rfl) rfl (by show 2 * 0 + _ ≤ _; exact Nat.le_of_eq rfl) (hb hby at_47) (fun _ _ => ⟨rfl, e_J16, (by exact Nat.le_of_ble_eq_true rfl), (by exact Nat.le_of_ble_eq_true rfl)⟩)
      dsimp only [Pt.U, Pt.locs, Pt.cells, Pt.slots] at X650 l650 y650 z650 st650 hQ650
      subst l650 y650 z650
      obtain ⟨rr_650, kr_650, rfl, Nq650, Kq650, f651, szr_650⟩ := hQ650
      have N650 := Fr.app N_J16 Nq650
      refine GoW.st st650 ?_
      have f652 : Arv Z T650.heap rr_1 kr_1 .char (Int32.ofNat (List.length (fch ua))) (List.map Value.int (fch ua)) (.int (0 : Int32)) := gJ16_0.keep Kq650 nin0
      have f653 : Safe Z EL s.vm T650.heap rr_1 := Safe.keep Kq650 all0 CH_J16.1 gJ16_1
      have f654 : Arv Z T650.heap rr_3 kr_3 .char (Int32.ofNat (List.length (fch ub))) (List.map Value.int (fch ub)) (.int (0 : Int32)) := gJ16_2.keep Kq650 nin0
      have f655 : Safe Z EL s.vm T650.heap rr_3 := Safe.keep Kq650 all0 CH_J16.1 gJ16_3
      have f656 : Arv Z T650.heap rr_8 kr_8 .char (Int32.ofNat (List.length (fch uc))) (List.map Value.int (fch uc)) (.int (0 : Int32)) := gJ16_4.keep Kq650 nin0
      have f657 : Safe Z EL s.vm T650.heap rr_8 := Safe.keep Kq650 all0 CH_J16.1 gJ16_5
      have f658 : Arv Z T650.heap cxa kxa .char (Int32.ofNat (List.length lxa)) (List.map Value.int lxa) (.int (0 : Int32)) := gJ16_6.keep Kq650 nin0
      have CH650 : CHr Z EL s.vm s.heap s.vm T650.heap := CH_J16.trans (CHr.keep Kq650 all0 CH_J16.1)
      have hk650 : 0 ≤ Array.size T650.heap := Nat.le_trans hk_J16 Kq650.1
      have O650 : Old Z n0 T650.heap := O_J16.keep Kq650 all0
      have g_rr_650 : n0 ≤ rr_650 := Nat.le_trans (own_le O_J16) szr_650
      have sf_rr_650 : Safe Z EL s.vm T650.heap rr_650 := Safe.keep Kq650 all0 CH_J16.1 (Safe.new szr_650)
      have ne659 : rr_1 ≠ rr_650 := Nat.ne_of_lt (Nat.lt_of_lt_of_le gJ16_0.lt szr_650)
      have ne660 : rr_3 ≠ rr_650 := Nat.ne_of_lt (Nat.lt_of_lt_of_le gJ16_2.lt szr_650)
      have ne661 : rr_8 ≠ rr_650 := Nat.ne_of_lt (Nat.lt_of_lt_of_le gJ16_4.lt szr_650)
      have ne662 : cxa ≠ rr_650 := Nat.ne_of_lt (Nat.lt_of_lt_of_le gJ16_6.lt szr_650)
      show GoW p e below s _ _ _ _ _ (T650.setTop (mkF m 50 #[.val (.int ua), .val (.int va), .val (.int ub), .val (.int vb), .val (.int uc), .val (.int vc), .val (.ref rr_1), .val (.ref rr_3), .val (.ref rr_8), .val (.ref cxa), .unset, .unset, .unset, .unset, .unset] [(.ref rr_650)]))
      refine GoW.st (fun _ k' => XS.goto X650.here hx rfl (pc0 := 50) (pc' := 59) rfl (hb hby at_50) (by decide) (by decide) k') ?_
      show GoW p e below s _ _ _ _ _ (T650.setTop (mkF m 59 #[.val (.int ua), .val (.int va), .val (.int ub), .val (.int vb), .val (.int uc), .val (.int vc), .val (.ref rr_1), .val (.ref rr_3), .val (.ref rr_8), .val (.ref cxa), .unset, .unset, .unset, .unset, .unset] [(.ref rr_650)]))
      exact J17 T650 _ T650.heap X650 rfl N650 O650 CH650 hk650 rr_650 kr_650 (fch ub) f652 f653 f654 f655 f656 f657 f658 f651 (own_chl _) (own_chr _)
  refine GoW.st (fun _ k' => XS.iloadN X8.here hx rfl (hb hby at_19) rfl k') ?_
  show GoW p e below s _ _ _ _ _ (T8.setTop (mkF m 20 #[.val (.int ua), .val (.int va), .val (.int ub), .val (.int vb), .val (.int uc), .val (.int vc), .val (.ref rr_1), .val (.ref rr_3), .val (.ref rr_8), .unset, .unset, .unset, .unset, .unset, .unset] [(.int va)]))
  refine GoW.st (fun _ k' => XS.iconst X8.here hx rfl (hb hby at_20) k') ?_
  show GoW p e below s _ _ _ _ _ (T8.setTop (mkF m 21 #[.val (.int ua), .val (.int va), .val (.int ub), .val (.int vb), .val (.int uc), .val (.int vc), .val (.ref rr_1), .val (.ref rr_3), .val (.ref rr_8), .unset, .unset, .unset, .unset, .unset, .unset] [(.int (1 : Int32)), (.int va)]))
  refine GoW.st (fun _ k' => XS.iand X8.here hx rfl (hb hby at_21) rfl k') ?_
  show GoW p e below s _ _ _ _ _ (T8.setTop (mkF m 22 #[.val (.int ua), .val (.int va), .val (.int ub), .val (.int vb), .val (.int uc), .val (.int vc), .val (.ref rr_1), .val (.ref rr_3), .val (.ref rr_8), .unset, .unset, .unset, .unset, .unset, .unset] [(.int (va &&& (1 : Int32)))]))
  by_cases hc663 : (va &&& (1 : Int32)) = (0 : Int32)
  · refine GoW.st (fun _ k' => XS.ifYes X8.here hx rfl (pc0 := 22) (pc' := 32) rfl (hb hby at_22) rfl (XT.i0_eq_t hc663) (by decide) (by decide) k') ?_
    show GoW p e below s _ _ _ _ _ (T8.setTop (mkF m 32 #[.val (.int ua), .val (.int va), .val (.int ub), .val (.int vb), .val (.int uc), .val (.int vc), .val (.ref rr_1), .val (.ref rr_3), .val (.ref rr_8), .unset, .unset, .unset, .unset, .unset, .unset] []))
    refine GoW.st (fun _ k' => XS.iloadN X8.here hx rfl (hb hby at_32) rfl k') ?_
    show GoW p e below s _ _ _ _ _ (T8.setTop (mkF m 33 #[.val (.int ua), .val (.int va), .val (.int ub), .val (.int vb), .val (.int uc), .val (.int vc), .val (.ref rr_1), .val (.ref rr_3), .val (.ref rr_8), .unset, .unset, .unset, .unset, .unset, .unset] [(.int va)]))
    refine GoW.st (fun _ k' => XS.iconst X8.here hx rfl (hb hby at_33) k') ?_
    show GoW p e below s _ _ _ _ _ (T8.setTop (mkF m 34 #[.val (.int ua), .val (.int va), .val (.int ub), .val (.int vb), .val (.int uc), .val (.int vc), .val (.ref rr_1), .val (.ref rr_3), .val (.ref rr_8), .unset, .unset, .unset, .unset, .unset, .unset] [(.int (1 : Int32)), (.int va)]))
    refine GoW.st (fun _ k' => XS.iushr X8.here hx rfl (hb hby at_34) rfl k') ?_
    show GoW p e below s _ _ _ _ _ (T8.setTop (mkF m 35 #[.val (.int ua), .val (.int va), .val (.int ub), .val (.int vb), .val (.int uc), .val (.int vc), .val (.ref rr_1), .val (.ref rr_3), .val (.ref rr_8), .unset, .unset, .unset, .unset, .unset, .unset] [(.int ((va.toUInt32 >>> ((1 : Int32) &&& 31).toUInt32).toInt32))]))
    obtain ⟨_, _, ⟨T664, L664, k664, n664⟩, -, X664, ⟨Lc664, hQ664, l664, y664, z664⟩, st664⟩ := Jvm.LawKit.callS X8 hx (y := (⟨"com/example/indenture/indenture/model/IdentifierMatchesPinLaw", "chars", "(I)[C"⟩ : MethodName)) hown (mvT hZ (wdx hw 0 rfl)) (mvT hZ (wdx hw 1 rfl)) (mvT hZ (wdx hw 2 rfl)) (mvT hZ (wdx hw 3 rfl)) (by decide) (backOf (W := 0) (rm1 l Z a0 hw [] ((va.toUInt32 >>> ((1 : Int32) &&& 31).toUInt32).toInt32) T8.heap n0 O8 ) hZ (wdx hw 3 rfl) (wdx hw 2 rfl) (by decide) (by decide)) (g := (mkF m 35 #[.val (.int ua), .val (.int va), .val (.int ub), .val (.int vb), .val (.int uc), .val (.int vc), .val (.ref rr_1), .val (.ref rr_3), .val (.ref rr_8), .unset, .unset, .unset, .unset, .unset, .unset] [(.int ((va.toUInt32 >>> ((1 : Int32) &&& 31).toUInt32).toInt32))])) rfl (by rw [hml]; rfl) (argsL := [(.int ((va.toUInt32 >>> ((1 : Int32) &&& 31).toUInt32).toInt32))]) (rest := []) (lenOf pd__I__C rfl) rfl (by show 2 * 0 + _ ≤ _; exact Nat.le_of_eq rfl) (hb hby at_35) (fun _ _ => ⟨rfl, rfl, (by exact Nat.le_of_ble_eq_true rfl), (by exact Nat.le_of_ble_eq_true rfl)⟩)
    dsimp only [Pt.U, Pt.locs, Pt.cells, Pt.slots] at X664 l664 y664 z664 st664 hQ664
    subst l664 y664 z664
    obtain ⟨rr_664, kr_664, rfl, Nq664, Kq664, f665, szr_664⟩ := hQ664
    have N664 := Fr.app N8 Nq664
    refine GoW.st st664 ?_
    have f666 : Arv Z T664.heap rr_1 kr_1 .char (Int32.ofNat (List.length (fch ua))) (List.map Value.int (fch ua)) (.int (0 : Int32)) := f10.keep Kq664 nin0
    have f667 : Safe Z EL s.vm T664.heap rr_1 := Safe.keep Kq664 all0 CH8.1 f11
    have f668 : Arv Z T664.heap rr_3 kr_3 .char (Int32.ofNat (List.length (fch ub))) (List.map Value.int (fch ub)) (.int (0 : Int32)) := f12.keep Kq664 nin0
    have f669 : Safe Z EL s.vm T664.heap rr_3 := Safe.keep Kq664 all0 CH8.1 f13
    have f670 : Arv Z T664.heap rr_8 kr_8 .char (Int32.ofNat (List.length (fch uc))) (List.map Value.int (fch uc)) (.int (0 : Int32)) := f9.keep Kq664 nin0
    have f671 : Safe Z EL s.vm T664.heap rr_8 := Safe.keep Kq664 all0 CH8.1 sf_rr_8
    have CH664 : CHr Z EL s.vm s.heap s.vm T664.heap := CH8.trans (CHr.keep Kq664 all0 CH8.1)
    have hk664 : 0 ≤ Array.size T664.heap := Nat.le_trans hk8 Kq664.1
    have O664 : Old Z n0 T664.heap := O8.keep Kq664 all0
    have g_rr_664 : n0 ≤ rr_664 := Nat.le_trans (own_le O8) szr_664
    have sf_rr_664 : Safe Z EL s.vm T664.heap rr_664 := Safe.keep Kq664 all0 CH8.1 (Safe.new szr_664)
    have ne672 : rr_1 ≠ rr_664 := Nat.ne_of_lt (Nat.lt_of_lt_of_le f10.lt szr_664)
    have ne673 : rr_3 ≠ rr_664 := Nat.ne_of_lt (Nat.lt_of_lt_of_le f12.lt szr_664)
    have ne674 : rr_8 ≠ rr_664 := Nat.ne_of_lt (Nat.lt_of_lt_of_le f9.lt szr_664)
    show GoW p e below s _ _ _ _ _ (T664.setTop (mkF m 38 #[.val (.int ua), .val (.int va), .val (.int ub), .val (.int vb), .val (.int uc), .val (.int vc), .val (.ref rr_1), .val (.ref rr_3), .val (.ref rr_8), .unset, .unset, .unset, .unset, .unset, .unset] [(.ref rr_664)]))
    exact J16 T664 _ T664.heap X664 rfl N664 O664 CH664 hk664 rr_664 kr_664 (fch ((va.toUInt32 >>> ((1 : Int32) &&& 31).toUInt32).toInt32)) f666 f667 f668 f669 f670 f671 f665 (own_chl _) (own_chr _)
  · refine GoW.st (fun _ k' => XS.ifNo X8.here hx rfl (hb hby at_22) rfl (XT.i0_eq_f hc663) k') ?_
    show GoW p e below s _ _ _ _ _ (T8.setTop (mkF m 25 #[.val (.int ua), .val (.int va), .val (.int ub), .val (.int vb), .val (.int uc), .val (.int vc), .val (.ref rr_1), .val (.ref rr_3), .val (.ref rr_8), .unset, .unset, .unset, .unset, .unset, .unset] []))
    refine GoW.st (fun _ k' => XS.iloadN X8.here hx rfl (hb hby at_25) rfl k') ?_
    show GoW p e below s _ _ _ _ _ (T8.setTop (mkF m 26 #[.val (.int ua), .val (.int va), .val (.int ub), .val (.int vb), .val (.int uc), .val (.int vc), .val (.ref rr_1), .val (.ref rr_3), .val (.ref rr_8), .unset, .unset, .unset, .unset, .unset, .unset] [(.int ua)]))
    obtain ⟨_, _, ⟨T675, L675, k675, n675⟩, -, X675, ⟨Lc675, hQ675, l675, y675, z675⟩, st675⟩ := Jvm.LawKit.callS X8 hx (y := (⟨"com/example/indenture/indenture/model/IdentifierMatchesPinLaw", "chars", "(I)[C"⟩ : MethodName)) hown (mvT hZ (wdx hw 0 rfl)) (mvT hZ (wdx hw 1 rfl)) (mvT hZ (wdx hw 2 rfl)) (mvT hZ (wdx hw 3 rfl)) (by decide) (backOf (W := 0) (rm1 l Z a0 hw [] ua T8.heap n0 O8 ) hZ (wdx hw 3 rfl) (wdx hw 2 rfl) (by decide) (by decide)) (g := (mkF m 26 #[.val (.int ua), .val (.int va), .val (.int ub), .val (.int vb), .val (.int uc), .val (.int vc), .val (.ref rr_1), .val (.ref rr_3), .val (.ref rr_8), .unset, .unset, .unset, .unset, .unset, .unset] [(.int ua)])) rfl (by rw [hml]; rfl) (argsL := [(.int ua)]) (rest := []) (lenOf pd__I__C rfl) rfl (by show 2 * 0 + _ ≤ _; exact Nat.le_of_eq rfl) (hb hby at_26) (fun _ _ => ⟨rfl, rfl, (by exact Nat.le_of_ble_eq_true rfl), (by exact Nat.le_of_ble_eq_true rfl)⟩)
    dsimp only [Pt.U, Pt.locs, Pt.cells, Pt.slots] at X675 l675 y675 z675 st675 hQ675
    subst l675 y675 z675
    obtain ⟨rr_675, kr_675, rfl, Nq675, Kq675, f676, szr_675⟩ := hQ675
    have N675 := Fr.app N8 Nq675
    refine GoW.st st675 ?_
    have f677 : Arv Z T675.heap rr_1 kr_1 .char (Int32.ofNat (List.length (fch ua))) (List.map Value.int (fch ua)) (.int (0 : Int32)) := f10.keep Kq675 nin0
    have f678 : Safe Z EL s.vm T675.heap rr_1 := Safe.keep Kq675 all0 CH8.1 f11
    have f679 : Arv Z T675.heap rr_3 kr_3 .char (Int32.ofNat (List.length (fch ub))) (List.map Value.int (fch ub)) (.int (0 : Int32)) := f12.keep Kq675 nin0
    have f680 : Safe Z EL s.vm T675.heap rr_3 := Safe.keep Kq675 all0 CH8.1 f13
    have f681 : Arv Z T675.heap rr_8 kr_8 .char (Int32.ofNat (List.length (fch uc))) (List.map Value.int (fch uc)) (.int (0 : Int32)) := f9.keep Kq675 nin0
    have f682 : Safe Z EL s.vm T675.heap rr_8 := Safe.keep Kq675 all0 CH8.1 sf_rr_8
    have CH675 : CHr Z EL s.vm s.heap s.vm T675.heap := CH8.trans (CHr.keep Kq675 all0 CH8.1)
    have hk675 : 0 ≤ Array.size T675.heap := Nat.le_trans hk8 Kq675.1
    have O675 : Old Z n0 T675.heap := O8.keep Kq675 all0
    have g_rr_675 : n0 ≤ rr_675 := Nat.le_trans (own_le O8) szr_675
    have sf_rr_675 : Safe Z EL s.vm T675.heap rr_675 := Safe.keep Kq675 all0 CH8.1 (Safe.new szr_675)
    have ne683 : rr_1 ≠ rr_675 := Nat.ne_of_lt (Nat.lt_of_lt_of_le f10.lt szr_675)
    have ne684 : rr_3 ≠ rr_675 := Nat.ne_of_lt (Nat.lt_of_lt_of_le f12.lt szr_675)
    have ne685 : rr_8 ≠ rr_675 := Nat.ne_of_lt (Nat.lt_of_lt_of_le f9.lt szr_675)
    show GoW p e below s _ _ _ _ _ (T675.setTop (mkF m 29 #[.val (.int ua), .val (.int va), .val (.int ub), .val (.int vb), .val (.int uc), .val (.int vc), .val (.ref rr_1), .val (.ref rr_3), .val (.ref rr_8), .unset, .unset, .unset, .unset, .unset, .unset] [(.ref rr_675)]))
    refine GoW.st (fun _ k' => XS.goto X675.here hx rfl (pc0 := 29) (pc' := 38) rfl (hb hby at_29) (by decide) (by decide) k') ?_
    show GoW p e below s _ _ _ _ _ (T675.setTop (mkF m 38 #[.val (.int ua), .val (.int va), .val (.int ub), .val (.int vb), .val (.int uc), .val (.int vc), .val (.ref rr_1), .val (.ref rr_3), .val (.ref rr_8), .unset, .unset, .unset, .unset, .unset, .unset] [(.ref rr_675)]))
    exact J16 T675 _ T675.heap X675 rfl N675 O675 CH675 hk675 rr_675 kr_675 (fch ua) f677 f678 f679 f680 f681 f682 f676 (own_chl _) (own_chr _)
set_option maxRecDepth 65536 in
set_option maxHeartbeats 40000000 in
theorem comes_1 {Post : Tables → Env → Array Value → State → Outcome → State → Prop} (hpost : ∀ tb e args s v u, (limb_1_1.after args s (.returned v) u = true ∧ limb_1_2.after args s (.returned v) u = true ∧ True) → ReturnedEndW s (.returned v) u (Jvm.fieldLocs frame_1_writes args s ++ Jvm.arrayLocs frame_1_arrays args s ++ Jvm.staticLocs frame_1_statics s) 64 7424 → Post tb e args s (.returned v) u) :
    ArmFor flags0 classFile x code maxLocals ret World_1 tables_1 room_1 Calls_1 rest_1 Pre_1 Post := by
  intro l hfl _ _ p e ha hc hk s m args below hf hA hF happ hP
  obtain ⟨hcalls, hrest, hpre⟩ := hP
  obtain ⟨-, -, -, hnamed, -, -, -, hat⟩ := (Spec.applies_iff hf).mp happ
  obtain ⟨hg, hn⟩ := and_e (Cond.before_iff.mp (show (Jvm.Cond.and given_1 narrow_1).before args s = true from hpre))
  obtain ⟨hcnt, hg0⟩ := and_e hg
  obtain ⟨ha0, hg1⟩ := and_e hg0
  obtain ⟨ha1, hg2⟩ := and_e hg1
  obtain ⟨ha2, hg3⟩ := and_e hg2
  obtain ⟨ha3, hg4⟩ := and_e hg3
  obtain ⟨ha4, hg5⟩ := and_e hg4
  have ha5 := hg5
  obtain ⟨w0, w1, w2, w3, w4, w5, rfl⟩ : ∃ w0 w1 w2 w3 w4 w5 : Value, args = #[w0, w1, w2, w3, w4, w5] := by
    have hs : args.size = 6 := by simpa [Cond.value, given_1] using hcnt
    obtain ⟨L⟩ := args
    match L, hs with
    | [w0, w1, w2, w3, w4, w5], _ => exact ⟨w0, w1, w2, w3, w4, w5, rfl⟩
  have hw := fun d (hd : d ∈ tables_1) => atoms_spec (ws := Jvm.Cond.code x code maxLocals ret :: tables_1) hat d (List.mem_cons_of_mem _ hd)
  have hfit : Fit s := fun {y c} hc i hi => by
    obtain ⟨ha, rfl⟩ := Array.getElem?_eq_some_iff.mp hc
    have q := List.all_eq_true.mp ((Array.all_eq_true_iff_forall_mem.mp hF) _ (Array.getElem_mem ha)) i (List.mem_range.mpr hi)
    simpa [Array.getElem?_eq_getElem hi] using q
  obtain ⟨hsets, hown0⟩ := atoms_of _ (rest_1_c_eq ▸ (show rest_1_c.before _ s = true from hrest))
  have hr0 := Cond.before_iff.mp hown0
  obtain ⟨i0, ei0⟩ := is_v ha0
  obtain rfl : w0 = (.int i0) := Option.some.inj ei0
  obtain ⟨i1, ei1⟩ := is_v ha1
  obtain rfl : w1 = (.int i1) := Option.some.inj ei1
  obtain ⟨i2, ei2⟩ := is_v ha2
  obtain rfl : w2 = (.int i2) := Option.some.inj ei2
  obtain ⟨i3, ei3⟩ := is_v ha3
  obtain rfl : w3 = (.int i3) := Option.some.inj ei3
  obtain ⟨i4, ei4⟩ := is_v ha4
  obtain rfl : w4 = (.int i4) := Option.some.inj ei4
  obtain ⟨i5, ei5⟩ := is_v ha5
  obtain rfl : w5 = (.int i5) := Option.some.inj ei5
  obtain ⟨cs, S_cs, q_cs⟩ := own_cs (Cond.before_iff.mp (hsets _ (List.mem_of_getElem? (i := 1) rfl))) (Cond.before_iff.mp (hsets _ (List.mem_of_getElem? (i := 2) rfl))) (hsets _ (List.mem_of_getElem? (i := 0) rfl))
  have hCH0 : CHv s EL s.vm s.heap := CHv.start (own_EW hw) (fun q hq => hcalls.1 q ((by decide +kernel : ∀ z ∈ EL, z ∈ consts_1) q hq)) (hsets _ (List.mem_of_getElem? (i := 2) rfl)) (hw _ (List.mem_of_getElem? (i := 11) rfl)) (hw _ (List.mem_of_getElem? (i := 10) rfl))
  obtain ⟨n, o, h1, h2, h3, _, L, rfl, ⟨rfl, N, -⟩, -, hq⟩ := rm0 l s _ hw tables_1 i0 i1 i2 i3 i4 i5 cs s.heap s.heap.size (Old.start s) S_cs q_cs p e ha hc hk s m _ below hf ((Spec.applies_iff_loose hf).mp happ).1 ⟨rfl, State.Warmed39.refl s, rfl, hCH0, all0⟩ trivial
  refine ⟨n, _, h1, h2, h3, hpost _ _ _ _ _ _ ⟨Cond.after_iff.mpr rfl, Cond.after_iff.mpr (eq_i res_at (Term.int_eval (1)) rfl), trivial⟩ ⟨hq.1, hq.2.1, hq.2.2.1, (hq.2.2.2.sift fun y hy => Or.inr (N y hy)).mono (by decide) (by decide)⟩⟩
theorem main_1_1 : Claimed_1_1 := comes_1 fun _ _ _ _ _ _ h hF => ⟨h.1, hF⟩
theorem main_1_2 : Claimed_1_2 := comes_1 fun _ _ _ _ _ _ h hF => ⟨h.2.1, hF⟩
end Jvm.Pilot.@@N@@
namespace Jvm.Pilot.@@N@@
open Jvm Jvm.ClassFile Sem Op Lib Jvm.Free Jvm.Stand Jvm.Pilot.@@N@@.Jvm.D
/-! MADE BY PROGRAM (witnessworld.py) out of the Statement's table words and the real class files: 22 classes; the members and pool entries that the words name. The judged class is class 1, her method 1. -/
namespace start1
open Jvm.ClassFile
def u (s : String) : CpInfo := .utf8 (stringToUtf16 s)
/-- a pool by its gaps: so many unusable entries, then the entry; so many at the end -/
def gap : Nat → List CpInfo → List CpInfo
  | 0, r => r
  | n + 1, r => .unusable :: gap n r
def poolList (es : List (Nat × CpInfo)) (last : Nat) : List CpInfo := es.foldr (fun e r => gap e.1 (e.2 :: r)) (gap last [])
def pool (es : List (Nat × CpInfo)) (last : Nat) : Array CpInfo := ⟨poolList es last⟩
def fileOf (pool : Array CpInfo) (this : Nat) (attrs : Array Attribute := #[]) (ms : Array MethodInfo := #[]) (fl : Nat := 33) (sup : Nat := 0) (ifs : Array Nat := #[]) (fds : Array FieldInfo := #[]) : ClassFile where
  minorVersion := 0
  majorVersion := 65
  constantPool := pool
  accessFlags := fl
  thisClass := this
  superClass := sup
  interfaces := ifs
  fields := fds
  methods := ms
  attributes := attrs
def plain (name : String) (sup : Option ClassId) : Class where
  name := name
  kind := .ordinary
  loader := none
  accessFlags := 33
  super := sup
  interfaces := #[]
  cf := none
  fields := #[]
  methods := #[]
  instanceTypes := #[]
  staticTypes := #[]
  resolved := #[]
  callSites := []
  init := .initialized
  statics := none
  mirror := none

def pool0 : Array CpInfo := pool [(5, u "<init>"), (0, u "()V"), (1, .class_ 10), (1, u "java/lang/Object")] 113

def k0c0 : Code := { maxStack := 0, maxLocals := 1, code := object_method_1_code, exceptionTable := #[], attributes := #[] }
def k0m0 : Method := { name := "<init>", desc := "()V", sig := { parameters := [], returnType := none }, accessFlags := 1, code := some k0c0 }
/-- java/lang/Object -/
def k0 : Class := { plain "java/lang/Object" none with
  accessFlags := 33
  interfaces := #[]
  cf := some (fileOf pool0 8 #[] #[{ accessFlags := 1, nameIndex := 5, descriptorIndex := 6, attributes := #[] }] 33 0 #[] #[])
  fields := #[]
  methods := #[k0m0]
  instanceTypes := #[]
  staticTypes := #[]
  resolved := Array.replicate 124 none
  statics := none }

def pool1 : Array CpInfo := pool [(2, .class_ 4), (1, u "java/lang/Object"), (0, u "<init>"), (0, u "()V"), (0, .methodref 8 9), (0, .class_ 10), (0, .nameAndType 11 12), (0, u "com/example/indenture/indenture/model/IdentifierMatchesPinLaw"), (0, u "chars"), (0, u "(I)[C"), (0, .class_ 14), (0, u "com/example/indenture/indenture/model/Identifier"), (0, .string 16), (0, u "x"), (0, .class_ 18), (0, u "java/lang/String"), (0, .methodref 17 20), (0, .nameAndType 5 21), (0, u "([C)V"), (0, .methodref 13 23), (0, .nameAndType 5 24), (0, u "(Ljava/lang/String;Ljava/lang/String;Ljava/lang/String;Ljava/lang/String;)V"), (0, .methodref 13 26), (0, .nameAndType 27 28), (0, u "matches"), (0, u "(Ljava/lang/String;Ljava/lang/String;Ljava/lang/String;)Z"), (0, .methodref 8 30), (0, .nameAndType 31 32), (0, u "field"), (0, u "([C[C)Z"), (0, .methodref 8 34), (0, .nameAndType 35 36), (0, u "isAny"), (0, u "([C)Z"), (0, .methodref 8 38), (0, .nameAndType 39 32), (0, u "same"), (2, u "law"), (0, u "(IIIIII)Z")] 5

def k1m0 : Method := { name := "<init>", desc := "()V", sig := { parameters := [], returnType := none }, accessFlags := 1, code := none }
def k1c1 : Code := { maxStack := 8, maxLocals := 15, code := code, exceptionTable := #[], attributes := #[] }
def k1m1 : Method := { name := "law", desc := "(IIIIII)Z", sig := { parameters := [.int, .int, .int, .int, .int, .int], returnType := some .boolean }, accessFlags := 9, code := some k1c1 }
def k1c2 : Code := { maxStack := 3, maxLocals := 5, code := method_3_code, exceptionTable := #[], attributes := #[] }
def k1m2 : Method := { name := "chars", desc := "(I)[C", sig := { parameters := [.int], returnType := some (.array .char) }, accessFlags := 10, code := some k1c2 }
def k1c3 : Code := { maxStack := 2, maxLocals := 1, code := method_4_code, exceptionTable := #[], attributes := #[] }
def k1m3 : Method := { name := "isAny", desc := "([C)Z", sig := { parameters := [(.array .char)], returnType := some .boolean }, accessFlags := 10, code := some k1c3 }
def k1c4 : Code := { maxStack := 3, maxLocals := 2, code := method_5_code, exceptionTable := #[], attributes := #[] }
def k1m4 : Method := { name := "same", desc := "([C[C)Z", sig := { parameters := [(.array .char), (.array .char)], returnType := some .boolean }, accessFlags := 10, code := some k1c4 }
def k1c5 : Code := { maxStack := 2, maxLocals := 2, code := method_6_code, exceptionTable := #[], attributes := #[] }
def k1m5 : Method := { name := "field", desc := "([C[C)Z", sig := { parameters := [(.array .char), (.array .char)], returnType := some .boolean }, accessFlags := 10, code := some k1c5 }
/-- com/example/indenture/indenture/model/IdentifierMatchesPinLaw -/
def k1 : Class := { plain "com/example/indenture/indenture/model/IdentifierMatchesPinLaw" (some 0) with
  accessFlags := 49
  interfaces := #[]
  cf := some (fileOf pool1 8 #[] #[{ accessFlags := 1, nameIndex := 5, descriptorIndex := 6, attributes := #[] }, { accessFlags := 9, nameIndex := 42, descriptorIndex := 43, attributes := #[] }, { accessFlags := 10, nameIndex := 11, descriptorIndex := 12, attributes := #[] }, { accessFlags := 10, nameIndex := 35, descriptorIndex := 36, attributes := #[] }, { accessFlags := 10, nameIndex := 39, descriptorIndex := 32, attributes := #[] }, { accessFlags := 10, nameIndex := 31, descriptorIndex := 32, attributes := #[] }] 49 2 #[] #[])
  fields := #[]
  methods := #[k1m0, k1m1, k1m2, k1m3, k1m4, k1m5]
  instanceTypes := #[]
  staticTypes := #[]
  resolved := Array.replicate 49 none
  statics := none }

def pool2 : Array CpInfo := pool [(1, .methodref 2 3), (0, .class_ 4), (0, .nameAndType 5 6), (0, u "java/lang/Object"), (0, u "<init>"), (0, u "()V"), (0, .class_ 8), (0, u "java/lang/Record")] 13

def k2c0 : Code := { maxStack := 1, maxLocals := 1, code := jdk_30_method_1_code, exceptionTable := #[], attributes := #[] }
def k2m0 : Method := { name := "<init>", desc := "()V", sig := { parameters := [], returnType := none }, accessFlags := 4, code := some k2c0 }
/-- java/lang/Record -/
def k2 : Class := { plain "java/lang/Record" (some 0) with
  accessFlags := 1057
  interfaces := #[]
  cf := some (fileOf pool2 7 #[] #[{ accessFlags := 4, nameIndex := 5, descriptorIndex := 6, attributes := #[] }] 1057 2 #[] #[])
  fields := #[]
  methods := #[k2m0]
  instanceTypes := #[]
  staticTypes := #[]
  resolved := Array.replicate 22 none
  statics := none }

def pool3 : Array CpInfo := pool [(1, .methodref 2 3), (0, .class_ 4), (0, .nameAndType 5 6), (0, u "java/lang/Record"), (0, u "<init>"), (0, u "()V"), (0, .string 8), (0, u "id"), (0, .methodref 10 11), (0, .class_ 12), (0, .nameAndType 13 14), (0, u "java/util/Objects"), (0, u "requireNonNull"), (0, u "(Ljava/lang/Object;Ljava/lang/String;)Ljava/lang/Object;"), (0, .string 16), (0, u "sourceType"), (0, .string 18), (0, u "category"), (0, .string 20), (0, u "subcategory"), (0, .fieldref 22 23), (0, .class_ 24), (0, .nameAndType 8 25), (0, u "com/example/indenture/indenture/model/Identifier"), (0, u "Ljava/lang/String;"), (0, .fieldref 22 27), (0, .nameAndType 16 25), (0, .fieldref 22 29), (0, .nameAndType 18 25), (0, .fieldref 22 31), (0, .nameAndType 20 25), (0, .methodref 22 33), (0, .nameAndType 34 35), (0, u "fieldMatches"), (0, u "(Ljava/lang/String;Ljava/lang/String;)Z"), (3, .string 40), (0, u "%"), (0, .methodref 42 43), (0, .class_ 44), (0, .nameAndType 45 46), (0, u "java/lang/String"), (0, u "equals"), (0, u "(Ljava/lang/Object;)Z"), (11, u "ANY"), (1, u "(Ljava/lang/String;Ljava/lang/String;Ljava/lang/String;Ljava/lang/String;)V"), (3, u "matches"), (0, u "(Ljava/lang/String;Ljava/lang/String;Ljava/lang/String;)Z")] 28

def k3c0 : Code := { maxStack := 2, maxLocals := 5, code := prog_23_method_1_code, exceptionTable := #[], attributes := #[] }
def k3m0 : Method := { name := "<init>", desc := "(Ljava/lang/String;Ljava/lang/String;Ljava/lang/String;Ljava/lang/String;)V", sig := { parameters := [(.object "java/lang/String"), (.object "java/lang/String"), (.object "java/lang/String"), (.object "java/lang/String")], returnType := none }, accessFlags := 1, code := some k3c0 }
def k3c1 : Code := { maxStack := 2, maxLocals := 4, code := prog_23_method_2_code, exceptionTable := #[], attributes := #[] }
def k3m1 : Method := { name := "matches", desc := "(Ljava/lang/String;Ljava/lang/String;Ljava/lang/String;)Z", sig := { parameters := [(.object "java/lang/String"), (.object "java/lang/String"), (.object "java/lang/String")], returnType := some .boolean }, accessFlags := 1, code := some k3c1 }
def k3c2 : Code := { maxStack := 2, maxLocals := 2, code := prog_23_method_5_code, exceptionTable := #[], attributes := #[] }
def k3m2 : Method := { name := "fieldMatches", desc := "(Ljava/lang/String;Ljava/lang/String;)Z", sig := { parameters := [(.object "java/lang/String"), (.object "java/lang/String")], returnType := some .boolean }, accessFlags := 10, code := some k3c2 }
/-- com/example/indenture/indenture/model/Identifier -/
def k3 : Class := { plain "com/example/indenture/indenture/model/Identifier" (some 2) with
  accessFlags := 49
  interfaces := #[]
  cf := some (fileOf pool3 22 #[] #[{ accessFlags := 1, nameIndex := 5, descriptorIndex := 60, attributes := #[] }, { accessFlags := 1, nameIndex := 64, descriptorIndex := 65, attributes := #[] }, { accessFlags := 10, nameIndex := 34, descriptorIndex := 35, attributes := #[] }] 49 2 #[] #[{ accessFlags := 18, nameIndex := 8, descriptorIndex := 25, attributes := #[] }, { accessFlags := 18, nameIndex := 16, descriptorIndex := 25, attributes := #[] }, { accessFlags := 18, nameIndex := 18, descriptorIndex := 25, attributes := #[] }, { accessFlags := 18, nameIndex := 20, descriptorIndex := 25, attributes := #[] }, { accessFlags := 25, nameIndex := 58, descriptorIndex := 25, attributes := #[] }])
  fields := #[{ name := "id", type := (.object "java/lang/String"), accessFlags := 18, slot := 0, constantValue := 0 }, { name := "sourceType", type := (.object "java/lang/String"), accessFlags := 18, slot := 1, constantValue := 0 }, { name := "category", type := (.object "java/lang/String"), accessFlags := 18, slot := 2, constantValue := 0 }, { name := "subcategory", type := (.object "java/lang/String"), accessFlags := 18, slot := 3, constantValue := 0 }, { name := "ANY", type := (.object "java/lang/String"), accessFlags := 25, slot := 0, constantValue := 0 }]
  methods := #[k3m0, k3m1, k3m2]
  instanceTypes := #[(.object "java/lang/String"), (.object "java/lang/String"), (.object "java/lang/String"), (.object "java/lang/String")]
  staticTypes := #[(.object "java/lang/String")]
  resolved := Array.replicate 94 none
  statics := none }

def pool4 : Array CpInfo := pool [(1, .class_ 2), (0, u "java/io/Serializable"), (0, .class_ 4), (0, u "java/lang/Object")] 2

/-- java/io/Serializable -/
def k4 : Class := { plain "java/io/Serializable" (some 0) with
  accessFlags := 1537
  interfaces := #[]
  cf := some (fileOf pool4 1 #[] #[] 1537 3 #[] #[])
  fields := #[]
  methods := #[]
  instanceTypes := #[]
  staticTypes := #[]
  resolved := Array.replicate 7 none
  statics := none }

def pool5 : Array CpInfo := pool [(1, .class_ 2), (0, u "java/lang/Comparable"), (0, .class_ 4), (0, u "java/lang/Object")] 7

/-- java/lang/Comparable -/
def k5 : Class := { plain "java/lang/Comparable" (some 0) with
  accessFlags := 1537
  interfaces := #[]
  cf := some (fileOf pool5 1 #[] #[] 1537 3 #[] #[])
  fields := #[]
  methods := #[]
  instanceTypes := #[]
  staticTypes := #[]
  resolved := Array.replicate 12 none
  statics := none }

def pool6 : Array CpInfo := pool [(2, .class_ 4), (1, u "java/lang/CharSequence"), (42, .class_ 48), (0, u "java/lang/CharSequence$1CodePointIterator"), (10, .class_ 60), (0, u "java/lang/CharSequence$1CharIterator"), (5, .class_ 67), (0, u "java/lang/Object")] 63

/-- java/lang/CharSequence -/
def k6 : Class := { plain "java/lang/CharSequence" (some 0) with
  accessFlags := 1537
  interfaces := #[]
  cf := some (fileOf pool6 2 #[.nestMembers #[47, 59]] #[] 1537 66 #[] #[])
  fields := #[]
  methods := #[]
  instanceTypes := #[]
  staticTypes := #[]
  resolved := Array.replicate 131 none
  statics := none }

def pool7 : Array CpInfo := pool [(1, .class_ 2), (0, u "java/lang/constant/Constable"), (0, .class_ 4), (0, u "java/lang/Object")] 6

/-- java/lang/constant/Constable -/
def k7 : Class := { plain "java/lang/constant/Constable" (some 0) with
  accessFlags := 1537
  interfaces := #[]
  cf := some (fileOf pool7 1 #[] #[] 1537 3 #[] #[])
  fields := #[]
  methods := #[]
  instanceTypes := #[]
  staticTypes := #[]
  resolved := Array.replicate 11 none
  statics := none }

def pool8 : Array CpInfo := pool [(1, .class_ 2), (0, u "java/lang/constant/ConstantDesc"), (0, .class_ 4), (0, u "java/lang/Object")] 32

/-- java/lang/constant/ConstantDesc -/
def k8 : Class := { plain "java/lang/constant/ConstantDesc" (some 0) with
  accessFlags := 1537
  interfaces := #[]
  cf := some (fileOf pool8 1 #[] #[] 1537 3 #[] #[])
  fields := #[]
  methods := #[]
  instanceTypes := #[]
  staticTypes := #[]
  resolved := Array.replicate 37 none
  statics := none }

def pool9 : Array CpInfo := pool [(1, .methodref 2 3), (0, .class_ 4), (0, .nameAndType 5 6), (0, u "java/lang/Object"), (0, u "<init>"), (0, u "()V"), (0, .string 8), (0, u ""), (0, .fieldref 10 11), (0, .class_ 12), (0, .nameAndType 13 14), (0, u "java/lang/String"), (0, u "value"), (0, u "[B"), (0, .fieldref 10 16), (0, .nameAndType 17 18), (0, u "coder"), (0, u "B"), (2, u "hash"), (0, u "I"), (2, u "hashIsZero"), (0, u "Z"), (0, .methodref 10 28), (0, .nameAndType 5 29), (0, u "([CIILjava/lang/Void;)V"), (8, .fieldref 10 39), (0, .nameAndType 40 26), (0, u "COMPACT_STRINGS"), (1, .class_ 44), (1, u "java/lang/StringUTF16"), (0, u "compress"), (1, .methodref 42 48), (0, .nameAndType 49 50), (0, u "coderFromArrayLen"), (0, u "([BI)B"), (56, .class_ 109), (1, u "java/lang/StringLatin1"), (67, .methodref 42 178), (0, .nameAndType 45 179), (0, u "([CII)[B"), (361, .methodref 107 542), (0, .nameAndType 543 544), (0, u "equals"), (0, u "([B[B)Z"), (28, u "(Ljava/lang/Object;)Z"), (1, .class_ 576), (0, u "java/lang/CharSequence"), (22, u "CASE_INSENSITIVE_ORDER"), (0, u "Ljava/util/Comparator;"), (409, u "([C)V"), (90, u "serialPersistentFields"), (0, u "[Ljava/io/ObjectStreamField;"), (0, .class_ 1104), (0, u "java/lang/String$CaseInsensitiveComparator"), (1, .class_ 1107), (0, u "java/io/Serializable"), (0, .class_ 1109), (0, u "java/lang/Comparable"), (0, .class_ 1111), (0, u "java/lang/constant/Constable"), (0, .class_ 1113), (0, u "java/lang/constant/ConstantDesc"), (2, u "serialVersionUID"), (0, u "J"), (3, u "REPL"), (0, u "C"), (2, u "LATIN1"), (1, u "UTF16")] 323

def k9m0 : Method := { name := "<init>", desc := "()V", sig := { parameters := [], returnType := none }, accessFlags := 1, code := none }
def k9c1 : Code := { maxStack := 5, maxLocals := 2, code := jdk_42_method_3_code, exceptionTable := #[], attributes := #[] }
def k9m1 : Method := { name := "<init>", desc := "([C)V", sig := { parameters := [(.array .char)], returnType := none }, accessFlags := 1, code := some k9c1 }
def k9c2 : Code := { maxStack := 2, maxLocals := 3, code := jdk_42_method_66_code, exceptionTable := #[], attributes := #[] }
def k9m2 : Method := { name := "equals", desc := "(Ljava/lang/Object;)Z", sig := { parameters := [(.object "java/lang/Object")], returnType := some .boolean }, accessFlags := 1, code := some k9c2 }
def k9c3 : Code := { maxStack := 4, maxLocals := 6, code := jdk_42_method_149_code, exceptionTable := #[], attributes := #[] }
def k9m3 : Method := { name := "<init>", desc := "([CIILjava/lang/Void;)V", sig := { parameters := [(.array .char), .int, .int, (.object "java/lang/Void")], returnType := none }, accessFlags := 2, code := some k9c3 }
/-- java/lang/String -/
def k9 : Class := { plain "java/lang/String" (some 0) with
  accessFlags := 49
  interfaces := #[4, 5, 6, 7, 8]
  cf := some (fileOf pool9 10 #[.nestMembers #[1103]] #[{ accessFlags := 1, nameIndex := 5, descriptorIndex := 6, attributes := #[] }, { accessFlags := 1, nameIndex := 5, descriptorIndex := 1010, attributes := #[] }, { accessFlags := 1, nameIndex := 543, descriptorIndex := 573, attributes := #[] }, { accessFlags := 2, nameIndex := 5, descriptorIndex := 29, attributes := #[] }] 49 2 #[1106, 1108, 575, 1110, 1112] #[{ accessFlags := 18, nameIndex := 13, descriptorIndex := 14, attributes := #[] }, { accessFlags := 18, nameIndex := 17, descriptorIndex := 18, attributes := #[] }, { accessFlags := 2, nameIndex := 21, descriptorIndex := 22, attributes := #[] }, { accessFlags := 2, nameIndex := 25, descriptorIndex := 26, attributes := #[] }, { accessFlags := 26, nameIndex := 1116, descriptorIndex := 1117, attributes := #[] }, { accessFlags := 24, nameIndex := 40, descriptorIndex := 26, attributes := #[] }, { accessFlags := 26, nameIndex := 1101, descriptorIndex := 1102, attributes := #[] }, { accessFlags := 26, nameIndex := 1121, descriptorIndex := 1122, attributes := #[] }, { accessFlags := 25, nameIndex := 599, descriptorIndex := 600, attributes := #[] }, { accessFlags := 24, nameIndex := 1125, descriptorIndex := 18, attributes := #[] }, { accessFlags := 24, nameIndex := 1127, descriptorIndex := 18, attributes := #[] }])
  fields := #[{ name := "value", type := (.array .byte), accessFlags := 18, slot := 0, constantValue := 0 }, { name := "coder", type := .byte, accessFlags := 18, slot := 1, constantValue := 0 }, { name := "hash", type := .int, accessFlags := 2, slot := 2, constantValue := 0 }, { name := "hashIsZero", type := .boolean, accessFlags := 2, slot := 3, constantValue := 0 }, { name := "serialVersionUID", type := .long, accessFlags := 26, slot := 0, constantValue := 0 }, { name := "COMPACT_STRINGS", type := .boolean, accessFlags := 24, slot := 1, constantValue := 0 }, { name := "serialPersistentFields", type := (.array (.object "java/io/ObjectStreamField")), accessFlags := 26, slot := 2, constantValue := 0 }, { name := "REPL", type := .char, accessFlags := 26, slot := 3, constantValue := 0 }, { name := "CASE_INSENSITIVE_ORDER", type := (.object "java/util/Comparator"), accessFlags := 25, slot := 4, constantValue := 0 }, { name := "LATIN1", type := .byte, accessFlags := 24, slot := 5, constantValue := 0 }, { name := "UTF16", type := .byte, accessFlags := 24, slot := 6, constantValue := 0 }]
  methods := #[k9m0, k9m1, k9m2, k9m3]
  instanceTypes := #[(.array .byte), .byte, .int, .boolean]
  staticTypes := #[.long, .boolean, (.array (.object "java/io/ObjectStreamField")), .char, (.object "java/util/Comparator"), .byte, .byte]
  resolved := Array.replicate 1451 none
  statics := some 0 }

def pool10 : Array CpInfo := pool [(6, .class_ 8), (1, u "java/lang/Object"), (0, u "<init>"), (0, u "()V"), (1, .class_ 14), (1, u "java/lang/StringUTF16"), (31, u "$assertionsDisabled"), (0, u "Z"), (13, u "HI_BYTE_SHIFT"), (0, u "I"), (2, u "LO_BYTE_SHIFT"), (49, .methodref 12 116), (0, .nameAndType 117 118), (0, u "compress"), (0, u "([CI[BII)I"), (3, u "([CII)[B"), (138, u "coderFromArrayLen"), (0, u "([BI)B"), (106, .class_ 371), (1, u "java/lang/StringUTF16$LinesSpliterator"), (58, u "MAX_LENGTH"), (196, .class_ 628), (0, u "java/lang/StringUTF16$CodePointsSpliterator"), (0, .class_ 630), (0, u "java/lang/StringUTF16$CharsSpliterator")] 4

def k10m0 : Method := { name := "<init>", desc := "()V", sig := { parameters := [], returnType := none }, accessFlags := 0, code := none }
def k10c1 : Code := { maxStack := 2, maxLocals := 2, code := jdk_52_method_15_code, exceptionTable := #[], attributes := #[] }
def k10m1 : Method := { name := "coderFromArrayLen", desc := "([BI)B", sig := { parameters := [(.array .byte), .int], returnType := some .byte }, accessFlags := 8, code := some k10c1 }
def k10c2 : Code := { maxStack := 5, maxLocals := 6, code := jdk_52_method_16_code, exceptionTable := #[], attributes := #[] }
def k10m2 : Method := { name := "compress", desc := "([CII)[B", sig := { parameters := [(.array .char), .int, .int], returnType := some (.array .byte) }, accessFlags := 9, code := some k10c2 }
def k10c3 : Code := { maxStack := 3, maxLocals := 7, code := jdk_52_method_21_code, exceptionTable := #[], attributes := #[] }
def k10m3 : Method := { name := "compress", desc := "([CI[BII)I", sig := { parameters := [(.array .char), .int, (.array .byte), .int, .int], returnType := some .int }, accessFlags := 9, code := some k10c3 }
/-- java/lang/StringUTF16 -/
def k10 : Class := { plain "java/lang/StringUTF16" (some 0) with
  accessFlags := 48
  interfaces := #[]
  cf := some (fileOf pool10 12 #[.nestMembers #[627, 629, 369]] #[{ accessFlags := 0, nameIndex := 9, descriptorIndex := 10, attributes := #[] }, { accessFlags := 8, nameIndex := 261, descriptorIndex := 262, attributes := #[] }, { accessFlags := 9, nameIndex := 117, descriptorIndex := 122, attributes := #[] }, { accessFlags := 9, nameIndex := 117, descriptorIndex := 118, attributes := #[] }] 48 6 #[] #[{ accessFlags := 26, nameIndex := 61, descriptorIndex := 62, attributes := #[] }, { accessFlags := 26, nameIndex := 65, descriptorIndex := 62, attributes := #[] }, { accessFlags := 24, nameIndex := 430, descriptorIndex := 62, attributes := #[] }, { accessFlags := 4120, nameIndex := 46, descriptorIndex := 47, attributes := #[] }])
  fields := #[{ name := "HI_BYTE_SHIFT", type := .int, accessFlags := 26, slot := 0, constantValue := 0 }, { name := "LO_BYTE_SHIFT", type := .int, accessFlags := 26, slot := 1, constantValue := 0 }, { name := "MAX_LENGTH", type := .int, accessFlags := 24, slot := 2, constantValue := 0 }, { name := "$assertionsDisabled", type := .boolean, accessFlags := 4120, slot := 3, constantValue := 0 }]
  methods := #[k10m0, k10m1, k10m2, k10m3]
  instanceTypes := #[]
  staticTypes := #[.int, .int, .int, .boolean]
  resolved := Array.replicate 635 none
  statics := none }

def pool11 : Array CpInfo := pool [(2, .class_ 4), (1, u "java/lang/Object"), (0, u "<init>"), (0, u "()V"), (35, .class_ 44), (1, u "java/util/Objects"), (0, u "requireNonNull"), (48, u "(Ljava/lang/Object;Ljava/lang/String;)Ljava/lang/Object;")] 89

def k11m0 : Method := { name := "<init>", desc := "()V", sig := { parameters := [], returnType := none }, accessFlags := 2, code := none }
def k11c1 : Code := { maxStack := 3, maxLocals := 2, code := jdk_31_method_11_code, exceptionTable := #[], attributes := #[] }
def k11m1 : Method := { name := "requireNonNull", desc := "(Ljava/lang/Object;Ljava/lang/String;)Ljava/lang/Object;", sig := { parameters := [(.object "java/lang/Object"), (.object "java/lang/String")], returnType := some (.object "java/lang/Object") }, accessFlags := 9, code := some k11c1 }
/-- java/util/Objects -/
def k11 : Class := { plain "java/util/Objects" (some 0) with
  accessFlags := 49
  interfaces := #[]
  cf := some (fileOf pool11 42 #[] #[{ accessFlags := 2, nameIndex := 5, descriptorIndex := 6, attributes := #[] }, { accessFlags := 9, nameIndex := 45, descriptorIndex := 94, attributes := #[] }] 49 2 #[] #[])
  fields := #[]
  methods := #[k11m0, k11m1]
  instanceTypes := #[]
  staticTypes := #[]
  resolved := Array.replicate 184 none
  statics := none }

def pool12 : Array CpInfo := pool [(4, .class_ 6), (1, u "java/lang/Object"), (0, u "<init>"), (0, u "()V"), (5, .class_ 16), (1, u "java/lang/StringLatin1"), (104, u "$assertionsDisabled"), (0, u "Z"), (98, .class_ 223), (1, u "java/lang/StringLatin1$LinesSpliterator"), (57, u "equals"), (0, u "([B[B)Z"), (107, .class_ 391), (0, u "java/lang/StringLatin1$CharsSpliterator")] 3

def k12m0 : Method := { name := "<init>", desc := "()V", sig := { parameters := [], returnType := none }, accessFlags := 0, code := none }
def k12c1 : Code := { maxStack := 3, maxLocals := 3, code := jdk_43_method_13_code, exceptionTable := #[], attributes := #[] }
def k12m1 : Method := { name := "equals", desc := "([B[B)Z", sig := { parameters := [(.array .byte), (.array .byte)], returnType := some .boolean }, accessFlags := 9, code := some k12c1 }
/-- java/lang/StringLatin1 -/
def k12 : Class := { plain "java/lang/StringLatin1" (some 0) with
  accessFlags := 48
  interfaces := #[]
  cf := some (fileOf pool12 14 #[.nestMembers #[390, 221]] #[{ accessFlags := 0, nameIndex := 7, descriptorIndex := 8, attributes := #[] }, { accessFlags := 9, nameIndex := 281, descriptorIndex := 282, attributes := #[] }] 48 4 #[] #[{ accessFlags := 4120, nameIndex := 121, descriptorIndex := 122, attributes := #[] }])
  fields := #[{ name := "$assertionsDisabled", type := .boolean, accessFlags := 4120, slot := 0, constantValue := 0 }]
  methods := #[k12m0, k12m1]
  instanceTypes := #[]
  staticTypes := #[.boolean]
  resolved := Array.replicate 395 none
  statics := none }

def pool13 : Array CpInfo := pool [(2, .class_ 4), (1, u "java/lang/Object"), (0, u "<init>"), (0, u "()V"), (17, .class_ 26), (1, u "jdk/internal/util/Preconditions"), (28, .class_ 56), (0, u "jdk/internal/util/Preconditions$4"), (57, .class_ 115), (0, u "jdk/internal/util/Preconditions$1"), (7, u "SIOOBE_FORMATTER"), (0, u "Ljava/util/function/BiFunction;"), (0, .class_ 126), (0, u "jdk/internal/util/Preconditions$2"), (3, u "AIOOBE_FORMATTER"), (0, .class_ 132), (0, u "jdk/internal/util/Preconditions$3"), (3, u "IOOBE_FORMATTER")] 57

def k13m0 : Method := { name := "<init>", desc := "()V", sig := { parameters := [], returnType := none }, accessFlags := 1, code := none }
/-- jdk/internal/util/Preconditions -/
def k13 : Class := { plain "jdk/internal/util/Preconditions" (some 0) with
  accessFlags := 33
  interfaces := #[]
  cf := some (fileOf pool13 24 #[.nestMembers #[55, 131, 125, 114]] #[{ accessFlags := 1, nameIndex := 5, descriptorIndex := 6, attributes := #[] }] 33 2 #[] #[{ accessFlags := 25, nameIndex := 123, descriptorIndex := 124, attributes := #[] }, { accessFlags := 25, nameIndex := 130, descriptorIndex := 124, attributes := #[] }, { accessFlags := 25, nameIndex := 136, descriptorIndex := 124, attributes := #[] }])
  fields := #[{ name := "SIOOBE_FORMATTER", type := (.object "java/util/function/BiFunction"), accessFlags := 25, slot := 0, constantValue := 0 }, { name := "AIOOBE_FORMATTER", type := (.object "java/util/function/BiFunction"), accessFlags := 25, slot := 1, constantValue := 0 }, { name := "IOOBE_FORMATTER", type := (.object "java/util/function/BiFunction"), accessFlags := 25, slot := 2, constantValue := 0 }]
  methods := #[k13m0]
  instanceTypes := #[]
  staticTypes := #[(.object "java/util/function/BiFunction"), (.object "java/util/function/BiFunction"), (.object "java/util/function/BiFunction")]
  resolved := Array.replicate 194 none
  statics := some 1 }

def pool14 : Array CpInfo := pool [(9, u "<init>"), (6, .class_ 18), (1, u "java/lang/Object"), (0, u "()V"), (1, .class_ 23), (1, u "jdk/internal/util/ArraysSupport"), (0, u "LOG2_ARRAY_LONG_INDEX_SCALE"), (0, u "I"), (2, u "U"), (0, u "Ljdk/internal/misc/Unsafe;"), (8, u "BIG_ENDIAN"), (0, u "Z"), (8, u "LOG2_BYTE_BIT_SIZE"), (4, u "LOG2_ARRAY_INT_INDEX_SCALE"), (54, u "JLA"), (0, u "Ljdk/internal/access/JavaLangAccess;"), (11, u "LOG2_ARRAY_BOOLEAN_INDEX_SCALE"), (9, u "LOG2_ARRAY_BYTE_INDEX_SCALE"), (5, u "LOG2_ARRAY_CHAR_INDEX_SCALE"), (5, u "LOG2_ARRAY_SHORT_INDEX_SCALE"), (18, u "LOG2_ARRAY_FLOAT_INDEX_SCALE"), (24, u "LOG2_ARRAY_DOUBLE_INDEX_SCALE"), (89, u "T_BOOLEAN"), (2, u "T_CHAR"), (1, u "T_FLOAT"), (1, u "T_DOUBLE"), (1, u "T_BYTE"), (1, u "T_SHORT"), (1, u "T_INT"), (1, u "T_LONG"), (1, u "SOFT_MAX_ARRAY_LENGTH")] 83

def k14m0 : Method := { name := "<init>", desc := "()V", sig := { parameters := [], returnType := none }, accessFlags := 2, code := none }
/-- jdk/internal/util/ArraysSupport -/
def k14 : Class := { plain "jdk/internal/util/ArraysSupport" (some 0) with
  accessFlags := 33
  interfaces := #[]
  cf := some (fileOf pool14 21 #[] #[{ accessFlags := 2, nameIndex := 9, descriptorIndex := 19, attributes := #[] }] 33 16 #[] #[{ accessFlags := 24, nameIndex := 28, descriptorIndex := 29, attributes := #[] }, { accessFlags := 26, nameIndex := 38, descriptorIndex := 39, attributes := #[] }, { accessFlags := 25, nameIndex := 121, descriptorIndex := 25, attributes := #[] }, { accessFlags := 25, nameIndex := 131, descriptorIndex := 25, attributes := #[] }, { accessFlags := 25, nameIndex := 137, descriptorIndex := 25, attributes := #[] }, { accessFlags := 25, nameIndex := 143, descriptorIndex := 25, attributes := #[] }, { accessFlags := 25, nameIndex := 53, descriptorIndex := 25, attributes := #[] }, { accessFlags := 25, nameIndex := 24, descriptorIndex := 25, attributes := #[] }, { accessFlags := 25, nameIndex := 162, descriptorIndex := 25, attributes := #[] }, { accessFlags := 25, nameIndex := 187, descriptorIndex := 25, attributes := #[] }, { accessFlags := 26, nameIndex := 48, descriptorIndex := 25, attributes := #[] }, { accessFlags := 25, nameIndex := 277, descriptorIndex := 25, attributes := #[] }, { accessFlags := 25, nameIndex := 280, descriptorIndex := 25, attributes := #[] }, { accessFlags := 25, nameIndex := 282, descriptorIndex := 25, attributes := #[] }, { accessFlags := 25, nameIndex := 284, descriptorIndex := 25, attributes := #[] }, { accessFlags := 25, nameIndex := 286, descriptorIndex := 25, attributes := #[] }, { accessFlags := 25, nameIndex := 288, descriptorIndex := 25, attributes := #[] }, { accessFlags := 25, nameIndex := 290, descriptorIndex := 25, attributes := #[] }, { accessFlags := 25, nameIndex := 292, descriptorIndex := 25, attributes := #[] }, { accessFlags := 26, nameIndex := 108, descriptorIndex := 109, attributes := #[] }, { accessFlags := 25, nameIndex := 294, descriptorIndex := 25, attributes := #[] }])
  fields := #[{ name := "U", type := (.object "jdk/internal/misc/Unsafe"), accessFlags := 24, slot := 0, constantValue := 0 }, { name := "BIG_ENDIAN", type := .boolean, accessFlags := 26, slot := 1, constantValue := 0 }, { name := "LOG2_ARRAY_BOOLEAN_INDEX_SCALE", type := .int, accessFlags := 25, slot := 2, constantValue := 0 }, { name := "LOG2_ARRAY_BYTE_INDEX_SCALE", type := .int, accessFlags := 25, slot := 3, constantValue := 0 }, { name := "LOG2_ARRAY_CHAR_INDEX_SCALE", type := .int, accessFlags := 25, slot := 4, constantValue := 0 }, { name := "LOG2_ARRAY_SHORT_INDEX_SCALE", type := .int, accessFlags := 25, slot := 5, constantValue := 0 }, { name := "LOG2_ARRAY_INT_INDEX_SCALE", type := .int, accessFlags := 25, slot := 6, constantValue := 0 }, { name := "LOG2_ARRAY_LONG_INDEX_SCALE", type := .int, accessFlags := 25, slot := 7, constantValue := 0 }, { name := "LOG2_ARRAY_FLOAT_INDEX_SCALE", type := .int, accessFlags := 25, slot := 8, constantValue := 0 }, { name := "LOG2_ARRAY_DOUBLE_INDEX_SCALE", type := .int, accessFlags := 25, slot := 9, constantValue := 0 }, { name := "LOG2_BYTE_BIT_SIZE", type := .int, accessFlags := 26, slot := 10, constantValue := 0 }, { name := "T_BOOLEAN", type := .int, accessFlags := 25, slot := 11, constantValue := 0 }, { name := "T_CHAR", type := .int, accessFlags := 25, slot := 12, constantValue := 0 }, { name := "T_FLOAT", type := .int, accessFlags := 25, slot := 13, constantValue := 0 }, { name := "T_DOUBLE", type := .int, accessFlags := 25, slot := 14, constantValue := 0 }, { name := "T_BYTE", type := .int, accessFlags := 25, slot := 15, constantValue := 0 }, { name := "T_SHORT", type := .int, accessFlags := 25, slot := 16, constantValue := 0 }, { name := "T_INT", type := .int, accessFlags := 25, slot := 17, constantValue := 0 }, { name := "T_LONG", type := .int, accessFlags := 25, slot := 18, constantValue := 0 }, { name := "JLA", type := (.object "jdk/internal/access/JavaLangAccess"), accessFlags := 26, slot := 19, constantValue := 0 }, { name := "SOFT_MAX_ARRAY_LENGTH", type := .int, accessFlags := 25, slot := 20, constantValue := 0 }]
  methods := #[k14m0]
  instanceTypes := #[]
  staticTypes := #[(.object "jdk/internal/misc/Unsafe"), .boolean, .int, .int, .int, .int, .int, .int, .int, .int, .int, .int, .int, .int, .int, .int, .int, .int, .int, (.object "jdk/internal/access/JavaLangAccess"), .int]
  resolved := Array.replicate 378 none
  statics := none }

def pool15 : Array CpInfo := pool [(1, u "java/lang/Cloneable"), (0, .class_ 1), (0, u "java/lang/Object"), (0, .class_ 3)] 3

/-- java/lang/Cloneable -/
def k15 : Class := { plain "java/lang/Cloneable" (some 0) with
  accessFlags := 1537
  interfaces := #[]
  cf := some (fileOf pool15 2 #[] #[] 1537 4 #[] #[])
  fields := #[]
  methods := #[]
  instanceTypes := #[]
  staticTypes := #[]
  resolved := Array.replicate 8 none
  statics := none }

/-- the primitive byte -/
def k16 : Class := { plain "byte" none with kind := .primitive 'B', accessFlags := 0x411 }
/-- [B -/
def k17 : Class := { plain "[B" (some 0) with kind := .array 16 .byte, interfaces := #[15, 4], accessFlags := 1041 }

/-- the primitive char -/
def k18 : Class := { plain "char" none with kind := .primitive 'C', accessFlags := 0x411 }
/-- [C -/
def k19 : Class := { plain "[C" (some 0) with kind := .array 18 .char, interfaces := #[15, 4], accessFlags := 1041 }

/-- the primitive int -/
def k20 : Class := { plain "int" none with kind := .primitive 'I', accessFlags := 0x411 }
/-- [I -/
def k21 : Class := { plain "[I" (some 0) with kind := .array 20 .int, interfaces := #[15, 4], accessFlags := 1041 }

def heap : Heap := #[{ cls := 9, slots := #[.long 0, .int 1, .null, .int 0, .null, .int 0, .int 0], vm := .statics 9 },
  { cls := 13, slots := #[.null, .null, .null], vm := .statics 13 }]
def classes : Array Class := #[k0, k1, k2, k3, k4, k5, k6, k7, k8, k9, k10, k11, k12, k13, k14, k15, k16, k17, k18, k19, k20, k21]
def interned : List (Array UInt16 × Addr) := []
def slotsUsed : Nat := 10
def theMethod : MethodId := ⟨1, 1⟩
def args0 : Array Value := #[.int 5, .int 5, .int 5, .int 5, .int 5, .int 5]
def aboutOver (below : List Frame) : State where
  vm := { classes := classes, interned := interned.toArray }
  heap := heap
  slotsUsed := slotsUsed
  threads := #[{ frames := .invoking theMethod args0 :: below }]
def below0 : List Frame := [.native { method := ⟨0, 0⟩, args := #[] }]
def about1 : State := aboutOver below0
def p0 : Program := .bare "" "" ""
def e0 : Env := launch0.env 0 0 0
theorem w_frames : about1.frames = Frame.invoking theMethod args0 :: below0 := rfl
set_option maxRecDepth 65536 in
theorem w_args : argsFit about1.vm theMethod args0 = true := by decide +kernel
set_option maxRecDepth 65536 in
theorem w_heap : heapFits about1 = true := by decide +kernel
set_option maxRecDepth 65536 in
theorem w_runnable : about1.curStatus? = some .runnable := by decide +kernel
set_option maxRecDepth 65536 in
theorem w_alone : about1.alone = true := by decide +kernel
set_option maxRecDepth 65536 in
theorem w_named : about1.methodNamed? x = some theMethod := by decide +kernel
set_option maxRecDepth 65536 in
theorem w_hears : about1.hears theMethod below0 = true := by decide +kernel
set_option maxRecDepth 65536 in
theorem w_ripe : about1.ripe theMethod args0 below0 = true := by decide +kernel
theorem w_running : about1.status = .running := rfl
set_option maxRecDepth 65536 in
theorem w_room : about1.hasRoom e0.platform room_1 = true :=
  launch0.hasRoom_least _ room_1 (by decide +kernel) (by decide +kernel) (by decide +kernel) (by decide +kernel) (by decide +kernel) (by decide +kernel)
theorem allAtoms_all (ts : List Jvm.Cond) (a : Array Jvm.Value) (st : Jvm.State) : (allAtoms ts).before a st = ts.all (fun c => c.before a st) := by
  induction ts with
  | nil => rfl
  | cons c t ih =>
    show (Jvm.Cond.and c (allAtoms t)).before a st = _
    rw [Jvm.Cond.before_and, ih, List.all_cons]
def words1 : List Jvm.Cond := Jvm.Cond.code x code maxLocals ret :: tables_1
/-- a 'code' word, met by the world's own term for the bytes: nothing is compared byte by byte -/
theorem code_word {y : MethodName} {bytes : ByteArray} {mx : Nat} {rt : Option FieldType} {a : Array Value} {s : State} {m : MethodId} {meth : Method} {c : Code} (h1 : s.methodNamed? y = some m) (h2 : s.vm.method? m = some meth) (h3 : meth.code = some c) (h4 : c.code = bytes)
    (h5 : (c.maxLocals == mx && c.exceptionTable.isEmpty && decide (c.maxStack ≤ mostOperands) && decide (meth.sig.returnType = rt) && !meth.locks && decide (parseMethodDescriptor y.desc = some meth.sig)) = true) : (Jvm.Cond.code y bytes mx rt).before a s = true := by
  simp only [Bool.and_eq_true, beq_iff_eq, Bool.not_eq_true', decide_eq_true_eq] at h5
  obtain ⟨⟨⟨⟨⟨g1, g2⟩, g3⟩, g4⟩, g5⟩, g6⟩ := h5
  simp [Cond.before, Cond.holds, Cond.value, h1, h2, h3, h4, g1, g2, g3, g4, g5, g6]
def isCode : Jvm.Cond → Bool
  | .code _ _ _ _ => true
  | _ => false
theorem all_split {L : List Jvm.Cond} {P : Jvm.Cond → Bool} (h1 : L.all (fun c => isCode c || P c) = true) (h2 : ∀ c ∈ L.filter isCode, P c = true) : L.all P = true := by
  refine List.all_eq_true.mpr fun c hc => ?_
  have h := List.all_eq_true.mp h1 c hc
  rcases Bool.eq_false_or_eq_true (isCode c) with hi | hi
  · exact h2 c (List.mem_filter.mpr ⟨hc, hi⟩)
  · simpa [hi] using h
set_option maxRecDepth 65536 in
theorem w_c0 : (Jvm.Cond.code x code maxLocals ret).before args0 about1 = true := code_word (m := ⟨1, 1⟩) (meth := k1m1) (c := k1c1) (by decide +kernel) rfl rfl rfl (by decide +kernel)
set_option maxRecDepth 65536 in
theorem w_c1 : (Jvm.Cond.code ({ cls := "com/example/indenture/indenture/model/IdentifierMatchesPinLaw", name := "chars", desc := "(I)[C" } : Jvm.MethodName) method_3_code (5 : Nat) (Option.some (Jvm.ClassFile.FieldType.array Jvm.ClassFile.FieldType.char))).before args0 about1 = true := code_word (m := ⟨1, 2⟩) (meth := k1m2) (c := k1c2) (by decide +kernel) rfl rfl rfl (by decide +kernel)
set_option maxRecDepth 65536 in
theorem w_c2 : (Jvm.Cond.code ({ cls := "java/lang/String", name := "<init>", desc := "([C)V" } : Jvm.MethodName) jdk_42_method_3_code (2 : Nat) (Option.none : Option Jvm.ClassFile.FieldType)).before args0 about1 = true := code_word (m := ⟨9, 1⟩) (meth := k9m1) (c := k9c1) (by decide +kernel) rfl rfl rfl (by decide +kernel)
set_option maxRecDepth 65536 in
theorem w_c3 : (Jvm.Cond.code ({ cls := "java/lang/String", name := "<init>", desc := "([CIILjava/lang/Void;)V" } : Jvm.MethodName) jdk_42_method_149_code (6 : Nat) (Option.none : Option Jvm.ClassFile.FieldType)).before args0 about1 = true := code_word (m := ⟨9, 3⟩) (meth := k9m3) (c := k9c3) (by decide +kernel) rfl rfl rfl (by decide +kernel)
set_option maxRecDepth 65536 in
theorem w_c4 : (Jvm.Cond.code ({ cls := "java/lang/Object", name := "<init>", desc := "()V" } : Jvm.MethodName) object_method_1_code (1 : Nat) (Option.none : Option Jvm.ClassFile.FieldType)).before args0 about1 = true := code_word (m := ⟨0, 0⟩) (meth := k0m0) (c := k0c0) (by decide +kernel) rfl rfl rfl (by decide +kernel)
set_option maxRecDepth 65536 in
theorem w_c5 : (Jvm.Cond.code ({ cls := "java/lang/StringUTF16", name := "compress", desc := "([CII)[B" } : Jvm.MethodName) jdk_52_method_16_code (6 : Nat) (Option.some (Jvm.ClassFile.FieldType.array Jvm.ClassFile.FieldType.byte))).before args0 about1 = true := code_word (m := ⟨10, 2⟩) (meth := k10m2) (c := k10c2) (by decide +kernel) rfl rfl rfl (by decide +kernel)
set_option maxRecDepth 65536 in
theorem w_c6 : (Jvm.Cond.code ({ cls := "java/lang/StringUTF16", name := "compress", desc := "([CI[BII)I" } : Jvm.MethodName) jdk_52_method_21_code (7 : Nat) (Option.some Jvm.ClassFile.FieldType.int)).before args0 about1 = true := code_word (m := ⟨10, 3⟩) (meth := k10m3) (c := k10c3) (by decide +kernel) rfl rfl rfl (by decide +kernel)
set_option maxRecDepth 65536 in
theorem w_c7 : (Jvm.Cond.code ({ cls := "java/lang/StringUTF16", name := "coderFromArrayLen", desc := "([BI)B" } : Jvm.MethodName) jdk_52_method_15_code (2 : Nat) (Option.some Jvm.ClassFile.FieldType.byte)).before args0 about1 = true := code_word (m := ⟨10, 1⟩) (meth := k10m1) (c := k10c1) (by decide +kernel) rfl rfl rfl (by decide +kernel)
set_option maxRecDepth 65536 in
theorem w_c8 : (Jvm.Cond.code ({ cls := "com/example/indenture/indenture/model/Identifier", name := "<init>", desc := "(Ljava/lang/String;Ljava/lang/String;Ljava/lang/String;Ljava/lang/String;)V" } : Jvm.MethodName) prog_23_method_1_code (5 : Nat) (Option.none : Option Jvm.ClassFile.FieldType)).before args0 about1 = true := code_word (m := ⟨3, 0⟩) (meth := k3m0) (c := k3c0) (by decide +kernel) rfl rfl rfl (by decide +kernel)
set_option maxRecDepth 65536 in
theorem w_c9 : (Jvm.Cond.code ({ cls := "java/lang/Record", name := "<init>", desc := "()V" } : Jvm.MethodName) jdk_30_method_1_code (1 : Nat) (Option.none : Option Jvm.ClassFile.FieldType)).before args0 about1 = true := code_word (m := ⟨2, 0⟩) (meth := k2m0) (c := k2c0) (by decide +kernel) rfl rfl rfl (by decide +kernel)
set_option maxRecDepth 65536 in
theorem w_c10 : (Jvm.Cond.code ({ cls := "java/util/Objects", name := "requireNonNull", desc := "(Ljava/lang/Object;Ljava/lang/String;)Ljava/lang/Object;" } : Jvm.MethodName) jdk_31_method_11_code (2 : Nat) (Option.some (Jvm.ClassFile.FieldType.object "java/lang/Object"))).before args0 about1 = true := code_word (m := ⟨11, 1⟩) (meth := k11m1) (c := k11c1) (by decide +kernel) rfl rfl rfl (by decide +kernel)
set_option maxRecDepth 65536 in
theorem w_c11 : (Jvm.Cond.code ({ cls := "com/example/indenture/indenture/model/Identifier", name := "matches", desc := "(Ljava/lang/String;Ljava/lang/String;Ljava/lang/String;)Z" } : Jvm.MethodName) prog_23_method_2_code (4 : Nat) (Option.some Jvm.ClassFile.FieldType.boolean)).before args0 about1 = true := code_word (m := ⟨3, 1⟩) (meth := k3m1) (c := k3c1) (by decide +kernel) rfl rfl rfl (by decide +kernel)
set_option maxRecDepth 65536 in
theorem w_c12 : (Jvm.Cond.code ({ cls := "com/example/indenture/indenture/model/Identifier", name := "fieldMatches", desc := "(Ljava/lang/String;Ljava/lang/String;)Z" } : Jvm.MethodName) prog_23_method_5_code (2 : Nat) (Option.some Jvm.ClassFile.FieldType.boolean)).before args0 about1 = true := code_word (m := ⟨3, 2⟩) (meth := k3m2) (c := k3c2) (by decide +kernel) rfl rfl rfl (by decide +kernel)
set_option maxRecDepth 65536 in
theorem w_c13 : (Jvm.Cond.code ({ cls := "java/lang/String", name := "equals", desc := "(Ljava/lang/Object;)Z" } : Jvm.MethodName) jdk_42_method_66_code (3 : Nat) (Option.some Jvm.ClassFile.FieldType.boolean)).before args0 about1 = true := code_word (m := ⟨9, 2⟩) (meth := k9m2) (c := k9c2) (by decide +kernel) rfl rfl rfl (by decide +kernel)
set_option maxRecDepth 65536 in
theorem w_c14 : (Jvm.Cond.code ({ cls := "java/lang/StringLatin1", name := "equals", desc := "([B[B)Z" } : Jvm.MethodName) jdk_43_method_13_code (3 : Nat) (Option.some Jvm.ClassFile.FieldType.boolean)).before args0 about1 = true := code_word (m := ⟨12, 1⟩) (meth := k12m1) (c := k12c1) (by decide +kernel) rfl rfl rfl (by decide +kernel)
set_option maxRecDepth 65536 in
theorem w_c15 : (Jvm.Cond.code ({ cls := "com/example/indenture/indenture/model/IdentifierMatchesPinLaw", name := "field", desc := "([C[C)Z" } : Jvm.MethodName) method_6_code (2 : Nat) (Option.some Jvm.ClassFile.FieldType.boolean)).before args0 about1 = true := code_word (m := ⟨1, 5⟩) (meth := k1m5) (c := k1c5) (by decide +kernel) rfl rfl rfl (by decide +kernel)
set_option maxRecDepth 65536 in
theorem w_c16 : (Jvm.Cond.code ({ cls := "com/example/indenture/indenture/model/IdentifierMatchesPinLaw", name := "isAny", desc := "([C)Z" } : Jvm.MethodName) method_4_code (1 : Nat) (Option.some Jvm.ClassFile.FieldType.boolean)).before args0 about1 = true := code_word (m := ⟨1, 3⟩) (meth := k1m3) (c := k1c3) (by decide +kernel) rfl rfl rfl (by decide +kernel)
set_option maxRecDepth 65536 in
theorem w_c17 : (Jvm.Cond.code ({ cls := "com/example/indenture/indenture/model/IdentifierMatchesPinLaw", name := "same", desc := "([C[C)Z" } : Jvm.MethodName) method_5_code (2 : Nat) (Option.some Jvm.ClassFile.FieldType.boolean)).before args0 about1 = true := code_word (m := ⟨1, 4⟩) (meth := k1m4) (c := k1c4) (by decide +kernel) rfl rfl rfl (by decide +kernel)
def codes1 : List Jvm.Cond := [Jvm.Cond.code x code maxLocals ret, Jvm.Cond.code ({ cls := "com/example/indenture/indenture/model/IdentifierMatchesPinLaw", name := "chars", desc := "(I)[C" } : Jvm.MethodName) method_3_code (5 : Nat) (Option.some (Jvm.ClassFile.FieldType.array Jvm.ClassFile.FieldType.char)), Jvm.Cond.code ({ cls := "java/lang/String", name := "<init>", desc := "([C)V" } : Jvm.MethodName) jdk_42_method_3_code (2 : Nat) (Option.none : Option Jvm.ClassFile.FieldType), Jvm.Cond.code ({ cls := "java/lang/String", name := "<init>", desc := "([CIILjava/lang/Void;)V" } : Jvm.MethodName) jdk_42_method_149_code (6 : Nat) (Option.none : Option Jvm.ClassFile.FieldType), Jvm.Cond.code ({ cls := "java/lang/Object", name := "<init>", desc := "()V" } : Jvm.MethodName) object_method_1_code (1 : Nat) (Option.none : Option Jvm.ClassFile.FieldType), Jvm.Cond.code ({ cls := "java/lang/StringUTF16", name := "compress", desc := "([CII)[B" } : Jvm.MethodName) jdk_52_method_16_code (6 : Nat) (Option.some (Jvm.ClassFile.FieldType.array Jvm.ClassFile.FieldType.byte)), Jvm.Cond.code ({ cls := "java/lang/StringUTF16", name := "compress", desc := "([CI[BII)I" } : Jvm.MethodName) jdk_52_method_21_code (7 : Nat) (Option.some Jvm.ClassFile.FieldType.int), Jvm.Cond.code ({ cls := "java/lang/StringUTF16", name := "coderFromArrayLen", desc := "([BI)B" } : Jvm.MethodName) jdk_52_method_15_code (2 : Nat) (Option.some Jvm.ClassFile.FieldType.byte), Jvm.Cond.code ({ cls := "com/example/indenture/indenture/model/Identifier", name := "<init>", desc := "(Ljava/lang/String;Ljava/lang/String;Ljava/lang/String;Ljava/lang/String;)V" } : Jvm.MethodName) prog_23_method_1_code (5 : Nat) (Option.none : Option Jvm.ClassFile.FieldType), Jvm.Cond.code ({ cls := "java/lang/Record", name := "<init>", desc := "()V" } : Jvm.MethodName) jdk_30_method_1_code (1 : Nat) (Option.none : Option Jvm.ClassFile.FieldType), Jvm.Cond.code ({ cls := "java/util/Objects", name := "requireNonNull", desc := "(Ljava/lang/Object;Ljava/lang/String;)Ljava/lang/Object;" } : Jvm.MethodName) jdk_31_method_11_code (2 : Nat) (Option.some (Jvm.ClassFile.FieldType.object "java/lang/Object")), Jvm.Cond.code ({ cls := "com/example/indenture/indenture/model/Identifier", name := "matches", desc := "(Ljava/lang/String;Ljava/lang/String;Ljava/lang/String;)Z" } : Jvm.MethodName) prog_23_method_2_code (4 : Nat) (Option.some Jvm.ClassFile.FieldType.boolean), Jvm.Cond.code ({ cls := "com/example/indenture/indenture/model/Identifier", name := "fieldMatches", desc := "(Ljava/lang/String;Ljava/lang/String;)Z" } : Jvm.MethodName) prog_23_method_5_code (2 : Nat) (Option.some Jvm.ClassFile.FieldType.boolean), Jvm.Cond.code ({ cls := "java/lang/String", name := "equals", desc := "(Ljava/lang/Object;)Z" } : Jvm.MethodName) jdk_42_method_66_code (3 : Nat) (Option.some Jvm.ClassFile.FieldType.boolean), Jvm.Cond.code ({ cls := "java/lang/StringLatin1", name := "equals", desc := "([B[B)Z" } : Jvm.MethodName) jdk_43_method_13_code (3 : Nat) (Option.some Jvm.ClassFile.FieldType.boolean), Jvm.Cond.code ({ cls := "com/example/indenture/indenture/model/IdentifierMatchesPinLaw", name := "field", desc := "([C[C)Z" } : Jvm.MethodName) method_6_code (2 : Nat) (Option.some Jvm.ClassFile.FieldType.boolean), Jvm.Cond.code ({ cls := "com/example/indenture/indenture/model/IdentifierMatchesPinLaw", name := "isAny", desc := "([C)Z" } : Jvm.MethodName) method_4_code (1 : Nat) (Option.some Jvm.ClassFile.FieldType.boolean), Jvm.Cond.code ({ cls := "com/example/indenture/indenture/model/IdentifierMatchesPinLaw", name := "same", desc := "([C[C)Z" } : Jvm.MethodName) method_5_code (2 : Nat) (Option.some Jvm.ClassFile.FieldType.boolean)]
set_option maxRecDepth 65536 in
theorem codes_eq : words1.filter isCode = codes1 := rfl
theorem w_codes : ∀ c ∈ words1.filter isCode, c.before args0 about1 = true := by
  rw [codes_eq]
  intro c hc
  simp only [codes1, List.mem_cons, List.not_mem_nil, or_false] at hc
  rcases hc with rfl | rfl | rfl | rfl | rfl | rfl | rfl | rfl | rfl | rfl | rfl | rfl | rfl | rfl | rfl | rfl | rfl | rfl
  · exact w_c0
  · exact w_c1
  · exact w_c2
  · exact w_c3
  · exact w_c4
  · exact w_c5
  · exact w_c6
  · exact w_c7
  · exact w_c8
  · exact w_c9
  · exact w_c10
  · exact w_c11
  · exact w_c12
  · exact w_c13
  · exact w_c14
  · exact w_c15
  · exact w_c16
  · exact w_c17
set_option maxRecDepth 65536 in
theorem w_t1 : (words1.take 24).all (fun c => isCode c || c.before args0 about1) = true := by decide +kernel
set_option maxRecDepth 65536 in
theorem w_t2 : ((words1.drop 24).take 24).all (fun c => isCode c || c.before args0 about1) = true := by decide +kernel
set_option maxRecDepth 65536 in
theorem w_t3 : (((words1.drop 24).drop 24).take 24).all (fun c => isCode c || c.before args0 about1) = true := by decide +kernel
set_option maxRecDepth 65536 in
theorem w_t4 : (((words1.drop 24).drop 24).drop 24).all (fun c => isCode c || c.before args0 about1) = true := by decide +kernel
theorem w_tables : (allAtoms (Jvm.Cond.code x code maxLocals ret :: tables_1)).before args0 about1 = true := by
  rw [allAtoms_all]
  show words1.all (fun c => c.before args0 about1) = true
  refine all_split ?_ w_codes
  rw [← List.take_append_drop 24 words1, List.all_append, w_t1, ← List.take_append_drop 24 (words1.drop 24), List.all_append, w_t2, ← List.take_append_drop 24 ((words1.drop 24).drop 24), List.all_append, w_t3, w_t4]
  rfl
set_option maxRecDepth 65536 in
theorem w_rest : rest_1_c.before args0 about1 = true := by decide +kernel
set_option maxRecDepth 65536 in
theorem w_case : (Jvm.Cond.and given_1 narrow_1).before args0 about1 = true := by decide +kernel
set_option maxRecDepth 65536 in
theorem w_consts : constsHeld consts_1 about1 := Jvm.Lit.constsHeldB_iff.mp (by decide +kernel)
theorem w_applies : (headSpec (Jvm.Cond.code x code maxLocals ret :: tables_1) room_1).applies x e0.platform about1 = true :=
  (Spec.applies_iff w_frames).mpr ⟨w_running, w_runnable, w_alone, w_named, w_hears, w_ripe, w_room, w_tables⟩
theorem atStart : AtStart classFile x code maxLocals ret World_1 tables_1 room_1 Calls_1 rest_1 Pre_1 launch0 p0 e0 about1 theMethod args0 below0 :=
  ⟨lists_1, trivial, launch0.admits_env _ _ _, launch0.least_env, fairChoices_fair.cas, fairChoices_fair.clock, w_frames, w_args, w_heap, w_applies, ⟨w_consts, trivial⟩, w_rest, w_case⟩
end start1
theorem witness_1 : WitnessClaimed_1 := ⟨start1.p0, start1.e0, start1.about1, start1.theMethod, start1.args0, start1.below0, start1.atStart⟩
end Jvm.Pilot.@@N@@
