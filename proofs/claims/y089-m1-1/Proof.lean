import JvmDerived
import JvmDerived.Pilot.@@N@@Statement
import JvmDerived.Pilot.@@N@@Code
set_option linter.unusedVariables false
set_option linter.unusedSimpArgs false
namespace Jvm.Pilot.@@N@@
open Jvm Jvm.ClassFile Sem Op Lib Jvm.Free Jvm.Stand Jvm.LawKit Jvm.RoadKit Bundle Jvm.Pilot.@@N@@.Jvm.D
theorem wdx {a0 : Array Value} {Z : State} (hw : ∀ d ∈ tables_1, d.before a0 Z = true) (i : Nat) {d : Jvm.Cond} (h : tables_1[i]? = some d) : d.before a0 Z = true := hw d (List.mem_of_getElem? h)
/-! the walk in one predicate: from S the run comes to an end at which Q holds -/
def Go (p : Program) (e : Env) (below : List Frame) (s : State) (rc rs : Nat) (Q : Option Value → Heap → List Loc → Prop) (S : State) : Prop :=
  ∃ t o, Steps p.tables e below S t ∧ t.status = .running ∧ Ended t below o ∧ ∃ v L, o = .returned v ∧ Q v t.heap L ∧ FrameEnd s o t L rc rs
section Pre
variable {p : Program} {l : Launch} {e : Env} {R : Room} {s : State} {m : MethodId} {args : Array Value} {below : List Frame} {meth : Method} {c : Code} {T : State} {locs : List Loc} {cells slots rc rs : Nat} {Q : Option Value → Heap → List Loc → Prop} {S S' : State} {h : Heap} {Z : State} {n0 : Nat}
theorem Go.st (k : ∀ t, Steps p.tables e below S' t → Steps p.tables e below S t) (g : Go p e below s rc rs Q S') : Go p e below s rc rs Q S := by
  obtain ⟨t, o, h, r⟩ := g; exact ⟨t, o, k t h, r⟩
theorem Go.tr (k : Steps p.tables e below S S') (g : Go p e below s rc rs Q S') : Go p e below s rc rs Q S := by
  obtain ⟨t, o, h, r⟩ := g; exact ⟨t, o, k.trans h, r⟩
theorem Go.ret (X : Stand p l e R s m args below meth c T locs cells slots) (hx : p.tables.exec = Jvm.exec) (hlk : meth.locks = false) {pc : Nat} {Ls : Array Slot} {w : Value} {t : FieldType} {i : Instr} {rest : List Value} (hret : meth.sig.returnType = some t) (hn : narrow t w = w)
    (hi : (i = .ireturn ∧ (t = .int ∨ t = .boolean ∨ t = .byte ∨ t = .char ∨ t = .short) ∧ ∃ z, w = .int z) ∨ (i = .lreturn ∧ t = .long ∧ ∃ z, w = .long z) ∨ (i = .dreturn ∧ t = .double ∧ ∃ z, w = .double z) ∨ (i = .freturn ∧ t = .float ∧ ∃ z, w = .float z) ∨ (i = .areturn ∧ t.isReference = true ∧ w.isRef = true))
    (hd : decode c.code pc = .ok (i, 1)) (hc : cells ≤ rc) (hs : slots ≤ rs) (hh : T.heap = h) (hq : Q (some w) h locs) : Go p e below s rc rs Q (T.setTop (mkF m pc Ls (w :: rest))) := by
  obtain ⟨fs, hr, hrun, hended, hW, hsame⟩ := X.leave (v := some w) (fun h => by rw [hret] at h; cases h) hlk
  subst hh
  exact ⟨_, _, retOut X hx hret hn hi hd hr, hrun, hended, _, _, rfl, hq, ⟨_, rfl⟩, hW, hsame.mono hc hs⟩
theorem Go.retB (X : Stand p l e R s m args below meth c T locs cells slots) (hx : p.tables.exec = Jvm.exec) (hlk : meth.locks = false) {pc : Nat} {Ls : Array Slot} {z : Int32} {t : FieldType} {rest : List Value} (hret : meth.sig.returnType = some t) (ht : t = .boolean ∨ t = .byte ∨ t = .char ∨ t = .short)
    (hd : decode c.code pc = .ok (.ireturn, 1)) (hc : cells ≤ rc) (hs : slots ≤ rs) (hh : T.heap = h) (hq : Q (some (.int (nar t z))) h locs) : Go p e below s rc rs Q (T.setTop (mkF m pc Ls (.int z :: rest))) := by
  obtain ⟨fs, hr, hrun, hended, hW, hsame⟩ := X.leave (v := some (.int (nar t z))) (fun h => by rw [hret] at h; cases h) hlk
  subst hh
  exact ⟨_, _, retN X hx hret ht hd hr, hrun, hended, _, _, rfl, hq, ⟨_, rfl⟩, hW, hsame.mono hc hs⟩
theorem Go.retV (X : Stand p l e R s m args below meth c T locs cells slots) (hx : p.tables.exec = Jvm.exec) (hlk : meth.locks = false) {pc : Nat} {Ls : Array Slot} (hret : meth.sig.returnType = none)
    (hd : decode c.code pc = .ok (.return_, 1)) (hc : cells ≤ rc) (hs : slots ≤ rs) (hh : T.heap = h) (hq : Q none h locs) : Go p e below s rc rs Q (T.setTop (mkF m pc Ls [])) := by
  obtain ⟨fs, hr, hrun, hended, hW, hsame⟩ := X.leave (v := none) (fun _ => rfl) hlk
  subst hh
  exact ⟨_, _, X.returnOut hx hret hd hr, hrun, hended, _, _, rfl, hq, ⟨_, rfl⟩, hW, hsame.mono hc hs⟩
theorem own_le (O : Old Z n0 h) : n0 ≤ h.size := O.1 ▸ O.2.1
theorem own_nb (b : Bool) : nar .boolean (if b then 1 else 0) = if b then 1 else 0 := by cases b <;> rfl
end Pre
/-- a cache of boxes: an old array, each element an object of the class K -/
def Bxw (Z : State) (a : Addr) (cl : Cell) (K : String) : Prop := Arr Z Z.heap a cl (.object K) ∧ cl.slots.size = 256 ∧ ∀ j : Int32, ¬ (j < 0 ∨ cl.slots.size ≤ j.toNatClampNeg) → ∃ b : Addr, cl.slots[j.toNatClampNeg]? = some (.ref b) ∧ Exa Z Z.heap b K
theorem own_nsa {a0 : Array Value} {Z : State} {O K : String} {kk : Nat} (w : (Jvm.Cond.noSuperclass O).before a0 Z = true) (wk : (Jvm.Cond.instantiable K kk).before a0 Z = true) (hn : O ≠ K) : NS Z O K := by
  obtain ⟨c, k, h1, h2, h3, -, -⟩ := Cond.noSuperclass_spec w
  obtain ⟨u, k2, g1, -⟩ := Cond.instantiable_spec wk
  have ne := ids_ne h1 g1 hn
  refine ⟨c, u, h1, g1, fun fuel => ?_⟩
  cases fuel with
  | zero => rfl
  | succ f => simp [Vm.isSubclassAux, ne, h2, h3]
theorem own_nsb {a0 : Array Value} {Z : State} {C S K : String} {kk : Nat} (w : (Jvm.Cond.superclass C S).before a0 Z = true) (wk : (Jvm.Cond.instantiable K kk).before a0 Z = true) (n : NS Z C K) (hn : C ≠ K) : ∃ c t, Z.vm.findClass C = some c ∧ Z.vm.findClass K = some t ∧ Z.vm.assignable c t = false := by
  obtain ⟨c, u, h0, g0, n3⟩ := n
  obtain ⟨q1, k, kp, h1, h2, h3, h4, h5, -, h7⟩ := Cond.superclass_spec h0 w
  obtain ⟨u2, k', g1, g2, g3, g4, -⟩ := Cond.instantiable_spec wk
  cases g0.symm.trans g1
  have ne := ids_ne h0 g0 hn
  have g5 : k'.isInterface = false := by
    cases hi : k'.isInterface
    · rfl
    · rw [hi] at g4; cases g4
  refine ⟨c, u, h0, g0, ?_⟩
  show Z.vm.assignableAux (255 + 1) c u = false
  simp [Vm.assignableAux, ne, h2, g2, h5, g3, g5, Vm.isSubclass, n3]
theorem own_bx {Z : State} {args : Array Value} {t : Term} {a : Addr} {c : Cell} {K : String} {G : Jvm.Cond} (et : ∀ idx, t.eval args Z none idx Z = some (.ref a)) (A : Arr Z Z.heap a c (.object K)) (hlen : (Jvm.Cond.eq (.length t) (.int 256)).value args Z none Z [] = some true)
    (h : (Jvm.Cond.all t (.and (.exactly (.elem t (.index 0)) K) G)).value args Z none Z [] = some true) : Bxw Z a c K := by
  have hl := eqv_i (y := 256) rfl hlen
  have ha := A.fin (Vm.Alike.refl _)
  have hsz : c.slots.size = 256 := by
    by_cases hb : c.slots.size < 2 ^ 31
    · rw [len_f (et []) ha hb] at hl
      have := congrArg Int32.toInt (Value.int.inj (Option.some.inj hl))
      rw [len_toInt hb] at this
      have e : (256 : Int32).toInt = 256 := rfl
      omega
    · simp [Term.eval, et, ha, hb] at hl
  refine ⟨A, hsz, fun j hj => ?_⟩
  have nn : ¬ j < 0 := fun x => hj (Or.inl x)
  obtain ⟨u1, u2⟩ := and_e (Cond.all_elim (et []) (A.fin (Vm.Alike.refl _)) h j.toNatClampNeg (Nat.lt_of_not_le fun x => hj (Or.inr x)))
  obtain ⟨box, eb⟩ := exa_v u1
  exact ⟨box, (elem_f (et _) (idx_at nn) (A.fin (Vm.Alike.refl _)) nn).symm.trans eb, exa_at eb u1⟩
theorem own_ix (z : Int32) (h1 : ¬ z < -128) (h2 : ¬ (127 : Int32) < z) {n : Nat} (hn : n = 256) : ¬ (z + (128 : Int32) < 0 ∨ n ≤ (z + (128 : Int32)).toNatClampNeg) := by
  subst hn
  have h := c_iadd z 128
  have e1 : (128 : Int32).toInt = 128 := rfl
  have e2 : (-128 : Int32).toInt = -128 := rfl
  have e3 : (127 : Int32).toInt = 127 := rfl
  have e4 : (0 : Int32).toInt = 0 := rfl
  have b1 := (z + (128 : Int32)).toInt_lt; have b2 := (z + (128 : Int32)).le_toInt
  rw [Int32.lt_iff_toInt_lt] at h1 h2
  simp only [Int32.lt_iff_toInt_lt, Int32.toNatClampNeg]
  omega
theorem own_ixl (z : Int64) (h1 : ¬ z < -128) (h2 : ¬ (127 : Int64) < z) {n : Nat} (hn : n = 256) : ¬ (z.toInt32 + (128 : Int32) < 0 ∨ n ≤ (z.toInt32 + (128 : Int32)).toNatClampNeg) := by
  have e2 : (-128 : Int64).toInt = -128 := rfl
  have e3 : (127 : Int64).toInt = 127 := rfl
  have e5 : (-128 : Int32).toInt = -128 := rfl
  have e6 : (127 : Int32).toInt = 127 := rfl
  rw [Int64.lt_iff_toInt_lt] at h1 h2
  have h := c_l2i z
  have b1 := z.toInt32.toInt_lt; have b2 := z.toInt32.le_toInt
  exact own_ix z.toInt32 (by rw [Int32.lt_iff_toInt_lt]; omega) (by rw [Int32.lt_iff_toInt_lt]; omega) hn
theorem own_r12 (y : Int32) (h0 : 0 ≤ y.toInt) (h1 : y.toInt < 12) : y = 0 ∨ y = 1 ∨ y = 2 ∨ y = 3 ∨ y = 4 ∨ y = 5 ∨ y = 6 ∨ y = 7 ∨ y = 8 ∨ y = 9 ∨ y = 10 ∨ y = 11 := by
  have h : y.toInt = 0 ∨ y.toInt = 1 ∨ y.toInt = 2 ∨ y.toInt = 3 ∨ y.toInt = 4 ∨ y.toInt = 5 ∨ y.toInt = 6 ∨ y.toInt = 7 ∨ y.toInt = 8 ∨ y.toInt = 9 ∨ y.toInt = 10 ∨ y.toInt = 11 := by omega
  rcases h with h | h | h | h | h | h | h | h | h | h | h | h
  · exact Or.inl (Int32.toInt_inj.mp h)
  · exact Or.inr (Or.inl (Int32.toInt_inj.mp h))
  · exact Or.inr (Or.inr (Or.inl (Int32.toInt_inj.mp h)))
  · exact Or.inr (Or.inr (Or.inr (Or.inl (Int32.toInt_inj.mp h))))
  · exact Or.inr (Or.inr (Or.inr (Or.inr (Or.inl (Int32.toInt_inj.mp h)))))
  · exact Or.inr (Or.inr (Or.inr (Or.inr (Or.inr (Or.inl (Int32.toInt_inj.mp h))))))
  · exact Or.inr (Or.inr (Or.inr (Or.inr (Or.inr (Or.inr (Or.inl (Int32.toInt_inj.mp h)))))))
  · exact Or.inr (Or.inr (Or.inr (Or.inr (Or.inr (Or.inr (Or.inr (Or.inl (Int32.toInt_inj.mp h))))))))
  · exact Or.inr (Or.inr (Or.inr (Or.inr (Or.inr (Or.inr (Or.inr (Or.inr (Or.inl (Int32.toInt_inj.mp h)))))))))
  · exact Or.inr (Or.inr (Or.inr (Or.inr (Or.inr (Or.inr (Or.inr (Or.inr (Or.inr (Or.inl (Int32.toInt_inj.mp h))))))))))
  · exact Or.inr (Or.inr (Or.inr (Or.inr (Or.inr (Or.inr (Or.inr (Or.inr (Or.inr (Or.inr (Or.inl (Int32.toInt_inj.mp h)))))))))))
  · exact Or.inr (Or.inr (Or.inr (Or.inr (Or.inr (Or.inr (Or.inr (Or.inr (Or.inr (Or.inr (Or.inr ((Int32.toInt_inj.mp h))))))))))))
theorem own_c12 (u : Int32) : let y := (u &&& (15 : Int32)) % (12 : Int32); y = 0 ∨ y = 1 ∨ y = 2 ∨ y = 3 ∨ y = 4 ∨ y = 5 ∨ y = 6 ∨ y = 7 ∨ y = 8 ∨ y = 9 ∨ y = 10 ∨ y = 11 := by
  intro y
  have hp := c_mask u 15 4 (by decide) (by decide)
  have hm : y.toInt = (u &&& (15 : Int32)).toInt % 12 := (c_irem (u &&& (15 : Int32)) 12 12 rfl).1 (by omega)
  exact own_r12 y (by omega) (by omega)
def fst (ua : Int64) (ub : Int64) (uc : Int64) (ud : Int64) (ue : Int32) (uf : Int32) (ug : Int32) (uh : Int64) (ui : Int32) (uj : Int32) (uk : Int64) (wa : Int64) (wb : Int64) (wc : Int64) (wd : Int64) (we : Int32) (wf : Int32) (wg : Int32) (wh : Int64) (wi : Int32) (wj : Int32) (wk : Int64) : Int32 := if ua = wa then (if ub = wb then (if uc = wc then (if ud = wd then (if ue = we then (if uf = wf then (if ug = wg then (if uh = wh then (if ui = wi then (if uj = wj then (if uk = wk then (1) else 0) else 0) else 0) else 0) else 0) else 0) else 0) else 0) else 0) else 0) else 0
def fint (k : Int32) : Int32 := if k = 4 then 1 else if k = 5 then 1 else if k = 6 then 1 else if k = 8 then 1 else if k = 9 then 1 else 0
def fexp (k di : Int32) (dl : Int64) : Int32 := if k = 11 then 1 else if fint k = 0 then (if dl = 0 then 1 else 0) else (if di = 0 then 1 else 0)
theorem own_refl (ua : Int64) (ub : Int64) (uc : Int64) (ud : Int64) (ue : Int32) (uf : Int32) (ug : Int32) (uh : Int64) (ui : Int32) (uj : Int32) (uk : Int64) : ¬ fst ua ub uc ud ue uf ug uh ui uj uk ua ub uc ud ue uf ug uh ui uj uk = 0 := by simp [fst]
theorem own_adI (a b : Int32) : (a + b = a) = (b = 0) := by
  refine propext ⟨fun h => ?_, fun h => by rw [h, Int32.add_zero]⟩
  have h2 : b = (a + b) - a := by rw [Int32.add_comm a b, Int32.add_sub_cancel]
  rw [h2, h, Int32.sub_self]
theorem own_adJ (a b : Int64) : (a + b = a) = (b = 0) := by
  refine propext ⟨fun h => ?_, fun h => by rw [h, Int64.add_zero]⟩
  have h2 : b = (a + b) - a := by rw [Int64.add_comm a b, Int64.add_sub_cancel]
  rw [h2, h, Int64.sub_self]
theorem own_adI' (a b : Int32) : (a = a + b) = (b = 0) := by rw [← own_adI a b]; exact propext eq_comm
theorem own_adJ' (a b : Int64) : (a = a + b) = (b = 0) := by rw [← own_adJ a b]; exact propext eq_comm
theorem own_main (kk di : Int32) (dl : Int64) (ua : Int64) (ub : Int64) (uc : Int64) (ud : Int64) (ue : Int32) (uf : Int32) (ug : Int32) (uh : Int64) (ui : Int32) (uj : Int32) (uk : Int64) (wa : Int64) (wb : Int64) (wc : Int64) (wd : Int64) (we : Int32) (wf : Int32) (wg : Int32) (wh : Int64) (wi : Int32) (wj : Int32) (wk : Int64) (xe : Int32) (hk : kk = 0 ∨ kk = 1 ∨ kk = 2 ∨ kk = 3 ∨ kk = 4 ∨ kk = 5 ∨ kk = 6 ∨ kk = 7 ∨ kk = 8 ∨ kk = 9 ∨ kk = 10 ∨ kk = 11) (r0 : wa = if kk = (0 : Int32) then (ua + dl) else ua) (r1 : wb = if kk = (1 : Int32) then (ub + dl) else ub) (r2 : wc = if kk = (2 : Int32) then (uc + dl) else uc) (r3 : wd = if kk = (3 : Int32) then (ud + dl) else ud) (r4 : we = if kk = (4 : Int32) then (ue + di) else ue) (r5 : wf = if kk = (5 : Int32) then (uf + di) else uf) (r6 : wg = if kk = (6 : Int32) then (ug + di) else ug) (r7 : wh = if kk = (7 : Int32) then (uh + dl) else uh) (r8 : wi = if kk = (8 : Int32) then (ui + di) else ui) (r9 : wj = if kk = (9 : Int32) then (uj + di) else uj) (r10 : wk = if kk = (10 : Int32) then (uk + dl) else uk) (hx : xe = fexp kk di dl) : fst ua ub uc ud ue uf ug uh ui uj uk wa wb wc wd we wf wg wh wi wj wk = xe ∧ fst wa wb wc wd we wf wg wh wi wj wk ua ub uc ud ue uf ug uh ui uj uk = xe := by
  subst hx
  rcases hk with rfl | rfl | rfl | rfl | rfl | rfl | rfl | rfl | rfl | rfl | rfl | rfl <;> simp at r0 r1 r2 r3 r4 r5 r6 r7 r8 r9 r10 <;> subst r0 r1 r2 r3 r4 r5 r6 r7 r8 r9 r10 <;> simp [fst, fexp, fint, own_adI, own_adJ, own_adI', own_adJ']
theorem d1_0 : decode prog_65_method_1_code 0 = .ok (.aload_n 0, 1) := by decide +kernel
theorem d1_1 : decode prog_65_method_1_code 1 = .ok (.invokespecial 1, 3) := by decide +kernel
theorem d1_4 : decode prog_65_method_1_code 4 = .ok (.aload_n 0, 1) := by decide +kernel
theorem d1_5 : decode prog_65_method_1_code 5 = .ok (.lload_n 1, 1) := by decide +kernel
theorem d1_6 : decode prog_65_method_1_code 6 = .ok (.putfield 7, 3) := by decide +kernel
theorem d1_9 : decode prog_65_method_1_code 9 = .ok (.aload_n 0, 1) := by decide +kernel
theorem d1_10 : decode prog_65_method_1_code 10 = .ok (.lload_n 3, 1) := by decide +kernel
theorem d1_11 : decode prog_65_method_1_code 11 = .ok (.putfield 13, 3) := by decide +kernel
theorem d1_14 : decode prog_65_method_1_code 14 = .ok (.aload_n 0, 1) := by decide +kernel
theorem d1_15 : decode prog_65_method_1_code 15 = .ok (.lload 5, 2) := by decide +kernel
theorem d1_17 : decode prog_65_method_1_code 17 = .ok (.putfield 16, 3) := by decide +kernel
theorem d1_20 : decode prog_65_method_1_code 20 = .ok (.aload_n 0, 1) := by decide +kernel
theorem d1_21 : decode prog_65_method_1_code 21 = .ok (.lload 7, 2) := by decide +kernel
theorem d1_23 : decode prog_65_method_1_code 23 = .ok (.putfield 19, 3) := by decide +kernel
theorem d1_26 : decode prog_65_method_1_code 26 = .ok (.aload_n 0, 1) := by decide +kernel
theorem d1_27 : decode prog_65_method_1_code 27 = .ok (.iload 9, 2) := by decide +kernel
theorem d1_29 : decode prog_65_method_1_code 29 = .ok (.putfield 22, 3) := by decide +kernel
theorem d1_32 : decode prog_65_method_1_code 32 = .ok (.aload_n 0, 1) := by decide +kernel
theorem d1_33 : decode prog_65_method_1_code 33 = .ok (.iload 10, 2) := by decide +kernel
theorem d1_35 : decode prog_65_method_1_code 35 = .ok (.putfield 26, 3) := by decide +kernel
theorem d1_38 : decode prog_65_method_1_code 38 = .ok (.aload_n 0, 1) := by decide +kernel
theorem d1_39 : decode prog_65_method_1_code 39 = .ok (.iload 11, 2) := by decide +kernel
theorem d1_41 : decode prog_65_method_1_code 41 = .ok (.putfield 29, 3) := by decide +kernel
theorem d1_44 : decode prog_65_method_1_code 44 = .ok (.aload_n 0, 1) := by decide +kernel
theorem d1_45 : decode prog_65_method_1_code 45 = .ok (.lload 12, 2) := by decide +kernel
theorem d1_47 : decode prog_65_method_1_code 47 = .ok (.putfield 32, 3) := by decide +kernel
theorem d1_50 : decode prog_65_method_1_code 50 = .ok (.aload_n 0, 1) := by decide +kernel
theorem d1_51 : decode prog_65_method_1_code 51 = .ok (.iload 14, 2) := by decide +kernel
theorem d1_53 : decode prog_65_method_1_code 53 = .ok (.putfield 35, 3) := by decide +kernel
theorem d1_56 : decode prog_65_method_1_code 56 = .ok (.aload_n 0, 1) := by decide +kernel
theorem d1_57 : decode prog_65_method_1_code 57 = .ok (.iload 15, 2) := by decide +kernel
theorem d1_59 : decode prog_65_method_1_code 59 = .ok (.putfield 38, 3) := by decide +kernel
theorem d1_62 : decode prog_65_method_1_code 62 = .ok (.aload_n 0, 1) := by decide +kernel
theorem d1_63 : decode prog_65_method_1_code 63 = .ok (.lload 16, 2) := by decide +kernel
theorem d1_65 : decode prog_65_method_1_code 65 = .ok (.putfield 41, 3) := by decide +kernel
theorem d1_68 : decode prog_65_method_1_code 68 = .ok (.return_, 1) := by decide +kernel
theorem pn_com_example_exact_quorum_exactquorum_protocol_Stat : plainName "com/example/exact_quorum/exactquorum/protocol/Stat" = true := by first | (simp [plainName, overriddenIn]; done) | decide +kernel
theorem ef_rm1 (m : MethodId) (ob : Addr) (ua : Int64) (ub : Int64) (uc : Int64) (ud : Int64) (ue : Int32) (uf : Int32) (ug : Int32) (uh : Int64) (ui : Int32) (uj : Int32) (uk : Int64) : entryFrame m #[(.ref ob), (.long ua), (.long ub), (.long uc), (.long ud), (.int ue), (.int uf), (.int ug), (.long uh), (.int ui), (.int uj), (.long uk)] 18 = mkF m 0 #[.val (.ref ob), .val (.long ua), .second, .val (.long ub), .second, .val (.long uc), .second, .val (.long ud), .second, .val (.int ue), .val (.int uf), .val (.int ug), .val (.long uh), .second, .val (.int ui), .val (.int uj), .val (.long uk), .second] [] := by first | (simp [entryFrame, mkF, argsToLocals, Value.category]; done) | rfl
def Q1 (Z : State) (ob : Addr) (ua : Int64) (ub : Int64) (uc : Int64) (ud : Int64) (ue : Int32) (uf : Int32) (ug : Int32) (uh : Int64) (ui : Int32) (uj : Int32) (uk : Int64) (h0 : Heap) (n0 : Nat) (v : Option Value) (h : Heap) (L : List Loc) : Prop := v = none ∧ Fr n0 L ∧ Keep h0 h [ob] ∧ Fld Z h ob "com/example/exact_quorum/exactquorum/protocol/Stat" "czxid" "J" (.long ua) ∧ Fld Z h ob "com/example/exact_quorum/exactquorum/protocol/Stat" "mzxid" "J" (.long ub) ∧ Fld Z h ob "com/example/exact_quorum/exactquorum/protocol/Stat" "ctime" "J" (.long uc) ∧ Fld Z h ob "com/example/exact_quorum/exactquorum/protocol/Stat" "mtime" "J" (.long ud) ∧ Fld Z h ob "com/example/exact_quorum/exactquorum/protocol/Stat" "version" "I" (.int ue) ∧ Fld Z h ob "com/example/exact_quorum/exactquorum/protocol/Stat" "cversion" "I" (.int uf) ∧ Fld Z h ob "com/example/exact_quorum/exactquorum/protocol/Stat" "aversion" "I" (.int ug) ∧ Fld Z h ob "com/example/exact_quorum/exactquorum/protocol/Stat" "ephemeralOwner" "J" (.long uh) ∧ Fld Z h ob "com/example/exact_quorum/exactquorum/protocol/Stat" "dataLength" "I" (.int ui) ∧ Fld Z h ob "com/example/exact_quorum/exactquorum/protocol/Stat" "numChildren" "I" (.int uj) ∧ Fld Z h ob "com/example/exact_quorum/exactquorum/protocol/Stat" "pzxid" "J" (.long uk)
set_option maxRecDepth 65536 in
set_option maxHeartbeats 40000000 in
theorem rm1 (l : Launch) (Z : State) (a0 : Array Value) (hw : ∀ d ∈ tables_1, d.before a0 Z = true) (ws : List Jvm.Cond) (ob : Addr) (ua : Int64) (ub : Int64) (uc : Int64) (ud : Int64) (ue : Int32) (uf : Int32) (ug : Int32) (uh : Int64) (ui : Int32) (uj : Int32) (uk : Int64) (h0 : Heap) (n0 : Nat) (O0 : Old Z n0 h0) (E_o : Exa Z h0 ob "com/example/exact_quorum/exactquorum/protocol/Stat") (Fa : Fld Z h0 ob "com/example/exact_quorum/exactquorum/protocol/Stat" "czxid" "J" (.long (0 : Int64))) (Fb : Fld Z h0 ob "com/example/exact_quorum/exactquorum/protocol/Stat" "mzxid" "J" (.long (0 : Int64))) (Fc : Fld Z h0 ob "com/example/exact_quorum/exactquorum/protocol/Stat" "ctime" "J" (.long (0 : Int64))) (Fd : Fld Z h0 ob "com/example/exact_quorum/exactquorum/protocol/Stat" "mtime" "J" (.long (0 : Int64))) (Fe : Fld Z h0 ob "com/example/exact_quorum/exactquorum/protocol/Stat" "version" "I" (.int (0 : Int32))) (Ff : Fld Z h0 ob "com/example/exact_quorum/exactquorum/protocol/Stat" "cversion" "I" (.int (0 : Int32))) (Fg : Fld Z h0 ob "com/example/exact_quorum/exactquorum/protocol/Stat" "aversion" "I" (.int (0 : Int32))) (Fh : Fld Z h0 ob "com/example/exact_quorum/exactquorum/protocol/Stat" "ephemeralOwner" "J" (.long (0 : Int64))) (Fi : Fld Z h0 ob "com/example/exact_quorum/exactquorum/protocol/Stat" "dataLength" "I" (.int (0 : Int32))) (Fj : Fld Z h0 ob "com/example/exact_quorum/exactquorum/protocol/Stat" "numChildren" "I" (.int (0 : Int32))) (Fk : Fld Z h0 ob "com/example/exact_quorum/exactquorum/protocol/Stat" "pzxid" "J" (.long (0 : Int64))) (g_o : n0 ≤ ob) :
    MetFree l (⟨"com/example/exact_quorum/exactquorum/protocol/Stat", "<init>", "(JJJJIIIJIIJ)V"⟩ : MethodName) (head1 (Jvm.Cond.code (⟨"com/example/exact_quorum/exactquorum/protocol/Stat", "<init>", "(JJJJIIIJIIJ)V"⟩ : MethodName) prog_65_method_1_code 18 none :: ws) ({ frames := 1, cells := 0, slots := 0, locals := 12 } : Room)) (fun ay U => ay = #[(.ref ob), (.long ua), (.long ub), (.long uc), (.long ud), (.int ue), (.int uf), (.int ug), (.long uh), (.int ui), (.int uj), (.long uk)] ∧ Z.Warmed39 U.vm ∧ U.heap = h0) (fun _ _ _ _ _ => True) (fun _ U o U' => ∃ v L, o = .returned v ∧ Q1 Z ob ua ub uc ud ue uf ug uh ui uj uk h0 n0 v U'.heap L ∧ FrameEnd U o U' L ({ frames := 1, cells := 0, slots := 0, locals := 12 } : Room).cells ({ frames := 1, cells := 0, slots := 0, locals := 12 } : Room).slots) := by
  refine MetFree.of_bodySF (plainFor_of_name pn_com_example_exact_quorum_exactquorum_protocol_Stat) hisR ?_
  intro p e s m args below meth c s₁ Bd hml0 hP hK
  obtain ⟨rfl, hZ, hh⟩ := hP
  have hx := Bd.exec
  have hby := Bd.bytes
  have hlk : meth.locks = false := BodyLoose.notSynchronized Bd
  have hml : c.maxLocals = 18 := hml0
  have hown : s.vm.findClass "com/example/exact_quorum/exactquorum/protocol/Stat" = some m.cls := findClass_of_methodNamed Bd.named
  have hnm := (name_of_methodNamed Bd.named Bd.method).1
  have X0 : Stand p l e ({ frames := 1, cells := 0, slots := 0, locals := 12 } : Room) s m #[(.ref ob), (.long ua), (.long ub), (.long uc), (.long ud), (.int ue), (.int uf), (.int ug), (.long uh), (.int ui), (.int uj), (.long uk)] below meth c s₁ [] 0 0 := Stand.of_body Bd
  have e0 : s₁.heap = h0 := by rw [← hh, Bd.state]; rfl
  have N0 := Fr.nil n0
  suffices hgo : Go p e below s 0 0 (Q1 Z ob ua ub uc ud ue uf ug uh ui uj uk h0 n0) (s₁.setTop (mkF m 0 #[.val (.ref ob), .val (.long ua), .second, .val (.long ub), .second, .val (.long uc), .second, .val (.long ud), .second, .val (.int ue), .val (.int uf), .val (.int ug), .val (.long uh), .second, .val (.int ui), .val (.int uj), .val (.long uk), .second] [])) by
    obtain ⟨t, o, h1, h2⟩ := hgo; exact ⟨t, o, castTop (ef_rm1 m ob ua ub uc ud ue uf ug uh ui uj uk) h1, h2⟩
  show Go p e below s _ _ _ (s₁.setTop (mkF m 0 #[.val (.ref ob), .val (.long ua), .second, .val (.long ub), .second, .val (.long uc), .second, .val (.long ud), .second, .val (.int ue), .val (.int uf), .val (.int ug), .val (.long uh), .second, .val (.int ui), .val (.int uj), .val (.long uk), .second] []))
  refine Go.st (fun _ k' => XS.aloadN X0.here hx rfl (hb hby d1_0) rfl rfl k') ?_
  show Go p e below s _ _ _ (s₁.setTop (mkF m 1 #[.val (.ref ob), .val (.long ua), .second, .val (.long ub), .second, .val (.long uc), .second, .val (.long ud), .second, .val (.int ue), .val (.int uf), .val (.int ug), .val (.long uh), .second, .val (.int ui), .val (.int uj), .val (.long uk), .second] [(.ref ob)]))
  obtain ⟨T1, X1, e1, st1⟩ := initO X0 hx hZ hown (wdx hw 6 rfl) (wdx hw 7 rfl) (wdx hw 8 rfl) e0 (g := (mkF m 1 #[.val (.ref ob), .val (.long ua), .second, .val (.long ub), .second, .val (.long uc), .second, .val (.long ud), .second, .val (.int ue), .val (.int uf), .val (.int ug), .val (.long uh), .second, .val (.int ui), .val (.int uj), .val (.long uk), .second] [(.ref ob)])) rfl (by rw [hml]; rfl) rfl (hb hby d1_1) (by decide) (W := 0) (by show 2 * 0 + _ ≤ _; exact Nat.le_of_eq rfl) (by decide)
  refine Go.st st1 ?_
  show Go p e below s _ _ _ (T1.setTop (mkF m 4 #[.val (.ref ob), .val (.long ua), .second, .val (.long ub), .second, .val (.long uc), .second, .val (.long ud), .second, .val (.int ue), .val (.int uf), .val (.int ug), .val (.long uh), .second, .val (.int ui), .val (.int uj), .val (.long uk), .second] []))
  refine Go.st (fun _ k' => XS.aloadN X1.here hx rfl (hb hby d1_4) rfl rfl k') ?_
  show Go p e below s _ _ _ (T1.setTop (mkF m 5 #[.val (.ref ob), .val (.long ua), .second, .val (.long ub), .second, .val (.long uc), .second, .val (.long ud), .second, .val (.int ue), .val (.int uf), .val (.int ug), .val (.long uh), .second, .val (.int ui), .val (.int uj), .val (.long uk), .second] [(.ref ob)]))
  refine Go.st (fun _ k' => XS.lloadN X1.here hx rfl (hb hby d1_5) rfl k') ?_
  show Go p e below s _ _ _ (T1.setTop (mkF m 6 #[.val (.ref ob), .val (.long ua), .second, .val (.long ub), .second, .val (.long uc), .second, .val (.long ud), .second, .val (.int ue), .val (.int uf), .val (.int ug), .val (.long uh), .second, .val (.int ui), .val (.int uj), .val (.long uk), .second] [(.long ua), (.ref ob)]))
  obtain ⟨T2, h2, X2, e2, W2, st2⟩ := putF X1 hx hZ hown (host := "") (Or.inl (wdx hw 9 rfl)) Via.refl e1 Fa E_o (Or.inr ⟨(wdx hw 10 rfl), rfl, hnm⟩) (wdx hw 1 rfl) (ty := .long) (by decide) rfl rfl (g := (mkF m 6 #[.val (.ref ob), .val (.long ua), .second, .val (.long ub), .second, .val (.long uc), .second, .val (.long ud), .second, .val (.int ue), .val (.int uf), .val (.int ug), .val (.long uh), .second, .val (.int ui), .val (.int uj), .val (.long uk), .second] [(.long ua), (.ref ob)])) rfl rfl (hb hby d1_6)
  refine Go.st st2 ?_
  have f3 : Exa Z h2 ob "com/example/exact_quorum/exactquorum/protocol/Stat" := E_o.wr W2
  have f4 : Fld Z h2 ob "com/example/exact_quorum/exactquorum/protocol/Stat" "czxid" "J" (.long ua) := Fa.same W2
  have f5 : Fld Z h2 ob "com/example/exact_quorum/exactquorum/protocol/Stat" "mzxid" "J" (.long (0 : Int64)) := Fb.other W2 (Or.inr (slot_ne (Or.inr (wdx hw 12 rfl)) (Or.inr (wdx hw 10 rfl)) (by decide) (t := .long) (t' := .long) (by decide) (by decide)))
  have f6 : Fld Z h2 ob "com/example/exact_quorum/exactquorum/protocol/Stat" "ctime" "J" (.long (0 : Int64)) := Fc.other W2 (Or.inr (slot_ne (Or.inr (wdx hw 14 rfl)) (Or.inr (wdx hw 10 rfl)) (by decide) (t := .long) (t' := .long) (by decide) (by decide)))
  have f7 : Fld Z h2 ob "com/example/exact_quorum/exactquorum/protocol/Stat" "mtime" "J" (.long (0 : Int64)) := Fd.other W2 (Or.inr (slot_ne (Or.inr (wdx hw 16 rfl)) (Or.inr (wdx hw 10 rfl)) (by decide) (t := .long) (t' := .long) (by decide) (by decide)))
  have f8 : Fld Z h2 ob "com/example/exact_quorum/exactquorum/protocol/Stat" "version" "I" (.int (0 : Int32)) := Fe.other W2 (Or.inr (slot_ne (Or.inr (wdx hw 18 rfl)) (Or.inr (wdx hw 10 rfl)) (by decide) (t := .int) (t' := .long) (by decide) (by decide)))
  have f9 : Fld Z h2 ob "com/example/exact_quorum/exactquorum/protocol/Stat" "cversion" "I" (.int (0 : Int32)) := Ff.other W2 (Or.inr (slot_ne (Or.inr (wdx hw 20 rfl)) (Or.inr (wdx hw 10 rfl)) (by decide) (t := .int) (t' := .long) (by decide) (by decide)))
  have f10 : Fld Z h2 ob "com/example/exact_quorum/exactquorum/protocol/Stat" "aversion" "I" (.int (0 : Int32)) := Fg.other W2 (Or.inr (slot_ne (Or.inr (wdx hw 22 rfl)) (Or.inr (wdx hw 10 rfl)) (by decide) (t := .int) (t' := .long) (by decide) (by decide)))
  have f11 : Fld Z h2 ob "com/example/exact_quorum/exactquorum/protocol/Stat" "ephemeralOwner" "J" (.long (0 : Int64)) := Fh.other W2 (Or.inr (slot_ne (Or.inr (wdx hw 24 rfl)) (Or.inr (wdx hw 10 rfl)) (by decide) (t := .long) (t' := .long) (by decide) (by decide)))
  have f12 : Fld Z h2 ob "com/example/exact_quorum/exactquorum/protocol/Stat" "dataLength" "I" (.int (0 : Int32)) := Fi.other W2 (Or.inr (slot_ne (Or.inr (wdx hw 26 rfl)) (Or.inr (wdx hw 10 rfl)) (by decide) (t := .int) (t' := .long) (by decide) (by decide)))
  have f13 : Fld Z h2 ob "com/example/exact_quorum/exactquorum/protocol/Stat" "numChildren" "I" (.int (0 : Int32)) := Fj.other W2 (Or.inr (slot_ne (Or.inr (wdx hw 28 rfl)) (Or.inr (wdx hw 10 rfl)) (by decide) (t := .int) (t' := .long) (by decide) (by decide)))
  have f14 : Fld Z h2 ob "com/example/exact_quorum/exactquorum/protocol/Stat" "pzxid" "J" (.long (0 : Int64)) := Fk.other W2 (Or.inr (slot_ne (Or.inr (wdx hw 30 rfl)) (Or.inr (wdx hw 10 rfl)) (by decide) (t := .long) (t' := .long) (by decide) (by decide)))
  have O2 : Old Z n0 h2 := O0.wr W2 g_o
  have N2 := Fr.snoc X2 N0 g_o
  have K2 : Keep h0 h2 [ob] := (Keep.refl h0 [ob]).wr W2 (Or.inl (by simp))
  show Go p e below s _ _ _ (T2.setTop (mkF m 9 #[.val (.ref ob), .val (.long ua), .second, .val (.long ub), .second, .val (.long uc), .second, .val (.long ud), .second, .val (.int ue), .val (.int uf), .val (.int ug), .val (.long uh), .second, .val (.int ui), .val (.int uj), .val (.long uk), .second] []))
  refine Go.st (fun _ k' => XS.aloadN X2.here hx rfl (hb hby d1_9) rfl rfl k') ?_
  show Go p e below s _ _ _ (T2.setTop (mkF m 10 #[.val (.ref ob), .val (.long ua), .second, .val (.long ub), .second, .val (.long uc), .second, .val (.long ud), .second, .val (.int ue), .val (.int uf), .val (.int ug), .val (.long uh), .second, .val (.int ui), .val (.int uj), .val (.long uk), .second] [(.ref ob)]))
  refine Go.st (fun _ k' => XS.lloadN X2.here hx rfl (hb hby d1_10) rfl k') ?_
  show Go p e below s _ _ _ (T2.setTop (mkF m 11 #[.val (.ref ob), .val (.long ua), .second, .val (.long ub), .second, .val (.long uc), .second, .val (.long ud), .second, .val (.int ue), .val (.int uf), .val (.int ug), .val (.long uh), .second, .val (.int ui), .val (.int uj), .val (.long uk), .second] [(.long ub), (.ref ob)]))
  obtain ⟨T15, h15, X15, e15, W15, st15⟩ := putF X2 hx hZ hown (host := "") (Or.inl (wdx hw 11 rfl)) Via.refl e2 f5 f3 (Or.inr ⟨(wdx hw 12 rfl), rfl, hnm⟩) (wdx hw 1 rfl) (ty := .long) (by decide) rfl rfl (g := (mkF m 11 #[.val (.ref ob), .val (.long ua), .second, .val (.long ub), .second, .val (.long uc), .second, .val (.long ud), .second, .val (.int ue), .val (.int uf), .val (.int ug), .val (.long uh), .second, .val (.int ui), .val (.int uj), .val (.long uk), .second] [(.long ub), (.ref ob)])) rfl rfl (hb hby d1_11)
  refine Go.st st15 ?_
  have f16 : Exa Z h15 ob "com/example/exact_quorum/exactquorum/protocol/Stat" := f3.wr W15
  have f17 : Fld Z h15 ob "com/example/exact_quorum/exactquorum/protocol/Stat" "czxid" "J" (.long ua) := f4.other W15 (Or.inr (slot_ne (Or.inr (wdx hw 10 rfl)) (Or.inr (wdx hw 12 rfl)) (by decide) (t := .long) (t' := .long) (by decide) (by decide)))
  have f18 : Fld Z h15 ob "com/example/exact_quorum/exactquorum/protocol/Stat" "mzxid" "J" (.long ub) := f5.same W15
  have f19 : Fld Z h15 ob "com/example/exact_quorum/exactquorum/protocol/Stat" "ctime" "J" (.long (0 : Int64)) := f6.other W15 (Or.inr (slot_ne (Or.inr (wdx hw 14 rfl)) (Or.inr (wdx hw 12 rfl)) (by decide) (t := .long) (t' := .long) (by decide) (by decide)))
  have f20 : Fld Z h15 ob "com/example/exact_quorum/exactquorum/protocol/Stat" "mtime" "J" (.long (0 : Int64)) := f7.other W15 (Or.inr (slot_ne (Or.inr (wdx hw 16 rfl)) (Or.inr (wdx hw 12 rfl)) (by decide) (t := .long) (t' := .long) (by decide) (by decide)))
  have f21 : Fld Z h15 ob "com/example/exact_quorum/exactquorum/protocol/Stat" "version" "I" (.int (0 : Int32)) := f8.other W15 (Or.inr (slot_ne (Or.inr (wdx hw 18 rfl)) (Or.inr (wdx hw 12 rfl)) (by decide) (t := .int) (t' := .long) (by decide) (by decide)))
  have f22 : Fld Z h15 ob "com/example/exact_quorum/exactquorum/protocol/Stat" "cversion" "I" (.int (0 : Int32)) := f9.other W15 (Or.inr (slot_ne (Or.inr (wdx hw 20 rfl)) (Or.inr (wdx hw 12 rfl)) (by decide) (t := .int) (t' := .long) (by decide) (by decide)))
  have f23 : Fld Z h15 ob "com/example/exact_quorum/exactquorum/protocol/Stat" "aversion" "I" (.int (0 : Int32)) := f10.other W15 (Or.inr (slot_ne (Or.inr (wdx hw 22 rfl)) (Or.inr (wdx hw 12 rfl)) (by decide) (t := .int) (t' := .long) (by decide) (by decide)))
  have f24 : Fld Z h15 ob "com/example/exact_quorum/exactquorum/protocol/Stat" "ephemeralOwner" "J" (.long (0 : Int64)) := f11.other W15 (Or.inr (slot_ne (Or.inr (wdx hw 24 rfl)) (Or.inr (wdx hw 12 rfl)) (by decide) (t := .long) (t' := .long) (by decide) (by decide)))
  have f25 : Fld Z h15 ob "com/example/exact_quorum/exactquorum/protocol/Stat" "dataLength" "I" (.int (0 : Int32)) := f12.other W15 (Or.inr (slot_ne (Or.inr (wdx hw 26 rfl)) (Or.inr (wdx hw 12 rfl)) (by decide) (t := .int) (t' := .long) (by decide) (by decide)))
  have f26 : Fld Z h15 ob "com/example/exact_quorum/exactquorum/protocol/Stat" "numChildren" "I" (.int (0 : Int32)) := f13.other W15 (Or.inr (slot_ne (Or.inr (wdx hw 28 rfl)) (Or.inr (wdx hw 12 rfl)) (by decide) (t := .int) (t' := .long) (by decide) (by decide)))
  have f27 : Fld Z h15 ob "com/example/exact_quorum/exactquorum/protocol/Stat" "pzxid" "J" (.long (0 : Int64)) := f14.other W15 (Or.inr (slot_ne (Or.inr (wdx hw 30 rfl)) (Or.inr (wdx hw 12 rfl)) (by decide) (t := .long) (t' := .long) (by decide) (by decide)))
  have O15 : Old Z n0 h15 := O2.wr W15 g_o
  have N15 := Fr.snoc X15 N2 g_o
  have K15 : Keep h0 h15 [ob] := K2.wr W15 (Or.inl (by simp))
  show Go p e below s _ _ _ (T15.setTop (mkF m 14 #[.val (.ref ob), .val (.long ua), .second, .val (.long ub), .second, .val (.long uc), .second, .val (.long ud), .second, .val (.int ue), .val (.int uf), .val (.int ug), .val (.long uh), .second, .val (.int ui), .val (.int uj), .val (.long uk), .second] []))
  refine Go.st (fun _ k' => XS.aloadN X15.here hx rfl (hb hby d1_14) rfl rfl k') ?_
  show Go p e below s _ _ _ (T15.setTop (mkF m 15 #[.val (.ref ob), .val (.long ua), .second, .val (.long ub), .second, .val (.long uc), .second, .val (.long ud), .second, .val (.int ue), .val (.int uf), .val (.int ug), .val (.long uh), .second, .val (.int ui), .val (.int uj), .val (.long uk), .second] [(.ref ob)]))
  refine Go.st (fun _ k' => XS.lload X15.here hx rfl (hb hby d1_15) rfl k') ?_
  show Go p e below s _ _ _ (T15.setTop (mkF m 17 #[.val (.ref ob), .val (.long ua), .second, .val (.long ub), .second, .val (.long uc), .second, .val (.long ud), .second, .val (.int ue), .val (.int uf), .val (.int ug), .val (.long uh), .second, .val (.int ui), .val (.int uj), .val (.long uk), .second] [(.long uc), (.ref ob)]))
  obtain ⟨T28, h28, X28, e28, W28, st28⟩ := putF X15 hx hZ hown (host := "") (Or.inl (wdx hw 13 rfl)) Via.refl e15 f19 f16 (Or.inr ⟨(wdx hw 14 rfl), rfl, hnm⟩) (wdx hw 1 rfl) (ty := .long) (by decide) rfl rfl (g := (mkF m 17 #[.val (.ref ob), .val (.long ua), .second, .val (.long ub), .second, .val (.long uc), .second, .val (.long ud), .second, .val (.int ue), .val (.int uf), .val (.int ug), .val (.long uh), .second, .val (.int ui), .val (.int uj), .val (.long uk), .second] [(.long uc), (.ref ob)])) rfl rfl (hb hby d1_17)
  refine Go.st st28 ?_
  have f29 : Exa Z h28 ob "com/example/exact_quorum/exactquorum/protocol/Stat" := f16.wr W28
  have f30 : Fld Z h28 ob "com/example/exact_quorum/exactquorum/protocol/Stat" "czxid" "J" (.long ua) := f17.other W28 (Or.inr (slot_ne (Or.inr (wdx hw 10 rfl)) (Or.inr (wdx hw 14 rfl)) (by decide) (t := .long) (t' := .long) (by decide) (by decide)))
  have f31 : Fld Z h28 ob "com/example/exact_quorum/exactquorum/protocol/Stat" "mzxid" "J" (.long ub) := f18.other W28 (Or.inr (slot_ne (Or.inr (wdx hw 12 rfl)) (Or.inr (wdx hw 14 rfl)) (by decide) (t := .long) (t' := .long) (by decide) (by decide)))
  have f32 : Fld Z h28 ob "com/example/exact_quorum/exactquorum/protocol/Stat" "ctime" "J" (.long uc) := f19.same W28
  have f33 : Fld Z h28 ob "com/example/exact_quorum/exactquorum/protocol/Stat" "mtime" "J" (.long (0 : Int64)) := f20.other W28 (Or.inr (slot_ne (Or.inr (wdx hw 16 rfl)) (Or.inr (wdx hw 14 rfl)) (by decide) (t := .long) (t' := .long) (by decide) (by decide)))
  have f34 : Fld Z h28 ob "com/example/exact_quorum/exactquorum/protocol/Stat" "version" "I" (.int (0 : Int32)) := f21.other W28 (Or.inr (slot_ne (Or.inr (wdx hw 18 rfl)) (Or.inr (wdx hw 14 rfl)) (by decide) (t := .int) (t' := .long) (by decide) (by decide)))
  have f35 : Fld Z h28 ob "com/example/exact_quorum/exactquorum/protocol/Stat" "cversion" "I" (.int (0 : Int32)) := f22.other W28 (Or.inr (slot_ne (Or.inr (wdx hw 20 rfl)) (Or.inr (wdx hw 14 rfl)) (by decide) (t := .int) (t' := .long) (by decide) (by decide)))
  have f36 : Fld Z h28 ob "com/example/exact_quorum/exactquorum/protocol/Stat" "aversion" "I" (.int (0 : Int32)) := f23.other W28 (Or.inr (slot_ne (Or.inr (wdx hw 22 rfl)) (Or.inr (wdx hw 14 rfl)) (by decide) (t := .int) (t' := .long) (by decide) (by decide)))
  have f37 : Fld Z h28 ob "com/example/exact_quorum/exactquorum/protocol/Stat" "ephemeralOwner" "J" (.long (0 : Int64)) := f24.other W28 (Or.inr (slot_ne (Or.inr (wdx hw 24 rfl)) (Or.inr (wdx hw 14 rfl)) (by decide) (t := .long) (t' := .long) (by decide) (by decide)))
  have f38 : Fld Z h28 ob "com/example/exact_quorum/exactquorum/protocol/Stat" "dataLength" "I" (.int (0 : Int32)) := f25.other W28 (Or.inr (slot_ne (Or.inr (wdx hw 26 rfl)) (Or.inr (wdx hw 14 rfl)) (by decide) (t := .int) (t' := .long) (by decide) (by decide)))
  have f39 : Fld Z h28 ob "com/example/exact_quorum/exactquorum/protocol/Stat" "numChildren" "I" (.int (0 : Int32)) := f26.other W28 (Or.inr (slot_ne (Or.inr (wdx hw 28 rfl)) (Or.inr (wdx hw 14 rfl)) (by decide) (t := .int) (t' := .long) (by decide) (by decide)))
  have f40 : Fld Z h28 ob "com/example/exact_quorum/exactquorum/protocol/Stat" "pzxid" "J" (.long (0 : Int64)) := f27.other W28 (Or.inr (slot_ne (Or.inr (wdx hw 30 rfl)) (Or.inr (wdx hw 14 rfl)) (by decide) (t := .long) (t' := .long) (by decide) (by decide)))
  have O28 : Old Z n0 h28 := O15.wr W28 g_o
  have N28 := Fr.snoc X28 N15 g_o
  have K28 : Keep h0 h28 [ob] := K15.wr W28 (Or.inl (by simp))
  show Go p e below s _ _ _ (T28.setTop (mkF m 20 #[.val (.ref ob), .val (.long ua), .second, .val (.long ub), .second, .val (.long uc), .second, .val (.long ud), .second, .val (.int ue), .val (.int uf), .val (.int ug), .val (.long uh), .second, .val (.int ui), .val (.int uj), .val (.long uk), .second] []))
  refine Go.st (fun _ k' => XS.aloadN X28.here hx rfl (hb hby d1_20) rfl rfl k') ?_
  show Go p e below s _ _ _ (T28.setTop (mkF m 21 #[.val (.ref ob), .val (.long ua), .second, .val (.long ub), .second, .val (.long uc), .second, .val (.long ud), .second, .val (.int ue), .val (.int uf), .val (.int ug), .val (.long uh), .second, .val (.int ui), .val (.int uj), .val (.long uk), .second] [(.ref ob)]))
  refine Go.st (fun _ k' => XS.lload X28.here hx rfl (hb hby d1_21) rfl k') ?_
  show Go p e below s _ _ _ (T28.setTop (mkF m 23 #[.val (.ref ob), .val (.long ua), .second, .val (.long ub), .second, .val (.long uc), .second, .val (.long ud), .second, .val (.int ue), .val (.int uf), .val (.int ug), .val (.long uh), .second, .val (.int ui), .val (.int uj), .val (.long uk), .second] [(.long ud), (.ref ob)]))
  obtain ⟨T41, h41, X41, e41, W41, st41⟩ := putF X28 hx hZ hown (host := "") (Or.inl (wdx hw 15 rfl)) Via.refl e28 f33 f29 (Or.inr ⟨(wdx hw 16 rfl), rfl, hnm⟩) (wdx hw 1 rfl) (ty := .long) (by decide) rfl rfl (g := (mkF m 23 #[.val (.ref ob), .val (.long ua), .second, .val (.long ub), .second, .val (.long uc), .second, .val (.long ud), .second, .val (.int ue), .val (.int uf), .val (.int ug), .val (.long uh), .second, .val (.int ui), .val (.int uj), .val (.long uk), .second] [(.long ud), (.ref ob)])) rfl rfl (hb hby d1_23)
  refine Go.st st41 ?_
  have f42 : Exa Z h41 ob "com/example/exact_quorum/exactquorum/protocol/Stat" := f29.wr W41
  have f43 : Fld Z h41 ob "com/example/exact_quorum/exactquorum/protocol/Stat" "czxid" "J" (.long ua) := f30.other W41 (Or.inr (slot_ne (Or.inr (wdx hw 10 rfl)) (Or.inr (wdx hw 16 rfl)) (by decide) (t := .long) (t' := .long) (by decide) (by decide)))
  have f44 : Fld Z h41 ob "com/example/exact_quorum/exactquorum/protocol/Stat" "mzxid" "J" (.long ub) := f31.other W41 (Or.inr (slot_ne (Or.inr (wdx hw 12 rfl)) (Or.inr (wdx hw 16 rfl)) (by decide) (t := .long) (t' := .long) (by decide) (by decide)))
  have f45 : Fld Z h41 ob "com/example/exact_quorum/exactquorum/protocol/Stat" "ctime" "J" (.long uc) := f32.other W41 (Or.inr (slot_ne (Or.inr (wdx hw 14 rfl)) (Or.inr (wdx hw 16 rfl)) (by decide) (t := .long) (t' := .long) (by decide) (by decide)))
  have f46 : Fld Z h41 ob "com/example/exact_quorum/exactquorum/protocol/Stat" "mtime" "J" (.long ud) := f33.same W41
  have f47 : Fld Z h41 ob "com/example/exact_quorum/exactquorum/protocol/Stat" "version" "I" (.int (0 : Int32)) := f34.other W41 (Or.inr (slot_ne (Or.inr (wdx hw 18 rfl)) (Or.inr (wdx hw 16 rfl)) (by decide) (t := .int) (t' := .long) (by decide) (by decide)))
  have f48 : Fld Z h41 ob "com/example/exact_quorum/exactquorum/protocol/Stat" "cversion" "I" (.int (0 : Int32)) := f35.other W41 (Or.inr (slot_ne (Or.inr (wdx hw 20 rfl)) (Or.inr (wdx hw 16 rfl)) (by decide) (t := .int) (t' := .long) (by decide) (by decide)))
  have f49 : Fld Z h41 ob "com/example/exact_quorum/exactquorum/protocol/Stat" "aversion" "I" (.int (0 : Int32)) := f36.other W41 (Or.inr (slot_ne (Or.inr (wdx hw 22 rfl)) (Or.inr (wdx hw 16 rfl)) (by decide) (t := .int) (t' := .long) (by decide) (by decide)))
  have f50 : Fld Z h41 ob "com/example/exact_quorum/exactquorum/protocol/Stat" "ephemeralOwner" "J" (.long (0 : Int64)) := f37.other W41 (Or.inr (slot_ne (Or.inr (wdx hw 24 rfl)) (Or.inr (wdx hw 16 rfl)) (by decide) (t := .long) (t' := .long) (by decide) (by decide)))
  have f51 : Fld Z h41 ob "com/example/exact_quorum/exactquorum/protocol/Stat" "dataLength" "I" (.int (0 : Int32)) := f38.other W41 (Or.inr (slot_ne (Or.inr (wdx hw 26 rfl)) (Or.inr (wdx hw 16 rfl)) (by decide) (t := .int) (t' := .long) (by decide) (by decide)))
  have f52 : Fld Z h41 ob "com/example/exact_quorum/exactquorum/protocol/Stat" "numChildren" "I" (.int (0 : Int32)) := f39.other W41 (Or.inr (slot_ne (Or.inr (wdx hw 28 rfl)) (Or.inr (wdx hw 16 rfl)) (by decide) (t := .int) (t' := .long) (by decide) (by decide)))
  have f53 : Fld Z h41 ob "com/example/exact_quorum/exactquorum/protocol/Stat" "pzxid" "J" (.long (0 : Int64)) := f40.other W41 (Or.inr (slot_ne (Or.inr (wdx hw 30 rfl)) (Or.inr (wdx hw 16 rfl)) (by decide) (t := .long) (t' := .long) (by decide) (by decide)))
  have O41 : Old Z n0 h41 := O28.wr W41 g_o
  have N41 := Fr.snoc X41 N28 g_o
  have K41 : Keep h0 h41 [ob] := K28.wr W41 (Or.inl (by simp))
  show Go p e below s _ _ _ (T41.setTop (mkF m 26 #[.val (.ref ob), .val (.long ua), .second, .val (.long ub), .second, .val (.long uc), .second, .val (.long ud), .second, .val (.int ue), .val (.int uf), .val (.int ug), .val (.long uh), .second, .val (.int ui), .val (.int uj), .val (.long uk), .second] []))
  refine Go.st (fun _ k' => XS.aloadN X41.here hx rfl (hb hby d1_26) rfl rfl k') ?_
  show Go p e below s _ _ _ (T41.setTop (mkF m 27 #[.val (.ref ob), .val (.long ua), .second, .val (.long ub), .second, .val (.long uc), .second, .val (.long ud), .second, .val (.int ue), .val (.int uf), .val (.int ug), .val (.long uh), .second, .val (.int ui), .val (.int uj), .val (.long uk), .second] [(.ref ob)]))
  refine Go.st (fun _ k' => XS.iload X41.here hx rfl (hb hby d1_27) rfl k') ?_
  show Go p e below s _ _ _ (T41.setTop (mkF m 29 #[.val (.ref ob), .val (.long ua), .second, .val (.long ub), .second, .val (.long uc), .second, .val (.long ud), .second, .val (.int ue), .val (.int uf), .val (.int ug), .val (.long uh), .second, .val (.int ui), .val (.int uj), .val (.long uk), .second] [(.int ue), (.ref ob)]))
  obtain ⟨T54, h54, X54, e54, W54, st54⟩ := putF X41 hx hZ hown (host := "") (Or.inl (wdx hw 17 rfl)) Via.refl e41 f47 f42 (Or.inr ⟨(wdx hw 18 rfl), rfl, hnm⟩) (wdx hw 1 rfl) (ty := .int) (by decide) rfl rfl (g := (mkF m 29 #[.val (.ref ob), .val (.long ua), .second, .val (.long ub), .second, .val (.long uc), .second, .val (.long ud), .second, .val (.int ue), .val (.int uf), .val (.int ug), .val (.long uh), .second, .val (.int ui), .val (.int uj), .val (.long uk), .second] [(.int ue), (.ref ob)])) rfl rfl (hb hby d1_29)
  refine Go.st st54 ?_
  have f55 : Exa Z h54 ob "com/example/exact_quorum/exactquorum/protocol/Stat" := f42.wr W54
  have f56 : Fld Z h54 ob "com/example/exact_quorum/exactquorum/protocol/Stat" "czxid" "J" (.long ua) := f43.other W54 (Or.inr (slot_ne (Or.inr (wdx hw 10 rfl)) (Or.inr (wdx hw 18 rfl)) (by decide) (t := .long) (t' := .int) (by decide) (by decide)))
  have f57 : Fld Z h54 ob "com/example/exact_quorum/exactquorum/protocol/Stat" "mzxid" "J" (.long ub) := f44.other W54 (Or.inr (slot_ne (Or.inr (wdx hw 12 rfl)) (Or.inr (wdx hw 18 rfl)) (by decide) (t := .long) (t' := .int) (by decide) (by decide)))
  have f58 : Fld Z h54 ob "com/example/exact_quorum/exactquorum/protocol/Stat" "ctime" "J" (.long uc) := f45.other W54 (Or.inr (slot_ne (Or.inr (wdx hw 14 rfl)) (Or.inr (wdx hw 18 rfl)) (by decide) (t := .long) (t' := .int) (by decide) (by decide)))
  have f59 : Fld Z h54 ob "com/example/exact_quorum/exactquorum/protocol/Stat" "mtime" "J" (.long ud) := f46.other W54 (Or.inr (slot_ne (Or.inr (wdx hw 16 rfl)) (Or.inr (wdx hw 18 rfl)) (by decide) (t := .long) (t' := .int) (by decide) (by decide)))
  have f60 : Fld Z h54 ob "com/example/exact_quorum/exactquorum/protocol/Stat" "version" "I" (.int ue) := f47.same W54
  have f61 : Fld Z h54 ob "com/example/exact_quorum/exactquorum/protocol/Stat" "cversion" "I" (.int (0 : Int32)) := f48.other W54 (Or.inr (slot_ne (Or.inr (wdx hw 20 rfl)) (Or.inr (wdx hw 18 rfl)) (by decide) (t := .int) (t' := .int) (by decide) (by decide)))
  have f62 : Fld Z h54 ob "com/example/exact_quorum/exactquorum/protocol/Stat" "aversion" "I" (.int (0 : Int32)) := f49.other W54 (Or.inr (slot_ne (Or.inr (wdx hw 22 rfl)) (Or.inr (wdx hw 18 rfl)) (by decide) (t := .int) (t' := .int) (by decide) (by decide)))
  have f63 : Fld Z h54 ob "com/example/exact_quorum/exactquorum/protocol/Stat" "ephemeralOwner" "J" (.long (0 : Int64)) := f50.other W54 (Or.inr (slot_ne (Or.inr (wdx hw 24 rfl)) (Or.inr (wdx hw 18 rfl)) (by decide) (t := .long) (t' := .int) (by decide) (by decide)))
  have f64 : Fld Z h54 ob "com/example/exact_quorum/exactquorum/protocol/Stat" "dataLength" "I" (.int (0 : Int32)) := f51.other W54 (Or.inr (slot_ne (Or.inr (wdx hw 26 rfl)) (Or.inr (wdx hw 18 rfl)) (by decide) (t := .int) (t' := .int) (by decide) (by decide)))
  have f65 : Fld Z h54 ob "com/example/exact_quorum/exactquorum/protocol/Stat" "numChildren" "I" (.int (0 : Int32)) := f52.other W54 (Or.inr (slot_ne (Or.inr (wdx hw 28 rfl)) (Or.inr (wdx hw 18 rfl)) (by decide) (t := .int) (t' := .int) (by decide) (by decide)))
  have f66 : Fld Z h54 ob "com/example/exact_quorum/exactquorum/protocol/Stat" "pzxid" "J" (.long (0 : Int64)) := f53.other W54 (Or.inr (slot_ne (Or.inr (wdx hw 30 rfl)) (Or.inr (wdx hw 18 rfl)) (by decide) (t := .long) (t' := .int) (by decide) (by decide)))
  have O54 : Old Z n0 h54 := O41.wr W54 g_o
  have N54 := Fr.snoc X54 N41 g_o
  have K54 : Keep h0 h54 [ob] := K41.wr W54 (Or.inl (by simp))
  show Go p e below s _ _ _ (T54.setTop (mkF m 32 #[.val (.ref ob), .val (.long ua), .second, .val (.long ub), .second, .val (.long uc), .second, .val (.long ud), .second, .val (.int ue), .val (.int uf), .val (.int ug), .val (.long uh), .second, .val (.int ui), .val (.int uj), .val (.long uk), .second] []))
  refine Go.st (fun _ k' => XS.aloadN X54.here hx rfl (hb hby d1_32) rfl rfl k') ?_
  show Go p e below s _ _ _ (T54.setTop (mkF m 33 #[.val (.ref ob), .val (.long ua), .second, .val (.long ub), .second, .val (.long uc), .second, .val (.long ud), .second, .val (.int ue), .val (.int uf), .val (.int ug), .val (.long uh), .second, .val (.int ui), .val (.int uj), .val (.long uk), .second] [(.ref ob)]))
  refine Go.st (fun _ k' => XS.iload X54.here hx rfl (hb hby d1_33) rfl k') ?_
  show Go p e below s _ _ _ (T54.setTop (mkF m 35 #[.val (.ref ob), .val (.long ua), .second, .val (.long ub), .second, .val (.long uc), .second, .val (.long ud), .second, .val (.int ue), .val (.int uf), .val (.int ug), .val (.long uh), .second, .val (.int ui), .val (.int uj), .val (.long uk), .second] [(.int uf), (.ref ob)]))
  obtain ⟨T67, h67, X67, e67, W67, st67⟩ := putF X54 hx hZ hown (host := "") (Or.inl (wdx hw 19 rfl)) Via.refl e54 f61 f55 (Or.inr ⟨(wdx hw 20 rfl), rfl, hnm⟩) (wdx hw 1 rfl) (ty := .int) (by decide) rfl rfl (g := (mkF m 35 #[.val (.ref ob), .val (.long ua), .second, .val (.long ub), .second, .val (.long uc), .second, .val (.long ud), .second, .val (.int ue), .val (.int uf), .val (.int ug), .val (.long uh), .second, .val (.int ui), .val (.int uj), .val (.long uk), .second] [(.int uf), (.ref ob)])) rfl rfl (hb hby d1_35)
  refine Go.st st67 ?_
  have f68 : Exa Z h67 ob "com/example/exact_quorum/exactquorum/protocol/Stat" := f55.wr W67
  have f69 : Fld Z h67 ob "com/example/exact_quorum/exactquorum/protocol/Stat" "czxid" "J" (.long ua) := f56.other W67 (Or.inr (slot_ne (Or.inr (wdx hw 10 rfl)) (Or.inr (wdx hw 20 rfl)) (by decide) (t := .long) (t' := .int) (by decide) (by decide)))
  have f70 : Fld Z h67 ob "com/example/exact_quorum/exactquorum/protocol/Stat" "mzxid" "J" (.long ub) := f57.other W67 (Or.inr (slot_ne (Or.inr (wdx hw 12 rfl)) (Or.inr (wdx hw 20 rfl)) (by decide) (t := .long) (t' := .int) (by decide) (by decide)))
  have f71 : Fld Z h67 ob "com/example/exact_quorum/exactquorum/protocol/Stat" "ctime" "J" (.long uc) := f58.other W67 (Or.inr (slot_ne (Or.inr (wdx hw 14 rfl)) (Or.inr (wdx hw 20 rfl)) (by decide) (t := .long) (t' := .int) (by decide) (by decide)))
  have f72 : Fld Z h67 ob "com/example/exact_quorum/exactquorum/protocol/Stat" "mtime" "J" (.long ud) := f59.other W67 (Or.inr (slot_ne (Or.inr (wdx hw 16 rfl)) (Or.inr (wdx hw 20 rfl)) (by decide) (t := .long) (t' := .int) (by decide) (by decide)))
  have f73 : Fld Z h67 ob "com/example/exact_quorum/exactquorum/protocol/Stat" "version" "I" (.int ue) := f60.other W67 (Or.inr (slot_ne (Or.inr (wdx hw 18 rfl)) (Or.inr (wdx hw 20 rfl)) (by decide) (t := .int) (t' := .int) (by decide) (by decide)))
  have f74 : Fld Z h67 ob "com/example/exact_quorum/exactquorum/protocol/Stat" "cversion" "I" (.int uf) := f61.same W67
  have f75 : Fld Z h67 ob "com/example/exact_quorum/exactquorum/protocol/Stat" "aversion" "I" (.int (0 : Int32)) := f62.other W67 (Or.inr (slot_ne (Or.inr (wdx hw 22 rfl)) (Or.inr (wdx hw 20 rfl)) (by decide) (t := .int) (t' := .int) (by decide) (by decide)))
  have f76 : Fld Z h67 ob "com/example/exact_quorum/exactquorum/protocol/Stat" "ephemeralOwner" "J" (.long (0 : Int64)) := f63.other W67 (Or.inr (slot_ne (Or.inr (wdx hw 24 rfl)) (Or.inr (wdx hw 20 rfl)) (by decide) (t := .long) (t' := .int) (by decide) (by decide)))
  have f77 : Fld Z h67 ob "com/example/exact_quorum/exactquorum/protocol/Stat" "dataLength" "I" (.int (0 : Int32)) := f64.other W67 (Or.inr (slot_ne (Or.inr (wdx hw 26 rfl)) (Or.inr (wdx hw 20 rfl)) (by decide) (t := .int) (t' := .int) (by decide) (by decide)))
  have f78 : Fld Z h67 ob "com/example/exact_quorum/exactquorum/protocol/Stat" "numChildren" "I" (.int (0 : Int32)) := f65.other W67 (Or.inr (slot_ne (Or.inr (wdx hw 28 rfl)) (Or.inr (wdx hw 20 rfl)) (by decide) (t := .int) (t' := .int) (by decide) (by decide)))
  have f79 : Fld Z h67 ob "com/example/exact_quorum/exactquorum/protocol/Stat" "pzxid" "J" (.long (0 : Int64)) := f66.other W67 (Or.inr (slot_ne (Or.inr (wdx hw 30 rfl)) (Or.inr (wdx hw 20 rfl)) (by decide) (t := .long) (t' := .int) (by decide) (by decide)))
  have O67 : Old Z n0 h67 := O54.wr W67 g_o
  have N67 := Fr.snoc X67 N54 g_o
  have K67 : Keep h0 h67 [ob] := K54.wr W67 (Or.inl (by simp))
  show Go p e below s _ _ _ (T67.setTop (mkF m 38 #[.val (.ref ob), .val (.long ua), .second, .val (.long ub), .second, .val (.long uc), .second, .val (.long ud), .second, .val (.int ue), .val (.int uf), .val (.int ug), .val (.long uh), .second, .val (.int ui), .val (.int uj), .val (.long uk), .second] []))
  refine Go.st (fun _ k' => XS.aloadN X67.here hx rfl (hb hby d1_38) rfl rfl k') ?_
  show Go p e below s _ _ _ (T67.setTop (mkF m 39 #[.val (.ref ob), .val (.long ua), .second, .val (.long ub), .second, .val (.long uc), .second, .val (.long ud), .second, .val (.int ue), .val (.int uf), .val (.int ug), .val (.long uh), .second, .val (.int ui), .val (.int uj), .val (.long uk), .second] [(.ref ob)]))
  refine Go.st (fun _ k' => XS.iload X67.here hx rfl (hb hby d1_39) rfl k') ?_
  show Go p e below s _ _ _ (T67.setTop (mkF m 41 #[.val (.ref ob), .val (.long ua), .second, .val (.long ub), .second, .val (.long uc), .second, .val (.long ud), .second, .val (.int ue), .val (.int uf), .val (.int ug), .val (.long uh), .second, .val (.int ui), .val (.int uj), .val (.long uk), .second] [(.int ug), (.ref ob)]))
  obtain ⟨T80, h80, X80, e80, W80, st80⟩ := putF X67 hx hZ hown (host := "") (Or.inl (wdx hw 21 rfl)) Via.refl e67 f75 f68 (Or.inr ⟨(wdx hw 22 rfl), rfl, hnm⟩) (wdx hw 1 rfl) (ty := .int) (by decide) rfl rfl (g := (mkF m 41 #[.val (.ref ob), .val (.long ua), .second, .val (.long ub), .second, .val (.long uc), .second, .val (.long ud), .second, .val (.int ue), .val (.int uf), .val (.int ug), .val (.long uh), .second, .val (.int ui), .val (.int uj), .val (.long uk), .second] [(.int ug), (.ref ob)])) rfl rfl (hb hby d1_41)
  refine Go.st st80 ?_
  have f81 : Exa Z h80 ob "com/example/exact_quorum/exactquorum/protocol/Stat" := f68.wr W80
  have f82 : Fld Z h80 ob "com/example/exact_quorum/exactquorum/protocol/Stat" "czxid" "J" (.long ua) := f69.other W80 (Or.inr (slot_ne (Or.inr (wdx hw 10 rfl)) (Or.inr (wdx hw 22 rfl)) (by decide) (t := .long) (t' := .int) (by decide) (by decide)))
  have f83 : Fld Z h80 ob "com/example/exact_quorum/exactquorum/protocol/Stat" "mzxid" "J" (.long ub) := f70.other W80 (Or.inr (slot_ne (Or.inr (wdx hw 12 rfl)) (Or.inr (wdx hw 22 rfl)) (by decide) (t := .long) (t' := .int) (by decide) (by decide)))
  have f84 : Fld Z h80 ob "com/example/exact_quorum/exactquorum/protocol/Stat" "ctime" "J" (.long uc) := f71.other W80 (Or.inr (slot_ne (Or.inr (wdx hw 14 rfl)) (Or.inr (wdx hw 22 rfl)) (by decide) (t := .long) (t' := .int) (by decide) (by decide)))
  have f85 : Fld Z h80 ob "com/example/exact_quorum/exactquorum/protocol/Stat" "mtime" "J" (.long ud) := f72.other W80 (Or.inr (slot_ne (Or.inr (wdx hw 16 rfl)) (Or.inr (wdx hw 22 rfl)) (by decide) (t := .long) (t' := .int) (by decide) (by decide)))
  have f86 : Fld Z h80 ob "com/example/exact_quorum/exactquorum/protocol/Stat" "version" "I" (.int ue) := f73.other W80 (Or.inr (slot_ne (Or.inr (wdx hw 18 rfl)) (Or.inr (wdx hw 22 rfl)) (by decide) (t := .int) (t' := .int) (by decide) (by decide)))
  have f87 : Fld Z h80 ob "com/example/exact_quorum/exactquorum/protocol/Stat" "cversion" "I" (.int uf) := f74.other W80 (Or.inr (slot_ne (Or.inr (wdx hw 20 rfl)) (Or.inr (wdx hw 22 rfl)) (by decide) (t := .int) (t' := .int) (by decide) (by decide)))
  have f88 : Fld Z h80 ob "com/example/exact_quorum/exactquorum/protocol/Stat" "aversion" "I" (.int ug) := f75.same W80
  have f89 : Fld Z h80 ob "com/example/exact_quorum/exactquorum/protocol/Stat" "ephemeralOwner" "J" (.long (0 : Int64)) := f76.other W80 (Or.inr (slot_ne (Or.inr (wdx hw 24 rfl)) (Or.inr (wdx hw 22 rfl)) (by decide) (t := .long) (t' := .int) (by decide) (by decide)))
  have f90 : Fld Z h80 ob "com/example/exact_quorum/exactquorum/protocol/Stat" "dataLength" "I" (.int (0 : Int32)) := f77.other W80 (Or.inr (slot_ne (Or.inr (wdx hw 26 rfl)) (Or.inr (wdx hw 22 rfl)) (by decide) (t := .int) (t' := .int) (by decide) (by decide)))
  have f91 : Fld Z h80 ob "com/example/exact_quorum/exactquorum/protocol/Stat" "numChildren" "I" (.int (0 : Int32)) := f78.other W80 (Or.inr (slot_ne (Or.inr (wdx hw 28 rfl)) (Or.inr (wdx hw 22 rfl)) (by decide) (t := .int) (t' := .int) (by decide) (by decide)))
  have f92 : Fld Z h80 ob "com/example/exact_quorum/exactquorum/protocol/Stat" "pzxid" "J" (.long (0 : Int64)) := f79.other W80 (Or.inr (slot_ne (Or.inr (wdx hw 30 rfl)) (Or.inr (wdx hw 22 rfl)) (by decide) (t := .long) (t' := .int) (by decide) (by decide)))
  have O80 : Old Z n0 h80 := O67.wr W80 g_o
  have N80 := Fr.snoc X80 N67 g_o
  have K80 : Keep h0 h80 [ob] := K67.wr W80 (Or.inl (by simp))
  show Go p e below s _ _ _ (T80.setTop (mkF m 44 #[.val (.ref ob), .val (.long ua), .second, .val (.long ub), .second, .val (.long uc), .second, .val (.long ud), .second, .val (.int ue), .val (.int uf), .val (.int ug), .val (.long uh), .second, .val (.int ui), .val (.int uj), .val (.long uk), .second] []))
  refine Go.st (fun _ k' => XS.aloadN X80.here hx rfl (hb hby d1_44) rfl rfl k') ?_
  show Go p e below s _ _ _ (T80.setTop (mkF m 45 #[.val (.ref ob), .val (.long ua), .second, .val (.long ub), .second, .val (.long uc), .second, .val (.long ud), .second, .val (.int ue), .val (.int uf), .val (.int ug), .val (.long uh), .second, .val (.int ui), .val (.int uj), .val (.long uk), .second] [(.ref ob)]))
  refine Go.st (fun _ k' => XS.lload X80.here hx rfl (hb hby d1_45) rfl k') ?_
  show Go p e below s _ _ _ (T80.setTop (mkF m 47 #[.val (.ref ob), .val (.long ua), .second, .val (.long ub), .second, .val (.long uc), .second, .val (.long ud), .second, .val (.int ue), .val (.int uf), .val (.int ug), .val (.long uh), .second, .val (.int ui), .val (.int uj), .val (.long uk), .second] [(.long uh), (.ref ob)]))
  obtain ⟨T93, h93, X93, e93, W93, st93⟩ := putF X80 hx hZ hown (host := "") (Or.inl (wdx hw 23 rfl)) Via.refl e80 f89 f81 (Or.inr ⟨(wdx hw 24 rfl), rfl, hnm⟩) (wdx hw 1 rfl) (ty := .long) (by decide) rfl rfl (g := (mkF m 47 #[.val (.ref ob), .val (.long ua), .second, .val (.long ub), .second, .val (.long uc), .second, .val (.long ud), .second, .val (.int ue), .val (.int uf), .val (.int ug), .val (.long uh), .second, .val (.int ui), .val (.int uj), .val (.long uk), .second] [(.long uh), (.ref ob)])) rfl rfl (hb hby d1_47)
  refine Go.st st93 ?_
  have f94 : Exa Z h93 ob "com/example/exact_quorum/exactquorum/protocol/Stat" := f81.wr W93
  have f95 : Fld Z h93 ob "com/example/exact_quorum/exactquorum/protocol/Stat" "czxid" "J" (.long ua) := f82.other W93 (Or.inr (slot_ne (Or.inr (wdx hw 10 rfl)) (Or.inr (wdx hw 24 rfl)) (by decide) (t := .long) (t' := .long) (by decide) (by decide)))
  have f96 : Fld Z h93 ob "com/example/exact_quorum/exactquorum/protocol/Stat" "mzxid" "J" (.long ub) := f83.other W93 (Or.inr (slot_ne (Or.inr (wdx hw 12 rfl)) (Or.inr (wdx hw 24 rfl)) (by decide) (t := .long) (t' := .long) (by decide) (by decide)))
  have f97 : Fld Z h93 ob "com/example/exact_quorum/exactquorum/protocol/Stat" "ctime" "J" (.long uc) := f84.other W93 (Or.inr (slot_ne (Or.inr (wdx hw 14 rfl)) (Or.inr (wdx hw 24 rfl)) (by decide) (t := .long) (t' := .long) (by decide) (by decide)))
  have f98 : Fld Z h93 ob "com/example/exact_quorum/exactquorum/protocol/Stat" "mtime" "J" (.long ud) := f85.other W93 (Or.inr (slot_ne (Or.inr (wdx hw 16 rfl)) (Or.inr (wdx hw 24 rfl)) (by decide) (t := .long) (t' := .long) (by decide) (by decide)))
  have f99 : Fld Z h93 ob "com/example/exact_quorum/exactquorum/protocol/Stat" "version" "I" (.int ue) := f86.other W93 (Or.inr (slot_ne (Or.inr (wdx hw 18 rfl)) (Or.inr (wdx hw 24 rfl)) (by decide) (t := .int) (t' := .long) (by decide) (by decide)))
  have f100 : Fld Z h93 ob "com/example/exact_quorum/exactquorum/protocol/Stat" "cversion" "I" (.int uf) := f87.other W93 (Or.inr (slot_ne (Or.inr (wdx hw 20 rfl)) (Or.inr (wdx hw 24 rfl)) (by decide) (t := .int) (t' := .long) (by decide) (by decide)))
  have f101 : Fld Z h93 ob "com/example/exact_quorum/exactquorum/protocol/Stat" "aversion" "I" (.int ug) := f88.other W93 (Or.inr (slot_ne (Or.inr (wdx hw 22 rfl)) (Or.inr (wdx hw 24 rfl)) (by decide) (t := .int) (t' := .long) (by decide) (by decide)))
  have f102 : Fld Z h93 ob "com/example/exact_quorum/exactquorum/protocol/Stat" "ephemeralOwner" "J" (.long uh) := f89.same W93
  have f103 : Fld Z h93 ob "com/example/exact_quorum/exactquorum/protocol/Stat" "dataLength" "I" (.int (0 : Int32)) := f90.other W93 (Or.inr (slot_ne (Or.inr (wdx hw 26 rfl)) (Or.inr (wdx hw 24 rfl)) (by decide) (t := .int) (t' := .long) (by decide) (by decide)))
  have f104 : Fld Z h93 ob "com/example/exact_quorum/exactquorum/protocol/Stat" "numChildren" "I" (.int (0 : Int32)) := f91.other W93 (Or.inr (slot_ne (Or.inr (wdx hw 28 rfl)) (Or.inr (wdx hw 24 rfl)) (by decide) (t := .int) (t' := .long) (by decide) (by decide)))
  have f105 : Fld Z h93 ob "com/example/exact_quorum/exactquorum/protocol/Stat" "pzxid" "J" (.long (0 : Int64)) := f92.other W93 (Or.inr (slot_ne (Or.inr (wdx hw 30 rfl)) (Or.inr (wdx hw 24 rfl)) (by decide) (t := .long) (t' := .long) (by decide) (by decide)))
  have O93 : Old Z n0 h93 := O80.wr W93 g_o
  have N93 := Fr.snoc X93 N80 g_o
  have K93 : Keep h0 h93 [ob] := K80.wr W93 (Or.inl (by simp))
  show Go p e below s _ _ _ (T93.setTop (mkF m 50 #[.val (.ref ob), .val (.long ua), .second, .val (.long ub), .second, .val (.long uc), .second, .val (.long ud), .second, .val (.int ue), .val (.int uf), .val (.int ug), .val (.long uh), .second, .val (.int ui), .val (.int uj), .val (.long uk), .second] []))
  refine Go.st (fun _ k' => XS.aloadN X93.here hx rfl (hb hby d1_50) rfl rfl k') ?_
  show Go p e below s _ _ _ (T93.setTop (mkF m 51 #[.val (.ref ob), .val (.long ua), .second, .val (.long ub), .second, .val (.long uc), .second, .val (.long ud), .second, .val (.int ue), .val (.int uf), .val (.int ug), .val (.long uh), .second, .val (.int ui), .val (.int uj), .val (.long uk), .second] [(.ref ob)]))
  refine Go.st (fun _ k' => XS.iload X93.here hx rfl (hb hby d1_51) rfl k') ?_
  show Go p e below s _ _ _ (T93.setTop (mkF m 53 #[.val (.ref ob), .val (.long ua), .second, .val (.long ub), .second, .val (.long uc), .second, .val (.long ud), .second, .val (.int ue), .val (.int uf), .val (.int ug), .val (.long uh), .second, .val (.int ui), .val (.int uj), .val (.long uk), .second] [(.int ui), (.ref ob)]))
  obtain ⟨T106, h106, X106, e106, W106, st106⟩ := putF X93 hx hZ hown (host := "") (Or.inl (wdx hw 25 rfl)) Via.refl e93 f103 f94 (Or.inr ⟨(wdx hw 26 rfl), rfl, hnm⟩) (wdx hw 1 rfl) (ty := .int) (by decide) rfl rfl (g := (mkF m 53 #[.val (.ref ob), .val (.long ua), .second, .val (.long ub), .second, .val (.long uc), .second, .val (.long ud), .second, .val (.int ue), .val (.int uf), .val (.int ug), .val (.long uh), .second, .val (.int ui), .val (.int uj), .val (.long uk), .second] [(.int ui), (.ref ob)])) rfl rfl (hb hby d1_53)
  refine Go.st st106 ?_
  have f107 : Exa Z h106 ob "com/example/exact_quorum/exactquorum/protocol/Stat" := f94.wr W106
  have f108 : Fld Z h106 ob "com/example/exact_quorum/exactquorum/protocol/Stat" "czxid" "J" (.long ua) := f95.other W106 (Or.inr (slot_ne (Or.inr (wdx hw 10 rfl)) (Or.inr (wdx hw 26 rfl)) (by decide) (t := .long) (t' := .int) (by decide) (by decide)))
  have f109 : Fld Z h106 ob "com/example/exact_quorum/exactquorum/protocol/Stat" "mzxid" "J" (.long ub) := f96.other W106 (Or.inr (slot_ne (Or.inr (wdx hw 12 rfl)) (Or.inr (wdx hw 26 rfl)) (by decide) (t := .long) (t' := .int) (by decide) (by decide)))
  have f110 : Fld Z h106 ob "com/example/exact_quorum/exactquorum/protocol/Stat" "ctime" "J" (.long uc) := f97.other W106 (Or.inr (slot_ne (Or.inr (wdx hw 14 rfl)) (Or.inr (wdx hw 26 rfl)) (by decide) (t := .long) (t' := .int) (by decide) (by decide)))
  have f111 : Fld Z h106 ob "com/example/exact_quorum/exactquorum/protocol/Stat" "mtime" "J" (.long ud) := f98.other W106 (Or.inr (slot_ne (Or.inr (wdx hw 16 rfl)) (Or.inr (wdx hw 26 rfl)) (by decide) (t := .long) (t' := .int) (by decide) (by decide)))
  have f112 : Fld Z h106 ob "com/example/exact_quorum/exactquorum/protocol/Stat" "version" "I" (.int ue) := f99.other W106 (Or.inr (slot_ne (Or.inr (wdx hw 18 rfl)) (Or.inr (wdx hw 26 rfl)) (by decide) (t := .int) (t' := .int) (by decide) (by decide)))
  have f113 : Fld Z h106 ob "com/example/exact_quorum/exactquorum/protocol/Stat" "cversion" "I" (.int uf) := f100.other W106 (Or.inr (slot_ne (Or.inr (wdx hw 20 rfl)) (Or.inr (wdx hw 26 rfl)) (by decide) (t := .int) (t' := .int) (by decide) (by decide)))
  have f114 : Fld Z h106 ob "com/example/exact_quorum/exactquorum/protocol/Stat" "aversion" "I" (.int ug) := f101.other W106 (Or.inr (slot_ne (Or.inr (wdx hw 22 rfl)) (Or.inr (wdx hw 26 rfl)) (by decide) (t := .int) (t' := .int) (by decide) (by decide)))
  have f115 : Fld Z h106 ob "com/example/exact_quorum/exactquorum/protocol/Stat" "ephemeralOwner" "J" (.long uh) := f102.other W106 (Or.inr (slot_ne (Or.inr (wdx hw 24 rfl)) (Or.inr (wdx hw 26 rfl)) (by decide) (t := .long) (t' := .int) (by decide) (by decide)))
  have f116 : Fld Z h106 ob "com/example/exact_quorum/exactquorum/protocol/Stat" "dataLength" "I" (.int ui) := f103.same W106
  have f117 : Fld Z h106 ob "com/example/exact_quorum/exactquorum/protocol/Stat" "numChildren" "I" (.int (0 : Int32)) := f104.other W106 (Or.inr (slot_ne (Or.inr (wdx hw 28 rfl)) (Or.inr (wdx hw 26 rfl)) (by decide) (t := .int) (t' := .int) (by decide) (by decide)))
  have f118 : Fld Z h106 ob "com/example/exact_quorum/exactquorum/protocol/Stat" "pzxid" "J" (.long (0 : Int64)) := f105.other W106 (Or.inr (slot_ne (Or.inr (wdx hw 30 rfl)) (Or.inr (wdx hw 26 rfl)) (by decide) (t := .long) (t' := .int) (by decide) (by decide)))
  have O106 : Old Z n0 h106 := O93.wr W106 g_o
  have N106 := Fr.snoc X106 N93 g_o
  have K106 : Keep h0 h106 [ob] := K93.wr W106 (Or.inl (by simp))
  show Go p e below s _ _ _ (T106.setTop (mkF m 56 #[.val (.ref ob), .val (.long ua), .second, .val (.long ub), .second, .val (.long uc), .second, .val (.long ud), .second, .val (.int ue), .val (.int uf), .val (.int ug), .val (.long uh), .second, .val (.int ui), .val (.int uj), .val (.long uk), .second] []))
  refine Go.st (fun _ k' => XS.aloadN X106.here hx rfl (hb hby d1_56) rfl rfl k') ?_
  show Go p e below s _ _ _ (T106.setTop (mkF m 57 #[.val (.ref ob), .val (.long ua), .second, .val (.long ub), .second, .val (.long uc), .second, .val (.long ud), .second, .val (.int ue), .val (.int uf), .val (.int ug), .val (.long uh), .second, .val (.int ui), .val (.int uj), .val (.long uk), .second] [(.ref ob)]))
  refine Go.st (fun _ k' => XS.iload X106.here hx rfl (hb hby d1_57) rfl k') ?_
  show Go p e below s _ _ _ (T106.setTop (mkF m 59 #[.val (.ref ob), .val (.long ua), .second, .val (.long ub), .second, .val (.long uc), .second, .val (.long ud), .second, .val (.int ue), .val (.int uf), .val (.int ug), .val (.long uh), .second, .val (.int ui), .val (.int uj), .val (.long uk), .second] [(.int uj), (.ref ob)]))
  obtain ⟨T119, h119, X119, e119, W119, st119⟩ := putF X106 hx hZ hown (host := "") (Or.inl (wdx hw 27 rfl)) Via.refl e106 f117 f107 (Or.inr ⟨(wdx hw 28 rfl), rfl, hnm⟩) (wdx hw 1 rfl) (ty := .int) (by decide) rfl rfl (g := (mkF m 59 #[.val (.ref ob), .val (.long ua), .second, .val (.long ub), .second, .val (.long uc), .second, .val (.long ud), .second, .val (.int ue), .val (.int uf), .val (.int ug), .val (.long uh), .second, .val (.int ui), .val (.int uj), .val (.long uk), .second] [(.int uj), (.ref ob)])) rfl rfl (hb hby d1_59)
  refine Go.st st119 ?_
  have f120 : Exa Z h119 ob "com/example/exact_quorum/exactquorum/protocol/Stat" := f107.wr W119
  have f121 : Fld Z h119 ob "com/example/exact_quorum/exactquorum/protocol/Stat" "czxid" "J" (.long ua) := f108.other W119 (Or.inr (slot_ne (Or.inr (wdx hw 10 rfl)) (Or.inr (wdx hw 28 rfl)) (by decide) (t := .long) (t' := .int) (by decide) (by decide)))
  have f122 : Fld Z h119 ob "com/example/exact_quorum/exactquorum/protocol/Stat" "mzxid" "J" (.long ub) := f109.other W119 (Or.inr (slot_ne (Or.inr (wdx hw 12 rfl)) (Or.inr (wdx hw 28 rfl)) (by decide) (t := .long) (t' := .int) (by decide) (by decide)))
  have f123 : Fld Z h119 ob "com/example/exact_quorum/exactquorum/protocol/Stat" "ctime" "J" (.long uc) := f110.other W119 (Or.inr (slot_ne (Or.inr (wdx hw 14 rfl)) (Or.inr (wdx hw 28 rfl)) (by decide) (t := .long) (t' := .int) (by decide) (by decide)))
  have f124 : Fld Z h119 ob "com/example/exact_quorum/exactquorum/protocol/Stat" "mtime" "J" (.long ud) := f111.other W119 (Or.inr (slot_ne (Or.inr (wdx hw 16 rfl)) (Or.inr (wdx hw 28 rfl)) (by decide) (t := .long) (t' := .int) (by decide) (by decide)))
  have f125 : Fld Z h119 ob "com/example/exact_quorum/exactquorum/protocol/Stat" "version" "I" (.int ue) := f112.other W119 (Or.inr (slot_ne (Or.inr (wdx hw 18 rfl)) (Or.inr (wdx hw 28 rfl)) (by decide) (t := .int) (t' := .int) (by decide) (by decide)))
  have f126 : Fld Z h119 ob "com/example/exact_quorum/exactquorum/protocol/Stat" "cversion" "I" (.int uf) := f113.other W119 (Or.inr (slot_ne (Or.inr (wdx hw 20 rfl)) (Or.inr (wdx hw 28 rfl)) (by decide) (t := .int) (t' := .int) (by decide) (by decide)))
  have f127 : Fld Z h119 ob "com/example/exact_quorum/exactquorum/protocol/Stat" "aversion" "I" (.int ug) := f114.other W119 (Or.inr (slot_ne (Or.inr (wdx hw 22 rfl)) (Or.inr (wdx hw 28 rfl)) (by decide) (t := .int) (t' := .int) (by decide) (by decide)))
  have f128 : Fld Z h119 ob "com/example/exact_quorum/exactquorum/protocol/Stat" "ephemeralOwner" "J" (.long uh) := f115.other W119 (Or.inr (slot_ne (Or.inr (wdx hw 24 rfl)) (Or.inr (wdx hw 28 rfl)) (by decide) (t := .long) (t' := .int) (by decide) (by decide)))
  have f129 : Fld Z h119 ob "com/example/exact_quorum/exactquorum/protocol/Stat" "dataLength" "I" (.int ui) := f116.other W119 (Or.inr (slot_ne (Or.inr (wdx hw 26 rfl)) (Or.inr (wdx hw 28 rfl)) (by decide) (t := .int) (t' := .int) (by decide) (by decide)))
  have f130 : Fld Z h119 ob "com/example/exact_quorum/exactquorum/protocol/Stat" "numChildren" "I" (.int uj) := f117.same W119
  have f131 : Fld Z h119 ob "com/example/exact_quorum/exactquorum/protocol/Stat" "pzxid" "J" (.long (0 : Int64)) := f118.other W119 (Or.inr (slot_ne (Or.inr (wdx hw 30 rfl)) (Or.inr (wdx hw 28 rfl)) (by decide) (t := .long) (t' := .int) (by decide) (by decide)))
  have O119 : Old Z n0 h119 := O106.wr W119 g_o
  have N119 := Fr.snoc X119 N106 g_o
  have K119 : Keep h0 h119 [ob] := K106.wr W119 (Or.inl (by simp))
  show Go p e below s _ _ _ (T119.setTop (mkF m 62 #[.val (.ref ob), .val (.long ua), .second, .val (.long ub), .second, .val (.long uc), .second, .val (.long ud), .second, .val (.int ue), .val (.int uf), .val (.int ug), .val (.long uh), .second, .val (.int ui), .val (.int uj), .val (.long uk), .second] []))
  refine Go.st (fun _ k' => XS.aloadN X119.here hx rfl (hb hby d1_62) rfl rfl k') ?_
  show Go p e below s _ _ _ (T119.setTop (mkF m 63 #[.val (.ref ob), .val (.long ua), .second, .val (.long ub), .second, .val (.long uc), .second, .val (.long ud), .second, .val (.int ue), .val (.int uf), .val (.int ug), .val (.long uh), .second, .val (.int ui), .val (.int uj), .val (.long uk), .second] [(.ref ob)]))
  refine Go.st (fun _ k' => XS.lload X119.here hx rfl (hb hby d1_63) rfl k') ?_
  show Go p e below s _ _ _ (T119.setTop (mkF m 65 #[.val (.ref ob), .val (.long ua), .second, .val (.long ub), .second, .val (.long uc), .second, .val (.long ud), .second, .val (.int ue), .val (.int uf), .val (.int ug), .val (.long uh), .second, .val (.int ui), .val (.int uj), .val (.long uk), .second] [(.long uk), (.ref ob)]))
  obtain ⟨T132, h132, X132, e132, W132, st132⟩ := putF X119 hx hZ hown (host := "") (Or.inl (wdx hw 29 rfl)) Via.refl e119 f131 f120 (Or.inr ⟨(wdx hw 30 rfl), rfl, hnm⟩) (wdx hw 1 rfl) (ty := .long) (by decide) rfl rfl (g := (mkF m 65 #[.val (.ref ob), .val (.long ua), .second, .val (.long ub), .second, .val (.long uc), .second, .val (.long ud), .second, .val (.int ue), .val (.int uf), .val (.int ug), .val (.long uh), .second, .val (.int ui), .val (.int uj), .val (.long uk), .second] [(.long uk), (.ref ob)])) rfl rfl (hb hby d1_65)
  refine Go.st st132 ?_
  have f133 : Exa Z h132 ob "com/example/exact_quorum/exactquorum/protocol/Stat" := f120.wr W132
  have f134 : Fld Z h132 ob "com/example/exact_quorum/exactquorum/protocol/Stat" "czxid" "J" (.long ua) := f121.other W132 (Or.inr (slot_ne (Or.inr (wdx hw 10 rfl)) (Or.inr (wdx hw 30 rfl)) (by decide) (t := .long) (t' := .long) (by decide) (by decide)))
  have f135 : Fld Z h132 ob "com/example/exact_quorum/exactquorum/protocol/Stat" "mzxid" "J" (.long ub) := f122.other W132 (Or.inr (slot_ne (Or.inr (wdx hw 12 rfl)) (Or.inr (wdx hw 30 rfl)) (by decide) (t := .long) (t' := .long) (by decide) (by decide)))
  have f136 : Fld Z h132 ob "com/example/exact_quorum/exactquorum/protocol/Stat" "ctime" "J" (.long uc) := f123.other W132 (Or.inr (slot_ne (Or.inr (wdx hw 14 rfl)) (Or.inr (wdx hw 30 rfl)) (by decide) (t := .long) (t' := .long) (by decide) (by decide)))
  have f137 : Fld Z h132 ob "com/example/exact_quorum/exactquorum/protocol/Stat" "mtime" "J" (.long ud) := f124.other W132 (Or.inr (slot_ne (Or.inr (wdx hw 16 rfl)) (Or.inr (wdx hw 30 rfl)) (by decide) (t := .long) (t' := .long) (by decide) (by decide)))
  have f138 : Fld Z h132 ob "com/example/exact_quorum/exactquorum/protocol/Stat" "version" "I" (.int ue) := f125.other W132 (Or.inr (slot_ne (Or.inr (wdx hw 18 rfl)) (Or.inr (wdx hw 30 rfl)) (by decide) (t := .int) (t' := .long) (by decide) (by decide)))
  have f139 : Fld Z h132 ob "com/example/exact_quorum/exactquorum/protocol/Stat" "cversion" "I" (.int uf) := f126.other W132 (Or.inr (slot_ne (Or.inr (wdx hw 20 rfl)) (Or.inr (wdx hw 30 rfl)) (by decide) (t := .int) (t' := .long) (by decide) (by decide)))
  have f140 : Fld Z h132 ob "com/example/exact_quorum/exactquorum/protocol/Stat" "aversion" "I" (.int ug) := f127.other W132 (Or.inr (slot_ne (Or.inr (wdx hw 22 rfl)) (Or.inr (wdx hw 30 rfl)) (by decide) (t := .int) (t' := .long) (by decide) (by decide)))
  have f141 : Fld Z h132 ob "com/example/exact_quorum/exactquorum/protocol/Stat" "ephemeralOwner" "J" (.long uh) := f128.other W132 (Or.inr (slot_ne (Or.inr (wdx hw 24 rfl)) (Or.inr (wdx hw 30 rfl)) (by decide) (t := .long) (t' := .long) (by decide) (by decide)))
  have f142 : Fld Z h132 ob "com/example/exact_quorum/exactquorum/protocol/Stat" "dataLength" "I" (.int ui) := f129.other W132 (Or.inr (slot_ne (Or.inr (wdx hw 26 rfl)) (Or.inr (wdx hw 30 rfl)) (by decide) (t := .int) (t' := .long) (by decide) (by decide)))
  have f143 : Fld Z h132 ob "com/example/exact_quorum/exactquorum/protocol/Stat" "numChildren" "I" (.int uj) := f130.other W132 (Or.inr (slot_ne (Or.inr (wdx hw 28 rfl)) (Or.inr (wdx hw 30 rfl)) (by decide) (t := .int) (t' := .long) (by decide) (by decide)))
  have f144 : Fld Z h132 ob "com/example/exact_quorum/exactquorum/protocol/Stat" "pzxid" "J" (.long uk) := f131.same W132
  have O132 : Old Z n0 h132 := O119.wr W132 g_o
  have N132 := Fr.snoc X132 N119 g_o
  have K132 : Keep h0 h132 [ob] := K119.wr W132 (Or.inl (by simp))
  show Go p e below s _ _ _ (T132.setTop (mkF m 68 #[.val (.ref ob), .val (.long ua), .second, .val (.long ub), .second, .val (.long uc), .second, .val (.long ud), .second, .val (.int ue), .val (.int uf), .val (.int ug), .val (.long uh), .second, .val (.int ui), .val (.int uj), .val (.long uk), .second] []))
  refine Go.retV X132 hx hlk Bd.returns (hb hby d1_68) (by decide) (by decide) e132 ?_
  exact ⟨rfl, N132, K132, f134, f135, f136, f137, f138, f139, f140, f141, f142, f143, f144⟩
theorem d7_0 : decode jdk_18_method_1_code 0 = .ok (.aload_n 0, 1) := by decide +kernel
theorem d7_1 : decode jdk_18_method_1_code 1 = .ok (.invokespecial 1, 3) := by decide +kernel
theorem d7_4 : decode jdk_18_method_1_code 4 = .ok (.return_, 1) := by decide +kernel
theorem pn_java_lang_Number : plainName "java/lang/Number" = true := by first | (simp [plainName, overriddenIn]; done) | decide +kernel
theorem ef_rm7 (m : MethodId) (ob : Addr) : entryFrame m #[(.ref ob)] 1 = mkF m 0 #[.val (.ref ob)] [] := by first | (simp [entryFrame, mkF, argsToLocals, Value.category]; done) | rfl
def Q7 (Z : State) (ob : Addr) (h0 : Heap) (n0 : Nat) (v : Option Value) (h : Heap) (L : List Loc) : Prop := v = none ∧ Fr n0 L ∧ h = h0
set_option maxRecDepth 65536 in
set_option maxHeartbeats 40000000 in
theorem rm7 (l : Launch) (Z : State) (a0 : Array Value) (hw : ∀ d ∈ tables_1, d.before a0 Z = true) (ws : List Jvm.Cond) (ob : Addr) (h0 : Heap) (n0 : Nat) (O0 : Old Z n0 h0) :
    MetFree l (⟨"java/lang/Number", "<init>", "()V"⟩ : MethodName) (head1 (Jvm.Cond.code (⟨"java/lang/Number", "<init>", "()V"⟩ : MethodName) jdk_18_method_1_code 1 none :: ws) ({ frames := 1, cells := 0, slots := 0, locals := 12 } : Room)) (fun ay U => ay = #[(.ref ob)] ∧ Z.Warmed39 U.vm ∧ U.heap = h0) (fun _ _ _ _ _ => True) (fun _ U o U' => ∃ v L, o = .returned v ∧ Q7 Z ob h0 n0 v U'.heap L ∧ FrameEnd U o U' L ({ frames := 1, cells := 0, slots := 0, locals := 12 } : Room).cells ({ frames := 1, cells := 0, slots := 0, locals := 12 } : Room).slots) := by
  refine MetFree.of_bodySF (plainFor_of_name pn_java_lang_Number) hisR ?_
  intro p e s m args below meth c s₁ Bd hml0 hP hK
  obtain ⟨rfl, hZ, hh⟩ := hP
  have hx := Bd.exec
  have hby := Bd.bytes
  have hlk : meth.locks = false := BodyLoose.notSynchronized Bd
  have hml : c.maxLocals = 1 := hml0
  have hown : s.vm.findClass "java/lang/Number" = some m.cls := findClass_of_methodNamed Bd.named
  have hnm := (name_of_methodNamed Bd.named Bd.method).1
  have X0 : Stand p l e ({ frames := 1, cells := 0, slots := 0, locals := 12 } : Room) s m #[(.ref ob)] below meth c s₁ [] 0 0 := Stand.of_body Bd
  have e0 : s₁.heap = h0 := by rw [← hh, Bd.state]; rfl
  have N0 := Fr.nil n0
  suffices hgo : Go p e below s 0 0 (Q7 Z ob h0 n0) (s₁.setTop (mkF m 0 #[.val (.ref ob)] [])) by
    obtain ⟨t, o, h1, h2⟩ := hgo; exact ⟨t, o, castTop (ef_rm7 m ob) h1, h2⟩
  show Go p e below s _ _ _ (s₁.setTop (mkF m 0 #[.val (.ref ob)] []))
  refine Go.st (fun _ k' => XS.aloadN X0.here hx rfl (hb hby d7_0) rfl rfl k') ?_
  show Go p e below s _ _ _ (s₁.setTop (mkF m 1 #[.val (.ref ob)] [(.ref ob)]))
  obtain ⟨T1, X1, e1, st1⟩ := initO X0 hx hZ hown (wdx hw 60 rfl) (wdx hw 7 rfl) (wdx hw 8 rfl) e0 (g := (mkF m 1 #[.val (.ref ob)] [(.ref ob)])) rfl (by rw [hml]; rfl) rfl (hb hby d7_1) (by decide) (W := 0) (by show 2 * 0 + _ ≤ _; exact Nat.le_of_eq rfl) (by decide)
  refine Go.st st1 ?_
  show Go p e below s _ _ _ (T1.setTop (mkF m 4 #[.val (.ref ob)] []))
  refine Go.retV X1 hx hlk Bd.returns (hb hby d7_4) (by decide) (by decide) e1 ?_
  exact ⟨rfl, N0, rfl⟩
theorem d6_0 : decode jdk_33_method_23_code 0 = .ok (.aload_n 0, 1) := by decide +kernel
theorem pd___V : parseMethodDescriptor "()V" = some ⟨[], none⟩ := by decide +kernel
theorem d6_1 : decode jdk_33_method_23_code 1 = .ok (.invokespecial 202, 3) := by decide +kernel
theorem d6_4 : decode jdk_33_method_23_code 4 = .ok (.aload_n 0, 1) := by decide +kernel
theorem d6_5 : decode jdk_33_method_23_code 5 = .ok (.iload_n 1, 1) := by decide +kernel
theorem d6_6 : decode jdk_33_method_23_code 6 = .ok (.putfield 205, 3) := by decide +kernel
theorem d6_9 : decode jdk_33_method_23_code 9 = .ok (.return_, 1) := by decide +kernel
theorem pn_java_lang_Integer : plainName "java/lang/Integer" = true := by first | (simp [plainName, overriddenIn]; done) | decide +kernel
theorem ef_rm6 (m : MethodId) (ob : Addr) (iv : Int32) : entryFrame m #[(.ref ob), (.int iv)] 2 = mkF m 0 #[.val (.ref ob), .val (.int iv)] [] := by first | (simp [entryFrame, mkF, argsToLocals, Value.category]; done) | rfl
def Q6 (Z : State) (ob : Addr) (iv : Int32) (h0 : Heap) (n0 : Nat) (v : Option Value) (h : Heap) (L : List Loc) : Prop := v = none ∧ Fr n0 L ∧ Keep h0 h [ob] ∧ Fld Z h ob "java/lang/Integer" "value" "I" (.int iv)
set_option maxRecDepth 65536 in
set_option maxHeartbeats 40000000 in
theorem rm6 (l : Launch) (Z : State) (a0 : Array Value) (hw : ∀ d ∈ tables_1, d.before a0 Z = true) (ws : List Jvm.Cond) (ob : Addr) (iv : Int32) (h0 : Heap) (n0 : Nat) (O0 : Old Z n0 h0) (E_o : Exa Z h0 ob "java/lang/Integer") (Fv : Fld Z h0 ob "java/lang/Integer" "value" "I" (.int (0 : Int32))) (g_o : n0 ≤ ob) :
    MetFree l (⟨"java/lang/Integer", "<init>", "(I)V"⟩ : MethodName) (head1 (Jvm.Cond.code (⟨"java/lang/Integer", "<init>", "(I)V"⟩ : MethodName) jdk_33_method_23_code 2 none :: ws) ({ frames := 2, cells := 0, slots := 0, locals := 24 } : Room)) (fun ay U => ay = #[(.ref ob), (.int iv)] ∧ Z.Warmed39 U.vm ∧ U.heap = h0) (fun _ _ _ _ _ => True) (fun _ U o U' => ∃ v L, o = .returned v ∧ Q6 Z ob iv h0 n0 v U'.heap L ∧ FrameEnd U o U' L ({ frames := 2, cells := 0, slots := 0, locals := 24 } : Room).cells ({ frames := 2, cells := 0, slots := 0, locals := 24 } : Room).slots) := by
  refine MetFree.of_bodySF (plainFor_of_name pn_java_lang_Integer) hisR ?_
  intro p e s m args below meth c s₁ Bd hml0 hP hK
  obtain ⟨rfl, hZ, hh⟩ := hP
  have hx := Bd.exec
  have hby := Bd.bytes
  have hlk : meth.locks = false := BodyLoose.notSynchronized Bd
  have hml : c.maxLocals = 2 := hml0
  have hown : s.vm.findClass "java/lang/Integer" = some m.cls := findClass_of_methodNamed Bd.named
  have hnm := (name_of_methodNamed Bd.named Bd.method).1
  have X0 : Stand p l e ({ frames := 2, cells := 0, slots := 0, locals := 24 } : Room) s m #[(.ref ob), (.int iv)] below meth c s₁ [] 0 0 := Stand.of_body Bd
  have e0 : s₁.heap = h0 := by rw [← hh, Bd.state]; rfl
  have N0 := Fr.nil n0
  suffices hgo : Go p e below s 0 0 (Q6 Z ob iv h0 n0) (s₁.setTop (mkF m 0 #[.val (.ref ob), .val (.int iv)] [])) by
    obtain ⟨t, o, h1, h2⟩ := hgo; exact ⟨t, o, castTop (ef_rm6 m ob iv) h1, h2⟩
  show Go p e below s _ _ _ (s₁.setTop (mkF m 0 #[.val (.ref ob), .val (.int iv)] []))
  refine Go.st (fun _ k' => XS.aloadN X0.here hx rfl (hb hby d6_0) rfl rfl k') ?_
  show Go p e below s _ _ _ (s₁.setTop (mkF m 1 #[.val (.ref ob), .val (.int iv)] [(.ref ob)]))
  obtain ⟨_, _, ⟨T1, L1, k1, n1⟩, -, X1, ⟨Lc1, hQ1, l1, y1, z1⟩, st1⟩ := X0.specialBack hx (y := (⟨"java/lang/Number", "<init>", "()V"⟩ : MethodName)) rfl hown (mvT hZ (wdx hw 54 rfl)) (mvT hZ (wdx hw 55 rfl)) (mvT hZ (wdx hw 59 rfl)) (by decide) (backOf (W := 0) (rm7 l Z a0 hw [] ob h0 n0 O0 ) hZ (wdx hw 59 rfl) (wdx hw 58 rfl) (by decide) (by decide)) (g := (mkF m 1 #[.val (.ref ob), .val (.int iv)] [(.ref ob)])) rfl (by rw [hml]; rfl) (Steps.refl _) (a := ob) (argsL := []) (rest := []) (lenOf pd___V rfl) rfl (by show 2 * 0 + _ ≤ _; exact Nat.le_of_eq rfl) (hb hby d6_1) (fun _ _ => ⟨rfl, e0, (by exact Nat.le_of_ble_eq_true rfl), (by exact Nat.le_of_ble_eq_true rfl)⟩)
  dsimp only [Pt.U, Pt.locs, Pt.cells, Pt.slots] at X1 l1 y1 z1 st1 hQ1
  subst l1 y1 z1
  obtain ⟨rfl, Nq1, eq1⟩ := hQ1
  have N1 := Fr.app N0 Nq1
  refine Go.tr st1 ?_
  show Go p e below s _ _ _ (T1.setTop (mkF m 4 #[.val (.ref ob), .val (.int iv)] []))
  refine Go.st (fun _ k' => XS.aloadN X1.here hx rfl (hb hby d6_4) rfl rfl k') ?_
  show Go p e below s _ _ _ (T1.setTop (mkF m 5 #[.val (.ref ob), .val (.int iv)] [(.ref ob)]))
  refine Go.st (fun _ k' => XS.iloadN X1.here hx rfl (hb hby d6_5) rfl k') ?_
  show Go p e below s _ _ _ (T1.setTop (mkF m 6 #[.val (.ref ob), .val (.int iv)] [(.int iv), (.ref ob)]))
  obtain ⟨T2, h2, X2, e2, W2, st2⟩ := putF X1 hx hZ hown (host := "") (Or.inl (wdx hw 61 rfl)) Via.refl eq1 Fv E_o (Or.inr ⟨(wdx hw 62 rfl), rfl, hnm⟩) (wdx hw 49 rfl) (ty := .int) (by decide) rfl rfl (g := (mkF m 6 #[.val (.ref ob), .val (.int iv)] [(.int iv), (.ref ob)])) rfl rfl (hb hby d6_6)
  refine Go.st st2 ?_
  have f3 : Exa Z h2 ob "java/lang/Integer" := E_o.wr W2
  have f4 : Fld Z h2 ob "java/lang/Integer" "value" "I" (.int iv) := Fv.same W2
  have O2 : Old Z n0 h2 := O0.wr W2 g_o
  have N2 := Fr.snoc X2 N1 g_o
  have K2 : Keep h0 h2 [ob] := (Keep.refl h0 [ob]).wr W2 (Or.inl (by simp))
  show Go p e below s _ _ _ (T2.setTop (mkF m 9 #[.val (.ref ob), .val (.int iv)] []))
  refine Go.retV X2 hx hlk Bd.returns (hb hby d6_9) (by decide) (by decide) e2 ?_
  exact ⟨rfl, N2, K2, f4⟩
theorem d5_0 : decode jdk_33_method_22_code 0 = .ok (.iload_n 0, 1) := by decide +kernel
theorem d5_1 : decode jdk_33_method_22_code 1 = .ok (.bipush (-128), 2) := by decide +kernel
theorem d5_3 : decode jdk_33_method_22_code 3 = .ok (.if_icmp .lt 20, 3) := by decide +kernel
theorem d5_23 : decode jdk_33_method_22_code 23 = .ok (.new 1, 3) := by decide +kernel
theorem d5_26 : decode jdk_33_method_22_code 26 = .ok (.dup, 1) := by decide +kernel
theorem d5_27 : decode jdk_33_method_22_code 27 = .ok (.iload_n 0, 1) := by decide +kernel
theorem pd__I_V : parseMethodDescriptor "(I)V" = some ⟨[.int], none⟩ := by decide +kernel
theorem d5_28 : decode jdk_33_method_22_code 28 = .ok (.invokespecial 199, 3) := by decide +kernel
theorem d5_31 : decode jdk_33_method_22_code 31 = .ok (.areturn, 1) := by decide +kernel
theorem d5_6 : decode jdk_33_method_22_code 6 = .ok (.iload_n 0, 1) := by decide +kernel
theorem d5_7 : decode jdk_33_method_22_code 7 = .ok (.getstatic 191, 3) := by decide +kernel
theorem d5_10 : decode jdk_33_method_22_code 10 = .ok (.if_icmp .gt 13, 3) := by decide +kernel
theorem d5_13 : decode jdk_33_method_22_code 13 = .ok (.getstatic 195, 3) := by decide +kernel
theorem d5_16 : decode jdk_33_method_22_code 16 = .ok (.iload_n 0, 1) := by decide +kernel
theorem d5_17 : decode jdk_33_method_22_code 17 = .ok (.sipush 128, 3) := by decide +kernel
theorem d5_20 : decode jdk_33_method_22_code 20 = .ok (.iadd, 1) := by decide +kernel
theorem d5_21 : decode jdk_33_method_22_code 21 = .ok (.aaload, 1) := by decide +kernel
theorem d5_22 : decode jdk_33_method_22_code 22 = .ok (.areturn, 1) := by decide +kernel
theorem ef_rm5 (m : MethodId) (iv : Int32) : entryFrame m #[(.int iv)] 1 = mkF m 0 #[.val (.int iv)] [] := by first | (simp [entryFrame, mkF, argsToLocals, Value.category]; done) | rfl
def Q5 (Z : State) (iv : Int32) (ca : Addr) (cb : Cell) (h0 : Heap) (n0 : Nat) (v : Option Value) (h : Heap) (L : List Loc) : Prop := ∃ (rr : Addr), v = some (.ref rr) ∧ Fr n0 L ∧ Keep h0 h [] ∧ Exa Z h rr "java/lang/Integer"
set_option maxRecDepth 65536 in
set_option maxHeartbeats 40000000 in
theorem rm5 (l : Launch) (Z : State) (a0 : Array Value) (hw : ∀ d ∈ tables_1, d.before a0 Z = true) (ws : List Jvm.Cond) (iv : Int32) (ca : Addr) (cb : Cell) (h0 : Heap) (n0 : Nat) (O0 : Old Z n0 h0) (S_hi : Sta Z Z.heap "java/lang/Integer$IntegerCache" "high" "I" (.int (127 : Int32))) (S_ca : Sta Z Z.heap "java/lang/Integer$IntegerCache" "cache" "[Ljava/lang/Integer;" (.ref ca)) (Bx : Bxw Z ca cb "java/lang/Integer") :
    MetFree l (⟨"java/lang/Integer", "valueOf", "(I)Ljava/lang/Integer;"⟩ : MethodName) (head1 (Jvm.Cond.code (⟨"java/lang/Integer", "valueOf", "(I)Ljava/lang/Integer;"⟩ : MethodName) jdk_33_method_22_code 1 (some (.object "java/lang/Integer")) :: ws) ({ frames := 3, cells := 1, slots := 1, locals := 38 } : Room)) (fun ay U => ay = #[(.int iv)] ∧ Z.Warmed39 U.vm ∧ U.heap = h0) (fun _ _ _ _ _ => True) (fun _ U o U' => ∃ v L, o = .returned v ∧ Q5 Z iv ca cb h0 n0 v U'.heap L ∧ FrameEnd U o U' L ({ frames := 3, cells := 1, slots := 1, locals := 38 } : Room).cells ({ frames := 3, cells := 1, slots := 1, locals := 38 } : Room).slots) := by
  refine MetFree.of_bodySF (plainFor_of_name pn_java_lang_Integer) hisR ?_
  intro p e s m args below meth c s₁ Bd hml0 hP hK
  obtain ⟨rfl, hZ, hh⟩ := hP
  have hx := Bd.exec
  have hby := Bd.bytes
  have hlk : meth.locks = false := BodyLoose.notSynchronized Bd
  have hml : c.maxLocals = 1 := hml0
  have hown : s.vm.findClass "java/lang/Integer" = some m.cls := findClass_of_methodNamed Bd.named
  have hnm := (name_of_methodNamed Bd.named Bd.method).1
  have X0 : Stand p l e ({ frames := 3, cells := 1, slots := 1, locals := 38 } : Room) s m #[(.int iv)] below meth c s₁ [] 0 0 := Stand.of_body Bd
  have e0 : s₁.heap = h0 := by rw [← hh, Bd.state]; rfl
  have N0 := Fr.nil n0
  suffices hgo : Go p e below s 1 1 (Q5 Z iv ca cb h0 n0) (s₁.setTop (mkF m 0 #[.val (.int iv)] [])) by
    obtain ⟨t, o, h1, h2⟩ := hgo; exact ⟨t, o, castTop (ef_rm5 m iv) h1, h2⟩
  show Go p e below s _ _ _ (s₁.setTop (mkF m 0 #[.val (.int iv)] []))
  refine Go.st (fun _ k' => XS.iloadN X0.here hx rfl (hb hby d5_0) rfl k') ?_
  show Go p e below s _ _ _ (s₁.setTop (mkF m 1 #[.val (.int iv)] [(.int iv)]))
  refine Go.st (fun _ k' => XS.bipush X0.here hx rfl (hb hby d5_1) k') ?_
  show Go p e below s _ _ _ (s₁.setTop (mkF m 3 #[.val (.int iv)] [(.int (-128 : Int32)), (.int iv)]))
  by_cases hc1 : iv < (-128 : Int32)
  · refine Go.st (fun _ k' => XS.icmpYes X0.here hx rfl (pc0 := 3) (pc' := 23) rfl (hb hby d5_3) rfl (XT.ii_lt_t hc1) (by decide) (by decide) k') ?_
    show Go p e below s _ _ _ (s₁.setTop (mkF m 23 #[.val (.int iv)] []))
    obtain ⟨T2, h2, X2, e2, E2, A2, D2, -, st2⟩ := newO X0 hx hZ hown (wdx hw 48 rfl) (wdx hw 49 rfl) (wdx hw 44 rfl) e0 (g := (mkF m 23 #[.val (.int iv)] [])) rfl (hb hby d5_23) (by decide) (by decide)
    obtain ⟨b2, g2⟩ : ∃ z, z = h0.size := ⟨_, rfl⟩
    rw [← g2] at A2 D2 st2
    refine Go.st st2 ?_
    have g_b2 : n0 ≤ b2 := Nat.le_trans (own_le O0) (Nat.le_of_eq g2.symm)
    have z_b2 : h0.size ≤ b2 := Nat.le_of_eq g2.symm
    have O2 : Old Z n0 h2 := O0.ext E2
    have K2 : Keep h0 h2 [] := (Keep.refl h0 []).ext E2
    have f3 : Fld Z h2 b2 "java/lang/Integer" "value" "I" (.int (0 : Int32)) := D2 (Or.inr (wdx hw 62 rfl)) (ty := .int) (by decide)
    show Go p e below s _ _ _ (T2.setTop (mkF m 26 #[.val (.int iv)] [(.ref b2)]))
    refine Go.st (fun _ k' => XS.dup X2.here hx rfl (hb hby d5_26) rfl rfl k') ?_
    show Go p e below s _ _ _ (T2.setTop (mkF m 27 #[.val (.int iv)] [(.ref b2), (.ref b2)]))
    refine Go.st (fun _ k' => XS.iloadN X2.here hx rfl (hb hby d5_27) rfl k') ?_
    show Go p e below s _ _ _ (T2.setTop (mkF m 28 #[.val (.int iv)] [(.int iv), (.ref b2), (.ref b2)]))
    obtain ⟨_, _, ⟨T4, L4, k4, n4⟩, -, X4, ⟨Lc4, hQ4, l4, y4, z4⟩, st4⟩ := X2.specialBack hx (y := (⟨"java/lang/Integer", "<init>", "(I)V"⟩ : MethodName)) rfl hown (mvT hZ (wdx hw 50 rfl)) (mvT hZ (wdx hw 51 rfl)) (mvT hZ (wdx hw 53 rfl)) (by decide) (backOf (W := 1) (rm6 l Z a0 hw [] b2 iv h2 n0 O2 A2 f3 g_b2) hZ (wdx hw 53 rfl) (wdx hw 44 rfl) (by decide) (by decide)) (g := (mkF m 28 #[.val (.int iv)] [(.int iv), (.ref b2), (.ref b2)])) rfl (by rw [hml]; rfl) (Steps.refl _) (a := b2) (argsL := [(.int iv)]) (rest := [(.ref b2)]) (lenOf pd__I_V rfl) rfl (by show 2 * 0 + _ ≤ _; exact Nat.le_of_eq rfl) (hb hby d5_28) (fun _ _ => ⟨rfl, e2, (by exact Nat.le_of_ble_eq_true rfl), (by exact Nat.le_of_ble_eq_true rfl)⟩)
    dsimp only [Pt.U, Pt.locs, Pt.cells, Pt.slots] at X4 l4 y4 z4 st4 hQ4
    subst l4 y4 z4
    obtain ⟨rfl, Nq4, Kq4, f5⟩ := hQ4
    have N4 := Fr.app N0 Nq4
    refine Go.tr st4 ?_
    have f6 : Exa Z T4.heap b2 "java/lang/Integer" := A2.keep Kq4
    have O4 : Old Z n0 T4.heap := O2.keep Kq4 (allS g_b2 all0)
    have K4 : Keep h0 T4.heap [] := K2.trans Kq4 (allS (Or.inr z_b2) all0)
    show Go p e below s _ _ _ (T4.setTop (mkF m 31 #[.val (.int iv)] [(.ref b2)]))
    refine Go.ret X4 hx hlk (t := (.object "java/lang/Integer")) Bd.returns rfl (Or.inr (Or.inr (Or.inr (Or.inr ⟨rfl, rfl, rfl⟩)))) (hb hby d5_31) (by decide) (by decide) rfl ?_
    exact ⟨b2, rfl, N4, K4, f6⟩
  · refine Go.st (fun _ k' => XS.icmpNo X0.here hx rfl (hb hby d5_3) rfl (XT.ii_lt_f hc1) k') ?_
    show Go p e below s _ _ _ (s₁.setTop (mkF m 6 #[.val (.int iv)] []))
    refine Go.st (fun _ k' => XS.iloadN X0.here hx rfl (hb hby d5_6) rfl k') ?_
    show Go p e below s _ _ _ (s₁.setTop (mkF m 7 #[.val (.int iv)] [(.int iv)]))
    obtain ⟨T7, X7, e7, st7⟩ := getS2 X0 hx hZ hown (host := "") (Or.inl (wdx hw 46 rfl)) Via.refl e0 (S_hi.ext O0.2) (g := (mkF m 7 #[.val (.int iv)] [(.int iv)])) rfl (hb hby d5_7)
    refine Go.st st7 ?_
    show Go p e below s _ _ _ (T7.setTop (mkF m 10 #[.val (.int iv)] [(.int (127 : Int32)), (.int iv)]))
    by_cases hc8 : (127 : Int32) < iv
    · refine Go.st (fun _ k' => XS.icmpYes X7.here hx rfl (pc0 := 10) (pc' := 23) rfl (hb hby d5_10) rfl (XT.ii_gt_t hc8) (by decide) (by decide) k') ?_
      show Go p e below s _ _ _ (T7.setTop (mkF m 23 #[.val (.int iv)] []))
      obtain ⟨T9, h9, X9, e9, E9, A9, D9, -, st9⟩ := newO X7 hx hZ hown (wdx hw 48 rfl) (wdx hw 49 rfl) (wdx hw 44 rfl) e7 (g := (mkF m 23 #[.val (.int iv)] [])) rfl (hb hby d5_23) (by decide) (by decide)
      obtain ⟨b9, g9⟩ : ∃ z, z = h0.size := ⟨_, rfl⟩
      rw [← g9] at A9 D9 st9
      refine Go.st st9 ?_
      have g_b9 : n0 ≤ b9 := Nat.le_trans (own_le O0) (Nat.le_of_eq g9.symm)
      have z_b9 : h0.size ≤ b9 := Nat.le_of_eq g9.symm
      have O9 : Old Z n0 h9 := O0.ext E9
      have K9 : Keep h0 h9 [] := (Keep.refl h0 []).ext E9
      have f10 : Fld Z h9 b9 "java/lang/Integer" "value" "I" (.int (0 : Int32)) := D9 (Or.inr (wdx hw 62 rfl)) (ty := .int) (by decide)
      show Go p e below s _ _ _ (T9.setTop (mkF m 26 #[.val (.int iv)] [(.ref b9)]))
      refine Go.st (fun _ k' => XS.dup X9.here hx rfl (hb hby d5_26) rfl rfl k') ?_
      show Go p e below s _ _ _ (T9.setTop (mkF m 27 #[.val (.int iv)] [(.ref b9), (.ref b9)]))
      refine Go.st (fun _ k' => XS.iloadN X9.here hx rfl (hb hby d5_27) rfl k') ?_
      show Go p e below s _ _ _ (T9.setTop (mkF m 28 #[.val (.int iv)] [(.int iv), (.ref b9), (.ref b9)]))
      obtain ⟨_, _, ⟨T11, L11, k11, n11⟩, -, X11, ⟨Lc11, hQ11, l11, y11, z11⟩, st11⟩ := X9.specialBack hx (y := (⟨"java/lang/Integer", "<init>", "(I)V"⟩ : MethodName)) rfl hown (mvT hZ (wdx hw 50 rfl)) (mvT hZ (wdx hw 51 rfl)) (mvT hZ (wdx hw 53 rfl)) (by decide) (backOf (W := 1) (rm6 l Z a0 hw [] b9 iv h9 n0 O9 A9 f10 g_b9) hZ (wdx hw 53 rfl) (wdx hw 44 rfl) (by decide) (by decide)) (g := (mkF m 28 #[.val (.int iv)] [(.int iv), (.ref b9), (.ref b9)])) rfl (by rw [hml]; rfl) (Steps.refl _) (a := b9) (argsL := [(.int iv)]) (rest := [(.ref b9)]) (lenOf pd__I_V rfl) rfl (by show 2 * 0 + _ ≤ _; exact Nat.le_of_eq rfl) (hb hby d5_28) (fun _ _ => ⟨rfl, e9, (by exact Nat.le_of_ble_eq_true rfl), (by exact Nat.le_of_ble_eq_true rfl)⟩)
      dsimp only [Pt.U, Pt.locs, Pt.cells, Pt.slots] at X11 l11 y11 z11 st11 hQ11
      subst l11 y11 z11
      obtain ⟨rfl, Nq11, Kq11, f12⟩ := hQ11
      have N11 := Fr.app N0 Nq11
      refine Go.tr st11 ?_
      have f13 : Exa Z T11.heap b9 "java/lang/Integer" := A9.keep Kq11
      have O11 : Old Z n0 T11.heap := O9.keep Kq11 (allS g_b9 all0)
      have K11 : Keep h0 T11.heap [] := K9.trans Kq11 (allS (Or.inr z_b9) all0)
      show Go p e below s _ _ _ (T11.setTop (mkF m 31 #[.val (.int iv)] [(.ref b9)]))
      refine Go.ret X11 hx hlk (t := (.object "java/lang/Integer")) Bd.returns rfl (Or.inr (Or.inr (Or.inr (Or.inr ⟨rfl, rfl, rfl⟩)))) (hb hby d5_31) (by decide) (by decide) rfl ?_
      exact ⟨b9, rfl, N11, K11, f13⟩
    · refine Go.st (fun _ k' => XS.icmpNo X7.here hx rfl (hb hby d5_10) rfl (XT.ii_gt_f hc8) k') ?_
      show Go p e below s _ _ _ (T7.setTop (mkF m 13 #[.val (.int iv)] []))
      obtain ⟨T14, X14, e14, st14⟩ := getS2 X7 hx hZ hown (host := "") (Or.inl (wdx hw 66 rfl)) Via.refl e7 (S_ca.ext O0.2) (g := (mkF m 13 #[.val (.int iv)] [])) rfl (hb hby d5_13)
      refine Go.st st14 ?_
      show Go p e below s _ _ _ (T14.setTop (mkF m 16 #[.val (.int iv)] [(.ref ca)]))
      refine Go.st (fun _ k' => XS.iloadN X14.here hx rfl (hb hby d5_16) rfl k') ?_
      show Go p e below s _ _ _ (T14.setTop (mkF m 17 #[.val (.int iv)] [(.int iv), (.ref ca)]))
      refine Go.st (fun _ k' => XS.sipush X14.here hx rfl (hb hby d5_17) k') ?_
      show Go p e below s _ _ _ (T14.setTop (mkF m 20 #[.val (.int iv)] [(.int (128 : Int32)), (.int iv), (.ref ca)]))
      refine Go.st (fun _ k' => XS.iadd X14.here hx rfl (hb hby d5_20) rfl k') ?_
      show Go p e below s _ _ _ (T14.setTop (mkF m 21 #[.val (.int iv)] [(.int (iv + (128 : Int32))), (.ref ca)]))
      have hin15 := own_ix iv hc1 hc8 Bx.2.1
      obtain ⟨bx, hb15, hx15⟩ := Bx.2.2 (iv + (128 : Int32)) hin15
      refine Go.st (fun _ k' => X14.aaload hx (j := (iv + (128 : Int32))) (v := (.ref bx)) (by rw [e14]; exact (Bx.1.ext O0.2).1) (State.isArrayOf_alike hZ.alike Bx.1.2.1) rfl Bx.1.2.2 hin15 hb15 (g := (mkF m 21 #[.val (.int iv)] [(.int (iv + (128 : Int32))), (.ref ca)])) rfl rfl (hb hby d5_21) _ k') ?_
      have E_bx := hx15.ext O0.2
      show Go p e below s _ _ _ (T14.setTop (mkF m 22 #[.val (.int iv)] [(.ref bx)]))
      refine Go.ret X14 hx hlk (t := (.object "java/lang/Integer")) Bd.returns rfl (Or.inr (Or.inr (Or.inr (Or.inr ⟨rfl, rfl, rfl⟩)))) (hb hby d5_22) (by decide) (by decide) e14 ?_
      exact ⟨bx, rfl, N0, (Keep.refl _ _), E_bx⟩
theorem d3_0 : decode method_2_code 0 = .ok (.iload_n 0, 1) := by decide +kernel
theorem d3_1 : decode method_2_code 1 = .ok (.iconst 4, 1) := by decide +kernel
theorem d3_2 : decode method_2_code 2 = .ok (.if_icmp .eq 26, 3) := by decide +kernel
theorem d3_28 : decode method_2_code 28 = .ok (.iconst 1, 1) := by decide +kernel
theorem d3_29 : decode method_2_code 29 = .ok (.goto 4, 3) := by decide +kernel
theorem d3_33 : decode method_2_code 33 = .ok (.ireturn, 1) := by decide +kernel
theorem d3_5 : decode method_2_code 5 = .ok (.iload_n 0, 1) := by decide +kernel
theorem d3_6 : decode method_2_code 6 = .ok (.iconst 5, 1) := by decide +kernel
theorem d3_7 : decode method_2_code 7 = .ok (.if_icmp .eq 21, 3) := by decide +kernel
theorem d3_10 : decode method_2_code 10 = .ok (.iload_n 0, 1) := by decide +kernel
theorem d3_11 : decode method_2_code 11 = .ok (.bipush 6, 2) := by decide +kernel
theorem d3_13 : decode method_2_code 13 = .ok (.if_icmp .eq 15, 3) := by decide +kernel
theorem d3_16 : decode method_2_code 16 = .ok (.iload_n 0, 1) := by decide +kernel
theorem d3_17 : decode method_2_code 17 = .ok (.bipush 8, 2) := by decide +kernel
theorem d3_19 : decode method_2_code 19 = .ok (.if_icmp .eq 9, 3) := by decide +kernel
theorem d3_22 : decode method_2_code 22 = .ok (.iload_n 0, 1) := by decide +kernel
theorem d3_23 : decode method_2_code 23 = .ok (.bipush 9, 2) := by decide +kernel
theorem d3_25 : decode method_2_code 25 = .ok (.if_icmp .ne 7, 3) := by decide +kernel
theorem d3_32 : decode method_2_code 32 = .ok (.iconst 0, 1) := by decide +kernel
theorem pn_com_example_exact_quorum_exactquorum_protocol_StatEqualsPinLaw : plainName "com/example/exact_quorum/exactquorum/protocol/StatEqualsPinLaw" = true := by first | (simp [plainName, overriddenIn]; done) | decide +kernel
theorem ef_rm3 (m : MethodId) (kk : Int32) : entryFrame m #[(.int kk)] 1 = mkF m 0 #[.val (.int kk)] [] := by first | (simp [entryFrame, mkF, argsToLocals, Value.category]; done) | rfl
def Q3 (Z : State) (kk : Int32) (h0 : Heap) (n0 : Nat) (v : Option Value) (h : Heap) (L : List Loc) : Prop := v = some (.int (fint kk)) ∧ Fr n0 L ∧ h = h0
set_option maxRecDepth 65536 in
set_option maxHeartbeats 40000000 in
theorem rm3 (l : Launch) (Z : State) (a0 : Array Value) (hw : ∀ d ∈ tables_1, d.before a0 Z = true) (ws : List Jvm.Cond) (kk : Int32) (h0 : Heap) (n0 : Nat) (O0 : Old Z n0 h0) :
    MetFree l (⟨"com/example/exact_quorum/exactquorum/protocol/StatEqualsPinLaw", "isIntField", "(I)Z"⟩ : MethodName) (head1 (Jvm.Cond.code (⟨"com/example/exact_quorum/exactquorum/protocol/StatEqualsPinLaw", "isIntField", "(I)Z"⟩ : MethodName) method_2_code 1 (some .boolean) :: ws) ({ frames := 0, cells := 0, slots := 0, locals := 0 } : Room)) (fun ay U => ay = #[(.int kk)] ∧ Z.Warmed39 U.vm ∧ U.heap = h0) (fun _ _ _ _ _ => True) (fun _ U o U' => ∃ v L, o = .returned v ∧ Q3 Z kk h0 n0 v U'.heap L ∧ FrameEnd U o U' L ({ frames := 0, cells := 0, slots := 0, locals := 0 } : Room).cells ({ frames := 0, cells := 0, slots := 0, locals := 0 } : Room).slots) := by
  refine MetFree.of_bodySF (plainFor_of_name pn_com_example_exact_quorum_exactquorum_protocol_StatEqualsPinLaw) hisR ?_
  intro p e s m args below meth c s₁ Bd hml0 hP hK
  obtain ⟨rfl, hZ, hh⟩ := hP
  have hx := Bd.exec
  have hby := Bd.bytes
  have hlk : meth.locks = false := BodyLoose.notSynchronized Bd
  have hml : c.maxLocals = 1 := hml0
  have hown : s.vm.findClass "com/example/exact_quorum/exactquorum/protocol/StatEqualsPinLaw" = some m.cls := findClass_of_methodNamed Bd.named
  have hnm := (name_of_methodNamed Bd.named Bd.method).1
  have X0 : Stand p l e ({ frames := 0, cells := 0, slots := 0, locals := 0 } : Room) s m #[(.int kk)] below meth c s₁ [] 0 0 := Stand.of_body Bd
  have e0 : s₁.heap = h0 := by rw [← hh, Bd.state]; rfl
  have N0 := Fr.nil n0
  suffices hgo : Go p e below s 0 0 (Q3 Z kk h0 n0) (s₁.setTop (mkF m 0 #[.val (.int kk)] [])) by
    obtain ⟨t, o, h1, h2⟩ := hgo; exact ⟨t, o, castTop (ef_rm3 m kk) h1, h2⟩
  show Go p e below s _ _ _ (s₁.setTop (mkF m 0 #[.val (.int kk)] []))
  refine Go.st (fun _ k' => XS.iloadN X0.here hx rfl (hb hby d3_0) rfl k') ?_
  show Go p e below s _ _ _ (s₁.setTop (mkF m 1 #[.val (.int kk)] [(.int kk)]))
  refine Go.st (fun _ k' => XS.iconst X0.here hx rfl (hb hby d3_1) k') ?_
  show Go p e below s _ _ _ (s₁.setTop (mkF m 2 #[.val (.int kk)] [(.int (4 : Int32)), (.int kk)]))
  by_cases hc1 : kk = (4 : Int32)
  · refine Go.st (fun _ k' => XS.icmpYes X0.here hx rfl (pc0 := 2) (pc' := 28) rfl (hb hby d3_2) rfl (XT.ii_eq_t hc1) (by decide) (by decide) k') ?_
    show Go p e below s _ _ _ (s₁.setTop (mkF m 28 #[.val (.int kk)] []))
    refine Go.st (fun _ k' => XS.iconst X0.here hx rfl (hb hby d3_28) k') ?_
    show Go p e below s _ _ _ (s₁.setTop (mkF m 29 #[.val (.int kk)] [(.int (1 : Int32))]))
    refine Go.st (fun _ k' => XS.goto X0.here hx rfl (pc0 := 29) (pc' := 33) rfl (hb hby d3_29) (by decide) (by decide) k') ?_
    show Go p e below s _ _ _ (s₁.setTop (mkF m 33 #[.val (.int kk)] [(.int (1 : Int32))]))
    refine Go.retB X0 hx hlk (t := .boolean) Bd.returns (by simp) (hb hby d3_33) (by decide) (by decide) e0 ?_
    exact ⟨(by simp [fint, nar, hc1]), N0, rfl⟩
  · refine Go.st (fun _ k' => XS.icmpNo X0.here hx rfl (hb hby d3_2) rfl (XT.ii_eq_f hc1) k') ?_
    show Go p e below s _ _ _ (s₁.setTop (mkF m 5 #[.val (.int kk)] []))
    refine Go.st (fun _ k' => XS.iloadN X0.here hx rfl (hb hby d3_5) rfl k') ?_
    show Go p e below s _ _ _ (s₁.setTop (mkF m 6 #[.val (.int kk)] [(.int kk)]))
    refine Go.st (fun _ k' => XS.iconst X0.here hx rfl (hb hby d3_6) k') ?_
    show Go p e below s _ _ _ (s₁.setTop (mkF m 7 #[.val (.int kk)] [(.int (5 : Int32)), (.int kk)]))
    by_cases hc2 : kk = (5 : Int32)
    · refine Go.st (fun _ k' => XS.icmpYes X0.here hx rfl (pc0 := 7) (pc' := 28) rfl (hb hby d3_7) rfl (XT.ii_eq_t hc2) (by decide) (by decide) k') ?_
      show Go p e below s _ _ _ (s₁.setTop (mkF m 28 #[.val (.int kk)] []))
      refine Go.st (fun _ k' => XS.iconst X0.here hx rfl (hb hby d3_28) k') ?_
      show Go p e below s _ _ _ (s₁.setTop (mkF m 29 #[.val (.int kk)] [(.int (1 : Int32))]))
      refine Go.st (fun _ k' => XS.goto X0.here hx rfl (pc0 := 29) (pc' := 33) rfl (hb hby d3_29) (by decide) (by decide) k') ?_
      show Go p e below s _ _ _ (s₁.setTop (mkF m 33 #[.val (.int kk)] [(.int (1 : Int32))]))
      refine Go.retB X0 hx hlk (t := .boolean) Bd.returns (by simp) (hb hby d3_33) (by decide) (by decide) e0 ?_
      exact ⟨(by simp [fint, nar, hc1, hc2]), N0, rfl⟩
    · refine Go.st (fun _ k' => XS.icmpNo X0.here hx rfl (hb hby d3_7) rfl (XT.ii_eq_f hc2) k') ?_
      show Go p e below s _ _ _ (s₁.setTop (mkF m 10 #[.val (.int kk)] []))
      refine Go.st (fun _ k' => XS.iloadN X0.here hx rfl (hb hby d3_10) rfl k') ?_
      show Go p e below s _ _ _ (s₁.setTop (mkF m 11 #[.val (.int kk)] [(.int kk)]))
      refine Go.st (fun _ k' => XS.bipush X0.here hx rfl (hb hby d3_11) k') ?_
      show Go p e below s _ _ _ (s₁.setTop (mkF m 13 #[.val (.int kk)] [(.int (6 : Int32)), (.int kk)]))
      by_cases hc3 : kk = (6 : Int32)
      · refine Go.st (fun _ k' => XS.icmpYes X0.here hx rfl (pc0 := 13) (pc' := 28) rfl (hb hby d3_13) rfl (XT.ii_eq_t hc3) (by decide) (by decide) k') ?_
        show Go p e below s _ _ _ (s₁.setTop (mkF m 28 #[.val (.int kk)] []))
        refine Go.st (fun _ k' => XS.iconst X0.here hx rfl (hb hby d3_28) k') ?_
        show Go p e below s _ _ _ (s₁.setTop (mkF m 29 #[.val (.int kk)] [(.int (1 : Int32))]))
        refine Go.st (fun _ k' => XS.goto X0.here hx rfl (pc0 := 29) (pc' := 33) rfl (hb hby d3_29) (by decide) (by decide) k') ?_
        show Go p e below s _ _ _ (s₁.setTop (mkF m 33 #[.val (.int kk)] [(.int (1 : Int32))]))
        refine Go.retB X0 hx hlk (t := .boolean) Bd.returns (by simp) (hb hby d3_33) (by decide) (by decide) e0 ?_
        exact ⟨(by simp [fint, nar, hc1, hc2, hc3]), N0, rfl⟩
      · refine Go.st (fun _ k' => XS.icmpNo X0.here hx rfl (hb hby d3_13) rfl (XT.ii_eq_f hc3) k') ?_
        show Go p e below s _ _ _ (s₁.setTop (mkF m 16 #[.val (.int kk)] []))
        refine Go.st (fun _ k' => XS.iloadN X0.here hx rfl (hb hby d3_16) rfl k') ?_
        show Go p e below s _ _ _ (s₁.setTop (mkF m 17 #[.val (.int kk)] [(.int kk)]))
        refine Go.st (fun _ k' => XS.bipush X0.here hx rfl (hb hby d3_17) k') ?_
        show Go p e below s _ _ _ (s₁.setTop (mkF m 19 #[.val (.int kk)] [(.int (8 : Int32)), (.int kk)]))
        by_cases hc4 : kk = (8 : Int32)
        · refine Go.st (fun _ k' => XS.icmpYes X0.here hx rfl (pc0 := 19) (pc' := 28) rfl (hb hby d3_19) rfl (XT.ii_eq_t hc4) (by decide) (by decide) k') ?_
          show Go p e below s _ _ _ (s₁.setTop (mkF m 28 #[.val (.int kk)] []))
          refine Go.st (fun _ k' => XS.iconst X0.here hx rfl (hb hby d3_28) k') ?_
          show Go p e below s _ _ _ (s₁.setTop (mkF m 29 #[.val (.int kk)] [(.int (1 : Int32))]))
          refine Go.st (fun _ k' => XS.goto X0.here hx rfl (pc0 := 29) (pc' := 33) rfl (hb hby d3_29) (by decide) (by decide) k') ?_
          show Go p e below s _ _ _ (s₁.setTop (mkF m 33 #[.val (.int kk)] [(.int (1 : Int32))]))
          refine Go.retB X0 hx hlk (t := .boolean) Bd.returns (by simp) (hb hby d3_33) (by decide) (by decide) e0 ?_
          exact ⟨(by simp [fint, nar, hc1, hc2, hc3, hc4]), N0, rfl⟩
        · refine Go.st (fun _ k' => XS.icmpNo X0.here hx rfl (hb hby d3_19) rfl (XT.ii_eq_f hc4) k') ?_
          show Go p e below s _ _ _ (s₁.setTop (mkF m 22 #[.val (.int kk)] []))
          refine Go.st (fun _ k' => XS.iloadN X0.here hx rfl (hb hby d3_22) rfl k') ?_
          show Go p e below s _ _ _ (s₁.setTop (mkF m 23 #[.val (.int kk)] [(.int kk)]))
          refine Go.st (fun _ k' => XS.bipush X0.here hx rfl (hb hby d3_23) k') ?_
          show Go p e below s _ _ _ (s₁.setTop (mkF m 25 #[.val (.int kk)] [(.int (9 : Int32)), (.int kk)]))
          by_cases hc5 : kk = (9 : Int32)
          · refine Go.st (fun _ k' => XS.icmpNo X0.here hx rfl (hb hby d3_25) rfl (XT.ii_ne_f hc5) k') ?_
            show Go p e below s _ _ _ (s₁.setTop (mkF m 28 #[.val (.int kk)] []))
            refine Go.st (fun _ k' => XS.iconst X0.here hx rfl (hb hby d3_28) k') ?_
            show Go p e below s _ _ _ (s₁.setTop (mkF m 29 #[.val (.int kk)] [(.int (1 : Int32))]))
            refine Go.st (fun _ k' => XS.goto X0.here hx rfl (pc0 := 29) (pc' := 33) rfl (hb hby d3_29) (by decide) (by decide) k') ?_
            show Go p e below s _ _ _ (s₁.setTop (mkF m 33 #[.val (.int kk)] [(.int (1 : Int32))]))
            refine Go.retB X0 hx hlk (t := .boolean) Bd.returns (by simp) (hb hby d3_33) (by decide) (by decide) e0 ?_
            exact ⟨(by simp [fint, nar, hc1, hc2, hc3, hc4, hc5]), N0, rfl⟩
          · refine Go.st (fun _ k' => XS.icmpYes X0.here hx rfl (pc0 := 25) (pc' := 32) rfl (hb hby d3_25) rfl (XT.ii_ne_t hc5) (by decide) (by decide) k') ?_
            show Go p e below s _ _ _ (s₁.setTop (mkF m 32 #[.val (.int kk)] []))
            refine Go.st (fun _ k' => XS.iconst X0.here hx rfl (hb hby d3_32) k') ?_
            show Go p e below s _ _ _ (s₁.setTop (mkF m 33 #[.val (.int kk)] [(.int (0 : Int32))]))
            refine Go.retB X0 hx hlk (t := .boolean) Bd.returns (by simp) (hb hby d3_33) (by decide) (by decide) e0 ?_
            exact ⟨(by simp [fint, nar, hc1, hc2, hc3, hc4, hc5]), N0, rfl⟩
theorem d4_0 : decode prog_65_method_5_code 0 = .ok (.aload_n 1, 1) := by decide +kernel
theorem d4_1 : decode prog_65_method_5_code 1 = .ok (.instanceof 8, 3) := by decide +kernel
theorem d4_4 : decode prog_65_method_5_code 4 = .ok (.ifCond .eq 139, 3) := by decide +kernel
theorem d4_143 : decode prog_65_method_5_code 143 = .ok (.iconst 0, 1) := by decide +kernel
theorem d4_144 : decode prog_65_method_5_code 144 = .ok (.ireturn, 1) := by decide +kernel
theorem ef_rm4_n (m : MethodId) (ob : Addr) : entryFrame m #[(.ref ob), .null] 3 = mkF m 0 #[.val (.ref ob), .val .null, .unset] [] := by first | (simp [entryFrame, mkF, argsToLocals, Value.category]; done) | rfl
def Q4_n (Z : State) (ob : Addr) (h0 : Heap) (n0 : Nat) (v : Option Value) (h : Heap) (L : List Loc) : Prop := v = some (.int (0 : Int32)) ∧ Fr n0 L ∧ h = h0
set_option maxRecDepth 65536 in
set_option maxHeartbeats 40000000 in
theorem rm4_n (l : Launch) (Z : State) (a0 : Array Value) (hw : ∀ d ∈ tables_1, d.before a0 Z = true) (ws : List Jvm.Cond) (ob : Addr) (h0 : Heap) (n0 : Nat) (O0 : Old Z n0 h0) :
    MetFree l (⟨"com/example/exact_quorum/exactquorum/protocol/Stat", "equals", "(Ljava/lang/Object;)Z"⟩ : MethodName) (head1 (Jvm.Cond.code (⟨"com/example/exact_quorum/exactquorum/protocol/Stat", "equals", "(Ljava/lang/Object;)Z"⟩ : MethodName) prog_65_method_5_code 3 (some .boolean) :: ws) ({ frames := 0, cells := 0, slots := 0, locals := 0 } : Room)) (fun ay U => ay = #[(.ref ob), .null] ∧ Z.Warmed39 U.vm ∧ U.heap = h0) (fun _ _ _ _ _ => True) (fun _ U o U' => ∃ v L, o = .returned v ∧ Q4_n Z ob h0 n0 v U'.heap L ∧ FrameEnd U o U' L ({ frames := 0, cells := 0, slots := 0, locals := 0 } : Room).cells ({ frames := 0, cells := 0, slots := 0, locals := 0 } : Room).slots) := by
  refine MetFree.of_bodySF (plainFor_of_name pn_com_example_exact_quorum_exactquorum_protocol_Stat) hisR ?_
  intro p e s m args below meth c s₁ Bd hml0 hP hK
  obtain ⟨rfl, hZ, hh⟩ := hP
  have hx := Bd.exec
  have hby := Bd.bytes
  have hlk : meth.locks = false := BodyLoose.notSynchronized Bd
  have hml : c.maxLocals = 3 := hml0
  have hown : s.vm.findClass "com/example/exact_quorum/exactquorum/protocol/Stat" = some m.cls := findClass_of_methodNamed Bd.named
  have hnm := (name_of_methodNamed Bd.named Bd.method).1
  have X0 : Stand p l e ({ frames := 0, cells := 0, slots := 0, locals := 0 } : Room) s m #[(.ref ob), .null] below meth c s₁ [] 0 0 := Stand.of_body Bd
  have e0 : s₁.heap = h0 := by rw [← hh, Bd.state]; rfl
  have N0 := Fr.nil n0
  suffices hgo : Go p e below s 0 0 (Q4_n Z ob h0 n0) (s₁.setTop (mkF m 0 #[.val (.ref ob), .val .null, .unset] [])) by
    obtain ⟨t, o, h1, h2⟩ := hgo; exact ⟨t, o, castTop (ef_rm4_n m ob) h1, h2⟩
  show Go p e below s _ _ _ (s₁.setTop (mkF m 0 #[.val (.ref ob), .val .null, .unset] []))
  refine Go.st (fun _ k' => XS.aloadN X0.here hx rfl (hb hby d4_0) rfl rfl k') ?_
  show Go p e below s _ _ _ (s₁.setTop (mkF m 1 #[.val (.ref ob), .val .null, .unset] [.null]))
  refine Go.st (fun _ k' => X0.instanceofNull hx (g := (mkF m 1 #[.val (.ref ob), .val .null, .unset] [.null])) rfl rfl (hb hby d4_1) _ k') ?_
  show Go p e below s _ _ _ (s₁.setTop (mkF m 4 #[.val (.ref ob), .val .null, .unset] [(.int (0 : Int32))]))
  refine Go.st (fun _ k' => XS.ifYes X0.here hx rfl (pc0 := 4) (pc' := 143) rfl (hb hby d4_4) rfl (XT.i0_eq_t (by decide)) (by decide) (by decide) k') ?_
  show Go p e below s _ _ _ (s₁.setTop (mkF m 143 #[.val (.ref ob), .val .null, .unset] []))
  refine Go.st (fun _ k' => XS.iconst X0.here hx rfl (hb hby d4_143) k') ?_
  show Go p e below s _ _ _ (s₁.setTop (mkF m 144 #[.val (.ref ob), .val .null, .unset] [(.int (0 : Int32))]))
  refine Go.retB X0 hx hlk (t := .boolean) Bd.returns (by simp) (hb hby d4_144) (by decide) (by decide) e0 ?_
  exact ⟨rfl, N0, rfl⟩
theorem ef_rm4_i (m : MethodId) (ob : Addr) (oc : Addr) : entryFrame m #[(.ref ob), (.ref oc)] 3 = mkF m 0 #[.val (.ref ob), .val (.ref oc), .unset] [] := by first | (simp [entryFrame, mkF, argsToLocals, Value.category]; done) | rfl
def Q4_i (Z : State) (ob : Addr) (oc : Addr) (h0 : Heap) (n0 : Nat) (v : Option Value) (h : Heap) (L : List Loc) : Prop := v = some (.int (0 : Int32)) ∧ Fr n0 L ∧ h = h0
set_option maxRecDepth 65536 in
set_option maxHeartbeats 40000000 in
theorem rm4_i (l : Launch) (Z : State) (a0 : Array Value) (hw : ∀ d ∈ tables_1, d.before a0 Z = true) (ws : List Jvm.Cond) (ob : Addr) (oc : Addr) (h0 : Heap) (n0 : Nat) (O0 : Old Z n0 h0) (E_c : Exa Z h0 oc "java/lang/Integer") :
    MetFree l (⟨"com/example/exact_quorum/exactquorum/protocol/Stat", "equals", "(Ljava/lang/Object;)Z"⟩ : MethodName) (head1 (Jvm.Cond.code (⟨"com/example/exact_quorum/exactquorum/protocol/Stat", "equals", "(Ljava/lang/Object;)Z"⟩ : MethodName) prog_65_method_5_code 3 (some .boolean) :: ws) ({ frames := 0, cells := 0, slots := 0, locals := 0 } : Room)) (fun ay U => ay = #[(.ref ob), (.ref oc)] ∧ Z.Warmed39 U.vm ∧ U.heap = h0) (fun _ _ _ _ _ => True) (fun _ U o U' => ∃ v L, o = .returned v ∧ Q4_i Z ob oc h0 n0 v U'.heap L ∧ FrameEnd U o U' L ({ frames := 0, cells := 0, slots := 0, locals := 0 } : Room).cells ({ frames := 0, cells := 0, slots := 0, locals := 0 } : Room).slots) := by
  refine MetFree.of_bodySF (plainFor_of_name pn_com_example_exact_quorum_exactquorum_protocol_Stat) hisR ?_
  intro p e s m args below meth c s₁ Bd hml0 hP hK
  obtain ⟨rfl, hZ, hh⟩ := hP
  have hx := Bd.exec
  have hby := Bd.bytes
  have hlk : meth.locks = false := BodyLoose.notSynchronized Bd
  have hml : c.maxLocals = 3 := hml0
  have hown : s.vm.findClass "com/example/exact_quorum/exactquorum/protocol/Stat" = some m.cls := findClass_of_methodNamed Bd.named
  have hnm := (name_of_methodNamed Bd.named Bd.method).1
  have X0 : Stand p l e ({ frames := 0, cells := 0, slots := 0, locals := 0 } : Room) s m #[(.ref ob), (.ref oc)] below meth c s₁ [] 0 0 := Stand.of_body Bd
  have e0 : s₁.heap = h0 := by rw [← hh, Bd.state]; rfl
  have N0 := Fr.nil n0
  suffices hgo : Go p e below s 0 0 (Q4_i Z ob oc h0 n0) (s₁.setTop (mkF m 0 #[.val (.ref ob), .val (.ref oc), .unset] [])) by
    obtain ⟨t, o, h1, h2⟩ := hgo; exact ⟨t, o, castTop (ef_rm4_i m ob oc) h1, h2⟩
  show Go p e below s _ _ _ (s₁.setTop (mkF m 0 #[.val (.ref ob), .val (.ref oc), .unset] []))
  refine Go.st (fun _ k' => XS.aloadN X0.here hx rfl (hb hby d4_0) rfl rfl k') ?_
  show Go p e below s _ _ _ (s₁.setTop (mkF m 1 #[.val (.ref ob), .val (.ref oc), .unset] [(.ref oc)]))
  obtain ⟨T1, X1, e1, st1⟩ := instNo X0 hx hZ hown (wdx hw 40 rfl) e0 E_c (own_nsb (wdx hw 63 rfl) (wdx hw 1 rfl) (NS.step (wdx hw 63 rfl) (NS.step (wdx hw 64 rfl) (own_nsa (wdx hw 65 rfl) (wdx hw 1 rfl) (by decide)) (by decide)) (by decide)) (by decide)) (g := (mkF m 1 #[.val (.ref ob), .val (.ref oc), .unset] [(.ref oc)])) rfl rfl (hb hby d4_1)
  refine Go.st st1 ?_
  show Go p e below s _ _ _ (T1.setTop (mkF m 4 #[.val (.ref ob), .val (.ref oc), .unset] [(.int (0 : Int32))]))
  refine Go.st (fun _ k' => XS.ifYes X1.here hx rfl (pc0 := 4) (pc' := 143) rfl (hb hby d4_4) rfl (XT.i0_eq_t (by decide)) (by decide) (by decide) k') ?_
  show Go p e below s _ _ _ (T1.setTop (mkF m 143 #[.val (.ref ob), .val (.ref oc), .unset] []))
  refine Go.st (fun _ k' => XS.iconst X1.here hx rfl (hb hby d4_143) k') ?_
  show Go p e below s _ _ _ (T1.setTop (mkF m 144 #[.val (.ref ob), .val (.ref oc), .unset] [(.int (0 : Int32))]))
  refine Go.retB X1 hx hlk (t := .boolean) Bd.returns (by simp) (hb hby d4_144) (by decide) (by decide) e1 ?_
  exact ⟨rfl, N0, rfl⟩
theorem d4_7 : decode prog_65_method_5_code 7 = .ok (.aload_n 1, 1) := by decide +kernel
theorem d4_8 : decode prog_65_method_5_code 8 = .ok (.checkcast 8, 3) := by decide +kernel
theorem d4_11 : decode prog_65_method_5_code 11 = .ok (.astore_n 2, 1) := by decide +kernel
theorem d4_12 : decode prog_65_method_5_code 12 = .ok (.aload_n 0, 1) := by decide +kernel
theorem d4_13 : decode prog_65_method_5_code 13 = .ok (.getfield 7, 3) := by decide +kernel
theorem d4_16 : decode prog_65_method_5_code 16 = .ok (.aload_n 2, 1) := by decide +kernel
theorem d4_17 : decode prog_65_method_5_code 17 = .ok (.getfield 7, 3) := by decide +kernel
theorem d4_20 : decode prog_65_method_5_code 20 = .ok (.lcmp, 1) := by decide +kernel
theorem d4_21 : decode prog_65_method_5_code 21 = .ok (.ifCond .ne 122, 3) := by decide +kernel
theorem d4_24 : decode prog_65_method_5_code 24 = .ok (.aload_n 0, 1) := by decide +kernel
theorem d4_25 : decode prog_65_method_5_code 25 = .ok (.getfield 13, 3) := by decide +kernel
theorem d4_28 : decode prog_65_method_5_code 28 = .ok (.aload_n 2, 1) := by decide +kernel
theorem d4_29 : decode prog_65_method_5_code 29 = .ok (.getfield 13, 3) := by decide +kernel
theorem d4_32 : decode prog_65_method_5_code 32 = .ok (.lcmp, 1) := by decide +kernel
theorem d4_33 : decode prog_65_method_5_code 33 = .ok (.ifCond .ne 110, 3) := by decide +kernel
theorem d4_36 : decode prog_65_method_5_code 36 = .ok (.aload_n 0, 1) := by decide +kernel
theorem d4_37 : decode prog_65_method_5_code 37 = .ok (.getfield 16, 3) := by decide +kernel
theorem d4_40 : decode prog_65_method_5_code 40 = .ok (.aload_n 2, 1) := by decide +kernel
theorem d4_41 : decode prog_65_method_5_code 41 = .ok (.getfield 16, 3) := by decide +kernel
theorem d4_44 : decode prog_65_method_5_code 44 = .ok (.lcmp, 1) := by decide +kernel
theorem d4_45 : decode prog_65_method_5_code 45 = .ok (.ifCond .ne 98, 3) := by decide +kernel
theorem d4_48 : decode prog_65_method_5_code 48 = .ok (.aload_n 0, 1) := by decide +kernel
theorem d4_49 : decode prog_65_method_5_code 49 = .ok (.getfield 19, 3) := by decide +kernel
theorem d4_52 : decode prog_65_method_5_code 52 = .ok (.aload_n 2, 1) := by decide +kernel
theorem d4_53 : decode prog_65_method_5_code 53 = .ok (.getfield 19, 3) := by decide +kernel
theorem d4_56 : decode prog_65_method_5_code 56 = .ok (.lcmp, 1) := by decide +kernel
theorem d4_57 : decode prog_65_method_5_code 57 = .ok (.ifCond .ne 86, 3) := by decide +kernel
theorem d4_60 : decode prog_65_method_5_code 60 = .ok (.aload_n 0, 1) := by decide +kernel
theorem d4_61 : decode prog_65_method_5_code 61 = .ok (.getfield 22, 3) := by decide +kernel
theorem d4_64 : decode prog_65_method_5_code 64 = .ok (.aload_n 2, 1) := by decide +kernel
theorem d4_65 : decode prog_65_method_5_code 65 = .ok (.getfield 22, 3) := by decide +kernel
theorem d4_68 : decode prog_65_method_5_code 68 = .ok (.if_icmp .ne 75, 3) := by decide +kernel
theorem d4_71 : decode prog_65_method_5_code 71 = .ok (.aload_n 0, 1) := by decide +kernel
theorem d4_72 : decode prog_65_method_5_code 72 = .ok (.getfield 26, 3) := by decide +kernel
theorem d4_75 : decode prog_65_method_5_code 75 = .ok (.aload_n 2, 1) := by decide +kernel
theorem d4_76 : decode prog_65_method_5_code 76 = .ok (.getfield 26, 3) := by decide +kernel
theorem d4_79 : decode prog_65_method_5_code 79 = .ok (.if_icmp .ne 64, 3) := by decide +kernel
theorem d4_82 : decode prog_65_method_5_code 82 = .ok (.aload_n 0, 1) := by decide +kernel
theorem d4_83 : decode prog_65_method_5_code 83 = .ok (.getfield 29, 3) := by decide +kernel
theorem d4_86 : decode prog_65_method_5_code 86 = .ok (.aload_n 2, 1) := by decide +kernel
theorem d4_87 : decode prog_65_method_5_code 87 = .ok (.getfield 29, 3) := by decide +kernel
theorem d4_90 : decode prog_65_method_5_code 90 = .ok (.if_icmp .ne 53, 3) := by decide +kernel
theorem d4_93 : decode prog_65_method_5_code 93 = .ok (.aload_n 0, 1) := by decide +kernel
theorem d4_94 : decode prog_65_method_5_code 94 = .ok (.getfield 32, 3) := by decide +kernel
theorem d4_97 : decode prog_65_method_5_code 97 = .ok (.aload_n 2, 1) := by decide +kernel
theorem d4_98 : decode prog_65_method_5_code 98 = .ok (.getfield 32, 3) := by decide +kernel
theorem d4_101 : decode prog_65_method_5_code 101 = .ok (.lcmp, 1) := by decide +kernel
theorem d4_102 : decode prog_65_method_5_code 102 = .ok (.ifCond .ne 41, 3) := by decide +kernel
theorem d4_105 : decode prog_65_method_5_code 105 = .ok (.aload_n 0, 1) := by decide +kernel
theorem d4_106 : decode prog_65_method_5_code 106 = .ok (.getfield 35, 3) := by decide +kernel
theorem d4_109 : decode prog_65_method_5_code 109 = .ok (.aload_n 2, 1) := by decide +kernel
theorem d4_110 : decode prog_65_method_5_code 110 = .ok (.getfield 35, 3) := by decide +kernel
theorem d4_113 : decode prog_65_method_5_code 113 = .ok (.if_icmp .ne 30, 3) := by decide +kernel
theorem d4_116 : decode prog_65_method_5_code 116 = .ok (.aload_n 0, 1) := by decide +kernel
theorem d4_117 : decode prog_65_method_5_code 117 = .ok (.getfield 38, 3) := by decide +kernel
theorem d4_120 : decode prog_65_method_5_code 120 = .ok (.aload_n 2, 1) := by decide +kernel
theorem d4_121 : decode prog_65_method_5_code 121 = .ok (.getfield 38, 3) := by decide +kernel
theorem d4_124 : decode prog_65_method_5_code 124 = .ok (.if_icmp .ne 19, 3) := by decide +kernel
theorem d4_127 : decode prog_65_method_5_code 127 = .ok (.aload_n 0, 1) := by decide +kernel
theorem d4_128 : decode prog_65_method_5_code 128 = .ok (.getfield 41, 3) := by decide +kernel
theorem d4_131 : decode prog_65_method_5_code 131 = .ok (.aload_n 2, 1) := by decide +kernel
theorem d4_132 : decode prog_65_method_5_code 132 = .ok (.getfield 41, 3) := by decide +kernel
theorem d4_135 : decode prog_65_method_5_code 135 = .ok (.lcmp, 1) := by decide +kernel
theorem d4_136 : decode prog_65_method_5_code 136 = .ok (.ifCond .ne 7, 3) := by decide +kernel
theorem d4_139 : decode prog_65_method_5_code 139 = .ok (.iconst 1, 1) := by decide +kernel
theorem d4_140 : decode prog_65_method_5_code 140 = .ok (.goto 4, 3) := by decide +kernel
theorem ef_rm4 (m : MethodId) (ob : Addr) (oc : Addr) : entryFrame m #[(.ref ob), (.ref oc)] 3 = mkF m 0 #[.val (.ref ob), .val (.ref oc), .unset] [] := by first | (simp [entryFrame, mkF, argsToLocals, Value.category]; done) | rfl
def Q4 (Z : State) (ob : Addr) (oc : Addr) (ua : Int64) (ub : Int64) (uc : Int64) (ud : Int64) (ue : Int32) (uf : Int32) (ug : Int32) (uh : Int64) (ui : Int32) (uj : Int32) (uk : Int64) (wa : Int64) (wb : Int64) (wc : Int64) (wd : Int64) (we : Int32) (wf : Int32) (wg : Int32) (wh : Int64) (wi : Int32) (wj : Int32) (wk : Int64) (h0 : Heap) (n0 : Nat) (v : Option Value) (h : Heap) (L : List Loc) : Prop := v = some (.int (fst ua ub uc ud ue uf ug uh ui uj uk wa wb wc wd we wf wg wh wi wj wk)) ∧ Fr n0 L ∧ h = h0
set_option maxRecDepth 65536 in
set_option maxHeartbeats 40000000 in
theorem rm4 (l : Launch) (Z : State) (a0 : Array Value) (hw : ∀ d ∈ tables_1, d.before a0 Z = true) (ws : List Jvm.Cond) (ob : Addr) (oc : Addr) (ua : Int64) (ub : Int64) (uc : Int64) (ud : Int64) (ue : Int32) (uf : Int32) (ug : Int32) (uh : Int64) (ui : Int32) (uj : Int32) (uk : Int64) (wa : Int64) (wb : Int64) (wc : Int64) (wd : Int64) (we : Int32) (wf : Int32) (wg : Int32) (wh : Int64) (wi : Int32) (wj : Int32) (wk : Int64) (h0 : Heap) (n0 : Nat) (O0 : Old Z n0 h0) (E_c : Exa Z h0 oc "com/example/exact_quorum/exactquorum/protocol/Stat") (Fa : Fld Z h0 ob "com/example/exact_quorum/exactquorum/protocol/Stat" "czxid" "J" (.long ua)) (Fb : Fld Z h0 ob "com/example/exact_quorum/exactquorum/protocol/Stat" "mzxid" "J" (.long ub)) (Fc : Fld Z h0 ob "com/example/exact_quorum/exactquorum/protocol/Stat" "ctime" "J" (.long uc)) (Fd : Fld Z h0 ob "com/example/exact_quorum/exactquorum/protocol/Stat" "mtime" "J" (.long ud)) (Fe : Fld Z h0 ob "com/example/exact_quorum/exactquorum/protocol/Stat" "version" "I" (.int ue)) (Ff : Fld Z h0 ob "com/example/exact_quorum/exactquorum/protocol/Stat" "cversion" "I" (.int uf)) (Fg : Fld Z h0 ob "com/example/exact_quorum/exactquorum/protocol/Stat" "aversion" "I" (.int ug)) (Fh : Fld Z h0 ob "com/example/exact_quorum/exactquorum/protocol/Stat" "ephemeralOwner" "J" (.long uh)) (Fi : Fld Z h0 ob "com/example/exact_quorum/exactquorum/protocol/Stat" "dataLength" "I" (.int ui)) (Fj : Fld Z h0 ob "com/example/exact_quorum/exactquorum/protocol/Stat" "numChildren" "I" (.int uj)) (Fk : Fld Z h0 ob "com/example/exact_quorum/exactquorum/protocol/Stat" "pzxid" "J" (.long uk)) (Ga : Fld Z h0 oc "com/example/exact_quorum/exactquorum/protocol/Stat" "czxid" "J" (.long wa)) (Gb : Fld Z h0 oc "com/example/exact_quorum/exactquorum/protocol/Stat" "mzxid" "J" (.long wb)) (Gc : Fld Z h0 oc "com/example/exact_quorum/exactquorum/protocol/Stat" "ctime" "J" (.long wc)) (Gd : Fld Z h0 oc "com/example/exact_quorum/exactquorum/protocol/Stat" "mtime" "J" (.long wd)) (Ge : Fld Z h0 oc "com/example/exact_quorum/exactquorum/protocol/Stat" "version" "I" (.int we)) (Gf : Fld Z h0 oc "com/example/exact_quorum/exactquorum/protocol/Stat" "cversion" "I" (.int wf)) (Gg : Fld Z h0 oc "com/example/exact_quorum/exactquorum/protocol/Stat" "aversion" "I" (.int wg)) (Gh : Fld Z h0 oc "com/example/exact_quorum/exactquorum/protocol/Stat" "ephemeralOwner" "J" (.long wh)) (Gi : Fld Z h0 oc "com/example/exact_quorum/exactquorum/protocol/Stat" "dataLength" "I" (.int wi)) (Gj : Fld Z h0 oc "com/example/exact_quorum/exactquorum/protocol/Stat" "numChildren" "I" (.int wj)) (Gk : Fld Z h0 oc "com/example/exact_quorum/exactquorum/protocol/Stat" "pzxid" "J" (.long wk)) :
    MetFree l (⟨"com/example/exact_quorum/exactquorum/protocol/Stat", "equals", "(Ljava/lang/Object;)Z"⟩ : MethodName) (head1 (Jvm.Cond.code (⟨"com/example/exact_quorum/exactquorum/protocol/Stat", "equals", "(Ljava/lang/Object;)Z"⟩ : MethodName) prog_65_method_5_code 3 (some .boolean) :: ws) ({ frames := 0, cells := 0, slots := 0, locals := 0 } : Room)) (fun ay U => ay = #[(.ref ob), (.ref oc)] ∧ Z.Warmed39 U.vm ∧ U.heap = h0) (fun _ _ _ _ _ => True) (fun _ U o U' => ∃ v L, o = .returned v ∧ Q4 Z ob oc ua ub uc ud ue uf ug uh ui uj uk wa wb wc wd we wf wg wh wi wj wk h0 n0 v U'.heap L ∧ FrameEnd U o U' L ({ frames := 0, cells := 0, slots := 0, locals := 0 } : Room).cells ({ frames := 0, cells := 0, slots := 0, locals := 0 } : Room).slots) := by
  refine MetFree.of_bodySF (plainFor_of_name pn_com_example_exact_quorum_exactquorum_protocol_Stat) hisR ?_
  intro p e s m args below meth c s₁ Bd hml0 hP hK
  obtain ⟨rfl, hZ, hh⟩ := hP
  have hx := Bd.exec
  have hby := Bd.bytes
  have hlk : meth.locks = false := BodyLoose.notSynchronized Bd
  have hml : c.maxLocals = 3 := hml0
  have hown : s.vm.findClass "com/example/exact_quorum/exactquorum/protocol/Stat" = some m.cls := findClass_of_methodNamed Bd.named
  have hnm := (name_of_methodNamed Bd.named Bd.method).1
  have X0 : Stand p l e ({ frames := 0, cells := 0, slots := 0, locals := 0 } : Room) s m #[(.ref ob), (.ref oc)] below meth c s₁ [] 0 0 := Stand.of_body Bd
  have e0 : s₁.heap = h0 := by rw [← hh, Bd.state]; rfl
  have N0 := Fr.nil n0
  suffices hgo : Go p e below s 0 0 (Q4 Z ob oc ua ub uc ud ue uf ug uh ui uj uk wa wb wc wd we wf wg wh wi wj wk h0 n0) (s₁.setTop (mkF m 0 #[.val (.ref ob), .val (.ref oc), .unset] [])) by
    obtain ⟨t, o, h1, h2⟩ := hgo; exact ⟨t, o, castTop (ef_rm4 m ob oc) h1, h2⟩
  show Go p e below s _ _ _ (s₁.setTop (mkF m 0 #[.val (.ref ob), .val (.ref oc), .unset] []))
  refine Go.st (fun _ k' => XS.aloadN X0.here hx rfl (hb hby d4_0) rfl rfl k') ?_
  show Go p e below s _ _ _ (s₁.setTop (mkF m 1 #[.val (.ref ob), .val (.ref oc), .unset] [(.ref oc)]))
  obtain ⟨T1, X1, e1, st1⟩ := instY X0 hx hZ hown (wdx hw 40 rfl) e0 (Ins.self E_c) (g := (mkF m 1 #[.val (.ref ob), .val (.ref oc), .unset] [(.ref oc)])) rfl rfl (hb hby d4_1)
  refine Go.st st1 ?_
  show Go p e below s _ _ _ (T1.setTop (mkF m 4 #[.val (.ref ob), .val (.ref oc), .unset] [(.int (1 : Int32))]))
  refine Go.st (fun _ k' => XS.ifNo X1.here hx rfl (hb hby d4_4) rfl (XT.i0_eq_f (by decide)) k') ?_
  show Go p e below s _ _ _ (T1.setTop (mkF m 7 #[.val (.ref ob), .val (.ref oc), .unset] []))
  refine Go.st (fun _ k' => XS.aloadN X1.here hx rfl (hb hby d4_7) rfl rfl k') ?_
  show Go p e below s _ _ _ (T1.setTop (mkF m 8 #[.val (.ref ob), .val (.ref oc), .unset] [(.ref oc)]))
  obtain ⟨T2, X2, e2, st2⟩ := castY X1 hx hZ hown (wdx hw 40 rfl) e1 (Ins.self E_c) (g := (mkF m 8 #[.val (.ref ob), .val (.ref oc), .unset] [(.ref oc)])) rfl rfl (hb hby d4_8)
  refine Go.st st2 ?_
  show Go p e below s _ _ _ (T2.setTop (mkF m 11 #[.val (.ref ob), .val (.ref oc), .unset] [(.ref oc)]))
  refine Go.st (fun _ k' => XS.astoreN X2.here hx rfl (hb hby d4_11) rfl rfl (l' := #[.val (.ref ob), .val (.ref oc), .val (.ref oc)]) rfl k') ?_
  show Go p e below s _ _ _ (T2.setTop (mkF m 12 #[.val (.ref ob), .val (.ref oc), .val (.ref oc)] []))
  refine Go.st (fun _ k' => XS.aloadN X2.here hx rfl (hb hby d4_12) rfl rfl k') ?_
  show Go p e below s _ _ _ (T2.setTop (mkF m 13 #[.val (.ref ob), .val (.ref oc), .val (.ref oc)] [(.ref ob)]))
  obtain ⟨T3, X3, e3, st3⟩ := getF X2 hx hZ hown (host := "") (Or.inl (wdx hw 9 rfl)) Via.refl e2 Fa (g := (mkF m 13 #[.val (.ref ob), .val (.ref oc), .val (.ref oc)] [(.ref ob)])) rfl rfl (hb hby d4_13)
  refine Go.st st3 ?_
  show Go p e below s _ _ _ (T3.setTop (mkF m 16 #[.val (.ref ob), .val (.ref oc), .val (.ref oc)] [(.long ua)]))
  refine Go.st (fun _ k' => XS.aloadN X3.here hx rfl (hb hby d4_16) rfl rfl k') ?_
  show Go p e below s _ _ _ (T3.setTop (mkF m 17 #[.val (.ref ob), .val (.ref oc), .val (.ref oc)] [(.ref oc), (.long ua)]))
  obtain ⟨T4, X4, e4, st4⟩ := getF X3 hx hZ hown (host := "") (Or.inl (wdx hw 9 rfl)) Via.refl e3 Ga (g := (mkF m 17 #[.val (.ref ob), .val (.ref oc), .val (.ref oc)] [(.ref oc), (.long ua)])) rfl rfl (hb hby d4_17)
  refine Go.st st4 ?_
  show Go p e below s _ _ _ (T4.setTop (mkF m 20 #[.val (.ref ob), .val (.ref oc), .val (.ref oc)] [(.long wa), (.long ua)]))
  refine Go.st (fun _ k' => XT.lcmp X4.here hx rfl (hb hby d4_20) rfl k') ?_
  show Go p e below s _ _ _ (T4.setTop (mkF m 21 #[.val (.ref ob), .val (.ref oc), .val (.ref oc)] [(.int (XT.cmpL ua wa))]))
  by_cases hc5 : ua = wa
  · refine Go.st (fun _ k' => XS.ifNo X4.here hx rfl (hb hby d4_21) rfl (XT.ll_ne_f hc5) k') ?_
    show Go p e below s _ _ _ (T4.setTop (mkF m 24 #[.val (.ref ob), .val (.ref oc), .val (.ref oc)] []))
    refine Go.st (fun _ k' => XS.aloadN X4.here hx rfl (hb hby d4_24) rfl rfl k') ?_
    show Go p e below s _ _ _ (T4.setTop (mkF m 25 #[.val (.ref ob), .val (.ref oc), .val (.ref oc)] [(.ref ob)]))
    obtain ⟨T6, X6, e6, st6⟩ := getF X4 hx hZ hown (host := "") (Or.inl (wdx hw 11 rfl)) Via.refl e4 Fb (g := (mkF m 25 #[.val (.ref ob), .val (.ref oc), .val (.ref oc)] [(.ref ob)])) rfl rfl (hb hby d4_25)
    refine Go.st st6 ?_
    show Go p e below s _ _ _ (T6.setTop (mkF m 28 #[.val (.ref ob), .val (.ref oc), .val (.ref oc)] [(.long ub)]))
    refine Go.st (fun _ k' => XS.aloadN X6.here hx rfl (hb hby d4_28) rfl rfl k') ?_
    show Go p e below s _ _ _ (T6.setTop (mkF m 29 #[.val (.ref ob), .val (.ref oc), .val (.ref oc)] [(.ref oc), (.long ub)]))
    obtain ⟨T7, X7, e7, st7⟩ := getF X6 hx hZ hown (host := "") (Or.inl (wdx hw 11 rfl)) Via.refl e6 Gb (g := (mkF m 29 #[.val (.ref ob), .val (.ref oc), .val (.ref oc)] [(.ref oc), (.long ub)])) rfl rfl (hb hby d4_29)
    refine Go.st st7 ?_
    show Go p e below s _ _ _ (T7.setTop (mkF m 32 #[.val (.ref ob), .val (.ref oc), .val (.ref oc)] [(.long wb), (.long ub)]))
    refine Go.st (fun _ k' => XT.lcmp X7.here hx rfl (hb hby d4_32) rfl k') ?_
    show Go p e below s _ _ _ (T7.setTop (mkF m 33 #[.val (.ref ob), .val (.ref oc), .val (.ref oc)] [(.int (XT.cmpL ub wb))]))
    by_cases hc8 : ub = wb
    · refine Go.st (fun _ k' => XS.ifNo X7.here hx rfl (hb hby d4_33) rfl (XT.ll_ne_f hc8) k') ?_
      show Go p e below s _ _ _ (T7.setTop (mkF m 36 #[.val (.ref ob), .val (.ref oc), .val (.ref oc)] []))
      refine Go.st (fun _ k' => XS.aloadN X7.here hx rfl (hb hby d4_36) rfl rfl k') ?_
      show Go p e below s _ _ _ (T7.setTop (mkF m 37 #[.val (.ref ob), .val (.ref oc), .val (.ref oc)] [(.ref ob)]))
      obtain ⟨T9, X9, e9, st9⟩ := getF X7 hx hZ hown (host := "") (Or.inl (wdx hw 13 rfl)) Via.refl e7 Fc (g := (mkF m 37 #[.val (.ref ob), .val (.ref oc), .val (.ref oc)] [(.ref ob)])) rfl rfl (hb hby d4_37)
      refine Go.st st9 ?_
      show Go p e below s _ _ _ (T9.setTop (mkF m 40 #[.val (.ref ob), .val (.ref oc), .val (.ref oc)] [(.long uc)]))
      refine Go.st (fun _ k' => XS.aloadN X9.here hx rfl (hb hby d4_40) rfl rfl k') ?_
      show Go p e below s _ _ _ (T9.setTop (mkF m 41 #[.val (.ref ob), .val (.ref oc), .val (.ref oc)] [(.ref oc), (.long uc)]))
      obtain ⟨T10, X10, e10, st10⟩ := getF X9 hx hZ hown (host := "") (Or.inl (wdx hw 13 rfl)) Via.refl e9 Gc (g := (mkF m 41 #[.val (.ref ob), .val (.ref oc), .val (.ref oc)] [(.ref oc), (.long uc)])) rfl rfl (hb hby d4_41)
      refine Go.st st10 ?_
      show Go p e below s _ _ _ (T10.setTop (mkF m 44 #[.val (.ref ob), .val (.ref oc), .val (.ref oc)] [(.long wc), (.long uc)]))
      refine Go.st (fun _ k' => XT.lcmp X10.here hx rfl (hb hby d4_44) rfl k') ?_
      show Go p e below s _ _ _ (T10.setTop (mkF m 45 #[.val (.ref ob), .val (.ref oc), .val (.ref oc)] [(.int (XT.cmpL uc wc))]))
      by_cases hc11 : uc = wc
      · refine Go.st (fun _ k' => XS.ifNo X10.here hx rfl (hb hby d4_45) rfl (XT.ll_ne_f hc11) k') ?_
        show Go p e below s _ _ _ (T10.setTop (mkF m 48 #[.val (.ref ob), .val (.ref oc), .val (.ref oc)] []))
        refine Go.st (fun _ k' => XS.aloadN X10.here hx rfl (hb hby d4_48) rfl rfl k') ?_
        show Go p e below s _ _ _ (T10.setTop (mkF m 49 #[.val (.ref ob), .val (.ref oc), .val (.ref oc)] [(.ref ob)]))
        obtain ⟨T12, X12, e12, st12⟩ := getF X10 hx hZ hown (host := "") (Or.inl (wdx hw 15 rfl)) Via.refl e10 Fd (g := (mkF m 49 #[.val (.ref ob), .val (.ref oc), .val (.ref oc)] [(.ref ob)])) rfl rfl (hb hby d4_49)
        refine Go.st st12 ?_
        show Go p e below s _ _ _ (T12.setTop (mkF m 52 #[.val (.ref ob), .val (.ref oc), .val (.ref oc)] [(.long ud)]))
        refine Go.st (fun _ k' => XS.aloadN X12.here hx rfl (hb hby d4_52) rfl rfl k') ?_
        show Go p e below s _ _ _ (T12.setTop (mkF m 53 #[.val (.ref ob), .val (.ref oc), .val (.ref oc)] [(.ref oc), (.long ud)]))
        obtain ⟨T13, X13, e13, st13⟩ := getF X12 hx hZ hown (host := "") (Or.inl (wdx hw 15 rfl)) Via.refl e12 Gd (g := (mkF m 53 #[.val (.ref ob), .val (.ref oc), .val (.ref oc)] [(.ref oc), (.long ud)])) rfl rfl (hb hby d4_53)
        refine Go.st st13 ?_
        show Go p e below s _ _ _ (T13.setTop (mkF m 56 #[.val (.ref ob), .val (.ref oc), .val (.ref oc)] [(.long wd), (.long ud)]))
        refine Go.st (fun _ k' => XT.lcmp X13.here hx rfl (hb hby d4_56) rfl k') ?_
        show Go p e below s _ _ _ (T13.setTop (mkF m 57 #[.val (.ref ob), .val (.ref oc), .val (.ref oc)] [(.int (XT.cmpL ud wd))]))
        by_cases hc14 : ud = wd
        · refine Go.st (fun _ k' => XS.ifNo X13.here hx rfl (hb hby d4_57) rfl (XT.ll_ne_f hc14) k') ?_
          show Go p e below s _ _ _ (T13.setTop (mkF m 60 #[.val (.ref ob), .val (.ref oc), .val (.ref oc)] []))
          refine Go.st (fun _ k' => XS.aloadN X13.here hx rfl (hb hby d4_60) rfl rfl k') ?_
          show Go p e below s _ _ _ (T13.setTop (mkF m 61 #[.val (.ref ob), .val (.ref oc), .val (.ref oc)] [(.ref ob)]))
          obtain ⟨T15, X15, e15, st15⟩ := getF X13 hx hZ hown (host := "") (Or.inl (wdx hw 17 rfl)) Via.refl e13 Fe (g := (mkF m 61 #[.val (.ref ob), .val (.ref oc), .val (.ref oc)] [(.ref ob)])) rfl rfl (hb hby d4_61)
          refine Go.st st15 ?_
          show Go p e below s _ _ _ (T15.setTop (mkF m 64 #[.val (.ref ob), .val (.ref oc), .val (.ref oc)] [(.int ue)]))
          refine Go.st (fun _ k' => XS.aloadN X15.here hx rfl (hb hby d4_64) rfl rfl k') ?_
          show Go p e below s _ _ _ (T15.setTop (mkF m 65 #[.val (.ref ob), .val (.ref oc), .val (.ref oc)] [(.ref oc), (.int ue)]))
          obtain ⟨T16, X16, e16, st16⟩ := getF X15 hx hZ hown (host := "") (Or.inl (wdx hw 17 rfl)) Via.refl e15 Ge (g := (mkF m 65 #[.val (.ref ob), .val (.ref oc), .val (.ref oc)] [(.ref oc), (.int ue)])) rfl rfl (hb hby d4_65)
          refine Go.st st16 ?_
          show Go p e below s _ _ _ (T16.setTop (mkF m 68 #[.val (.ref ob), .val (.ref oc), .val (.ref oc)] [(.int we), (.int ue)]))
          by_cases hc17 : ue = we
          · refine Go.st (fun _ k' => XS.icmpNo X16.here hx rfl (hb hby d4_68) rfl (XT.ii_ne_f hc17) k') ?_
            show Go p e below s _ _ _ (T16.setTop (mkF m 71 #[.val (.ref ob), .val (.ref oc), .val (.ref oc)] []))
            refine Go.st (fun _ k' => XS.aloadN X16.here hx rfl (hb hby d4_71) rfl rfl k') ?_
            show Go p e below s _ _ _ (T16.setTop (mkF m 72 #[.val (.ref ob), .val (.ref oc), .val (.ref oc)] [(.ref ob)]))
            obtain ⟨T18, X18, e18, st18⟩ := getF X16 hx hZ hown (host := "") (Or.inl (wdx hw 19 rfl)) Via.refl e16 Ff (g := (mkF m 72 #[.val (.ref ob), .val (.ref oc), .val (.ref oc)] [(.ref ob)])) rfl rfl (hb hby d4_72)
            refine Go.st st18 ?_
            show Go p e below s _ _ _ (T18.setTop (mkF m 75 #[.val (.ref ob), .val (.ref oc), .val (.ref oc)] [(.int uf)]))
            refine Go.st (fun _ k' => XS.aloadN X18.here hx rfl (hb hby d4_75) rfl rfl k') ?_
            show Go p e below s _ _ _ (T18.setTop (mkF m 76 #[.val (.ref ob), .val (.ref oc), .val (.ref oc)] [(.ref oc), (.int uf)]))
            obtain ⟨T19, X19, e19, st19⟩ := getF X18 hx hZ hown (host := "") (Or.inl (wdx hw 19 rfl)) Via.refl e18 Gf (g := (mkF m 76 #[.val (.ref ob), .val (.ref oc), .val (.ref oc)] [(.ref oc), (.int uf)])) rfl rfl (hb hby d4_76)
            refine Go.st st19 ?_
            show Go p e below s _ _ _ (T19.setTop (mkF m 79 #[.val (.ref ob), .val (.ref oc), .val (.ref oc)] [(.int wf), (.int uf)]))
            by_cases hc20 : uf = wf
            · refine Go.st (fun _ k' => XS.icmpNo X19.here hx rfl (hb hby d4_79) rfl (XT.ii_ne_f hc20) k') ?_
              show Go p e below s _ _ _ (T19.setTop (mkF m 82 #[.val (.ref ob), .val (.ref oc), .val (.ref oc)] []))
              refine Go.st (fun _ k' => XS.aloadN X19.here hx rfl (hb hby d4_82) rfl rfl k') ?_
              show Go p e below s _ _ _ (T19.setTop (mkF m 83 #[.val (.ref ob), .val (.ref oc), .val (.ref oc)] [(.ref ob)]))
              obtain ⟨T21, X21, e21, st21⟩ := getF X19 hx hZ hown (host := "") (Or.inl (wdx hw 21 rfl)) Via.refl e19 Fg (g := (mkF m 83 #[.val (.ref ob), .val (.ref oc), .val (.ref oc)] [(.ref ob)])) rfl rfl (hb hby d4_83)
              refine Go.st st21 ?_
              show Go p e below s _ _ _ (T21.setTop (mkF m 86 #[.val (.ref ob), .val (.ref oc), .val (.ref oc)] [(.int ug)]))
              refine Go.st (fun _ k' => XS.aloadN X21.here hx rfl (hb hby d4_86) rfl rfl k') ?_
              show Go p e below s _ _ _ (T21.setTop (mkF m 87 #[.val (.ref ob), .val (.ref oc), .val (.ref oc)] [(.ref oc), (.int ug)]))
              obtain ⟨T22, X22, e22, st22⟩ := getF X21 hx hZ hown (host := "") (Or.inl (wdx hw 21 rfl)) Via.refl e21 Gg (g := (mkF m 87 #[.val (.ref ob), .val (.ref oc), .val (.ref oc)] [(.ref oc), (.int ug)])) rfl rfl (hb hby d4_87)
              refine Go.st st22 ?_
              show Go p e below s _ _ _ (T22.setTop (mkF m 90 #[.val (.ref ob), .val (.ref oc), .val (.ref oc)] [(.int wg), (.int ug)]))
              by_cases hc23 : ug = wg
              · refine Go.st (fun _ k' => XS.icmpNo X22.here hx rfl (hb hby d4_90) rfl (XT.ii_ne_f hc23) k') ?_
                show Go p e below s _ _ _ (T22.setTop (mkF m 93 #[.val (.ref ob), .val (.ref oc), .val (.ref oc)] []))
                refine Go.st (fun _ k' => XS.aloadN X22.here hx rfl (hb hby d4_93) rfl rfl k') ?_
                show Go p e below s _ _ _ (T22.setTop (mkF m 94 #[.val (.ref ob), .val (.ref oc), .val (.ref oc)] [(.ref ob)]))
                obtain ⟨T24, X24, e24, st24⟩ := getF X22 hx hZ hown (host := "") (Or.inl (wdx hw 23 rfl)) Via.refl e22 Fh (g := (mkF m 94 #[.val (.ref ob), .val (.ref oc), .val (.ref oc)] [(.ref ob)])) rfl rfl (hb hby d4_94)
                refine Go.st st24 ?_
                show Go p e below s _ _ _ (T24.setTop (mkF m 97 #[.val (.ref ob), .val (.ref oc), .val (.ref oc)] [(.long uh)]))
                refine Go.st (fun _ k' => XS.aloadN X24.here hx rfl (hb hby d4_97) rfl rfl k') ?_
                show Go p e below s _ _ _ (T24.setTop (mkF m 98 #[.val (.ref ob), .val (.ref oc), .val (.ref oc)] [(.ref oc), (.long uh)]))
                obtain ⟨T25, X25, e25, st25⟩ := getF X24 hx hZ hown (host := "") (Or.inl (wdx hw 23 rfl)) Via.refl e24 Gh (g := (mkF m 98 #[.val (.ref ob), .val (.ref oc), .val (.ref oc)] [(.ref oc), (.long uh)])) rfl rfl (hb hby d4_98)
                refine Go.st st25 ?_
                show Go p e below s _ _ _ (T25.setTop (mkF m 101 #[.val (.ref ob), .val (.ref oc), .val (.ref oc)] [(.long wh), (.long uh)]))
                refine Go.st (fun _ k' => XT.lcmp X25.here hx rfl (hb hby d4_101) rfl k') ?_
                show Go p e below s _ _ _ (T25.setTop (mkF m 102 #[.val (.ref ob), .val (.ref oc), .val (.ref oc)] [(.int (XT.cmpL uh wh))]))
                by_cases hc26 : uh = wh
                · refine Go.st (fun _ k' => XS.ifNo X25.here hx rfl (hb hby d4_102) rfl (XT.ll_ne_f hc26) k') ?_
                  show Go p e below s _ _ _ (T25.setTop (mkF m 105 #[.val (.ref ob), .val (.ref oc), .val (.ref oc)] []))
                  refine Go.st (fun _ k' => XS.aloadN X25.here hx rfl (hb hby d4_105) rfl rfl k') ?_
                  show Go p e below s _ _ _ (T25.setTop (mkF m 106 #[.val (.ref ob), .val (.ref oc), .val (.ref oc)] [(.ref ob)]))
                  obtain ⟨T27, X27, e27, st27⟩ := getF X25 hx hZ hown (host := "") (Or.inl (wdx hw 25 rfl)) Via.refl e25 Fi (g := (mkF m 106 #[.val (.ref ob), .val (.ref oc), .val (.ref oc)] [(.ref ob)])) rfl rfl (hb hby d4_106)
                  refine Go.st st27 ?_
                  show Go p e below s _ _ _ (T27.setTop (mkF m 109 #[.val (.ref ob), .val (.ref oc), .val (.ref oc)] [(.int ui)]))
                  refine Go.st (fun _ k' => XS.aloadN X27.here hx rfl (hb hby d4_109) rfl rfl k') ?_
                  show Go p e below s _ _ _ (T27.setTop (mkF m 110 #[.val (.ref ob), .val (.ref oc), .val (.ref oc)] [(.ref oc), (.int ui)]))
                  obtain ⟨T28, X28, e28, st28⟩ := getF X27 hx hZ hown (host := "") (Or.inl (wdx hw 25 rfl)) Via.refl e27 Gi (g := (mkF m 110 #[.val (.ref ob), .val (.ref oc), .val (.ref oc)] [(.ref oc), (.int ui)])) rfl rfl (hb hby d4_110)
                  refine Go.st st28 ?_
                  show Go p e below s _ _ _ (T28.setTop (mkF m 113 #[.val (.ref ob), .val (.ref oc), .val (.ref oc)] [(.int wi), (.int ui)]))
                  by_cases hc29 : ui = wi
                  · refine Go.st (fun _ k' => XS.icmpNo X28.here hx rfl (hb hby d4_113) rfl (XT.ii_ne_f hc29) k') ?_
                    show Go p e below s _ _ _ (T28.setTop (mkF m 116 #[.val (.ref ob), .val (.ref oc), .val (.ref oc)] []))
                    refine Go.st (fun _ k' => XS.aloadN X28.here hx rfl (hb hby d4_116) rfl rfl k') ?_
                    show Go p e below s _ _ _ (T28.setTop (mkF m 117 #[.val (.ref ob), .val (.ref oc), .val (.ref oc)] [(.ref ob)]))
                    obtain ⟨T30, X30, e30, st30⟩ := getF X28 hx hZ hown (host := "") (Or.inl (wdx hw 27 rfl)) Via.refl e28 Fj (g := (mkF m 117 #[.val (.ref ob), .val (.ref oc), .val (.ref oc)] [(.ref ob)])) rfl rfl (hb hby d4_117)
                    refine Go.st st30 ?_
                    show Go p e below s _ _ _ (T30.setTop (mkF m 120 #[.val (.ref ob), .val (.ref oc), .val (.ref oc)] [(.int uj)]))
                    refine Go.st (fun _ k' => XS.aloadN X30.here hx rfl (hb hby d4_120) rfl rfl k') ?_
                    show Go p e below s _ _ _ (T30.setTop (mkF m 121 #[.val (.ref ob), .val (.ref oc), .val (.ref oc)] [(.ref oc), (.int uj)]))
                    obtain ⟨T31, X31, e31, st31⟩ := getF X30 hx hZ hown (host := "") (Or.inl (wdx hw 27 rfl)) Via.refl e30 Gj (g := (mkF m 121 #[.val (.ref ob), .val (.ref oc), .val (.ref oc)] [(.ref oc), (.int uj)])) rfl rfl (hb hby d4_121)
                    refine Go.st st31 ?_
                    show Go p e below s _ _ _ (T31.setTop (mkF m 124 #[.val (.ref ob), .val (.ref oc), .val (.ref oc)] [(.int wj), (.int uj)]))
                    by_cases hc32 : uj = wj
                    · refine Go.st (fun _ k' => XS.icmpNo X31.here hx rfl (hb hby d4_124) rfl (XT.ii_ne_f hc32) k') ?_
                      show Go p e below s _ _ _ (T31.setTop (mkF m 127 #[.val (.ref ob), .val (.ref oc), .val (.ref oc)] []))
                      refine Go.st (fun _ k' => XS.aloadN X31.here hx rfl (hb hby d4_127) rfl rfl k') ?_
                      show Go p e below s _ _ _ (T31.setTop (mkF m 128 #[.val (.ref ob), .val (.ref oc), .val (.ref oc)] [(.ref ob)]))
                      obtain ⟨T33, X33, e33, st33⟩ := getF X31 hx hZ hown (host := "") (Or.inl (wdx hw 29 rfl)) Via.refl e31 Fk (g := (mkF m 128 #[.val (.ref ob), .val (.ref oc), .val (.ref oc)] [(.ref ob)])) rfl rfl (hb hby d4_128)
                      refine Go.st st33 ?_
                      show Go p e below s _ _ _ (T33.setTop (mkF m 131 #[.val (.ref ob), .val (.ref oc), .val (.ref oc)] [(.long uk)]))
                      refine Go.st (fun _ k' => XS.aloadN X33.here hx rfl (hb hby d4_131) rfl rfl k') ?_
                      show Go p e below s _ _ _ (T33.setTop (mkF m 132 #[.val (.ref ob), .val (.ref oc), .val (.ref oc)] [(.ref oc), (.long uk)]))
                      obtain ⟨T34, X34, e34, st34⟩ := getF X33 hx hZ hown (host := "") (Or.inl (wdx hw 29 rfl)) Via.refl e33 Gk (g := (mkF m 132 #[.val (.ref ob), .val (.ref oc), .val (.ref oc)] [(.ref oc), (.long uk)])) rfl rfl (hb hby d4_132)
                      refine Go.st st34 ?_
                      show Go p e below s _ _ _ (T34.setTop (mkF m 135 #[.val (.ref ob), .val (.ref oc), .val (.ref oc)] [(.long wk), (.long uk)]))
                      refine Go.st (fun _ k' => XT.lcmp X34.here hx rfl (hb hby d4_135) rfl k') ?_
                      show Go p e below s _ _ _ (T34.setTop (mkF m 136 #[.val (.ref ob), .val (.ref oc), .val (.ref oc)] [(.int (XT.cmpL uk wk))]))
                      by_cases hc35 : uk = wk
                      · refine Go.st (fun _ k' => XS.ifNo X34.here hx rfl (hb hby d4_136) rfl (XT.ll_ne_f hc35) k') ?_
                        show Go p e below s _ _ _ (T34.setTop (mkF m 139 #[.val (.ref ob), .val (.ref oc), .val (.ref oc)] []))
                        refine Go.st (fun _ k' => XS.iconst X34.here hx rfl (hb hby d4_139) k') ?_
                        show Go p e below s _ _ _ (T34.setTop (mkF m 140 #[.val (.ref ob), .val (.ref oc), .val (.ref oc)] [(.int (1 : Int32))]))
                        refine Go.st (fun _ k' => XS.goto X34.here hx rfl (pc0 := 140) (pc' := 144) rfl (hb hby d4_140) (by decide) (by decide) k') ?_
                        show Go p e below s _ _ _ (T34.setTop (mkF m 144 #[.val (.ref ob), .val (.ref oc), .val (.ref oc)] [(.int (1 : Int32))]))
                        refine Go.retB X34 hx hlk (t := .boolean) Bd.returns (by simp) (hb hby d4_144) (by decide) (by decide) e34 ?_
                        exact ⟨(by simp [fst, nar, hc5, hc8, hc11, hc14, hc17, hc20, hc23, hc26, hc29, hc32, hc35]), N0, rfl⟩
                      · refine Go.st (fun _ k' => XS.ifYes X34.here hx rfl (pc0 := 136) (pc' := 143) rfl (hb hby d4_136) rfl (XT.ll_ne_t hc35) (by decide) (by decide) k') ?_
                        show Go p e below s _ _ _ (T34.setTop (mkF m 143 #[.val (.ref ob), .val (.ref oc), .val (.ref oc)] []))
                        refine Go.st (fun _ k' => XS.iconst X34.here hx rfl (hb hby d4_143) k') ?_
                        show Go p e below s _ _ _ (T34.setTop (mkF m 144 #[.val (.ref ob), .val (.ref oc), .val (.ref oc)] [(.int (0 : Int32))]))
                        refine Go.retB X34 hx hlk (t := .boolean) Bd.returns (by simp) (hb hby d4_144) (by decide) (by decide) e34 ?_
                        exact ⟨(by simp [fst, nar, hc5, hc8, hc11, hc14, hc17, hc20, hc23, hc26, hc29, hc32, hc35]), N0, rfl⟩
                    · refine Go.st (fun _ k' => XS.icmpYes X31.here hx rfl (pc0 := 124) (pc' := 143) rfl (hb hby d4_124) rfl (XT.ii_ne_t hc32) (by decide) (by decide) k') ?_
                      show Go p e below s _ _ _ (T31.setTop (mkF m 143 #[.val (.ref ob), .val (.ref oc), .val (.ref oc)] []))
                      refine Go.st (fun _ k' => XS.iconst X31.here hx rfl (hb hby d4_143) k') ?_
                      show Go p e below s _ _ _ (T31.setTop (mkF m 144 #[.val (.ref ob), .val (.ref oc), .val (.ref oc)] [(.int (0 : Int32))]))
                      refine Go.retB X31 hx hlk (t := .boolean) Bd.returns (by simp) (hb hby d4_144) (by decide) (by decide) e31 ?_
                      exact ⟨(by simp [fst, nar, hc5, hc8, hc11, hc14, hc17, hc20, hc23, hc26, hc29, hc32]), N0, rfl⟩
                  · refine Go.st (fun _ k' => XS.icmpYes X28.here hx rfl (pc0 := 113) (pc' := 143) rfl (hb hby d4_113) rfl (XT.ii_ne_t hc29) (by decide) (by decide) k') ?_
                    show Go p e below s _ _ _ (T28.setTop (mkF m 143 #[.val (.ref ob), .val (.ref oc), .val (.ref oc)] []))
                    refine Go.st (fun _ k' => XS.iconst X28.here hx rfl (hb hby d4_143) k') ?_
                    show Go p e below s _ _ _ (T28.setTop (mkF m 144 #[.val (.ref ob), .val (.ref oc), .val (.ref oc)] [(.int (0 : Int32))]))
                    refine Go.retB X28 hx hlk (t := .boolean) Bd.returns (by simp) (hb hby d4_144) (by decide) (by decide) e28 ?_
                    exact ⟨(by simp [fst, nar, hc5, hc8, hc11, hc14, hc17, hc20, hc23, hc26, hc29]), N0, rfl⟩
                · refine Go.st (fun _ k' => XS.ifYes X25.here hx rfl (pc0 := 102) (pc' := 143) rfl (hb hby d4_102) rfl (XT.ll_ne_t hc26) (by decide) (by decide) k') ?_
                  show Go p e below s _ _ _ (T25.setTop (mkF m 143 #[.val (.ref ob), .val (.ref oc), .val (.ref oc)] []))
                  refine Go.st (fun _ k' => XS.iconst X25.here hx rfl (hb hby d4_143) k') ?_
                  show Go p e below s _ _ _ (T25.setTop (mkF m 144 #[.val (.ref ob), .val (.ref oc), .val (.ref oc)] [(.int (0 : Int32))]))
                  refine Go.retB X25 hx hlk (t := .boolean) Bd.returns (by simp) (hb hby d4_144) (by decide) (by decide) e25 ?_
                  exact ⟨(by simp [fst, nar, hc5, hc8, hc11, hc14, hc17, hc20, hc23, hc26]), N0, rfl⟩
              · refine Go.st (fun _ k' => XS.icmpYes X22.here hx rfl (pc0 := 90) (pc' := 143) rfl (hb hby d4_90) rfl (XT.ii_ne_t hc23) (by decide) (by decide) k') ?_
                show Go p e below s _ _ _ (T22.setTop (mkF m 143 #[.val (.ref ob), .val (.ref oc), .val (.ref oc)] []))
                refine Go.st (fun _ k' => XS.iconst X22.here hx rfl (hb hby d4_143) k') ?_
                show Go p e below s _ _ _ (T22.setTop (mkF m 144 #[.val (.ref ob), .val (.ref oc), .val (.ref oc)] [(.int (0 : Int32))]))
                refine Go.retB X22 hx hlk (t := .boolean) Bd.returns (by simp) (hb hby d4_144) (by decide) (by decide) e22 ?_
                exact ⟨(by simp [fst, nar, hc5, hc8, hc11, hc14, hc17, hc20, hc23]), N0, rfl⟩
            · refine Go.st (fun _ k' => XS.icmpYes X19.here hx rfl (pc0 := 79) (pc' := 143) rfl (hb hby d4_79) rfl (XT.ii_ne_t hc20) (by decide) (by decide) k') ?_
              show Go p e below s _ _ _ (T19.setTop (mkF m 143 #[.val (.ref ob), .val (.ref oc), .val (.ref oc)] []))
              refine Go.st (fun _ k' => XS.iconst X19.here hx rfl (hb hby d4_143) k') ?_
              show Go p e below s _ _ _ (T19.setTop (mkF m 144 #[.val (.ref ob), .val (.ref oc), .val (.ref oc)] [(.int (0 : Int32))]))
              refine Go.retB X19 hx hlk (t := .boolean) Bd.returns (by simp) (hb hby d4_144) (by decide) (by decide) e19 ?_
              exact ⟨(by simp [fst, nar, hc5, hc8, hc11, hc14, hc17, hc20]), N0, rfl⟩
          · refine Go.st (fun _ k' => XS.icmpYes X16.here hx rfl (pc0 := 68) (pc' := 143) rfl (hb hby d4_68) rfl (XT.ii_ne_t hc17) (by decide) (by decide) k') ?_
            show Go p e below s _ _ _ (T16.setTop (mkF m 143 #[.val (.ref ob), .val (.ref oc), .val (.ref oc)] []))
            refine Go.st (fun _ k' => XS.iconst X16.here hx rfl (hb hby d4_143) k') ?_
            show Go p e below s _ _ _ (T16.setTop (mkF m 144 #[.val (.ref ob), .val (.ref oc), .val (.ref oc)] [(.int (0 : Int32))]))
            refine Go.retB X16 hx hlk (t := .boolean) Bd.returns (by simp) (hb hby d4_144) (by decide) (by decide) e16 ?_
            exact ⟨(by simp [fst, nar, hc5, hc8, hc11, hc14, hc17]), N0, rfl⟩
        · refine Go.st (fun _ k' => XS.ifYes X13.here hx rfl (pc0 := 57) (pc' := 143) rfl (hb hby d4_57) rfl (XT.ll_ne_t hc14) (by decide) (by decide) k') ?_
          show Go p e below s _ _ _ (T13.setTop (mkF m 143 #[.val (.ref ob), .val (.ref oc), .val (.ref oc)] []))
          refine Go.st (fun _ k' => XS.iconst X13.here hx rfl (hb hby d4_143) k') ?_
          show Go p e below s _ _ _ (T13.setTop (mkF m 144 #[.val (.ref ob), .val (.ref oc), .val (.ref oc)] [(.int (0 : Int32))]))
          refine Go.retB X13 hx hlk (t := .boolean) Bd.returns (by simp) (hb hby d4_144) (by decide) (by decide) e13 ?_
          exact ⟨(by simp [fst, nar, hc5, hc8, hc11, hc14]), N0, rfl⟩
      · refine Go.st (fun _ k' => XS.ifYes X10.here hx rfl (pc0 := 45) (pc' := 143) rfl (hb hby d4_45) rfl (XT.ll_ne_t hc11) (by decide) (by decide) k') ?_
        show Go p e below s _ _ _ (T10.setTop (mkF m 143 #[.val (.ref ob), .val (.ref oc), .val (.ref oc)] []))
        refine Go.st (fun _ k' => XS.iconst X10.here hx rfl (hb hby d4_143) k') ?_
        show Go p e below s _ _ _ (T10.setTop (mkF m 144 #[.val (.ref ob), .val (.ref oc), .val (.ref oc)] [(.int (0 : Int32))]))
        refine Go.retB X10 hx hlk (t := .boolean) Bd.returns (by simp) (hb hby d4_144) (by decide) (by decide) e10 ?_
        exact ⟨(by simp [fst, nar, hc5, hc8, hc11]), N0, rfl⟩
    · refine Go.st (fun _ k' => XS.ifYes X7.here hx rfl (pc0 := 33) (pc' := 143) rfl (hb hby d4_33) rfl (XT.ll_ne_t hc8) (by decide) (by decide) k') ?_
      show Go p e below s _ _ _ (T7.setTop (mkF m 143 #[.val (.ref ob), .val (.ref oc), .val (.ref oc)] []))
      refine Go.st (fun _ k' => XS.iconst X7.here hx rfl (hb hby d4_143) k') ?_
      show Go p e below s _ _ _ (T7.setTop (mkF m 144 #[.val (.ref ob), .val (.ref oc), .val (.ref oc)] [(.int (0 : Int32))]))
      refine Go.retB X7 hx hlk (t := .boolean) Bd.returns (by simp) (hb hby d4_144) (by decide) (by decide) e7 ?_
      exact ⟨(by simp [fst, nar, hc5, hc8]), N0, rfl⟩
  · refine Go.st (fun _ k' => XS.ifYes X4.here hx rfl (pc0 := 21) (pc' := 143) rfl (hb hby d4_21) rfl (XT.ll_ne_t hc5) (by decide) (by decide) k') ?_
    show Go p e below s _ _ _ (T4.setTop (mkF m 143 #[.val (.ref ob), .val (.ref oc), .val (.ref oc)] []))
    refine Go.st (fun _ k' => XS.iconst X4.here hx rfl (hb hby d4_143) k') ?_
    show Go p e below s _ _ _ (T4.setTop (mkF m 144 #[.val (.ref ob), .val (.ref oc), .val (.ref oc)] [(.int (0 : Int32))]))
    refine Go.retB X4 hx hlk (t := .boolean) Bd.returns (by simp) (hb hby d4_144) (by decide) (by decide) e4 ?_
    exact ⟨(by simp [fst, nar, hc5]), N0, rfl⟩
theorem pd__JJJJIIIJIIJ_V : parseMethodDescriptor "(JJJJIIIJIIJ)V" = some ⟨[.long, .long, .long, .long, .int, .int, .int, .long, .int, .int, .long], none⟩ := by decide +kernel
theorem pd__Ljava_lang_Object__Z : parseMethodDescriptor "(Ljava/lang/Object;)Z" = some ⟨[(.object "java/lang/Object")], some .boolean⟩ := by decide +kernel
theorem pd__I_Ljava_lang_Integer_ : parseMethodDescriptor "(I)Ljava/lang/Integer;" = some ⟨[.int], some (.object "java/lang/Integer")⟩ := by decide +kernel
theorem pd__I_Z : parseMethodDescriptor "(I)Z" = some ⟨[.int], some .boolean⟩ := by decide +kernel
theorem ef_rm0 (m : MethodId) (ya : Int64) (yb : Int64) (yc : Int64) (dd : Int32) (sel : Int32) (dl : Int64) : entryFrame m #[(.long ya), (.long yb), (.long yc), (.int dd), (.int sel), (.long dl)] maxLocals = mkF m 0 #[.val (.long ya), .second, .val (.long yb), .second, .val (.long yc), .second, .val (.int dd), .val (.int sel), .val (.long dl), .second, .unset, .unset, .unset, .unset, .unset, .unset, .unset, .unset, .unset, .unset, .unset, .unset, .unset, .unset, .unset, .unset, .unset, .unset, .unset, .unset, .unset, .unset, .unset, .unset, .unset, .unset, .unset, .unset, .unset, .unset, .unset, .unset, .unset, .unset, .unset, .unset, .unset, .unset, .unset, .unset] [] := by first | (simp [entryFrame, mkF, argsToLocals, Value.category, maxLocals]; done) | rfl
def Q0 (Z : State) (ya : Int64) (yb : Int64) (yc : Int64) (dd : Int32) (sel : Int32) (dl : Int64) (ca : Addr) (cb : Cell) (h0 : Heap) (n0 : Nat) (v : Option Value) (h : Heap) (L : List Loc) : Prop := v = some (.int (1 : Int32)) ∧ Fr n0 L ∧ True
set_option maxRecDepth 65536 in
set_option maxHeartbeats 40000000 in
theorem rm0 (l : Launch) (Z : State) (a0 : Array Value) (hw : ∀ d ∈ tables_1, d.before a0 Z = true) (ws : List Jvm.Cond) (ya : Int64) (yb : Int64) (yc : Int64) (dd : Int32) (sel : Int32) (dl : Int64) (ca : Addr) (cb : Cell) (h0 : Heap) (n0 : Nat) (O0 : Old Z n0 h0) (S_hi : Sta Z Z.heap "java/lang/Integer$IntegerCache" "high" "I" (.int (127 : Int32))) (S_ca : Sta Z Z.heap "java/lang/Integer$IntegerCache" "cache" "[Ljava/lang/Integer;" (.ref ca)) (Bx : Bxw Z ca cb "java/lang/Integer") :
    MetFree l x (head1 (Jvm.Cond.code x code maxLocals ret :: ws) room_1) (fun ay U => ay = #[(.long ya), (.long yb), (.long yc), (.int dd), (.int sel), (.long dl)] ∧ Z.Warmed39 U.vm ∧ U.heap = h0) (fun _ _ _ _ _ => True) (fun _ U o U' => ∃ v L, o = .returned v ∧ Q0 Z ya yb yc dd sel dl ca cb h0 n0 v U'.heap L ∧ FrameEnd U o U' L room_1.cells room_1.slots) := by
  refine MetFree.of_bodySF (plainFor_of_name pn_com_example_exact_quorum_exactquorum_protocol_StatEqualsPinLaw) hisR ?_
  intro p e s m args below meth c s₁ Bd hml0 hP hK
  obtain ⟨rfl, hZ, hh⟩ := hP
  have hx := Bd.exec
  have hby := Bd.bytes
  have hlk : meth.locks = false := BodyLoose.notSynchronized Bd
  have hml : c.maxLocals = 50 := hml0
  have hown : s.vm.findClass "com/example/exact_quorum/exactquorum/protocol/StatEqualsPinLaw" = some m.cls := findClass_of_methodNamed Bd.named
  have hnm := (name_of_methodNamed Bd.named Bd.method).1
  have X0 : Stand p l e room_1 s m #[(.long ya), (.long yb), (.long yc), (.int dd), (.int sel), (.long dl)] below meth c s₁ [] 0 0 := Stand.of_body Bd
  have e0 : s₁.heap = h0 := by rw [← hh, Bd.state]; rfl
  have N0 := Fr.nil n0
  suffices hgo : Go p e below s 16 128 (Q0 Z ya yb yc dd sel dl ca cb h0 n0) (s₁.setTop (mkF m 0 #[.val (.long ya), .second, .val (.long yb), .second, .val (.long yc), .second, .val (.int dd), .val (.int sel), .val (.long dl), .second, .unset, .unset, .unset, .unset, .unset, .unset, .unset, .unset, .unset, .unset, .unset, .unset, .unset, .unset, .unset, .unset, .unset, .unset, .unset, .unset, .unset, .unset, .unset, .unset, .unset, .unset, .unset, .unset, .unset, .unset, .unset, .unset, .unset, .unset, .unset, .unset, .unset, .unset, .unset, .unset] [])) by
    obtain ⟨t, o, h1, h2⟩ := hgo; exact ⟨t, o, castTop (ef_rm0 m ya yb yc dd sel dl) h1, h2⟩
  show Go p e below s _ _ _ (s₁.setTop (mkF m 0 #[.val (.long ya), .second, .val (.long yb), .second, .val (.long yc), .second, .val (.int dd), .val (.int sel), .val (.long dl), .second, .unset, .unset, .unset, .unset, .unset, .unset, .unset, .unset, .unset, .unset, .unset, .unset, .unset, .unset, .unset, .unset, .unset, .unset, .unset, .unset, .unset, .unset, .unset, .unset, .unset, .unset, .unset, .unset, .unset, .unset, .unset, .unset, .unset, .unset, .unset, .unset, .unset, .unset, .unset, .unset] []))
  refine Go.st (fun _ k' => XS.lloadN X0.here hx rfl (hb hby at_0) rfl k') ?_
  show Go p e below s _ _ _ (s₁.setTop (mkF m 1 #[.val (.long ya), .second, .val (.long yb), .second, .val (.long yc), .second, .val (.int dd), .val (.int sel), .val (.long dl), .second, .unset, .unset, .unset, .unset, .unset, .unset, .unset, .unset, .unset, .unset, .unset, .unset, .unset, .unset, .unset, .unset, .unset, .unset, .unset, .unset, .unset, .unset, .unset, .unset, .unset, .unset, .unset, .unset, .unset, .unset, .unset, .unset, .unset, .unset, .unset, .unset, .unset, .unset, .unset, .unset] [(.long ya)]))
  refine Go.st (fun _ k' => XS.lstore X0.here hx rfl (hb hby at_1) rfl (l' := #[.val (.long ya), .second, .val (.long yb), .second, .val (.long yc), .second, .val (.int dd), .val (.int sel), .val (.long dl), .second, .val (.long ya), .second, .unset, .unset, .unset, .unset, .unset, .unset, .unset, .unset, .unset, .unset, .unset, .unset, .unset, .unset, .unset, .unset, .unset, .unset, .unset, .unset, .unset, .unset, .unset, .unset, .unset, .unset, .unset, .unset, .unset, .unset, .unset, .unset, .unset, .unset, .unset, .unset, .unset, .unset]) rfl k') ?_
  show Go p e below s _ _ _ (s₁.setTop (mkF m 3 #[.val (.long ya), .second, .val (.long yb), .second, .val (.long yc), .second, .val (.int dd), .val (.int sel), .val (.long dl), .second, .val (.long ya), .second, .unset, .unset, .unset, .unset, .unset, .unset, .unset, .unset, .unset, .unset, .unset, .unset, .unset, .unset, .unset, .unset, .unset, .unset, .unset, .unset, .unset, .unset, .unset, .unset, .unset, .unset, .unset, .unset, .unset, .unset, .unset, .unset, .unset, .unset, .unset, .unset, .unset, .unset] []))
  refine Go.st (fun _ k' => XS.lloadN X0.here hx rfl (hb hby at_3) rfl k') ?_
  show Go p e below s _ _ _ (s₁.setTop (mkF m 4 #[.val (.long ya), .second, .val (.long yb), .second, .val (.long yc), .second, .val (.int dd), .val (.int sel), .val (.long dl), .second, .val (.long ya), .second, .unset, .unset, .unset, .unset, .unset, .unset, .unset, .unset, .unset, .unset, .unset, .unset, .unset, .unset, .unset, .unset, .unset, .unset, .unset, .unset, .unset, .unset, .unset, .unset, .unset, .unset, .unset, .unset, .unset, .unset, .unset, .unset, .unset, .unset, .unset, .unset, .unset, .unset] [(.long yb)]))
  refine Go.st (fun _ k' => XS.lstore X0.here hx rfl (hb hby at_4) rfl (l' := #[.val (.long ya), .second, .val (.long yb), .second, .val (.long yc), .second, .val (.int dd), .val (.int sel), .val (.long dl), .second, .val (.long ya), .second, .val (.long yb), .second, .unset, .unset, .unset, .unset, .unset, .unset, .unset, .unset, .unset, .unset, .unset, .unset, .unset, .unset, .unset, .unset, .unset, .unset, .unset, .unset, .unset, .unset, .unset, .unset, .unset, .unset, .unset, .unset, .unset, .unset, .unset, .unset, .unset, .unset, .unset, .unset]) rfl k') ?_
  show Go p e below s _ _ _ (s₁.setTop (mkF m 6 #[.val (.long ya), .second, .val (.long yb), .second, .val (.long yc), .second, .val (.int dd), .val (.int sel), .val (.long dl), .second, .val (.long ya), .second, .val (.long yb), .second, .unset, .unset, .unset, .unset, .unset, .unset, .unset, .unset, .unset, .unset, .unset, .unset, .unset, .unset, .unset, .unset, .unset, .unset, .unset, .unset, .unset, .unset, .unset, .unset, .unset, .unset, .unset, .unset, .unset, .unset, .unset, .unset, .unset, .unset, .unset, .unset] []))
  refine Go.st (fun _ k' => XS.lload X0.here hx rfl (hb hby at_6) rfl k') ?_
  show Go p e below s _ _ _ (s₁.setTop (mkF m 8 #[.val (.long ya), .second, .val (.long yb), .second, .val (.long yc), .second, .val (.int dd), .val (.int sel), .val (.long dl), .second, .val (.long ya), .second, .val (.long yb), .second, .unset, .unset, .unset, .unset, .unset, .unset, .unset, .unset, .unset, .unset, .unset, .unset, .unset, .unset, .unset, .unset, .unset, .unset, .unset, .unset, .unset, .unset, .unset, .unset, .unset, .unset, .unset, .unset, .unset, .unset, .unset, .unset, .unset, .unset, .unset, .unset] [(.long yc)]))
  refine Go.st (fun _ k' => XS.lstore X0.here hx rfl (hb hby at_8) rfl (l' := #[.val (.long ya), .second, .val (.long yb), .second, .val (.long yc), .second, .val (.int dd), .val (.int sel), .val (.long dl), .second, .val (.long ya), .second, .val (.long yb), .second, .val (.long yc), .second, .unset, .unset, .unset, .unset, .unset, .unset, .unset, .unset, .unset, .unset, .unset, .unset, .unset, .unset, .unset, .unset, .unset, .unset, .unset, .unset, .unset, .unset, .unset, .unset, .unset, .unset, .unset, .unset, .unset, .unset, .unset, .unset, .unset, .unset]) rfl k') ?_
  show Go p e below s _ _ _ (s₁.setTop (mkF m 10 #[.val (.long ya), .second, .val (.long yb), .second, .val (.long yc), .second, .val (.int dd), .val (.int sel), .val (.long dl), .second, .val (.long ya), .second, .val (.long yb), .second, .val (.long yc), .second, .unset, .unset, .unset, .unset, .unset, .unset, .unset, .unset, .unset, .unset, .unset, .unset, .unset, .unset, .unset, .unset, .unset, .unset, .unset, .unset, .unset, .unset, .unset, .unset, .unset, .unset, .unset, .unset, .unset, .unset, .unset, .unset, .unset, .unset] []))
  refine Go.st (fun _ k' => XS.lloadN X0.here hx rfl (hb hby at_10) rfl k') ?_
  show Go p e below s _ _ _ (s₁.setTop (mkF m 11 #[.val (.long ya), .second, .val (.long yb), .second, .val (.long yc), .second, .val (.int dd), .val (.int sel), .val (.long dl), .second, .val (.long ya), .second, .val (.long yb), .second, .val (.long yc), .second, .unset, .unset, .unset, .unset, .unset, .unset, .unset, .unset, .unset, .unset, .unset, .unset, .unset, .unset, .unset, .unset, .unset, .unset, .unset, .unset, .unset, .unset, .unset, .unset, .unset, .unset, .unset, .unset, .unset, .unset, .unset, .unset, .unset, .unset] [(.long ya)]))
  refine Go.st (fun _ k' => XS.lloadN X0.here hx rfl (hb hby at_11) rfl k') ?_
  show Go p e below s _ _ _ (s₁.setTop (mkF m 12 #[.val (.long ya), .second, .val (.long yb), .second, .val (.long yc), .second, .val (.int dd), .val (.int sel), .val (.long dl), .second, .val (.long ya), .second, .val (.long yb), .second, .val (.long yc), .second, .unset, .unset, .unset, .unset, .unset, .unset, .unset, .unset, .unset, .unset, .unset, .unset, .unset, .unset, .unset, .unset, .unset, .unset, .unset, .unset, .unset, .unset, .unset, .unset, .unset, .unset, .unset, .unset, .unset, .unset, .unset, .unset, .unset, .unset] [(.long yb), (.long ya)]))
  refine Go.st (fun _ k' => XS.lxor X0.here hx rfl (hb hby at_12) rfl k') ?_
  show Go p e below s _ _ _ (s₁.setTop (mkF m 13 #[.val (.long ya), .second, .val (.long yb), .second, .val (.long yc), .second, .val (.int dd), .val (.int sel), .val (.long dl), .second, .val (.long ya), .second, .val (.long yb), .second, .val (.long yc), .second, .unset, .unset, .unset, .unset, .unset, .unset, .unset, .unset, .unset, .unset, .unset, .unset, .unset, .unset, .unset, .unset, .unset, .unset, .unset, .unset, .unset, .unset, .unset, .unset, .unset, .unset, .unset, .unset, .unset, .unset, .unset, .unset, .unset, .unset] [(.long (ya ^^^ yb))]))
  refine Go.st (fun _ k' => XS.lstore X0.here hx rfl (hb hby at_13) rfl (l' := #[.val (.long ya), .second, .val (.long yb), .second, .val (.long yc), .second, .val (.int dd), .val (.int sel), .val (.long dl), .second, .val (.long ya), .second, .val (.long yb), .second, .val (.long yc), .second, .val (.long (ya ^^^ yb)), .second, .unset, .unset, .unset, .unset, .unset, .unset, .unset, .unset, .unset, .unset, .unset, .unset, .unset, .unset, .unset, .unset, .unset, .unset, .unset, .unset, .unset, .unset, .unset, .unset, .unset, .unset, .unset, .unset, .unset, .unset, .unset, .unset]) rfl k') ?_
  show Go p e below s _ _ _ (s₁.setTop (mkF m 15 #[.val (.long ya), .second, .val (.long yb), .second, .val (.long yc), .second, .val (.int dd), .val (.int sel), .val (.long dl), .second, .val (.long ya), .second, .val (.long yb), .second, .val (.long yc), .second, .val (.long (ya ^^^ yb)), .second, .unset, .unset, .unset, .unset, .unset, .unset, .unset, .unset, .unset, .unset, .unset, .unset, .unset, .unset, .unset, .unset, .unset, .unset, .unset, .unset, .unset, .unset, .unset, .unset, .unset, .unset, .unset, .unset, .unset, .unset, .unset, .unset] []))
  refine Go.st (fun _ k' => XS.iload X0.here hx rfl (hb hby at_15) rfl k') ?_
  show Go p e below s _ _ _ (s₁.setTop (mkF m 17 #[.val (.long ya), .second, .val (.long yb), .second, .val (.long yc), .second, .val (.int dd), .val (.int sel), .val (.long dl), .second, .val (.long ya), .second, .val (.long yb), .second, .val (.long yc), .second, .val (.long (ya ^^^ yb)), .second, .unset, .unset, .unset, .unset, .unset, .unset, .unset, .unset, .unset, .unset, .unset, .unset, .unset, .unset, .unset, .unset, .unset, .unset, .unset, .unset, .unset, .unset, .unset, .unset, .unset, .unset, .unset, .unset, .unset, .unset, .unset, .unset] [(.int dd)]))
  refine Go.st (fun _ k' => XS.istore X0.here hx rfl (hb hby at_17) rfl (l' := #[.val (.long ya), .second, .val (.long yb), .second, .val (.long yc), .second, .val (.int dd), .val (.int sel), .val (.long dl), .second, .val (.long ya), .second, .val (.long yb), .second, .val (.long yc), .second, .val (.long (ya ^^^ yb)), .second, .val (.int dd), .unset, .unset, .unset, .unset, .unset, .unset, .unset, .unset, .unset, .unset, .unset, .unset, .unset, .unset, .unset, .unset, .unset, .unset, .unset, .unset, .unset, .unset, .unset, .unset, .unset, .unset, .unset, .unset, .unset, .unset, .unset]) rfl k') ?_
  show Go p e below s _ _ _ (s₁.setTop (mkF m 19 #[.val (.long ya), .second, .val (.long yb), .second, .val (.long yc), .second, .val (.int dd), .val (.int sel), .val (.long dl), .second, .val (.long ya), .second, .val (.long yb), .second, .val (.long yc), .second, .val (.long (ya ^^^ yb)), .second, .val (.int dd), .unset, .unset, .unset, .unset, .unset, .unset, .unset, .unset, .unset, .unset, .unset, .unset, .unset, .unset, .unset, .unset, .unset, .unset, .unset, .unset, .unset, .unset, .unset, .unset, .unset, .unset, .unset, .unset, .unset, .unset, .unset] []))
  refine Go.st (fun _ k' => XS.lloadN X0.here hx rfl (hb hby at_19) rfl k') ?_
  show Go p e below s _ _ _ (s₁.setTop (mkF m 20 #[.val (.long ya), .second, .val (.long yb), .second, .val (.long yc), .second, .val (.int dd), .val (.int sel), .val (.long dl), .second, .val (.long ya), .second, .val (.long yb), .second, .val (.long yc), .second, .val (.long (ya ^^^ yb)), .second, .val (.int dd), .unset, .unset, .unset, .unset, .unset, .unset, .unset, .unset, .unset, .unset, .unset, .unset, .unset, .unset, .unset, .unset, .unset, .unset, .unset, .unset, .unset, .unset, .unset, .unset, .unset, .unset, .unset, .unset, .unset, .unset, .unset] [(.long ya)]))
  refine Go.st (fun _ k' => XS.l2i X0.here hx rfl (hb hby at_20) rfl k') ?_
  show Go p e below s _ _ _ (s₁.setTop (mkF m 21 #[.val (.long ya), .second, .val (.long yb), .second, .val (.long yc), .second, .val (.int dd), .val (.int sel), .val (.long dl), .second, .val (.long ya), .second, .val (.long yb), .second, .val (.long yc), .second, .val (.long (ya ^^^ yb)), .second, .val (.int dd), .unset, .unset, .unset, .unset, .unset, .unset, .unset, .unset, .unset, .unset, .unset, .unset, .unset, .unset, .unset, .unset, .unset, .unset, .unset, .unset, .unset, .unset, .unset, .unset, .unset, .unset, .unset, .unset, .unset, .unset, .unset] [(.int (ya.toInt32))]))
  refine Go.st (fun _ k' => XS.istore X0.here hx rfl (hb hby at_21) rfl (l' := #[.val (.long ya), .second, .val (.long yb), .second, .val (.long yc), .second, .val (.int dd), .val (.int sel), .val (.long dl), .second, .val (.long ya), .second, .val (.long yb), .second, .val (.long yc), .second, .val (.long (ya ^^^ yb)), .second, .val (.int dd), .val (.int (ya.toInt32)), .unset, .unset, .unset, .unset, .unset, .unset, .unset, .unset, .unset, .unset, .unset, .unset, .unset, .unset, .unset, .unset, .unset, .unset, .unset, .unset, .unset, .unset, .unset, .unset, .unset, .unset, .unset, .unset, .unset, .unset]) rfl k') ?_
  show Go p e below s _ _ _ (s₁.setTop (mkF m 23 #[.val (.long ya), .second, .val (.long yb), .second, .val (.long yc), .second, .val (.int dd), .val (.int sel), .val (.long dl), .second, .val (.long ya), .second, .val (.long yb), .second, .val (.long yc), .second, .val (.long (ya ^^^ yb)), .second, .val (.int dd), .val (.int (ya.toInt32)), .unset, .unset, .unset, .unset, .unset, .unset, .unset, .unset, .unset, .unset, .unset, .unset, .unset, .unset, .unset, .unset, .unset, .unset, .unset, .unset, .unset, .unset, .unset, .unset, .unset, .unset, .unset, .unset, .unset, .unset] []))
  refine Go.st (fun _ k' => XS.lloadN X0.here hx rfl (hb hby at_23) rfl k') ?_
  show Go p e below s _ _ _ (s₁.setTop (mkF m 24 #[.val (.long ya), .second, .val (.long yb), .second, .val (.long yc), .second, .val (.int dd), .val (.int sel), .val (.long dl), .second, .val (.long ya), .second, .val (.long yb), .second, .val (.long yc), .second, .val (.long (ya ^^^ yb)), .second, .val (.int dd), .val (.int (ya.toInt32)), .unset, .unset, .unset, .unset, .unset, .unset, .unset, .unset, .unset, .unset, .unset, .unset, .unset, .unset, .unset, .unset, .unset, .unset, .unset, .unset, .unset, .unset, .unset, .unset, .unset, .unset, .unset, .unset, .unset, .unset] [(.long yb)]))
  refine Go.st (fun _ k' => XS.bipush X0.here hx rfl (hb hby at_24) k') ?_
  show Go p e below s _ _ _ (s₁.setTop (mkF m 26 #[.val (.long ya), .second, .val (.long yb), .second, .val (.long yc), .second, .val (.int dd), .val (.int sel), .val (.long dl), .second, .val (.long ya), .second, .val (.long yb), .second, .val (.long yc), .second, .val (.long (ya ^^^ yb)), .second, .val (.int dd), .val (.int (ya.toInt32)), .unset, .unset, .unset, .unset, .unset, .unset, .unset, .unset, .unset, .unset, .unset, .unset, .unset, .unset, .unset, .unset, .unset, .unset, .unset, .unset, .unset, .unset, .unset, .unset, .unset, .unset, .unset, .unset, .unset, .unset] [(.int (32 : Int32)), (.long yb)]))
  refine Go.st (fun _ k' => XS.lushr X0.here hx rfl (hb hby at_26) rfl k') ?_
  show Go p e below s _ _ _ (s₁.setTop (mkF m 27 #[.val (.long ya), .second, .val (.long yb), .second, .val (.long yc), .second, .val (.int dd), .val (.int sel), .val (.long dl), .second, .val (.long ya), .second, .val (.long yb), .second, .val (.long yc), .second, .val (.long (ya ^^^ yb)), .second, .val (.int dd), .val (.int (ya.toInt32)), .unset, .unset, .unset, .unset, .unset, .unset, .unset, .unset, .unset, .unset, .unset, .unset, .unset, .unset, .unset, .unset, .unset, .unset, .unset, .unset, .unset, .unset, .unset, .unset, .unset, .unset, .unset, .unset, .unset, .unset] [(.long ((yb.toUInt64 >>> ((32 : Int32) &&& 0x3f).toInt64.toUInt64).toInt64))]))
  refine Go.st (fun _ k' => XS.l2i X0.here hx rfl (hb hby at_27) rfl k') ?_
  show Go p e below s _ _ _ (s₁.setTop (mkF m 28 #[.val (.long ya), .second, .val (.long yb), .second, .val (.long yc), .second, .val (.int dd), .val (.int sel), .val (.long dl), .second, .val (.long ya), .second, .val (.long yb), .second, .val (.long yc), .second, .val (.long (ya ^^^ yb)), .second, .val (.int dd), .val (.int (ya.toInt32)), .unset, .unset, .unset, .unset, .unset, .unset, .unset, .unset, .unset, .unset, .unset, .unset, .unset, .unset, .unset, .unset, .unset, .unset, .unset, .unset, .unset, .unset, .unset, .unset, .unset, .unset, .unset, .unset, .unset, .unset] [(.int (((yb.toUInt64 >>> ((32 : Int32) &&& 0x3f).toInt64.toUInt64).toInt64).toInt32))]))
  refine Go.st (fun _ k' => XS.istore X0.here hx rfl (hb hby at_28) rfl (l' := #[.val (.long ya), .second, .val (.long yb), .second, .val (.long yc), .second, .val (.int dd), .val (.int sel), .val (.long dl), .second, .val (.long ya), .second, .val (.long yb), .second, .val (.long yc), .second, .val (.long (ya ^^^ yb)), .second, .val (.int dd), .val (.int (ya.toInt32)), .val (.int (((yb.toUInt64 >>> ((32 : Int32) &&& 0x3f).toInt64.toUInt64).toInt64).toInt32)), .unset, .unset, .unset, .unset, .unset, .unset, .unset, .unset, .unset, .unset, .unset, .unset, .unset, .unset, .unset, .unset, .unset, .unset, .unset, .unset, .unset, .unset, .unset, .unset, .unset, .unset, .unset, .unset, .unset]) rfl k') ?_
  show Go p e below s _ _ _ (s₁.setTop (mkF m 30 #[.val (.long ya), .second, .val (.long yb), .second, .val (.long yc), .second, .val (.int dd), .val (.int sel), .val (.long dl), .second, .val (.long ya), .second, .val (.long yb), .second, .val (.long yc), .second, .val (.long (ya ^^^ yb)), .second, .val (.int dd), .val (.int (ya.toInt32)), .val (.int (((yb.toUInt64 >>> ((32 : Int32) &&& 0x3f).toInt64.toUInt64).toInt64).toInt32)), .unset, .unset, .unset, .unset, .unset, .unset, .unset, .unset, .unset, .unset, .unset, .unset, .unset, .unset, .unset, .unset, .unset, .unset, .unset, .unset, .unset, .unset, .unset, .unset, .unset, .unset, .unset, .unset, .unset] []))
  refine Go.st (fun _ k' => XS.lloadN X0.here hx rfl (hb hby at_30) rfl k') ?_
  show Go p e below s _ _ _ (s₁.setTop (mkF m 31 #[.val (.long ya), .second, .val (.long yb), .second, .val (.long yc), .second, .val (.int dd), .val (.int sel), .val (.long dl), .second, .val (.long ya), .second, .val (.long yb), .second, .val (.long yc), .second, .val (.long (ya ^^^ yb)), .second, .val (.int dd), .val (.int (ya.toInt32)), .val (.int (((yb.toUInt64 >>> ((32 : Int32) &&& 0x3f).toInt64.toUInt64).toInt64).toInt32)), .unset, .unset, .unset, .unset, .unset, .unset, .unset, .unset, .unset, .unset, .unset, .unset, .unset, .unset, .unset, .unset, .unset, .unset, .unset, .unset, .unset, .unset, .unset, .unset, .unset, .unset, .unset, .unset, .unset] [(.long yb)]))
  refine Go.st (fun _ k' => XS.lload X0.here hx rfl (hb hby at_31) rfl k') ?_
  show Go p e below s _ _ _ (s₁.setTop (mkF m 33 #[.val (.long ya), .second, .val (.long yb), .second, .val (.long yc), .second, .val (.int dd), .val (.int sel), .val (.long dl), .second, .val (.long ya), .second, .val (.long yb), .second, .val (.long yc), .second, .val (.long (ya ^^^ yb)), .second, .val (.int dd), .val (.int (ya.toInt32)), .val (.int (((yb.toUInt64 >>> ((32 : Int32) &&& 0x3f).toInt64.toUInt64).toInt64).toInt32)), .unset, .unset, .unset, .unset, .unset, .unset, .unset, .unset, .unset, .unset, .unset, .unset, .unset, .unset, .unset, .unset, .unset, .unset, .unset, .unset, .unset, .unset, .unset, .unset, .unset, .unset, .unset, .unset, .unset] [(.long yc), (.long yb)]))
  refine Go.st (fun _ k' => XS.lsub X0.here hx rfl (hb hby at_33) rfl k') ?_
  show Go p e below s _ _ _ (s₁.setTop (mkF m 34 #[.val (.long ya), .second, .val (.long yb), .second, .val (.long yc), .second, .val (.int dd), .val (.int sel), .val (.long dl), .second, .val (.long ya), .second, .val (.long yb), .second, .val (.long yc), .second, .val (.long (ya ^^^ yb)), .second, .val (.int dd), .val (.int (ya.toInt32)), .val (.int (((yb.toUInt64 >>> ((32 : Int32) &&& 0x3f).toInt64.toUInt64).toInt64).toInt32)), .unset, .unset, .unset, .unset, .unset, .unset, .unset, .unset, .unset, .unset, .unset, .unset, .unset, .unset, .unset, .unset, .unset, .unset, .unset, .unset, .unset, .unset, .unset, .unset, .unset, .unset, .unset, .unset, .unset] [(.long (yb - yc))]))
  refine Go.st (fun _ k' => XS.lstore X0.here hx rfl (hb hby at_34) rfl (l' := #[.val (.long ya), .second, .val (.long yb), .second, .val (.long yc), .second, .val (.int dd), .val (.int sel), .val (.long dl), .second, .val (.long ya), .second, .val (.long yb), .second, .val (.long yc), .second, .val (.long (ya ^^^ yb)), .second, .val (.int dd), .val (.int (ya.toInt32)), .val (.int (((yb.toUInt64 >>> ((32 : Int32) &&& 0x3f).toInt64.toUInt64).toInt64).toInt32)), .val (.long (yb - yc)), .second, .unset, .unset, .unset, .unset, .unset, .unset, .unset, .unset, .unset, .unset, .unset, .unset, .unset, .unset, .unset, .unset, .unset, .unset, .unset, .unset, .unset, .unset, .unset, .unset, .unset, .unset, .unset]) rfl k') ?_
  show Go p e below s _ _ _ (s₁.setTop (mkF m 36 #[.val (.long ya), .second, .val (.long yb), .second, .val (.long yc), .second, .val (.int dd), .val (.int sel), .val (.long dl), .second, .val (.long ya), .second, .val (.long yb), .second, .val (.long yc), .second, .val (.long (ya ^^^ yb)), .second, .val (.int dd), .val (.int (ya.toInt32)), .val (.int (((yb.toUInt64 >>> ((32 : Int32) &&& 0x3f).toInt64.toUInt64).toInt64).toInt32)), .val (.long (yb - yc)), .second, .unset, .unset, .unset, .unset, .unset, .unset, .unset, .unset, .unset, .unset, .unset, .unset, .unset, .unset, .unset, .unset, .unset, .unset, .unset, .unset, .unset, .unset, .unset, .unset, .unset, .unset, .unset] []))
  refine Go.st (fun _ k' => XS.iload X0.here hx rfl (hb hby at_36) rfl k') ?_
  show Go p e below s _ _ _ (s₁.setTop (mkF m 38 #[.val (.long ya), .second, .val (.long yb), .second, .val (.long yc), .second, .val (.int dd), .val (.int sel), .val (.long dl), .second, .val (.long ya), .second, .val (.long yb), .second, .val (.long yc), .second, .val (.long (ya ^^^ yb)), .second, .val (.int dd), .val (.int (ya.toInt32)), .val (.int (((yb.toUInt64 >>> ((32 : Int32) &&& 0x3f).toInt64.toUInt64).toInt64).toInt32)), .val (.long (yb - yc)), .second, .unset, .unset, .unset, .unset, .unset, .unset, .unset, .unset, .unset, .unset, .unset, .unset, .unset, .unset, .unset, .unset, .unset, .unset, .unset, .unset, .unset, .unset, .unset, .unset, .unset, .unset, .unset] [(.int dd)]))
  refine Go.st (fun _ k' => XS.lload X0.here hx rfl (hb hby at_38) rfl k') ?_
  show Go p e below s _ _ _ (s₁.setTop (mkF m 40 #[.val (.long ya), .second, .val (.long yb), .second, .val (.long yc), .second, .val (.int dd), .val (.int sel), .val (.long dl), .second, .val (.long ya), .second, .val (.long yb), .second, .val (.long yc), .second, .val (.long (ya ^^^ yb)), .second, .val (.int dd), .val (.int (ya.toInt32)), .val (.int (((yb.toUInt64 >>> ((32 : Int32) &&& 0x3f).toInt64.toUInt64).toInt64).toInt32)), .val (.long (yb - yc)), .second, .unset, .unset, .unset, .unset, .unset, .unset, .unset, .unset, .unset, .unset, .unset, .unset, .unset, .unset, .unset, .unset, .unset, .unset, .unset, .unset, .unset, .unset, .unset, .unset, .unset, .unset, .unset] [(.long yc), (.int dd)]))
  refine Go.st (fun _ k' => XS.l2i X0.here hx rfl (hb hby at_40) rfl k') ?_
  show Go p e below s _ _ _ (s₁.setTop (mkF m 41 #[.val (.long ya), .second, .val (.long yb), .second, .val (.long yc), .second, .val (.int dd), .val (.int sel), .val (.long dl), .second, .val (.long ya), .second, .val (.long yb), .second, .val (.long yc), .second, .val (.long (ya ^^^ yb)), .second, .val (.int dd), .val (.int (ya.toInt32)), .val (.int (((yb.toUInt64 >>> ((32 : Int32) &&& 0x3f).toInt64.toUInt64).toInt64).toInt32)), .val (.long (yb - yc)), .second, .unset, .unset, .unset, .unset, .unset, .unset, .unset, .unset, .unset, .unset, .unset, .unset, .unset, .unset, .unset, .unset, .unset, .unset, .unset, .unset, .unset, .unset, .unset, .unset, .unset, .unset, .unset] [(.int (yc.toInt32)), (.int dd)]))
  refine Go.st (fun _ k' => XS.ixor X0.here hx rfl (hb hby at_41) rfl k') ?_
  show Go p e below s _ _ _ (s₁.setTop (mkF m 42 #[.val (.long ya), .second, .val (.long yb), .second, .val (.long yc), .second, .val (.int dd), .val (.int sel), .val (.long dl), .second, .val (.long ya), .second, .val (.long yb), .second, .val (.long yc), .second, .val (.long (ya ^^^ yb)), .second, .val (.int dd), .val (.int (ya.toInt32)), .val (.int (((yb.toUInt64 >>> ((32 : Int32) &&& 0x3f).toInt64.toUInt64).toInt64).toInt32)), .val (.long (yb - yc)), .second, .unset, .unset, .unset, .unset, .unset, .unset, .unset, .unset, .unset, .unset, .unset, .unset, .unset, .unset, .unset, .unset, .unset, .unset, .unset, .unset, .unset, .unset, .unset, .unset, .unset, .unset, .unset] [(.int (dd ^^^ (yc.toInt32)))]))
  refine Go.st (fun _ k' => XS.istore X0.here hx rfl (hb hby at_42) rfl (l' := #[.val (.long ya), .second, .val (.long yb), .second, .val (.long yc), .second, .val (.int dd), .val (.int sel), .val (.long dl), .second, .val (.long ya), .second, .val (.long yb), .second, .val (.long yc), .second, .val (.long (ya ^^^ yb)), .second, .val (.int dd), .val (.int (ya.toInt32)), .val (.int (((yb.toUInt64 >>> ((32 : Int32) &&& 0x3f).toInt64.toUInt64).toInt64).toInt32)), .val (.long (yb - yc)), .second, .val (.int (dd ^^^ (yc.toInt32))), .unset, .unset, .unset, .unset, .unset, .unset, .unset, .unset, .unset, .unset, .unset, .unset, .unset, .unset, .unset, .unset, .unset, .unset, .unset, .unset, .unset, .unset, .unset, .unset, .unset, .unset]) rfl k') ?_
  show Go p e below s _ _ _ (s₁.setTop (mkF m 44 #[.val (.long ya), .second, .val (.long yb), .second, .val (.long yc), .second, .val (.int dd), .val (.int sel), .val (.long dl), .second, .val (.long ya), .second, .val (.long yb), .second, .val (.long yc), .second, .val (.long (ya ^^^ yb)), .second, .val (.int dd), .val (.int (ya.toInt32)), .val (.int (((yb.toUInt64 >>> ((32 : Int32) &&& 0x3f).toInt64.toUInt64).toInt64).toInt32)), .val (.long (yb - yc)), .second, .val (.int (dd ^^^ (yc.toInt32))), .unset, .unset, .unset, .unset, .unset, .unset, .unset, .unset, .unset, .unset, .unset, .unset, .unset, .unset, .unset, .unset, .unset, .unset, .unset, .unset, .unset, .unset, .unset, .unset, .unset, .unset] []))
  refine Go.st (fun _ k' => XS.lload X0.here hx rfl (hb hby at_44) rfl k') ?_
  show Go p e below s _ _ _ (s₁.setTop (mkF m 46 #[.val (.long ya), .second, .val (.long yb), .second, .val (.long yc), .second, .val (.int dd), .val (.int sel), .val (.long dl), .second, .val (.long ya), .second, .val (.long yb), .second, .val (.long yc), .second, .val (.long (ya ^^^ yb)), .second, .val (.int dd), .val (.int (ya.toInt32)), .val (.int (((yb.toUInt64 >>> ((32 : Int32) &&& 0x3f).toInt64.toUInt64).toInt64).toInt32)), .val (.long (yb - yc)), .second, .val (.int (dd ^^^ (yc.toInt32))), .unset, .unset, .unset, .unset, .unset, .unset, .unset, .unset, .unset, .unset, .unset, .unset, .unset, .unset, .unset, .unset, .unset, .unset, .unset, .unset, .unset, .unset, .unset, .unset, .unset, .unset] [(.long yc)]))
  refine Go.st (fun _ k' => XS.bipush X0.here hx rfl (hb hby at_46) k') ?_
  show Go p e below s _ _ _ (s₁.setTop (mkF m 48 #[.val (.long ya), .second, .val (.long yb), .second, .val (.long yc), .second, .val (.int dd), .val (.int sel), .val (.long dl), .second, .val (.long ya), .second, .val (.long yb), .second, .val (.long yc), .second, .val (.long (ya ^^^ yb)), .second, .val (.int dd), .val (.int (ya.toInt32)), .val (.int (((yb.toUInt64 >>> ((32 : Int32) &&& 0x3f).toInt64.toUInt64).toInt64).toInt32)), .val (.long (yb - yc)), .second, .val (.int (dd ^^^ (yc.toInt32))), .unset, .unset, .unset, .unset, .unset, .unset, .unset, .unset, .unset, .unset, .unset, .unset, .unset, .unset, .unset, .unset, .unset, .unset, .unset, .unset, .unset, .unset, .unset, .unset, .unset, .unset] [(.int (32 : Int32)), (.long yc)]))
  refine Go.st (fun _ k' => XS.lushr X0.here hx rfl (hb hby at_48) rfl k') ?_
  show Go p e below s _ _ _ (s₁.setTop (mkF m 49 #[.val (.long ya), .second, .val (.long yb), .second, .val (.long yc), .second, .val (.int dd), .val (.int sel), .val (.long dl), .second, .val (.long ya), .second, .val (.long yb), .second, .val (.long yc), .second, .val (.long (ya ^^^ yb)), .second, .val (.int dd), .val (.int (ya.toInt32)), .val (.int (((yb.toUInt64 >>> ((32 : Int32) &&& 0x3f).toInt64.toUInt64).toInt64).toInt32)), .val (.long (yb - yc)), .second, .val (.int (dd ^^^ (yc.toInt32))), .unset, .unset, .unset, .unset, .unset, .unset, .unset, .unset, .unset, .unset, .unset, .unset, .unset, .unset, .unset, .unset, .unset, .unset, .unset, .unset, .unset, .unset, .unset, .unset, .unset, .unset] [(.long ((yc.toUInt64 >>> ((32 : Int32) &&& 0x3f).toInt64.toUInt64).toInt64))]))
  refine Go.st (fun _ k' => XS.l2i X0.here hx rfl (hb hby at_49) rfl k') ?_
  show Go p e below s _ _ _ (s₁.setTop (mkF m 50 #[.val (.long ya), .second, .val (.long yb), .second, .val (.long yc), .second, .val (.int dd), .val (.int sel), .val (.long dl), .second, .val (.long ya), .second, .val (.long yb), .second, .val (.long yc), .second, .val (.long (ya ^^^ yb)), .second, .val (.int dd), .val (.int (ya.toInt32)), .val (.int (((yb.toUInt64 >>> ((32 : Int32) &&& 0x3f).toInt64.toUInt64).toInt64).toInt32)), .val (.long (yb - yc)), .second, .val (.int (dd ^^^ (yc.toInt32))), .unset, .unset, .unset, .unset, .unset, .unset, .unset, .unset, .unset, .unset, .unset, .unset, .unset, .unset, .unset, .unset, .unset, .unset, .unset, .unset, .unset, .unset, .unset, .unset, .unset, .unset] [(.int (((yc.toUInt64 >>> ((32 : Int32) &&& 0x3f).toInt64.toUInt64).toInt64).toInt32))]))
  refine Go.st (fun _ k' => XS.istore X0.here hx rfl (hb hby at_50) rfl (l' := #[.val (.long ya), .second, .val (.long yb), .second, .val (.long yc), .second, .val (.int dd), .val (.int sel), .val (.long dl), .second, .val (.long ya), .second, .val (.long yb), .second, .val (.long yc), .second, .val (.long (ya ^^^ yb)), .second, .val (.int dd), .val (.int (ya.toInt32)), .val (.int (((yb.toUInt64 >>> ((32 : Int32) &&& 0x3f).toInt64.toUInt64).toInt64).toInt32)), .val (.long (yb - yc)), .second, .val (.int (dd ^^^ (yc.toInt32))), .val (.int (((yc.toUInt64 >>> ((32 : Int32) &&& 0x3f).toInt64.toUInt64).toInt64).toInt32)), .unset, .unset, .unset, .unset, .unset, .unset, .unset, .unset, .unset, .unset, .unset, .unset, .unset, .unset, .unset, .unset, .unset, .unset, .unset, .unset, .unset, .unset, .unset, .unset, .unset]) rfl k') ?_
  show Go p e below s _ _ _ (s₁.setTop (mkF m 52 #[.val (.long ya), .second, .val (.long yb), .second, .val (.long yc), .second, .val (.int dd), .val (.int sel), .val (.long dl), .second, .val (.long ya), .second, .val (.long yb), .second, .val (.long yc), .second, .val (.long (ya ^^^ yb)), .second, .val (.int dd), .val (.int (ya.toInt32)), .val (.int (((yb.toUInt64 >>> ((32 : Int32) &&& 0x3f).toInt64.toUInt64).toInt64).toInt32)), .val (.long (yb - yc)), .second, .val (.int (dd ^^^ (yc.toInt32))), .val (.int (((yc.toUInt64 >>> ((32 : Int32) &&& 0x3f).toInt64.toUInt64).toInt64).toInt32)), .unset, .unset, .unset, .unset, .unset, .unset, .unset, .unset, .unset, .unset, .unset, .unset, .unset, .unset, .unset, .unset, .unset, .unset, .unset, .unset, .unset, .unset, .unset, .unset, .unset] []))
  refine Go.st (fun _ k' => XS.lloadN X0.here hx rfl (hb hby at_52) rfl k') ?_
  show Go p e below s _ _ _ (s₁.setTop (mkF m 53 #[.val (.long ya), .second, .val (.long yb), .second, .val (.long yc), .second, .val (.int dd), .val (.int sel), .val (.long dl), .second, .val (.long ya), .second, .val (.long yb), .second, .val (.long yc), .second, .val (.long (ya ^^^ yb)), .second, .val (.int dd), .val (.int (ya.toInt32)), .val (.int (((yb.toUInt64 >>> ((32 : Int32) &&& 0x3f).toInt64.toUInt64).toInt64).toInt32)), .val (.long (yb - yc)), .second, .val (.int (dd ^^^ (yc.toInt32))), .val (.int (((yc.toUInt64 >>> ((32 : Int32) &&& 0x3f).toInt64.toUInt64).toInt64).toInt32)), .unset, .unset, .unset, .unset, .unset, .unset, .unset, .unset, .unset, .unset, .unset, .unset, .unset, .unset, .unset, .unset, .unset, .unset, .unset, .unset, .unset, .unset, .unset, .unset, .unset] [(.long ya)]))
  refine Go.st (fun _ k' => XS.lload X0.here hx rfl (hb hby at_53) rfl k') ?_
  show Go p e below s _ _ _ (s₁.setTop (mkF m 55 #[.val (.long ya), .second, .val (.long yb), .second, .val (.long yc), .second, .val (.int dd), .val (.int sel), .val (.long dl), .second, .val (.long ya), .second, .val (.long yb), .second, .val (.long yc), .second, .val (.long (ya ^^^ yb)), .second, .val (.int dd), .val (.int (ya.toInt32)), .val (.int (((yb.toUInt64 >>> ((32 : Int32) &&& 0x3f).toInt64.toUInt64).toInt64).toInt32)), .val (.long (yb - yc)), .second, .val (.int (dd ^^^ (yc.toInt32))), .val (.int (((yc.toUInt64 >>> ((32 : Int32) &&& 0x3f).toInt64.toUInt64).toInt64).toInt32)), .unset, .unset, .unset, .unset, .unset, .unset, .unset, .unset, .unset, .unset, .unset, .unset, .unset, .unset, .unset, .unset, .unset, .unset, .unset, .unset, .unset, .unset, .unset, .unset, .unset] [(.long yc), (.long ya)]))
  refine Go.st (fun _ k' => XS.ladd X0.here hx rfl (hb hby at_55) rfl k') ?_
  show Go p e below s _ _ _ (s₁.setTop (mkF m 56 #[.val (.long ya), .second, .val (.long yb), .second, .val (.long yc), .second, .val (.int dd), .val (.int sel), .val (.long dl), .second, .val (.long ya), .second, .val (.long yb), .second, .val (.long yc), .second, .val (.long (ya ^^^ yb)), .second, .val (.int dd), .val (.int (ya.toInt32)), .val (.int (((yb.toUInt64 >>> ((32 : Int32) &&& 0x3f).toInt64.toUInt64).toInt64).toInt32)), .val (.long (yb - yc)), .second, .val (.int (dd ^^^ (yc.toInt32))), .val (.int (((yc.toUInt64 >>> ((32 : Int32) &&& 0x3f).toInt64.toUInt64).toInt64).toInt32)), .unset, .unset, .unset, .unset, .unset, .unset, .unset, .unset, .unset, .unset, .unset, .unset, .unset, .unset, .unset, .unset, .unset, .unset, .unset, .unset, .unset, .unset, .unset, .unset, .unset] [(.long (ya + yc))]))
  refine Go.st (fun _ k' => XS.lstore X0.here hx rfl (hb hby at_56) rfl (l' := #[.val (.long ya), .second, .val (.long yb), .second, .val (.long yc), .second, .val (.int dd), .val (.int sel), .val (.long dl), .second, .val (.long ya), .second, .val (.long yb), .second, .val (.long yc), .second, .val (.long (ya ^^^ yb)), .second, .val (.int dd), .val (.int (ya.toInt32)), .val (.int (((yb.toUInt64 >>> ((32 : Int32) &&& 0x3f).toInt64.toUInt64).toInt64).toInt32)), .val (.long (yb - yc)), .second, .val (.int (dd ^^^ (yc.toInt32))), .val (.int (((yc.toUInt64 >>> ((32 : Int32) &&& 0x3f).toInt64.toUInt64).toInt64).toInt32)), .val (.long (ya + yc)), .second, .unset, .unset, .unset, .unset, .unset, .unset, .unset, .unset, .unset, .unset, .unset, .unset, .unset, .unset, .unset, .unset, .unset, .unset, .unset, .unset, .unset, .unset, .unset]) rfl k') ?_
  show Go p e below s _ _ _ (s₁.setTop (mkF m 58 #[.val (.long ya), .second, .val (.long yb), .second, .val (.long yc), .second, .val (.int dd), .val (.int sel), .val (.long dl), .second, .val (.long ya), .second, .val (.long yb), .second, .val (.long yc), .second, .val (.long (ya ^^^ yb)), .second, .val (.int dd), .val (.int (ya.toInt32)), .val (.int (((yb.toUInt64 >>> ((32 : Int32) &&& 0x3f).toInt64.toUInt64).toInt64).toInt32)), .val (.long (yb - yc)), .second, .val (.int (dd ^^^ (yc.toInt32))), .val (.int (((yc.toUInt64 >>> ((32 : Int32) &&& 0x3f).toInt64.toUInt64).toInt64).toInt32)), .val (.long (ya + yc)), .second, .unset, .unset, .unset, .unset, .unset, .unset, .unset, .unset, .unset, .unset, .unset, .unset, .unset, .unset, .unset, .unset, .unset, .unset, .unset, .unset, .unset, .unset, .unset] []))
  obtain ⟨fd, hd_fd⟩ : ∃ z, z = (ya ^^^ yb) := ⟨_, rfl⟩
  rw [← hd_fd]
  obtain ⟨ff, hd_ff⟩ : ∃ z, z = (ya.toInt32) := ⟨_, rfl⟩
  rw [← hd_ff]
  obtain ⟨fg, hd_fg⟩ : ∃ z, z = (((yb.toUInt64 >>> ((32 : Int32) &&& 0x3f).toInt64.toUInt64).toInt64).toInt32) := ⟨_, rfl⟩
  rw [← hd_fg]
  obtain ⟨fh, hd_fh⟩ : ∃ z, z = (yb - yc) := ⟨_, rfl⟩
  rw [← hd_fh]
  obtain ⟨fi, hd_fi⟩ : ∃ z, z = (dd ^^^ (yc.toInt32)) := ⟨_, rfl⟩
  rw [← hd_fi]
  obtain ⟨fj, hd_fj⟩ : ∃ z, z = (((yc.toUInt64 >>> ((32 : Int32) &&& 0x3f).toInt64.toUInt64).toInt64).toInt32) := ⟨_, rfl⟩
  rw [← hd_fj]
  obtain ⟨fk, hd_fk⟩ : ∃ z, z = (ya + yc) := ⟨_, rfl⟩
  rw [← hd_fk]
  show Go p e below s _ _ _ (s₁.setTop (mkF m 58 #[.val (.long ya), .second, .val (.long yb), .second, .val (.long yc), .second, .val (.int dd), .val (.int sel), .val (.long dl), .second, .val (.long ya), .second, .val (.long yb), .second, .val (.long yc), .second, .val (.long fd), .second, .val (.int dd), .val (.int ff), .val (.int fg), .val (.long fh), .second, .val (.int fi), .val (.int fj), .val (.long fk), .second, .unset, .unset, .unset, .unset, .unset, .unset, .unset, .unset, .unset, .unset, .unset, .unset, .unset, .unset, .unset, .unset, .unset, .unset, .unset, .unset, .unset, .unset, .unset] []))
  obtain ⟨T1, h1, X1, e1, E1, A1, D1, -, st1⟩ := newO X0 hx hZ hown (wdx hw 0 rfl) (wdx hw 1 rfl) (wdx hw 2 rfl) e0 (g := (mkF m 58 #[.val (.long ya), .second, .val (.long yb), .second, .val (.long yc), .second, .val (.int dd), .val (.int sel), .val (.long dl), .second, .val (.long ya), .second, .val (.long yb), .second, .val (.long yc), .second, .val (.long fd), .second, .val (.int dd), .val (.int ff), .val (.int fg), .val (.long fh), .second, .val (.int fi), .val (.int fj), .val (.long fk), .second, .unset, .unset, .unset, .unset, .unset, .unset, .unset, .unset, .unset, .unset, .unset, .unset, .unset, .unset, .unset, .unset, .unset, .unset, .unset, .unset, .unset, .unset, .unset] [])) rfl (hb hby at_58) (by decide) (by decide)
  obtain ⟨b1, g1⟩ : ∃ z, z = h0.size := ⟨_, rfl⟩
  rw [← g1] at A1 D1 st1
  refine Go.st st1 ?_
  have g_b1 : n0 ≤ b1 := Nat.le_trans (own_le O0) (Nat.le_of_eq g1.symm)
  have O1 : Old Z n0 h1 := O0.ext E1
  have f2 : Fld Z h1 b1 "com/example/exact_quorum/exactquorum/protocol/Stat" "czxid" "J" (.long (0 : Int64)) := D1 (Or.inr (wdx hw 10 rfl)) (ty := .long) (by decide)
  have f3 : Fld Z h1 b1 "com/example/exact_quorum/exactquorum/protocol/Stat" "mzxid" "J" (.long (0 : Int64)) := D1 (Or.inr (wdx hw 12 rfl)) (ty := .long) (by decide)
  have f4 : Fld Z h1 b1 "com/example/exact_quorum/exactquorum/protocol/Stat" "ctime" "J" (.long (0 : Int64)) := D1 (Or.inr (wdx hw 14 rfl)) (ty := .long) (by decide)
  have f5 : Fld Z h1 b1 "com/example/exact_quorum/exactquorum/protocol/Stat" "mtime" "J" (.long (0 : Int64)) := D1 (Or.inr (wdx hw 16 rfl)) (ty := .long) (by decide)
  have f6 : Fld Z h1 b1 "com/example/exact_quorum/exactquorum/protocol/Stat" "version" "I" (.int (0 : Int32)) := D1 (Or.inr (wdx hw 18 rfl)) (ty := .int) (by decide)
  have f7 : Fld Z h1 b1 "com/example/exact_quorum/exactquorum/protocol/Stat" "cversion" "I" (.int (0 : Int32)) := D1 (Or.inr (wdx hw 20 rfl)) (ty := .int) (by decide)
  have f8 : Fld Z h1 b1 "com/example/exact_quorum/exactquorum/protocol/Stat" "aversion" "I" (.int (0 : Int32)) := D1 (Or.inr (wdx hw 22 rfl)) (ty := .int) (by decide)
  have f9 : Fld Z h1 b1 "com/example/exact_quorum/exactquorum/protocol/Stat" "ephemeralOwner" "J" (.long (0 : Int64)) := D1 (Or.inr (wdx hw 24 rfl)) (ty := .long) (by decide)
  have f10 : Fld Z h1 b1 "com/example/exact_quorum/exactquorum/protocol/Stat" "dataLength" "I" (.int (0 : Int32)) := D1 (Or.inr (wdx hw 26 rfl)) (ty := .int) (by decide)
  have f11 : Fld Z h1 b1 "com/example/exact_quorum/exactquorum/protocol/Stat" "numChildren" "I" (.int (0 : Int32)) := D1 (Or.inr (wdx hw 28 rfl)) (ty := .int) (by decide)
  have f12 : Fld Z h1 b1 "com/example/exact_quorum/exactquorum/protocol/Stat" "pzxid" "J" (.long (0 : Int64)) := D1 (Or.inr (wdx hw 30 rfl)) (ty := .long) (by decide)
  show Go p e below s _ _ _ (T1.setTop (mkF m 61 #[.val (.long ya), .second, .val (.long yb), .second, .val (.long yc), .second, .val (.int dd), .val (.int sel), .val (.long dl), .second, .val (.long ya), .second, .val (.long yb), .second, .val (.long yc), .second, .val (.long fd), .second, .val (.int dd), .val (.int ff), .val (.int fg), .val (.long fh), .second, .val (.int fi), .val (.int fj), .val (.long fk), .second, .unset, .unset, .unset, .unset, .unset, .unset, .unset, .unset, .unset, .unset, .unset, .unset, .unset, .unset, .unset, .unset, .unset, .unset, .unset, .unset, .unset, .unset, .unset] [(.ref b1)]))
  refine Go.st (fun _ k' => XS.dup X1.here hx rfl (hb hby at_61) rfl rfl k') ?_
  show Go p e below s _ _ _ (T1.setTop (mkF m 62 #[.val (.long ya), .second, .val (.long yb), .second, .val (.long yc), .second, .val (.int dd), .val (.int sel), .val (.long dl), .second, .val (.long ya), .second, .val (.long yb), .second, .val (.long yc), .second, .val (.long fd), .second, .val (.int dd), .val (.int ff), .val (.int fg), .val (.long fh), .second, .val (.int fi), .val (.int fj), .val (.long fk), .second, .unset, .unset, .unset, .unset, .unset, .unset, .unset, .unset, .unset, .unset, .unset, .unset, .unset, .unset, .unset, .unset, .unset, .unset, .unset, .unset, .unset, .unset, .unset] [(.ref b1), (.ref b1)]))
  refine Go.st (fun _ k' => XS.lload X1.here hx rfl (hb hby at_62) rfl k') ?_
  show Go p e below s _ _ _ (T1.setTop (mkF m 64 #[.val (.long ya), .second, .val (.long yb), .second, .val (.long yc), .second, .val (.int dd), .val (.int sel), .val (.long dl), .second, .val (.long ya), .second, .val (.long yb), .second, .val (.long yc), .second, .val (.long fd), .second, .val (.int dd), .val (.int ff), .val (.int fg), .val (.long fh), .second, .val (.int fi), .val (.int fj), .val (.long fk), .second, .unset, .unset, .unset, .unset, .unset, .unset, .unset, .unset, .unset, .unset, .unset, .unset, .unset, .unset, .unset, .unset, .unset, .unset, .unset, .unset, .unset, .unset, .unset] [(.long ya), (.ref b1), (.ref b1)]))
  refine Go.st (fun _ k' => XS.lload X1.here hx rfl (hb hby at_64) rfl k') ?_
  show Go p e below s _ _ _ (T1.setTop (mkF m 66 #[.val (.long ya), .second, .val (.long yb), .second, .val (.long yc), .second, .val (.int dd), .val (.int sel), .val (.long dl), .second, .val (.long ya), .second, .val (.long yb), .second, .val (.long yc), .second, .val (.long fd), .second, .val (.int dd), .val (.int ff), .val (.int fg), .val (.long fh), .second, .val (.int fi), .val (.int fj), .val (.long fk), .second, .unset, .unset, .unset, .unset, .unset, .unset, .unset, .unset, .unset, .unset, .unset, .unset, .unset, .unset, .unset, .unset, .unset, .unset, .unset, .unset, .unset, .unset, .unset] [(.long yb), (.long ya), (.ref b1), (.ref b1)]))
  refine Go.st (fun _ k' => XS.lload X1.here hx rfl (hb hby at_66) rfl k') ?_
  show Go p e below s _ _ _ (T1.setTop (mkF m 68 #[.val (.long ya), .second, .val (.long yb), .second, .val (.long yc), .second, .val (.int dd), .val (.int sel), .val (.long dl), .second, .val (.long ya), .second, .val (.long yb), .second, .val (.long yc), .second, .val (.long fd), .second, .val (.int dd), .val (.int ff), .val (.int fg), .val (.long fh), .second, .val (.int fi), .val (.int fj), .val (.long fk), .second, .unset, .unset, .unset, .unset, .unset, .unset, .unset, .unset, .unset, .unset, .unset, .unset, .unset, .unset, .unset, .unset, .unset, .unset, .unset, .unset, .unset, .unset, .unset] [(.long yc), (.long yb), (.long ya), (.ref b1), (.ref b1)]))
  refine Go.st (fun _ k' => XS.lload X1.here hx rfl (hb hby at_68) rfl k') ?_
  show Go p e below s _ _ _ (T1.setTop (mkF m 70 #[.val (.long ya), .second, .val (.long yb), .second, .val (.long yc), .second, .val (.int dd), .val (.int sel), .val (.long dl), .second, .val (.long ya), .second, .val (.long yb), .second, .val (.long yc), .second, .val (.long fd), .second, .val (.int dd), .val (.int ff), .val (.int fg), .val (.long fh), .second, .val (.int fi), .val (.int fj), .val (.long fk), .second, .unset, .unset, .unset, .unset, .unset, .unset, .unset, .unset, .unset, .unset, .unset, .unset, .unset, .unset, .unset, .unset, .unset, .unset, .unset, .unset, .unset, .unset, .unset] [(.long fd), (.long yc), (.long yb), (.long ya), (.ref b1), (.ref b1)]))
  refine Go.st (fun _ k' => XS.iload X1.here hx rfl (hb hby at_70) rfl k') ?_
  show Go p e below s _ _ _ (T1.setTop (mkF m 72 #[.val (.long ya), .second, .val (.long yb), .second, .val (.long yc), .second, .val (.int dd), .val (.int sel), .val (.long dl), .second, .val (.long ya), .second, .val (.long yb), .second, .val (.long yc), .second, .val (.long fd), .second, .val (.int dd), .val (.int ff), .val (.int fg), .val (.long fh), .second, .val (.int fi), .val (.int fj), .val (.long fk), .second, .unset, .unset, .unset, .unset, .unset, .unset, .unset, .unset, .unset, .unset, .unset, .unset, .unset, .unset, .unset, .unset, .unset, .unset, .unset, .unset, .unset, .unset, .unset] [(.int dd), (.long fd), (.long yc), (.long yb), (.long ya), (.ref b1), (.ref b1)]))
  refine Go.st (fun _ k' => XS.iload X1.here hx rfl (hb hby at_72) rfl k') ?_
  show Go p e below s _ _ _ (T1.setTop (mkF m 74 #[.val (.long ya), .second, .val (.long yb), .second, .val (.long yc), .second, .val (.int dd), .val (.int sel), .val (.long dl), .second, .val (.long ya), .second, .val (.long yb), .second, .val (.long yc), .second, .val (.long fd), .second, .val (.int dd), .val (.int ff), .val (.int fg), .val (.long fh), .second, .val (.int fi), .val (.int fj), .val (.long fk), .second, .unset, .unset, .unset, .unset, .unset, .unset, .unset, .unset, .unset, .unset, .unset, .unset, .unset, .unset, .unset, .unset, .unset, .unset, .unset, .unset, .unset, .unset, .unset] [(.int ff), (.int dd), (.long fd), (.long yc), (.long yb), (.long ya), (.ref b1), (.ref b1)]))
  refine Go.st (fun _ k' => XS.iload X1.here hx rfl (hb hby at_74) rfl k') ?_
  show Go p e below s _ _ _ (T1.setTop (mkF m 76 #[.val (.long ya), .second, .val (.long yb), .second, .val (.long yc), .second, .val (.int dd), .val (.int sel), .val (.long dl), .second, .val (.long ya), .second, .val (.long yb), .second, .val (.long yc), .second, .val (.long fd), .second, .val (.int dd), .val (.int ff), .val (.int fg), .val (.long fh), .second, .val (.int fi), .val (.int fj), .val (.long fk), .second, .unset, .unset, .unset, .unset, .unset, .unset, .unset, .unset, .unset, .unset, .unset, .unset, .unset, .unset, .unset, .unset, .unset, .unset, .unset, .unset, .unset, .unset, .unset] [(.int fg), (.int ff), (.int dd), (.long fd), (.long yc), (.long yb), (.long ya), (.ref b1), (.ref b1)]))
  refine Go.st (fun _ k' => XS.lload X1.here hx rfl (hb hby at_76) rfl k') ?_
  show Go p e below s _ _ _ (T1.setTop (mkF m 78 #[.val (.long ya), .second, .val (.long yb), .second, .val (.long yc), .second, .val (.int dd), .val (.int sel), .val (.long dl), .second, .val (.long ya), .second, .val (.long yb), .second, .val (.long yc), .second, .val (.long fd), .second, .val (.int dd), .val (.int ff), .val (.int fg), .val (.long fh), .second, .val (.int fi), .val (.int fj), .val (.long fk), .second, .unset, .unset, .unset, .unset, .unset, .unset, .unset, .unset, .unset, .unset, .unset, .unset, .unset, .unset, .unset, .unset, .unset, .unset, .unset, .unset, .unset, .unset, .unset] [(.long fh), (.int fg), (.int ff), (.int dd), (.long fd), (.long yc), (.long yb), (.long ya), (.ref b1), (.ref b1)]))
  refine Go.st (fun _ k' => XS.iload X1.here hx rfl (hb hby at_78) rfl k') ?_
  show Go p e below s _ _ _ (T1.setTop (mkF m 80 #[.val (.long ya), .second, .val (.long yb), .second, .val (.long yc), .second, .val (.int dd), .val (.int sel), .val (.long dl), .second, .val (.long ya), .second, .val (.long yb), .second, .val (.long yc), .second, .val (.long fd), .second, .val (.int dd), .val (.int ff), .val (.int fg), .val (.long fh), .second, .val (.int fi), .val (.int fj), .val (.long fk), .second, .unset, .unset, .unset, .unset, .unset, .unset, .unset, .unset, .unset, .unset, .unset, .unset, .unset, .unset, .unset, .unset, .unset, .unset, .unset, .unset, .unset, .unset, .unset] [(.int fi), (.long fh), (.int fg), (.int ff), (.int dd), (.long fd), (.long yc), (.long yb), (.long ya), (.ref b1), (.ref b1)]))
  refine Go.st (fun _ k' => XS.iload X1.here hx rfl (hb hby at_80) rfl k') ?_
  show Go p e below s _ _ _ (T1.setTop (mkF m 82 #[.val (.long ya), .second, .val (.long yb), .second, .val (.long yc), .second, .val (.int dd), .val (.int sel), .val (.long dl), .second, .val (.long ya), .second, .val (.long yb), .second, .val (.long yc), .second, .val (.long fd), .second, .val (.int dd), .val (.int ff), .val (.int fg), .val (.long fh), .second, .val (.int fi), .val (.int fj), .val (.long fk), .second, .unset, .unset, .unset, .unset, .unset, .unset, .unset, .unset, .unset, .unset, .unset, .unset, .unset, .unset, .unset, .unset, .unset, .unset, .unset, .unset, .unset, .unset, .unset] [(.int fj), (.int fi), (.long fh), (.int fg), (.int ff), (.int dd), (.long fd), (.long yc), (.long yb), (.long ya), (.ref b1), (.ref b1)]))
  refine Go.st (fun _ k' => XS.lload X1.here hx rfl (hb hby at_82) rfl k') ?_
  show Go p e below s _ _ _ (T1.setTop (mkF m 84 #[.val (.long ya), .second, .val (.long yb), .second, .val (.long yc), .second, .val (.int dd), .val (.int sel), .val (.long dl), .second, .val (.long ya), .second, .val (.long yb), .second, .val (.long yc), .second, .val (.long fd), .second, .val (.int dd), .val (.int ff), .val (.int fg), .val (.long fh), .second, .val (.int fi), .val (.int fj), .val (.long fk), .second, .unset, .unset, .unset, .unset, .unset, .unset, .unset, .unset, .unset, .unset, .unset, .unset, .unset, .unset, .unset, .unset, .unset, .unset, .unset, .unset, .unset, .unset, .unset] [(.long fk), (.int fj), (.int fi), (.long fh), (.int fg), (.int ff), (.int dd), (.long fd), (.long yc), (.long yb), (.long ya), (.ref b1), (.ref b1)]))
  obtain ⟨_, _, ⟨T13, L13, k13, n13⟩, -, X13, ⟨Lc13, hQ13, l13, y13, z13⟩, st13⟩ := X1.specialBack hx (y := (⟨"com/example/exact_quorum/exactquorum/protocol/Stat", "<init>", "(JJJJIIIJIIJ)V"⟩ : MethodName)) rfl hown (mvT hZ (wdx hw 3 rfl)) (mvT hZ (wdx hw 4 rfl)) (mvT hZ (wdx hw 5 rfl)) (by decide) (backOf (W := 1) (rm1 l Z a0 hw [] b1 ya yb yc fd dd ff fg fh fi fj fk h1 n0 O1 A1 f2 f3 f4 f5 f6 f7 f8 f9 f10 f11 f12 g_b1) hZ (wdx hw 5 rfl) (wdx hw 2 rfl) (by decide) (by decide)) (g := (mkF m 84 #[.val (.long ya), .second, .val (.long yb), .second, .val (.long yc), .second, .val (.int dd), .val (.int sel), .val (.long dl), .second, .val (.long ya), .second, .val (.long yb), .second, .val (.long yc), .second, .val (.long fd), .second, .val (.int dd), .val (.int ff), .val (.int fg), .val (.long fh), .second, .val (.int fi), .val (.int fj), .val (.long fk), .second, .unset, .unset, .unset, .unset, .unset, .unset, .unset, .unset, .unset, .unset, .unset, .unset, .unset, .unset, .unset, .unset, .unset, .unset, .unset, .unset, .unset, .unset, .unset] [(.long fk), (.int fj), (.int fi), (.long fh), (.int fg), (.int ff), (.int dd), (.long fd), (.long yc), (.long yb), (.long ya), (.ref b1), (.ref b1)])) rfl (by rw [hml]; rfl) (Steps.refl _) (a := b1) (argsL := [(.long ya), (.long yb), (.long yc), (.long fd), (.int dd), (.int ff), (.int fg), (.long fh), (.int fi), (.int fj), (.long fk)]) (rest := [(.ref b1)]) (lenOf pd__JJJJIIIJIIJ_V rfl) rfl (by show 2 * 0 + _ ≤ _; exact Nat.le_of_eq rfl) (hb hby at_84) (fun _ _ => ⟨rfl, e1, (by exact Nat.le_of_ble_eq_true rfl), (by exact Nat.le_of_ble_eq_true rfl)⟩)
  dsimp only [Pt.U, Pt.locs, Pt.cells, Pt.slots] at X13 l13 y13 z13 st13 hQ13
  subst l13 y13 z13
  obtain ⟨rfl, Nq13, Kq13, f14, f15, f16, f17, f18, f19, f20, f21, f22, f23, f24⟩ := hQ13
  have N13 := Fr.app N0 Nq13
  refine Go.tr st13 ?_
  have f25 : Exa Z T13.heap b1 "com/example/exact_quorum/exactquorum/protocol/Stat" := A1.keep Kq13
  have O13 : Old Z n0 T13.heap := O1.keep Kq13 (allS g_b1 all0)
  show Go p e below s _ _ _ (T13.setTop (mkF m 87 #[.val (.long ya), .second, .val (.long yb), .second, .val (.long yc), .second, .val (.int dd), .val (.int sel), .val (.long dl), .second, .val (.long ya), .second, .val (.long yb), .second, .val (.long yc), .second, .val (.long fd), .second, .val (.int dd), .val (.int ff), .val (.int fg), .val (.long fh), .second, .val (.int fi), .val (.int fj), .val (.long fk), .second, .unset, .unset, .unset, .unset, .unset, .unset, .unset, .unset, .unset, .unset, .unset, .unset, .unset, .unset, .unset, .unset, .unset, .unset, .unset, .unset, .unset, .unset, .unset] [(.ref b1)]))
  refine Go.st (fun _ k' => XS.astore X13.here hx rfl (hb hby at_87) rfl rfl (l' := #[.val (.long ya), .second, .val (.long yb), .second, .val (.long yc), .second, .val (.int dd), .val (.int sel), .val (.long dl), .second, .val (.long ya), .second, .val (.long yb), .second, .val (.long yc), .second, .val (.long fd), .second, .val (.int dd), .val (.int ff), .val (.int fg), .val (.long fh), .second, .val (.int fi), .val (.int fj), .val (.long fk), .second, .val (.ref b1), .unset, .unset, .unset, .unset, .unset, .unset, .unset, .unset, .unset, .unset, .unset, .unset, .unset, .unset, .unset, .unset, .unset, .unset, .unset, .unset, .unset, .unset]) rfl k') ?_
  show Go p e below s _ _ _ (T13.setTop (mkF m 89 #[.val (.long ya), .second, .val (.long yb), .second, .val (.long yc), .second, .val (.int dd), .val (.int sel), .val (.long dl), .second, .val (.long ya), .second, .val (.long yb), .second, .val (.long yc), .second, .val (.long fd), .second, .val (.int dd), .val (.int ff), .val (.int fg), .val (.long fh), .second, .val (.int fi), .val (.int fj), .val (.long fk), .second, .val (.ref b1), .unset, .unset, .unset, .unset, .unset, .unset, .unset, .unset, .unset, .unset, .unset, .unset, .unset, .unset, .unset, .unset, .unset, .unset, .unset, .unset, .unset, .unset] []))
  refine Go.st (fun _ k' => XS.iload X13.here hx rfl (hb hby at_89) rfl k') ?_
  show Go p e below s _ _ _ (T13.setTop (mkF m 91 #[.val (.long ya), .second, .val (.long yb), .second, .val (.long yc), .second, .val (.int dd), .val (.int sel), .val (.long dl), .second, .val (.long ya), .second, .val (.long yb), .second, .val (.long yc), .second, .val (.long fd), .second, .val (.int dd), .val (.int ff), .val (.int fg), .val (.long fh), .second, .val (.int fi), .val (.int fj), .val (.long fk), .second, .val (.ref b1), .unset, .unset, .unset, .unset, .unset, .unset, .unset, .unset, .unset, .unset, .unset, .unset, .unset, .unset, .unset, .unset, .unset, .unset, .unset, .unset, .unset, .unset] [(.int sel)]))
  refine Go.st (fun _ k' => XS.bipush X13.here hx rfl (hb hby at_91) k') ?_
  show Go p e below s _ _ _ (T13.setTop (mkF m 93 #[.val (.long ya), .second, .val (.long yb), .second, .val (.long yc), .second, .val (.int dd), .val (.int sel), .val (.long dl), .second, .val (.long ya), .second, .val (.long yb), .second, .val (.long yc), .second, .val (.long fd), .second, .val (.int dd), .val (.int ff), .val (.int fg), .val (.long fh), .second, .val (.int fi), .val (.int fj), .val (.long fk), .second, .val (.ref b1), .unset, .unset, .unset, .unset, .unset, .unset, .unset, .unset, .unset, .unset, .unset, .unset, .unset, .unset, .unset, .unset, .unset, .unset, .unset, .unset, .unset, .unset] [(.int (15 : Int32)), (.int sel)]))
  refine Go.st (fun _ k' => XS.iand X13.here hx rfl (hb hby at_93) rfl k') ?_
  show Go p e below s _ _ _ (T13.setTop (mkF m 94 #[.val (.long ya), .second, .val (.long yb), .second, .val (.long yc), .second, .val (.int dd), .val (.int sel), .val (.long dl), .second, .val (.long ya), .second, .val (.long yb), .second, .val (.long yc), .second, .val (.long fd), .second, .val (.int dd), .val (.int ff), .val (.int fg), .val (.long fh), .second, .val (.int fi), .val (.int fj), .val (.long fk), .second, .val (.ref b1), .unset, .unset, .unset, .unset, .unset, .unset, .unset, .unset, .unset, .unset, .unset, .unset, .unset, .unset, .unset, .unset, .unset, .unset, .unset, .unset, .unset, .unset] [(.int (sel &&& (15 : Int32)))]))
  refine Go.st (fun _ k' => XS.bipush X13.here hx rfl (hb hby at_94) k') ?_
  show Go p e below s _ _ _ (T13.setTop (mkF m 96 #[.val (.long ya), .second, .val (.long yb), .second, .val (.long yc), .second, .val (.int dd), .val (.int sel), .val (.long dl), .second, .val (.long ya), .second, .val (.long yb), .second, .val (.long yc), .second, .val (.long fd), .second, .val (.int dd), .val (.int ff), .val (.int fg), .val (.long fh), .second, .val (.int fi), .val (.int fj), .val (.long fk), .second, .val (.ref b1), .unset, .unset, .unset, .unset, .unset, .unset, .unset, .unset, .unset, .unset, .unset, .unset, .unset, .unset, .unset, .unset, .unset, .unset, .unset, .unset, .unset, .unset] [(.int (12 : Int32)), (.int (sel &&& (15 : Int32)))]))
  refine Go.st (fun _ k' => iremM X13 hx rfl (hb hby at_96) rfl (by decide) k') ?_
  show Go p e below s _ _ _ (T13.setTop (mkF m 97 #[.val (.long ya), .second, .val (.long yb), .second, .val (.long yc), .second, .val (.int dd), .val (.int sel), .val (.long dl), .second, .val (.long ya), .second, .val (.long yb), .second, .val (.long yc), .second, .val (.long fd), .second, .val (.int dd), .val (.int ff), .val (.int fg), .val (.long fh), .second, .val (.int fi), .val (.int fj), .val (.long fk), .second, .val (.ref b1), .unset, .unset, .unset, .unset, .unset, .unset, .unset, .unset, .unset, .unset, .unset, .unset, .unset, .unset, .unset, .unset, .unset, .unset, .unset, .unset, .unset, .unset] [(.int ((sel &&& (15 : Int32)) % (12 : Int32)))]))
  refine Go.st (fun _ k' => XS.istore X13.here hx rfl (hb hby at_97) rfl (l' := #[.val (.long ya), .second, .val (.long yb), .second, .val (.long yc), .second, .val (.int dd), .val (.int sel), .val (.long dl), .second, .val (.long ya), .second, .val (.long yb), .second, .val (.long yc), .second, .val (.long fd), .second, .val (.int dd), .val (.int ff), .val (.int fg), .val (.long fh), .second, .val (.int fi), .val (.int fj), .val (.long fk), .second, .val (.ref b1), .val (.int ((sel &&& (15 : Int32)) % (12 : Int32))), .unset, .unset, .unset, .unset, .unset, .unset, .unset, .unset, .unset, .unset, .unset, .unset, .unset, .unset, .unset, .unset, .unset, .unset, .unset, .unset, .unset]) rfl k') ?_
  show Go p e below s _ _ _ (T13.setTop (mkF m 99 #[.val (.long ya), .second, .val (.long yb), .second, .val (.long yc), .second, .val (.int dd), .val (.int sel), .val (.long dl), .second, .val (.long ya), .second, .val (.long yb), .second, .val (.long yc), .second, .val (.long fd), .second, .val (.int dd), .val (.int ff), .val (.int fg), .val (.long fh), .second, .val (.int fi), .val (.int fj), .val (.long fk), .second, .val (.ref b1), .val (.int ((sel &&& (15 : Int32)) % (12 : Int32))), .unset, .unset, .unset, .unset, .unset, .unset, .unset, .unset, .unset, .unset, .unset, .unset, .unset, .unset, .unset, .unset, .unset, .unset, .unset, .unset, .unset] []))
  obtain ⟨kk, hd_kk⟩ : ∃ z, z = ((sel &&& (15 : Int32)) % (12 : Int32)) := ⟨_, rfl⟩
  rw [← hd_kk]
  have bk := own_c12 sel
  rw [← hd_kk] at bk
  show Go p e below s _ _ _ (T13.setTop (mkF m 99 #[.val (.long ya), .second, .val (.long yb), .second, .val (.long yc), .second, .val (.int dd), .val (.int sel), .val (.long dl), .second, .val (.long ya), .second, .val (.long yb), .second, .val (.long yc), .second, .val (.long fd), .second, .val (.int dd), .val (.int ff), .val (.int fg), .val (.long fh), .second, .val (.int fi), .val (.int fj), .val (.long fk), .second, .val (.ref b1), .val (.int kk), .unset, .unset, .unset, .unset, .unset, .unset, .unset, .unset, .unset, .unset, .unset, .unset, .unset, .unset, .unset, .unset, .unset, .unset, .unset, .unset, .unset] []))
  refine Go.st (fun _ k' => XS.lload X13.here hx rfl (hb hby at_99) rfl k') ?_
  show Go p e below s _ _ _ (T13.setTop (mkF m 101 #[.val (.long ya), .second, .val (.long yb), .second, .val (.long yc), .second, .val (.int dd), .val (.int sel), .val (.long dl), .second, .val (.long ya), .second, .val (.long yb), .second, .val (.long yc), .second, .val (.long fd), .second, .val (.int dd), .val (.int ff), .val (.int fg), .val (.long fh), .second, .val (.int fi), .val (.int fj), .val (.long fk), .second, .val (.ref b1), .val (.int kk), .unset, .unset, .unset, .unset, .unset, .unset, .unset, .unset, .unset, .unset, .unset, .unset, .unset, .unset, .unset, .unset, .unset, .unset, .unset, .unset, .unset] [(.long dl)]))
  refine Go.st (fun _ k' => XS.l2i X13.here hx rfl (hb hby at_101) rfl k') ?_
  show Go p e below s _ _ _ (T13.setTop (mkF m 102 #[.val (.long ya), .second, .val (.long yb), .second, .val (.long yc), .second, .val (.int dd), .val (.int sel), .val (.long dl), .second, .val (.long ya), .second, .val (.long yb), .second, .val (.long yc), .second, .val (.long fd), .second, .val (.int dd), .val (.int ff), .val (.int fg), .val (.long fh), .second, .val (.int fi), .val (.int fj), .val (.long fk), .second, .val (.ref b1), .val (.int kk), .unset, .unset, .unset, .unset, .unset, .unset, .unset, .unset, .unset, .unset, .unset, .unset, .unset, .unset, .unset, .unset, .unset, .unset, .unset, .unset, .unset] [(.int (dl.toInt32))]))
  refine Go.st (fun _ k' => XS.istore X13.here hx rfl (hb hby at_102) rfl (l' := #[.val (.long ya), .second, .val (.long yb), .second, .val (.long yc), .second, .val (.int dd), .val (.int sel), .val (.long dl), .second, .val (.long ya), .second, .val (.long yb), .second, .val (.long yc), .second, .val (.long fd), .second, .val (.int dd), .val (.int ff), .val (.int fg), .val (.long fh), .second, .val (.int fi), .val (.int fj), .val (.long fk), .second, .val (.ref b1), .val (.int kk), .val (.int (dl.toInt32)), .unset, .unset, .unset, .unset, .unset, .unset, .unset, .unset, .unset, .unset, .unset, .unset, .unset, .unset, .unset, .unset, .unset, .unset, .unset, .unset]) rfl k') ?_
  show Go p e below s _ _ _ (T13.setTop (mkF m 104 #[.val (.long ya), .second, .val (.long yb), .second, .val (.long yc), .second, .val (.int dd), .val (.int sel), .val (.long dl), .second, .val (.long ya), .second, .val (.long yb), .second, .val (.long yc), .second, .val (.long fd), .second, .val (.int dd), .val (.int ff), .val (.int fg), .val (.long fh), .second, .val (.int fi), .val (.int fj), .val (.long fk), .second, .val (.ref b1), .val (.int kk), .val (.int (dl.toInt32)), .unset, .unset, .unset, .unset, .unset, .unset, .unset, .unset, .unset, .unset, .unset, .unset, .unset, .unset, .unset, .unset, .unset, .unset, .unset, .unset] []))
  obtain ⟨di, hd_di⟩ : ∃ z, z = (dl.toInt32) := ⟨_, rfl⟩
  rw [← hd_di]
  show Go p e below s _ _ _ (T13.setTop (mkF m 104 #[.val (.long ya), .second, .val (.long yb), .second, .val (.long yc), .second, .val (.int dd), .val (.int sel), .val (.long dl), .second, .val (.long ya), .second, .val (.long yb), .second, .val (.long yc), .second, .val (.long fd), .second, .val (.int dd), .val (.int ff), .val (.int fg), .val (.long fh), .second, .val (.int fi), .val (.int fj), .val (.long fk), .second, .val (.ref b1), .val (.int kk), .val (.int di), .unset, .unset, .unset, .unset, .unset, .unset, .unset, .unset, .unset, .unset, .unset, .unset, .unset, .unset, .unset, .unset, .unset, .unset, .unset, .unset] []))
  have J26 : ∀ (ga : Int64) (r_ga : ga = if kk = (0 : Int32) then (ya + dl) else ya), Go p e below s 16 128 (Q0 Z ya yb yc dd sel dl ca cb h0 n0) (T13.setTop (mkF m 119 #[.val (.long ya), .second, .val (.long yb), .second, .val (.long yc), .second, .val (.int dd), .val (.int sel), .val (.long dl), .second, .val (.long ya), .second, .val (.long yb), .second, .val (.long yc), .second, .val (.long fd), .second, .val (.int dd), .val (.int ff), .val (.int fg), .val (.long fh), .second, .val (.int fi), .val (.int fj), .val (.long fk), .second, .val (.ref b1), .val (.int kk), .val (.int di), .unset, .unset, .unset, .unset, .unset, .unset, .unset, .unset, .unset, .unset, .unset, .unset, .unset, .unset, .unset, .unset, .unset, .unset, .unset, .unset] [(.long ga)])) := by
    intro ga r_ga
    show Go p e below s _ _ _ (T13.setTop (mkF m 119 #[.val (.long ya), .second, .val (.long yb), .second, .val (.long yc), .second, .val (.int dd), .val (.int sel), .val (.long dl), .second, .val (.long ya), .second, .val (.long yb), .second, .val (.long yc), .second, .val (.long fd), .second, .val (.int dd), .val (.int ff), .val (.int fg), .val (.long fh), .second, .val (.int fi), .val (.int fj), .val (.long fk), .second, .val (.ref b1), .val (.int kk), .val (.int di), .unset, .unset, .unset, .unset, .unset, .unset, .unset, .unset, .unset, .unset, .unset, .unset, .unset, .unset, .unset, .unset, .unset, .unset, .unset, .unset] [(.long ga)]))
    refine Go.st (fun _ k' => XS.lstore X13.here hx rfl (hb hby at_119) rfl (l' := #[.val (.long ya), .second, .val (.long yb), .second, .val (.long yc), .second, .val (.int dd), .val (.int sel), .val (.long dl), .second, .val (.long ya), .second, .val (.long yb), .second, .val (.long yc), .second, .val (.long fd), .second, .val (.int dd), .val (.int ff), .val (.int fg), .val (.long fh), .second, .val (.int fi), .val (.int fj), .val (.long fk), .second, .val (.ref b1), .val (.int kk), .val (.int di), .val (.long ga), .second, .unset, .unset, .unset, .unset, .unset, .unset, .unset, .unset, .unset, .unset, .unset, .unset, .unset, .unset, .unset, .unset, .unset, .unset]) rfl k') ?_
    show Go p e below s _ _ _ (T13.setTop (mkF m 121 #[.val (.long ya), .second, .val (.long yb), .second, .val (.long yc), .second, .val (.int dd), .val (.int sel), .val (.long dl), .second, .val (.long ya), .second, .val (.long yb), .second, .val (.long yc), .second, .val (.long fd), .second, .val (.int dd), .val (.int ff), .val (.int fg), .val (.long fh), .second, .val (.int fi), .val (.int fj), .val (.long fk), .second, .val (.ref b1), .val (.int kk), .val (.int di), .val (.long ga), .second, .unset, .unset, .unset, .unset, .unset, .unset, .unset, .unset, .unset, .unset, .unset, .unset, .unset, .unset, .unset, .unset, .unset, .unset] []))
    have J27 : ∀ (gb : Int64) (r_gb : gb = if kk = (1 : Int32) then (yb + dl) else yb), Go p e below s 16 128 (Q0 Z ya yb yc dd sel dl ca cb h0 n0) (T13.setTop (mkF m 137 #[.val (.long ya), .second, .val (.long yb), .second, .val (.long yc), .second, .val (.int dd), .val (.int sel), .val (.long dl), .second, .val (.long ya), .second, .val (.long yb), .second, .val (.long yc), .second, .val (.long fd), .second, .val (.int dd), .val (.int ff), .val (.int fg), .val (.long fh), .second, .val (.int fi), .val (.int fj), .val (.long fk), .second, .val (.ref b1), .val (.int kk), .val (.int di), .val (.long ga), .second, .unset, .unset, .unset, .unset, .unset, .unset, .unset, .unset, .unset, .unset, .unset, .unset, .unset, .unset, .unset, .unset, .unset, .unset] [(.long gb)])) := by
      intro gb r_gb
      show Go p e below s _ _ _ (T13.setTop (mkF m 137 #[.val (.long ya), .second, .val (.long yb), .second, .val (.long yc), .second, .val (.int dd), .val (.int sel), .val (.long dl), .second, .val (.long ya), .second, .val (.long yb), .second, .val (.long yc), .second, .val (.long fd), .second, .val (.int dd), .val (.int ff), .val (.int fg), .val (.long fh), .second, .val (.int fi), .val (.int fj), .val (.long fk), .second, .val (.ref b1), .val (.int kk), .val (.int di), .val (.long ga), .second, .unset, .unset, .unset, .unset, .unset, .unset, .unset, .unset, .unset, .unset, .unset, .unset, .unset, .unset, .unset, .unset, .unset, .unset] [(.long gb)]))
      refine Go.st (fun _ k' => XS.lstore X13.here hx rfl (hb hby at_137) rfl (l' := #[.val (.long ya), .second, .val (.long yb), .second, .val (.long yc), .second, .val (.int dd), .val (.int sel), .val (.long dl), .second, .val (.long ya), .second, .val (.long yb), .second, .val (.long yc), .second, .val (.long fd), .second, .val (.int dd), .val (.int ff), .val (.int fg), .val (.long fh), .second, .val (.int fi), .val (.int fj), .val (.long fk), .second, .val (.ref b1), .val (.int kk), .val (.int di), .val (.long ga), .second, .val (.long gb), .second, .unset, .unset, .unset, .unset, .unset, .unset, .unset, .unset, .unset, .unset, .unset, .unset, .unset, .unset, .unset, .unset]) rfl k') ?_
      show Go p e below s _ _ _ (T13.setTop (mkF m 139 #[.val (.long ya), .second, .val (.long yb), .second, .val (.long yc), .second, .val (.int dd), .val (.int sel), .val (.long dl), .second, .val (.long ya), .second, .val (.long yb), .second, .val (.long yc), .second, .val (.long fd), .second, .val (.int dd), .val (.int ff), .val (.int fg), .val (.long fh), .second, .val (.int fi), .val (.int fj), .val (.long fk), .second, .val (.ref b1), .val (.int kk), .val (.int di), .val (.long ga), .second, .val (.long gb), .second, .unset, .unset, .unset, .unset, .unset, .unset, .unset, .unset, .unset, .unset, .unset, .unset, .unset, .unset, .unset, .unset] []))
      have J28 : ∀ (gc : Int64) (r_gc : gc = if kk = (2 : Int32) then (yc + dl) else yc), Go p e below s 16 128 (Q0 Z ya yb yc dd sel dl ca cb h0 n0) (T13.setTop (mkF m 155 #[.val (.long ya), .second, .val (.long yb), .second, .val (.long yc), .second, .val (.int dd), .val (.int sel), .val (.long dl), .second, .val (.long ya), .second, .val (.long yb), .second, .val (.long yc), .second, .val (.long fd), .second, .val (.int dd), .val (.int ff), .val (.int fg), .val (.long fh), .second, .val (.int fi), .val (.int fj), .val (.long fk), .second, .val (.ref b1), .val (.int kk), .val (.int di), .val (.long ga), .second, .val (.long gb), .second, .unset, .unset, .unset, .unset, .unset, .unset, .unset, .unset, .unset, .unset, .unset, .unset, .unset, .unset, .unset, .unset] [(.long gc)])) := by
        intro gc r_gc
        show Go p e below s _ _ _ (T13.setTop (mkF m 155 #[.val (.long ya), .second, .val (.long yb), .second, .val (.long yc), .second, .val (.int dd), .val (.int sel), .val (.long dl), .second, .val (.long ya), .second, .val (.long yb), .second, .val (.long yc), .second, .val (.long fd), .second, .val (.int dd), .val (.int ff), .val (.int fg), .val (.long fh), .second, .val (.int fi), .val (.int fj), .val (.long fk), .second, .val (.ref b1), .val (.int kk), .val (.int di), .val (.long ga), .second, .val (.long gb), .second, .unset, .unset, .unset, .unset, .unset, .unset, .unset, .unset, .unset, .unset, .unset, .unset, .unset, .unset, .unset, .unset] [(.long gc)]))
        refine Go.st (fun _ k' => XS.lstore X13.here hx rfl (hb hby at_155) rfl (l' := #[.val (.long ya), .second, .val (.long yb), .second, .val (.long yc), .second, .val (.int dd), .val (.int sel), .val (.long dl), .second, .val (.long ya), .second, .val (.long yb), .second, .val (.long yc), .second, .val (.long fd), .second, .val (.int dd), .val (.int ff), .val (.int fg), .val (.long fh), .second, .val (.int fi), .val (.int fj), .val (.long fk), .second, .val (.ref b1), .val (.int kk), .val (.int di), .val (.long ga), .second, .val (.long gb), .second, .val (.long gc), .second, .unset, .unset, .unset, .unset, .unset, .unset, .unset, .unset, .unset, .unset, .unset, .unset, .unset, .unset]) rfl k') ?_
        show Go p e below s _ _ _ (T13.setTop (mkF m 157 #[.val (.long ya), .second, .val (.long yb), .second, .val (.long yc), .second, .val (.int dd), .val (.int sel), .val (.long dl), .second, .val (.long ya), .second, .val (.long yb), .second, .val (.long yc), .second, .val (.long fd), .second, .val (.int dd), .val (.int ff), .val (.int fg), .val (.long fh), .second, .val (.int fi), .val (.int fj), .val (.long fk), .second, .val (.ref b1), .val (.int kk), .val (.int di), .val (.long ga), .second, .val (.long gb), .second, .val (.long gc), .second, .unset, .unset, .unset, .unset, .unset, .unset, .unset, .unset, .unset, .unset, .unset, .unset, .unset, .unset] []))
        have J29 : ∀ (gd : Int64) (r_gd : gd = if kk = (3 : Int32) then (fd + dl) else fd), Go p e below s 16 128 (Q0 Z ya yb yc dd sel dl ca cb h0 n0) (T13.setTop (mkF m 173 #[.val (.long ya), .second, .val (.long yb), .second, .val (.long yc), .second, .val (.int dd), .val (.int sel), .val (.long dl), .second, .val (.long ya), .second, .val (.long yb), .second, .val (.long yc), .second, .val (.long fd), .second, .val (.int dd), .val (.int ff), .val (.int fg), .val (.long fh), .second, .val (.int fi), .val (.int fj), .val (.long fk), .second, .val (.ref b1), .val (.int kk), .val (.int di), .val (.long ga), .second, .val (.long gb), .second, .val (.long gc), .second, .unset, .unset, .unset, .unset, .unset, .unset, .unset, .unset, .unset, .unset, .unset, .unset, .unset, .unset] [(.long gd)])) := by
          intro gd r_gd
          show Go p e below s _ _ _ (T13.setTop (mkF m 173 #[.val (.long ya), .second, .val (.long yb), .second, .val (.long yc), .second, .val (.int dd), .val (.int sel), .val (.long dl), .second, .val (.long ya), .second, .val (.long yb), .second, .val (.long yc), .second, .val (.long fd), .second, .val (.int dd), .val (.int ff), .val (.int fg), .val (.long fh), .second, .val (.int fi), .val (.int fj), .val (.long fk), .second, .val (.ref b1), .val (.int kk), .val (.int di), .val (.long ga), .second, .val (.long gb), .second, .val (.long gc), .second, .unset, .unset, .unset, .unset, .unset, .unset, .unset, .unset, .unset, .unset, .unset, .unset, .unset, .unset] [(.long gd)]))
          refine Go.st (fun _ k' => XS.lstore X13.here hx rfl (hb hby at_173) rfl (l' := #[.val (.long ya), .second, .val (.long yb), .second, .val (.long yc), .second, .val (.int dd), .val (.int sel), .val (.long dl), .second, .val (.long ya), .second, .val (.long yb), .second, .val (.long yc), .second, .val (.long fd), .second, .val (.int dd), .val (.int ff), .val (.int fg), .val (.long fh), .second, .val (.int fi), .val (.int fj), .val (.long fk), .second, .val (.ref b1), .val (.int kk), .val (.int di), .val (.long ga), .second, .val (.long gb), .second, .val (.long gc), .second, .val (.long gd), .second, .unset, .unset, .unset, .unset, .unset, .unset, .unset, .unset, .unset, .unset, .unset, .unset]) rfl k') ?_
          show Go p e below s _ _ _ (T13.setTop (mkF m 175 #[.val (.long ya), .second, .val (.long yb), .second, .val (.long yc), .second, .val (.int dd), .val (.int sel), .val (.long dl), .second, .val (.long ya), .second, .val (.long yb), .second, .val (.long yc), .second, .val (.long fd), .second, .val (.int dd), .val (.int ff), .val (.int fg), .val (.long fh), .second, .val (.int fi), .val (.int fj), .val (.long fk), .second, .val (.ref b1), .val (.int kk), .val (.int di), .val (.long ga), .second, .val (.long gb), .second, .val (.long gc), .second, .val (.long gd), .second, .unset, .unset, .unset, .unset, .unset, .unset, .unset, .unset, .unset, .unset, .unset, .unset] []))
          have J30 : ∀ (ge : Int32) (r_ge : ge = if kk = (4 : Int32) then (dd + di) else dd), Go p e below s 16 128 (Q0 Z ya yb yc dd sel dl ca cb h0 n0) (T13.setTop (mkF m 191 #[.val (.long ya), .second, .val (.long yb), .second, .val (.long yc), .second, .val (.int dd), .val (.int sel), .val (.long dl), .second, .val (.long ya), .second, .val (.long yb), .second, .val (.long yc), .second, .val (.long fd), .second, .val (.int dd), .val (.int ff), .val (.int fg), .val (.long fh), .second, .val (.int fi), .val (.int fj), .val (.long fk), .second, .val (.ref b1), .val (.int kk), .val (.int di), .val (.long ga), .second, .val (.long gb), .second, .val (.long gc), .second, .val (.long gd), .second, .unset, .unset, .unset, .unset, .unset, .unset, .unset, .unset, .unset, .unset, .unset, .unset] [(.int ge)])) := by
            intro ge r_ge
            show Go p e below s _ _ _ (T13.setTop (mkF m 191 #[.val (.long ya), .second, .val (.long yb), .second, .val (.long yc), .second, .val (.int dd), .val (.int sel), .val (.long dl), .second, .val (.long ya), .second, .val (.long yb), .second, .val (.long yc), .second, .val (.long fd), .second, .val (.int dd), .val (.int ff), .val (.int fg), .val (.long fh), .second, .val (.int fi), .val (.int fj), .val (.long fk), .second, .val (.ref b1), .val (.int kk), .val (.int di), .val (.long ga), .second, .val (.long gb), .second, .val (.long gc), .second, .val (.long gd), .second, .unset, .unset, .unset, .unset, .unset, .unset, .unset, .unset, .unset, .unset, .unset, .unset] [(.int ge)]))
            refine Go.st (fun _ k' => XS.istore X13.here hx rfl (hb hby at_191) rfl (l' := #[.val (.long ya), .second, .val (.long yb), .second, .val (.long yc), .second, .val (.int dd), .val (.int sel), .val (.long dl), .second, .val (.long ya), .second, .val (.long yb), .second, .val (.long yc), .second, .val (.long fd), .second, .val (.int dd), .val (.int ff), .val (.int fg), .val (.long fh), .second, .val (.int fi), .val (.int fj), .val (.long fk), .second, .val (.ref b1), .val (.int kk), .val (.int di), .val (.long ga), .second, .val (.long gb), .second, .val (.long gc), .second, .val (.long gd), .second, .val (.int ge), .unset, .unset, .unset, .unset, .unset, .unset, .unset, .unset, .unset, .unset, .unset]) rfl k') ?_
            show Go p e below s _ _ _ (T13.setTop (mkF m 193 #[.val (.long ya), .second, .val (.long yb), .second, .val (.long yc), .second, .val (.int dd), .val (.int sel), .val (.long dl), .second, .val (.long ya), .second, .val (.long yb), .second, .val (.long yc), .second, .val (.long fd), .second, .val (.int dd), .val (.int ff), .val (.int fg), .val (.long fh), .second, .val (.int fi), .val (.int fj), .val (.long fk), .second, .val (.ref b1), .val (.int kk), .val (.int di), .val (.long ga), .second, .val (.long gb), .second, .val (.long gc), .second, .val (.long gd), .second, .val (.int ge), .unset, .unset, .unset, .unset, .unset, .unset, .unset, .unset, .unset, .unset, .unset] []))
            have J31 : ∀ (gf : Int32) (r_gf : gf = if kk = (5 : Int32) then (ff + di) else ff), Go p e below s 16 128 (Q0 Z ya yb yc dd sel dl ca cb h0 n0) (T13.setTop (mkF m 209 #[.val (.long ya), .second, .val (.long yb), .second, .val (.long yc), .second, .val (.int dd), .val (.int sel), .val (.long dl), .second, .val (.long ya), .second, .val (.long yb), .second, .val (.long yc), .second, .val (.long fd), .second, .val (.int dd), .val (.int ff), .val (.int fg), .val (.long fh), .second, .val (.int fi), .val (.int fj), .val (.long fk), .second, .val (.ref b1), .val (.int kk), .val (.int di), .val (.long ga), .second, .val (.long gb), .second, .val (.long gc), .second, .val (.long gd), .second, .val (.int ge), .unset, .unset, .unset, .unset, .unset, .unset, .unset, .unset, .unset, .unset, .unset] [(.int gf)])) := by
              intro gf r_gf
              show Go p e below s _ _ _ (T13.setTop (mkF m 209 #[.val (.long ya), .second, .val (.long yb), .second, .val (.long yc), .second, .val (.int dd), .val (.int sel), .val (.long dl), .second, .val (.long ya), .second, .val (.long yb), .second, .val (.long yc), .second, .val (.long fd), .second, .val (.int dd), .val (.int ff), .val (.int fg), .val (.long fh), .second, .val (.int fi), .val (.int fj), .val (.long fk), .second, .val (.ref b1), .val (.int kk), .val (.int di), .val (.long ga), .second, .val (.long gb), .second, .val (.long gc), .second, .val (.long gd), .second, .val (.int ge), .unset, .unset, .unset, .unset, .unset, .unset, .unset, .unset, .unset, .unset, .unset] [(.int gf)]))
              refine Go.st (fun _ k' => XS.istore X13.here hx rfl (hb hby at_209) rfl (l' := #[.val (.long ya), .second, .val (.long yb), .second, .val (.long yc), .second, .val (.int dd), .val (.int sel), .val (.long dl), .second, .val (.long ya), .second, .val (.long yb), .second, .val (.long yc), .second, .val (.long fd), .second, .val (.int dd), .val (.int ff), .val (.int fg), .val (.long fh), .second, .val (.int fi), .val (.int fj), .val (.long fk), .second, .val (.ref b1), .val (.int kk), .val (.int di), .val (.long ga), .second, .val (.long gb), .second, .val (.long gc), .second, .val (.long gd), .second, .val (.int ge), .val (.int gf), .unset, .unset, .unset, .unset, .unset, .unset, .unset, .unset, .unset, .unset]) rfl k') ?_
              show Go p e below s _ _ _ (T13.setTop (mkF m 211 #[.val (.long ya), .second, .val (.long yb), .second, .val (.long yc), .second, .val (.int dd), .val (.int sel), .val (.long dl), .second, .val (.long ya), .second, .val (.long yb), .second, .val (.long yc), .second, .val (.long fd), .second, .val (.int dd), .val (.int ff), .val (.int fg), .val (.long fh), .second, .val (.int fi), .val (.int fj), .val (.long fk), .second, .val (.ref b1), .val (.int kk), .val (.int di), .val (.long ga), .second, .val (.long gb), .second, .val (.long gc), .second, .val (.long gd), .second, .val (.int ge), .val (.int gf), .unset, .unset, .unset, .unset, .unset, .unset, .unset, .unset, .unset, .unset] []))
              have J32 : ∀ (gg : Int32) (r_gg : gg = if kk = (6 : Int32) then (fg + di) else fg), Go p e below s 16 128 (Q0 Z ya yb yc dd sel dl ca cb h0 n0) (T13.setTop (mkF m 228 #[.val (.long ya), .second, .val (.long yb), .second, .val (.long yc), .second, .val (.int dd), .val (.int sel), .val (.long dl), .second, .val (.long ya), .second, .val (.long yb), .second, .val (.long yc), .second, .val (.long fd), .second, .val (.int dd), .val (.int ff), .val (.int fg), .val (.long fh), .second, .val (.int fi), .val (.int fj), .val (.long fk), .second, .val (.ref b1), .val (.int kk), .val (.int di), .val (.long ga), .second, .val (.long gb), .second, .val (.long gc), .second, .val (.long gd), .second, .val (.int ge), .val (.int gf), .unset, .unset, .unset, .unset, .unset, .unset, .unset, .unset, .unset, .unset] [(.int gg)])) := by
                intro gg r_gg
                show Go p e below s _ _ _ (T13.setTop (mkF m 228 #[.val (.long ya), .second, .val (.long yb), .second, .val (.long yc), .second, .val (.int dd), .val (.int sel), .val (.long dl), .second, .val (.long ya), .second, .val (.long yb), .second, .val (.long yc), .second, .val (.long fd), .second, .val (.int dd), .val (.int ff), .val (.int fg), .val (.long fh), .second, .val (.int fi), .val (.int fj), .val (.long fk), .second, .val (.ref b1), .val (.int kk), .val (.int di), .val (.long ga), .second, .val (.long gb), .second, .val (.long gc), .second, .val (.long gd), .second, .val (.int ge), .val (.int gf), .unset, .unset, .unset, .unset, .unset, .unset, .unset, .unset, .unset, .unset] [(.int gg)]))
                refine Go.st (fun _ k' => XS.istore X13.here hx rfl (hb hby at_228) rfl (l' := #[.val (.long ya), .second, .val (.long yb), .second, .val (.long yc), .second, .val (.int dd), .val (.int sel), .val (.long dl), .second, .val (.long ya), .second, .val (.long yb), .second, .val (.long yc), .second, .val (.long fd), .second, .val (.int dd), .val (.int ff), .val (.int fg), .val (.long fh), .second, .val (.int fi), .val (.int fj), .val (.long fk), .second, .val (.ref b1), .val (.int kk), .val (.int di), .val (.long ga), .second, .val (.long gb), .second, .val (.long gc), .second, .val (.long gd), .second, .val (.int ge), .val (.int gf), .val (.int gg), .unset, .unset, .unset, .unset, .unset, .unset, .unset, .unset, .unset]) rfl k') ?_
                show Go p e below s _ _ _ (T13.setTop (mkF m 230 #[.val (.long ya), .second, .val (.long yb), .second, .val (.long yc), .second, .val (.int dd), .val (.int sel), .val (.long dl), .second, .val (.long ya), .second, .val (.long yb), .second, .val (.long yc), .second, .val (.long fd), .second, .val (.int dd), .val (.int ff), .val (.int fg), .val (.long fh), .second, .val (.int fi), .val (.int fj), .val (.long fk), .second, .val (.ref b1), .val (.int kk), .val (.int di), .val (.long ga), .second, .val (.long gb), .second, .val (.long gc), .second, .val (.long gd), .second, .val (.int ge), .val (.int gf), .val (.int gg), .unset, .unset, .unset, .unset, .unset, .unset, .unset, .unset, .unset] []))
                have J33 : ∀ (gh : Int64) (r_gh : gh = if kk = (7 : Int32) then (fh + dl) else fh), Go p e below s 16 128 (Q0 Z ya yb yc dd sel dl ca cb h0 n0) (T13.setTop (mkF m 247 #[.val (.long ya), .second, .val (.long yb), .second, .val (.long yc), .second, .val (.int dd), .val (.int sel), .val (.long dl), .second, .val (.long ya), .second, .val (.long yb), .second, .val (.long yc), .second, .val (.long fd), .second, .val (.int dd), .val (.int ff), .val (.int fg), .val (.long fh), .second, .val (.int fi), .val (.int fj), .val (.long fk), .second, .val (.ref b1), .val (.int kk), .val (.int di), .val (.long ga), .second, .val (.long gb), .second, .val (.long gc), .second, .val (.long gd), .second, .val (.int ge), .val (.int gf), .val (.int gg), .unset, .unset, .unset, .unset, .unset, .unset, .unset, .unset, .unset] [(.long gh)])) := by
                  intro gh r_gh
                  show Go p e below s _ _ _ (T13.setTop (mkF m 247 #[.val (.long ya), .second, .val (.long yb), .second, .val (.long yc), .second, .val (.int dd), .val (.int sel), .val (.long dl), .second, .val (.long ya), .second, .val (.long yb), .second, .val (.long yc), .second, .val (.long fd), .second, .val (.int dd), .val (.int ff), .val (.int fg), .val (.long fh), .second, .val (.int fi), .val (.int fj), .val (.long fk), .second, .val (.ref b1), .val (.int kk), .val (.int di), .val (.long ga), .second, .val (.long gb), .second, .val (.long gc), .second, .val (.long gd), .second, .val (.int ge), .val (.int gf), .val (.int gg), .unset, .unset, .unset, .unset, .unset, .unset, .unset, .unset, .unset] [(.long gh)]))
                  refine Go.st (fun _ k' => XS.lstore X13.here hx rfl (hb hby at_247) rfl (l' := #[.val (.long ya), .second, .val (.long yb), .second, .val (.long yc), .second, .val (.int dd), .val (.int sel), .val (.long dl), .second, .val (.long ya), .second, .val (.long yb), .second, .val (.long yc), .second, .val (.long fd), .second, .val (.int dd), .val (.int ff), .val (.int fg), .val (.long fh), .second, .val (.int fi), .val (.int fj), .val (.long fk), .second, .val (.ref b1), .val (.int kk), .val (.int di), .val (.long ga), .second, .val (.long gb), .second, .val (.long gc), .second, .val (.long gd), .second, .val (.int ge), .val (.int gf), .val (.int gg), .val (.long gh), .second, .unset, .unset, .unset, .unset, .unset, .unset, .unset]) rfl k') ?_
                  show Go p e below s _ _ _ (T13.setTop (mkF m 249 #[.val (.long ya), .second, .val (.long yb), .second, .val (.long yc), .second, .val (.int dd), .val (.int sel), .val (.long dl), .second, .val (.long ya), .second, .val (.long yb), .second, .val (.long yc), .second, .val (.long fd), .second, .val (.int dd), .val (.int ff), .val (.int fg), .val (.long fh), .second, .val (.int fi), .val (.int fj), .val (.long fk), .second, .val (.ref b1), .val (.int kk), .val (.int di), .val (.long ga), .second, .val (.long gb), .second, .val (.long gc), .second, .val (.long gd), .second, .val (.int ge), .val (.int gf), .val (.int gg), .val (.long gh), .second, .unset, .unset, .unset, .unset, .unset, .unset, .unset] []))
                  have J34 : ∀ (gi : Int32) (r_gi : gi = if kk = (8 : Int32) then (fi + di) else fi), Go p e below s 16 128 (Q0 Z ya yb yc dd sel dl ca cb h0 n0) (T13.setTop (mkF m 266 #[.val (.long ya), .second, .val (.long yb), .second, .val (.long yc), .second, .val (.int dd), .val (.int sel), .val (.long dl), .second, .val (.long ya), .second, .val (.long yb), .second, .val (.long yc), .second, .val (.long fd), .second, .val (.int dd), .val (.int ff), .val (.int fg), .val (.long fh), .second, .val (.int fi), .val (.int fj), .val (.long fk), .second, .val (.ref b1), .val (.int kk), .val (.int di), .val (.long ga), .second, .val (.long gb), .second, .val (.long gc), .second, .val (.long gd), .second, .val (.int ge), .val (.int gf), .val (.int gg), .val (.long gh), .second, .unset, .unset, .unset, .unset, .unset, .unset, .unset] [(.int gi)])) := by
                    intro gi r_gi
                    show Go p e below s _ _ _ (T13.setTop (mkF m 266 #[.val (.long ya), .second, .val (.long yb), .second, .val (.long yc), .second, .val (.int dd), .val (.int sel), .val (.long dl), .second, .val (.long ya), .second, .val (.long yb), .second, .val (.long yc), .second, .val (.long fd), .second, .val (.int dd), .val (.int ff), .val (.int fg), .val (.long fh), .second, .val (.int fi), .val (.int fj), .val (.long fk), .second, .val (.ref b1), .val (.int kk), .val (.int di), .val (.long ga), .second, .val (.long gb), .second, .val (.long gc), .second, .val (.long gd), .second, .val (.int ge), .val (.int gf), .val (.int gg), .val (.long gh), .second, .unset, .unset, .unset, .unset, .unset, .unset, .unset] [(.int gi)]))
                    refine Go.st (fun _ k' => XS.istore X13.here hx rfl (hb hby at_266) rfl (l' := #[.val (.long ya), .second, .val (.long yb), .second, .val (.long yc), .second, .val (.int dd), .val (.int sel), .val (.long dl), .second, .val (.long ya), .second, .val (.long yb), .second, .val (.long yc), .second, .val (.long fd), .second, .val (.int dd), .val (.int ff), .val (.int fg), .val (.long fh), .second, .val (.int fi), .val (.int fj), .val (.long fk), .second, .val (.ref b1), .val (.int kk), .val (.int di), .val (.long ga), .second, .val (.long gb), .second, .val (.long gc), .second, .val (.long gd), .second, .val (.int ge), .val (.int gf), .val (.int gg), .val (.long gh), .second, .val (.int gi), .unset, .unset, .unset, .unset, .unset, .unset]) rfl k') ?_
                    show Go p e below s _ _ _ (T13.setTop (mkF m 268 #[.val (.long ya), .second, .val (.long yb), .second, .val (.long yc), .second, .val (.int dd), .val (.int sel), .val (.long dl), .second, .val (.long ya), .second, .val (.long yb), .second, .val (.long yc), .second, .val (.long fd), .second, .val (.int dd), .val (.int ff), .val (.int fg), .val (.long fh), .second, .val (.int fi), .val (.int fj), .val (.long fk), .second, .val (.ref b1), .val (.int kk), .val (.int di), .val (.long ga), .second, .val (.long gb), .second, .val (.long gc), .second, .val (.long gd), .second, .val (.int ge), .val (.int gf), .val (.int gg), .val (.long gh), .second, .val (.int gi), .unset, .unset, .unset, .unset, .unset, .unset] []))
                    have J35 : ∀ (gj : Int32) (r_gj : gj = if kk = (9 : Int32) then (fj + di) else fj), Go p e below s 16 128 (Q0 Z ya yb yc dd sel dl ca cb h0 n0) (T13.setTop (mkF m 285 #[.val (.long ya), .second, .val (.long yb), .second, .val (.long yc), .second, .val (.int dd), .val (.int sel), .val (.long dl), .second, .val (.long ya), .second, .val (.long yb), .second, .val (.long yc), .second, .val (.long fd), .second, .val (.int dd), .val (.int ff), .val (.int fg), .val (.long fh), .second, .val (.int fi), .val (.int fj), .val (.long fk), .second, .val (.ref b1), .val (.int kk), .val (.int di), .val (.long ga), .second, .val (.long gb), .second, .val (.long gc), .second, .val (.long gd), .second, .val (.int ge), .val (.int gf), .val (.int gg), .val (.long gh), .second, .val (.int gi), .unset, .unset, .unset, .unset, .unset, .unset] [(.int gj)])) := by
                      intro gj r_gj
                      show Go p e below s _ _ _ (T13.setTop (mkF m 285 #[.val (.long ya), .second, .val (.long yb), .second, .val (.long yc), .second, .val (.int dd), .val (.int sel), .val (.long dl), .second, .val (.long ya), .second, .val (.long yb), .second, .val (.long yc), .second, .val (.long fd), .second, .val (.int dd), .val (.int ff), .val (.int fg), .val (.long fh), .second, .val (.int fi), .val (.int fj), .val (.long fk), .second, .val (.ref b1), .val (.int kk), .val (.int di), .val (.long ga), .second, .val (.long gb), .second, .val (.long gc), .second, .val (.long gd), .second, .val (.int ge), .val (.int gf), .val (.int gg), .val (.long gh), .second, .val (.int gi), .unset, .unset, .unset, .unset, .unset, .unset] [(.int gj)]))
                      refine Go.st (fun _ k' => XS.istore X13.here hx rfl (hb hby at_285) rfl (l' := #[.val (.long ya), .second, .val (.long yb), .second, .val (.long yc), .second, .val (.int dd), .val (.int sel), .val (.long dl), .second, .val (.long ya), .second, .val (.long yb), .second, .val (.long yc), .second, .val (.long fd), .second, .val (.int dd), .val (.int ff), .val (.int fg), .val (.long fh), .second, .val (.int fi), .val (.int fj), .val (.long fk), .second, .val (.ref b1), .val (.int kk), .val (.int di), .val (.long ga), .second, .val (.long gb), .second, .val (.long gc), .second, .val (.long gd), .second, .val (.int ge), .val (.int gf), .val (.int gg), .val (.long gh), .second, .val (.int gi), .val (.int gj), .unset, .unset, .unset, .unset, .unset]) rfl k') ?_
                      show Go p e below s _ _ _ (T13.setTop (mkF m 287 #[.val (.long ya), .second, .val (.long yb), .second, .val (.long yc), .second, .val (.int dd), .val (.int sel), .val (.long dl), .second, .val (.long ya), .second, .val (.long yb), .second, .val (.long yc), .second, .val (.long fd), .second, .val (.int dd), .val (.int ff), .val (.int fg), .val (.long fh), .second, .val (.int fi), .val (.int fj), .val (.long fk), .second, .val (.ref b1), .val (.int kk), .val (.int di), .val (.long ga), .second, .val (.long gb), .second, .val (.long gc), .second, .val (.long gd), .second, .val (.int ge), .val (.int gf), .val (.int gg), .val (.long gh), .second, .val (.int gi), .val (.int gj), .unset, .unset, .unset, .unset, .unset] []))
                      have J36 : ∀ (gk : Int64) (r_gk : gk = if kk = (10 : Int32) then (fk + dl) else fk), Go p e below s 16 128 (Q0 Z ya yb yc dd sel dl ca cb h0 n0) (T13.setTop (mkF m 304 #[.val (.long ya), .second, .val (.long yb), .second, .val (.long yc), .second, .val (.int dd), .val (.int sel), .val (.long dl), .second, .val (.long ya), .second, .val (.long yb), .second, .val (.long yc), .second, .val (.long fd), .second, .val (.int dd), .val (.int ff), .val (.int fg), .val (.long fh), .second, .val (.int fi), .val (.int fj), .val (.long fk), .second, .val (.ref b1), .val (.int kk), .val (.int di), .val (.long ga), .second, .val (.long gb), .second, .val (.long gc), .second, .val (.long gd), .second, .val (.int ge), .val (.int gf), .val (.int gg), .val (.long gh), .second, .val (.int gi), .val (.int gj), .unset, .unset, .unset, .unset, .unset] [(.long gk)])) := by
                        intro gk r_gk
                        show Go p e below s _ _ _ (T13.setTop (mkF m 304 #[.val (.long ya), .second, .val (.long yb), .second, .val (.long yc), .second, .val (.int dd), .val (.int sel), .val (.long dl), .second, .val (.long ya), .second, .val (.long yb), .second, .val (.long yc), .second, .val (.long fd), .second, .val (.int dd), .val (.int ff), .val (.int fg), .val (.long fh), .second, .val (.int fi), .val (.int fj), .val (.long fk), .second, .val (.ref b1), .val (.int kk), .val (.int di), .val (.long ga), .second, .val (.long gb), .second, .val (.long gc), .second, .val (.long gd), .second, .val (.int ge), .val (.int gf), .val (.int gg), .val (.long gh), .second, .val (.int gi), .val (.int gj), .unset, .unset, .unset, .unset, .unset] [(.long gk)]))
                        refine Go.st (fun _ k' => XS.lstore X13.here hx rfl (hb hby at_304) rfl (l' := #[.val (.long ya), .second, .val (.long yb), .second, .val (.long yc), .second, .val (.int dd), .val (.int sel), .val (.long dl), .second, .val (.long ya), .second, .val (.long yb), .second, .val (.long yc), .second, .val (.long fd), .second, .val (.int dd), .val (.int ff), .val (.int fg), .val (.long fh), .second, .val (.int fi), .val (.int fj), .val (.long fk), .second, .val (.ref b1), .val (.int kk), .val (.int di), .val (.long ga), .second, .val (.long gb), .second, .val (.long gc), .second, .val (.long gd), .second, .val (.int ge), .val (.int gf), .val (.int gg), .val (.long gh), .second, .val (.int gi), .val (.int gj), .val (.long gk), .second, .unset, .unset, .unset]) rfl k') ?_
                        show Go p e below s _ _ _ (T13.setTop (mkF m 306 #[.val (.long ya), .second, .val (.long yb), .second, .val (.long yc), .second, .val (.int dd), .val (.int sel), .val (.long dl), .second, .val (.long ya), .second, .val (.long yb), .second, .val (.long yc), .second, .val (.long fd), .second, .val (.int dd), .val (.int ff), .val (.int fg), .val (.long fh), .second, .val (.int fi), .val (.int fj), .val (.long fk), .second, .val (.ref b1), .val (.int kk), .val (.int di), .val (.long ga), .second, .val (.long gb), .second, .val (.long gc), .second, .val (.long gd), .second, .val (.int ge), .val (.int gf), .val (.int gg), .val (.long gh), .second, .val (.int gi), .val (.int gj), .val (.long gk), .second, .unset, .unset, .unset] []))
                        obtain ⟨T37, h37, X37, e37, E37, A37, D37, -, st37⟩ := newO X13 hx hZ hown (wdx hw 0 rfl) (wdx hw 1 rfl) (wdx hw 2 rfl) rfl (g := (mkF m 306 #[.val (.long ya), .second, .val (.long yb), .second, .val (.long yc), .second, .val (.int dd), .val (.int sel), .val (.long dl), .second, .val (.long ya), .second, .val (.long yb), .second, .val (.long yc), .second, .val (.long fd), .second, .val (.int dd), .val (.int ff), .val (.int fg), .val (.long fh), .second, .val (.int fi), .val (.int fj), .val (.long fk), .second, .val (.ref b1), .val (.int kk), .val (.int di), .val (.long ga), .second, .val (.long gb), .second, .val (.long gc), .second, .val (.long gd), .second, .val (.int ge), .val (.int gf), .val (.int gg), .val (.long gh), .second, .val (.int gi), .val (.int gj), .val (.long gk), .second, .unset, .unset, .unset] [])) rfl (hb hby at_306) (by decide) (by decide)
                        obtain ⟨b37, g37⟩ : ∃ z, z = T13.heap.size := ⟨_, rfl⟩
                        rw [← g37] at A37 D37 st37
                        refine Go.st st37 ?_
                        have g_b37 : n0 ≤ b37 := Nat.le_trans (own_le O13) (Nat.le_of_eq g37.symm)
                        have ne38 : b1 ≠ b37 := Nat.ne_of_lt (Nat.lt_of_lt_of_le f25.lt (Nat.le_of_eq g37.symm))
                        have f39 : Exa Z h37 b1 "com/example/exact_quorum/exactquorum/protocol/Stat" := f25.ext E37
                        have f40 : Fld Z h37 b1 "com/example/exact_quorum/exactquorum/protocol/Stat" "czxid" "J" (.long ya) := f14.ext E37
                        have f41 : Fld Z h37 b1 "com/example/exact_quorum/exactquorum/protocol/Stat" "mzxid" "J" (.long yb) := f15.ext E37
                        have f42 : Fld Z h37 b1 "com/example/exact_quorum/exactquorum/protocol/Stat" "ctime" "J" (.long yc) := f16.ext E37
                        have f43 : Fld Z h37 b1 "com/example/exact_quorum/exactquorum/protocol/Stat" "mtime" "J" (.long fd) := f17.ext E37
                        have f44 : Fld Z h37 b1 "com/example/exact_quorum/exactquorum/protocol/Stat" "version" "I" (.int dd) := f18.ext E37
                        have f45 : Fld Z h37 b1 "com/example/exact_quorum/exactquorum/protocol/Stat" "cversion" "I" (.int ff) := f19.ext E37
                        have f46 : Fld Z h37 b1 "com/example/exact_quorum/exactquorum/protocol/Stat" "aversion" "I" (.int fg) := f20.ext E37
                        have f47 : Fld Z h37 b1 "com/example/exact_quorum/exactquorum/protocol/Stat" "ephemeralOwner" "J" (.long fh) := f21.ext E37
                        have f48 : Fld Z h37 b1 "com/example/exact_quorum/exactquorum/protocol/Stat" "dataLength" "I" (.int fi) := f22.ext E37
                        have f49 : Fld Z h37 b1 "com/example/exact_quorum/exactquorum/protocol/Stat" "numChildren" "I" (.int fj) := f23.ext E37
                        have f50 : Fld Z h37 b1 "com/example/exact_quorum/exactquorum/protocol/Stat" "pzxid" "J" (.long fk) := f24.ext E37
                        have O37 : Old Z n0 h37 := O13.ext E37
                        have f51 : Fld Z h37 b37 "com/example/exact_quorum/exactquorum/protocol/Stat" "czxid" "J" (.long (0 : Int64)) := D37 (Or.inr (wdx hw 10 rfl)) (ty := .long) (by decide)
                        have f52 : Fld Z h37 b37 "com/example/exact_quorum/exactquorum/protocol/Stat" "mzxid" "J" (.long (0 : Int64)) := D37 (Or.inr (wdx hw 12 rfl)) (ty := .long) (by decide)
                        have f53 : Fld Z h37 b37 "com/example/exact_quorum/exactquorum/protocol/Stat" "ctime" "J" (.long (0 : Int64)) := D37 (Or.inr (wdx hw 14 rfl)) (ty := .long) (by decide)
                        have f54 : Fld Z h37 b37 "com/example/exact_quorum/exactquorum/protocol/Stat" "mtime" "J" (.long (0 : Int64)) := D37 (Or.inr (wdx hw 16 rfl)) (ty := .long) (by decide)
                        have f55 : Fld Z h37 b37 "com/example/exact_quorum/exactquorum/protocol/Stat" "version" "I" (.int (0 : Int32)) := D37 (Or.inr (wdx hw 18 rfl)) (ty := .int) (by decide)
                        have f56 : Fld Z h37 b37 "com/example/exact_quorum/exactquorum/protocol/Stat" "cversion" "I" (.int (0 : Int32)) := D37 (Or.inr (wdx hw 20 rfl)) (ty := .int) (by decide)
                        have f57 : Fld Z h37 b37 "com/example/exact_quorum/exactquorum/protocol/Stat" "aversion" "I" (.int (0 : Int32)) := D37 (Or.inr (wdx hw 22 rfl)) (ty := .int) (by decide)
                        have f58 : Fld Z h37 b37 "com/example/exact_quorum/exactquorum/protocol/Stat" "ephemeralOwner" "J" (.long (0 : Int64)) := D37 (Or.inr (wdx hw 24 rfl)) (ty := .long) (by decide)
                        have f59 : Fld Z h37 b37 "com/example/exact_quorum/exactquorum/protocol/Stat" "dataLength" "I" (.int (0 : Int32)) := D37 (Or.inr (wdx hw 26 rfl)) (ty := .int) (by decide)
                        have f60 : Fld Z h37 b37 "com/example/exact_quorum/exactquorum/protocol/Stat" "numChildren" "I" (.int (0 : Int32)) := D37 (Or.inr (wdx hw 28 rfl)) (ty := .int) (by decide)
                        have f61 : Fld Z h37 b37 "com/example/exact_quorum/exactquorum/protocol/Stat" "pzxid" "J" (.long (0 : Int64)) := D37 (Or.inr (wdx hw 30 rfl)) (ty := .long) (by decide)
                        show Go p e below s _ _ _ (T37.setTop (mkF m 309 #[.val (.long ya), .second, .val (.long yb), .second, .val (.long yc), .second, .val (.int dd), .val (.int sel), .val (.long dl), .second, .val (.long ya), .second, .val (.long yb), .second, .val (.long yc), .second, .val (.long fd), .second, .val (.int dd), .val (.int ff), .val (.int fg), .val (.long fh), .second, .val (.int fi), .val (.int fj), .val (.long fk), .second, .val (.ref b1), .val (.int kk), .val (.int di), .val (.long ga), .second, .val (.long gb), .second, .val (.long gc), .second, .val (.long gd), .second, .val (.int ge), .val (.int gf), .val (.int gg), .val (.long gh), .second, .val (.int gi), .val (.int gj), .val (.long gk), .second, .unset, .unset, .unset] [(.ref b37)]))
                        refine Go.st (fun _ k' => XS.dup X37.here hx rfl (hb hby at_309) rfl rfl k') ?_
                        show Go p e below s _ _ _ (T37.setTop (mkF m 310 #[.val (.long ya), .second, .val (.long yb), .second, .val (.long yc), .second, .val (.int dd), .val (.int sel), .val (.long dl), .second, .val (.long ya), .second, .val (.long yb), .second, .val (.long yc), .second, .val (.long fd), .second, .val (.int dd), .val (.int ff), .val (.int fg), .val (.long fh), .second, .val (.int fi), .val (.int fj), .val (.long fk), .second, .val (.ref b1), .val (.int kk), .val (.int di), .val (.long ga), .second, .val (.long gb), .second, .val (.long gc), .second, .val (.long gd), .second, .val (.int ge), .val (.int gf), .val (.int gg), .val (.long gh), .second, .val (.int gi), .val (.int gj), .val (.long gk), .second, .unset, .unset, .unset] [(.ref b37), (.ref b37)]))
                        refine Go.st (fun _ k' => XS.lload X37.here hx rfl (hb hby at_310) rfl k') ?_
                        show Go p e below s _ _ _ (T37.setTop (mkF m 312 #[.val (.long ya), .second, .val (.long yb), .second, .val (.long yc), .second, .val (.int dd), .val (.int sel), .val (.long dl), .second, .val (.long ya), .second, .val (.long yb), .second, .val (.long yc), .second, .val (.long fd), .second, .val (.int dd), .val (.int ff), .val (.int fg), .val (.long fh), .second, .val (.int fi), .val (.int fj), .val (.long fk), .second, .val (.ref b1), .val (.int kk), .val (.int di), .val (.long ga), .second, .val (.long gb), .second, .val (.long gc), .second, .val (.long gd), .second, .val (.int ge), .val (.int gf), .val (.int gg), .val (.long gh), .second, .val (.int gi), .val (.int gj), .val (.long gk), .second, .unset, .unset, .unset] [(.long ga), (.ref b37), (.ref b37)]))
                        refine Go.st (fun _ k' => XS.lload X37.here hx rfl (hb hby at_312) rfl k') ?_
                        show Go p e below s _ _ _ (T37.setTop (mkF m 314 #[.val (.long ya), .second, .val (.long yb), .second, .val (.long yc), .second, .val (.int dd), .val (.int sel), .val (.long dl), .second, .val (.long ya), .second, .val (.long yb), .second, .val (.long yc), .second, .val (.long fd), .second, .val (.int dd), .val (.int ff), .val (.int fg), .val (.long fh), .second, .val (.int fi), .val (.int fj), .val (.long fk), .second, .val (.ref b1), .val (.int kk), .val (.int di), .val (.long ga), .second, .val (.long gb), .second, .val (.long gc), .second, .val (.long gd), .second, .val (.int ge), .val (.int gf), .val (.int gg), .val (.long gh), .second, .val (.int gi), .val (.int gj), .val (.long gk), .second, .unset, .unset, .unset] [(.long gb), (.long ga), (.ref b37), (.ref b37)]))
                        refine Go.st (fun _ k' => XS.lload X37.here hx rfl (hb hby at_314) rfl k') ?_
                        show Go p e below s _ _ _ (T37.setTop (mkF m 316 #[.val (.long ya), .second, .val (.long yb), .second, .val (.long yc), .second, .val (.int dd), .val (.int sel), .val (.long dl), .second, .val (.long ya), .second, .val (.long yb), .second, .val (.long yc), .second, .val (.long fd), .second, .val (.int dd), .val (.int ff), .val (.int fg), .val (.long fh), .second, .val (.int fi), .val (.int fj), .val (.long fk), .second, .val (.ref b1), .val (.int kk), .val (.int di), .val (.long ga), .second, .val (.long gb), .second, .val (.long gc), .second, .val (.long gd), .second, .val (.int ge), .val (.int gf), .val (.int gg), .val (.long gh), .second, .val (.int gi), .val (.int gj), .val (.long gk), .second, .unset, .unset, .unset] [(.long gc), (.long gb), (.long ga), (.ref b37), (.ref b37)]))
                        refine Go.st (fun _ k' => XS.lload X37.here hx rfl (hb hby at_316) rfl k') ?_
                        show Go p e below s _ _ _ (T37.setTop (mkF m 318 #[.val (.long ya), .second, .val (.long yb), .second, .val (.long yc), .second, .val (.int dd), .val (.int sel), .val (.long dl), .second, .val (.long ya), .second, .val (.long yb), .second, .val (.long yc), .second, .val (.long fd), .second, .val (.int dd), .val (.int ff), .val (.int fg), .val (.long fh), .second, .val (.int fi), .val (.int fj), .val (.long fk), .second, .val (.ref b1), .val (.int kk), .val (.int di), .val (.long ga), .second, .val (.long gb), .second, .val (.long gc), .second, .val (.long gd), .second, .val (.int ge), .val (.int gf), .val (.int gg), .val (.long gh), .second, .val (.int gi), .val (.int gj), .val (.long gk), .second, .unset, .unset, .unset] [(.long gd), (.long gc), (.long gb), (.long ga), (.ref b37), (.ref b37)]))
                        refine Go.st (fun _ k' => XS.iload X37.here hx rfl (hb hby at_318) rfl k') ?_
                        show Go p e below s _ _ _ (T37.setTop (mkF m 320 #[.val (.long ya), .second, .val (.long yb), .second, .val (.long yc), .second, .val (.int dd), .val (.int sel), .val (.long dl), .second, .val (.long ya), .second, .val (.long yb), .second, .val (.long yc), .second, .val (.long fd), .second, .val (.int dd), .val (.int ff), .val (.int fg), .val (.long fh), .second, .val (.int fi), .val (.int fj), .val (.long fk), .second, .val (.ref b1), .val (.int kk), .val (.int di), .val (.long ga), .second, .val (.long gb), .second, .val (.long gc), .second, .val (.long gd), .second, .val (.int ge), .val (.int gf), .val (.int gg), .val (.long gh), .second, .val (.int gi), .val (.int gj), .val (.long gk), .second, .unset, .unset, .unset] [(.int ge), (.long gd), (.long gc), (.long gb), (.long ga), (.ref b37), (.ref b37)]))
                        refine Go.st (fun _ k' => XS.iload X37.here hx rfl (hb hby at_320) rfl k') ?_
                        show Go p e below s _ _ _ (T37.setTop (mkF m 322 #[.val (.long ya), .second, .val (.long yb), .second, .val (.long yc), .second, .val (.int dd), .val (.int sel), .val (.long dl), .second, .val (.long ya), .second, .val (.long yb), .second, .val (.long yc), .second, .val (.long fd), .second, .val (.int dd), .val (.int ff), .val (.int fg), .val (.long fh), .second, .val (.int fi), .val (.int fj), .val (.long fk), .second, .val (.ref b1), .val (.int kk), .val (.int di), .val (.long ga), .second, .val (.long gb), .second, .val (.long gc), .second, .val (.long gd), .second, .val (.int ge), .val (.int gf), .val (.int gg), .val (.long gh), .second, .val (.int gi), .val (.int gj), .val (.long gk), .second, .unset, .unset, .unset] [(.int gf), (.int ge), (.long gd), (.long gc), (.long gb), (.long ga), (.ref b37), (.ref b37)]))
                        refine Go.st (fun _ k' => XS.iload X37.here hx rfl (hb hby at_322) rfl k') ?_
                        show Go p e below s _ _ _ (T37.setTop (mkF m 324 #[.val (.long ya), .second, .val (.long yb), .second, .val (.long yc), .second, .val (.int dd), .val (.int sel), .val (.long dl), .second, .val (.long ya), .second, .val (.long yb), .second, .val (.long yc), .second, .val (.long fd), .second, .val (.int dd), .val (.int ff), .val (.int fg), .val (.long fh), .second, .val (.int fi), .val (.int fj), .val (.long fk), .second, .val (.ref b1), .val (.int kk), .val (.int di), .val (.long ga), .second, .val (.long gb), .second, .val (.long gc), .second, .val (.long gd), .second, .val (.int ge), .val (.int gf), .val (.int gg), .val (.long gh), .second, .val (.int gi), .val (.int gj), .val (.long gk), .second, .unset, .unset, .unset] [(.int gg), (.int gf), (.int ge), (.long gd), (.long gc), (.long gb), (.long ga), (.ref b37), (.ref b37)]))
                        refine Go.st (fun _ k' => XS.lload X37.here hx rfl (hb hby at_324) rfl k') ?_
                        show Go p e below s _ _ _ (T37.setTop (mkF m 326 #[.val (.long ya), .second, .val (.long yb), .second, .val (.long yc), .second, .val (.int dd), .val (.int sel), .val (.long dl), .second, .val (.long ya), .second, .val (.long yb), .second, .val (.long yc), .second, .val (.long fd), .second, .val (.int dd), .val (.int ff), .val (.int fg), .val (.long fh), .second, .val (.int fi), .val (.int fj), .val (.long fk), .second, .val (.ref b1), .val (.int kk), .val (.int di), .val (.long ga), .second, .val (.long gb), .second, .val (.long gc), .second, .val (.long gd), .second, .val (.int ge), .val (.int gf), .val (.int gg), .val (.long gh), .second, .val (.int gi), .val (.int gj), .val (.long gk), .second, .unset, .unset, .unset] [(.long gh), (.int gg), (.int gf), (.int ge), (.long gd), (.long gc), (.long gb), (.long ga), (.ref b37), (.ref b37)]))
                        refine Go.st (fun _ k' => XS.iload X37.here hx rfl (hb hby at_326) rfl k') ?_
                        show Go p e below s _ _ _ (T37.setTop (mkF m 328 #[.val (.long ya), .second, .val (.long yb), .second, .val (.long yc), .second, .val (.int dd), .val (.int sel), .val (.long dl), .second, .val (.long ya), .second, .val (.long yb), .second, .val (.long yc), .second, .val (.long fd), .second, .val (.int dd), .val (.int ff), .val (.int fg), .val (.long fh), .second, .val (.int fi), .val (.int fj), .val (.long fk), .second, .val (.ref b1), .val (.int kk), .val (.int di), .val (.long ga), .second, .val (.long gb), .second, .val (.long gc), .second, .val (.long gd), .second, .val (.int ge), .val (.int gf), .val (.int gg), .val (.long gh), .second, .val (.int gi), .val (.int gj), .val (.long gk), .second, .unset, .unset, .unset] [(.int gi), (.long gh), (.int gg), (.int gf), (.int ge), (.long gd), (.long gc), (.long gb), (.long ga), (.ref b37), (.ref b37)]))
                        refine Go.st (fun _ k' => XS.iload X37.here hx rfl (hb hby at_328) rfl k') ?_
                        show Go p e below s _ _ _ (T37.setTop (mkF m 330 #[.val (.long ya), .second, .val (.long yb), .second, .val (.long yc), .second, .val (.int dd), .val (.int sel), .val (.long dl), .second, .val (.long ya), .second, .val (.long yb), .second, .val (.long yc), .second, .val (.long fd), .second, .val (.int dd), .val (.int ff), .val (.int fg), .val (.long fh), .second, .val (.int fi), .val (.int fj), .val (.long fk), .second, .val (.ref b1), .val (.int kk), .val (.int di), .val (.long ga), .second, .val (.long gb), .second, .val (.long gc), .second, .val (.long gd), .second, .val (.int ge), .val (.int gf), .val (.int gg), .val (.long gh), .second, .val (.int gi), .val (.int gj), .val (.long gk), .second, .unset, .unset, .unset] [(.int gj), (.int gi), (.long gh), (.int gg), (.int gf), (.int ge), (.long gd), (.long gc), (.long gb), (.long ga), (.ref b37), (.ref b37)]))
                        refine Go.st (fun _ k' => XS.lload X37.here hx rfl (hb hby at_330) rfl k') ?_
                        show Go p e below s _ _ _ (T37.setTop (mkF m 332 #[.val (.long ya), .second, .val (.long yb), .second, .val (.long yc), .second, .val (.int dd), .val (.int sel), .val (.long dl), .second, .val (.long ya), .second, .val (.long yb), .second, .val (.long yc), .second, .val (.long fd), .second, .val (.int dd), .val (.int ff), .val (.int fg), .val (.long fh), .second, .val (.int fi), .val (.int fj), .val (.long fk), .second, .val (.ref b1), .val (.int kk), .val (.int di), .val (.long ga), .second, .val (.long gb), .second, .val (.long gc), .second, .val (.long gd), .second, .val (.int ge), .val (.int gf), .val (.int gg), .val (.long gh), .second, .val (.int gi), .val (.int gj), .val (.long gk), .second, .unset, .unset, .unset] [(.long gk), (.int gj), (.int gi), (.long gh), (.int gg), (.int gf), (.int ge), (.long gd), (.long gc), (.long gb), (.long ga), (.ref b37), (.ref b37)]))
                        obtain ⟨_, _, ⟨T62, L62, k62, n62⟩, -, X62, ⟨Lc62, hQ62, l62, y62, z62⟩, st62⟩ := X37.specialBack hx (y := (⟨"com/example/exact_quorum/exactquorum/protocol/Stat", "<init>", "(JJJJIIIJIIJ)V"⟩ : MethodName)) rfl hown (mvT hZ (wdx hw 3 rfl)) (mvT hZ (wdx hw 4 rfl)) (mvT hZ (wdx hw 5 rfl)) (by decide) (backOf (W := 1) (rm1 l Z a0 hw [] b37 ga gb gc gd ge gf gg gh gi gj gk h37 n0 O37 A37 f51 f52 f53 f54 f55 f56 f57 f58 f59 f60 f61 g_b37) hZ (wdx hw 5 rfl) (wdx hw 2 rfl) (by decide) (by decide)) (g := (mkF m 332 #[.val (.long ya), .second, .val (.long yb), .second, .val (.long yc), .second, .val (.int dd), .val (.int sel), .val (.long dl), .second, .val (.long ya), .second, .val (.long yb), .second, .val (.long yc), .second, .val (.long fd), .second, .val (.int dd), .val (.int ff), .val (.int fg), .val (.long fh), .second, .val (.int fi), .val (.int fj), .val (.long fk), .second, .val (.ref b1), .val (.int kk), .val (.int di), .val (.long ga), .second, .val (.long gb), .second, .val (.long gc), .second, .val (.long gd), .second, .val (.int ge), .val (.int gf), .val (.int gg), .val (.long gh), .second, .val (.int gi), .val (.int gj), .val (.long gk), .second, .unset, .unset, .unset] [(.long gk), (.int gj), (.int gi), (.long gh), (.int gg), (.int gf), (.int ge), (.long gd), (.long gc), (.long gb), (.long ga), (.ref b37), (.ref b37)])) rfl (by rw [hml]; rfl) (Steps.refl _) (a := b37) (argsL := [(.long ga), (.long gb), (.long gc), (.long gd), (.int ge), (.int gf), (.int gg), (.long gh), (.int gi), (.int gj), (.long gk)]) (rest := [(.ref b37)]) (lenOf pd__JJJJIIIJIIJ_V rfl) rfl (by show 2 * 0 + _ ≤ _; exact Nat.le_of_eq rfl) (hb hby at_332) (fun _ _ => ⟨rfl, e37, (by exact Nat.le_of_ble_eq_true rfl), (by exact Nat.le_of_ble_eq_true rfl)⟩)
                        dsimp only [Pt.U, Pt.locs, Pt.cells, Pt.slots] at X62 l62 y62 z62 st62 hQ62
                        subst l62 y62 z62
                        obtain ⟨rfl, Nq62, Kq62, f63, f64, f65, f66, f67, f68, f69, f70, f71, f72, f73⟩ := hQ62
                        have N62 := Fr.app N13 Nq62
                        refine Go.tr st62 ?_
                        have f74 : Exa Z T62.heap b1 "com/example/exact_quorum/exactquorum/protocol/Stat" := f39.keep Kq62
                        have f75 : Fld Z T62.heap b1 "com/example/exact_quorum/exactquorum/protocol/Stat" "czxid" "J" (.long ya) := f40.keep Kq62 (ninS ne38 nin0)
                        have f76 : Fld Z T62.heap b1 "com/example/exact_quorum/exactquorum/protocol/Stat" "mzxid" "J" (.long yb) := f41.keep Kq62 (ninS ne38 nin0)
                        have f77 : Fld Z T62.heap b1 "com/example/exact_quorum/exactquorum/protocol/Stat" "ctime" "J" (.long yc) := f42.keep Kq62 (ninS ne38 nin0)
                        have f78 : Fld Z T62.heap b1 "com/example/exact_quorum/exactquorum/protocol/Stat" "mtime" "J" (.long fd) := f43.keep Kq62 (ninS ne38 nin0)
                        have f79 : Fld Z T62.heap b1 "com/example/exact_quorum/exactquorum/protocol/Stat" "version" "I" (.int dd) := f44.keep Kq62 (ninS ne38 nin0)
                        have f80 : Fld Z T62.heap b1 "com/example/exact_quorum/exactquorum/protocol/Stat" "cversion" "I" (.int ff) := f45.keep Kq62 (ninS ne38 nin0)
                        have f81 : Fld Z T62.heap b1 "com/example/exact_quorum/exactquorum/protocol/Stat" "aversion" "I" (.int fg) := f46.keep Kq62 (ninS ne38 nin0)
                        have f82 : Fld Z T62.heap b1 "com/example/exact_quorum/exactquorum/protocol/Stat" "ephemeralOwner" "J" (.long fh) := f47.keep Kq62 (ninS ne38 nin0)
                        have f83 : Fld Z T62.heap b1 "com/example/exact_quorum/exactquorum/protocol/Stat" "dataLength" "I" (.int fi) := f48.keep Kq62 (ninS ne38 nin0)
                        have f84 : Fld Z T62.heap b1 "com/example/exact_quorum/exactquorum/protocol/Stat" "numChildren" "I" (.int fj) := f49.keep Kq62 (ninS ne38 nin0)
                        have f85 : Fld Z T62.heap b1 "com/example/exact_quorum/exactquorum/protocol/Stat" "pzxid" "J" (.long fk) := f50.keep Kq62 (ninS ne38 nin0)
                        have f86 : Exa Z T62.heap b37 "com/example/exact_quorum/exactquorum/protocol/Stat" := A37.keep Kq62
                        have O62 : Old Z n0 T62.heap := O37.keep Kq62 (allS g_b37 all0)
                        show Go p e below s _ _ _ (T62.setTop (mkF m 335 #[.val (.long ya), .second, .val (.long yb), .second, .val (.long yc), .second, .val (.int dd), .val (.int sel), .val (.long dl), .second, .val (.long ya), .second, .val (.long yb), .second, .val (.long yc), .second, .val (.long fd), .second, .val (.int dd), .val (.int ff), .val (.int fg), .val (.long fh), .second, .val (.int fi), .val (.int fj), .val (.long fk), .second, .val (.ref b1), .val (.int kk), .val (.int di), .val (.long ga), .second, .val (.long gb), .second, .val (.long gc), .second, .val (.long gd), .second, .val (.int ge), .val (.int gf), .val (.int gg), .val (.long gh), .second, .val (.int gi), .val (.int gj), .val (.long gk), .second, .unset, .unset, .unset] [(.ref b37)]))
                        refine Go.st (fun _ k' => XS.astore X62.here hx rfl (hb hby at_335) rfl rfl (l' := #[.val (.long ya), .second, .val (.long yb), .second, .val (.long yc), .second, .val (.int dd), .val (.int sel), .val (.long dl), .second, .val (.long ya), .second, .val (.long yb), .second, .val (.long yc), .second, .val (.long fd), .second, .val (.int dd), .val (.int ff), .val (.int fg), .val (.long fh), .second, .val (.int fi), .val (.int fj), .val (.long fk), .second, .val (.ref b1), .val (.int kk), .val (.int di), .val (.long ga), .second, .val (.long gb), .second, .val (.long gc), .second, .val (.long gd), .second, .val (.int ge), .val (.int gf), .val (.int gg), .val (.long gh), .second, .val (.int gi), .val (.int gj), .val (.long gk), .second, .val (.ref b37), .unset, .unset]) rfl k') ?_
                        show Go p e below s _ _ _ (T62.setTop (mkF m 337 #[.val (.long ya), .second, .val (.long yb), .second, .val (.long yc), .second, .val (.int dd), .val (.int sel), .val (.long dl), .second, .val (.long ya), .second, .val (.long yb), .second, .val (.long yc), .second, .val (.long fd), .second, .val (.int dd), .val (.int ff), .val (.int fg), .val (.long fh), .second, .val (.int fi), .val (.int fj), .val (.long fk), .second, .val (.ref b1), .val (.int kk), .val (.int di), .val (.long ga), .second, .val (.long gb), .second, .val (.long gc), .second, .val (.long gd), .second, .val (.int ge), .val (.int gf), .val (.int gg), .val (.long gh), .second, .val (.int gi), .val (.int gj), .val (.long gk), .second, .val (.ref b37), .unset, .unset] []))
                        have J87 : ∀ (TJ87' : State) (lJ87' : List Loc) (XJ87' : Stand p l e room_1 s m #[(.long ya), (.long yb), (.long yc), (.int dd), (.int sel), (.long dl)] below meth c TJ87' lJ87' 2 22) (eJ87' : TJ87'.heap = T62.heap) (NJ87' : Fr n0 lJ87') (xe : Int32) (r_xe : xe = fexp kk di dl), Go p e below s 16 128 (Q0 Z ya yb yc dd sel dl ca cb h0 n0) (TJ87'.setTop (mkF m 387 #[.val (.long ya), .second, .val (.long yb), .second, .val (.long yc), .second, .val (.int dd), .val (.int sel), .val (.long dl), .second, .val (.long ya), .second, .val (.long yb), .second, .val (.long yc), .second, .val (.long fd), .second, .val (.int dd), .val (.int ff), .val (.int fg), .val (.long fh), .second, .val (.int fi), .val (.int fj), .val (.long fk), .second, .val (.ref b1), .val (.int kk), .val (.int di), .val (.long ga), .second, .val (.long gb), .second, .val (.long gc), .second, .val (.long gd), .second, .val (.int ge), .val (.int gf), .val (.int gg), .val (.long gh), .second, .val (.int gi), .val (.int gj), .val (.long gk), .second, .val (.ref b37), .val (.int xe), .unset] [])) := by
                          intro TJ87' lJ87' XJ87' eJ87' NJ87' xe r_xe
                          show Go p e below s _ _ _ (TJ87'.setTop (mkF m 387 #[.val (.long ya), .second, .val (.long yb), .second, .val (.long yc), .second, .val (.int dd), .val (.int sel), .val (.long dl), .second, .val (.long ya), .second, .val (.long yb), .second, .val (.long yc), .second, .val (.long fd), .second, .val (.int dd), .val (.int ff), .val (.int fg), .val (.long fh), .second, .val (.int fi), .val (.int fj), .val (.long fk), .second, .val (.ref b1), .val (.int kk), .val (.int di), .val (.long ga), .second, .val (.long gb), .second, .val (.long gc), .second, .val (.long gd), .second, .val (.int ge), .val (.int gf), .val (.int gg), .val (.long gh), .second, .val (.int gi), .val (.int gj), .val (.long gk), .second, .val (.ref b37), .val (.int xe), .unset] []))
                          refine Go.st (fun _ k' => XS.iload XJ87'.here hx rfl (hb hby at_387) rfl k') ?_
                          show Go p e below s _ _ _ (TJ87'.setTop (mkF m 389 #[.val (.long ya), .second, .val (.long yb), .second, .val (.long yc), .second, .val (.int dd), .val (.int sel), .val (.long dl), .second, .val (.long ya), .second, .val (.long yb), .second, .val (.long yc), .second, .val (.long fd), .second, .val (.int dd), .val (.int ff), .val (.int fg), .val (.long fh), .second, .val (.int fi), .val (.int fj), .val (.long fk), .second, .val (.ref b1), .val (.int kk), .val (.int di), .val (.long ga), .second, .val (.long gb), .second, .val (.long gc), .second, .val (.long gd), .second, .val (.int ge), .val (.int gf), .val (.int gg), .val (.long gh), .second, .val (.int gi), .val (.int gj), .val (.long gk), .second, .val (.ref b37), .val (.int xe), .unset] [(.int sel)]))
                          refine Go.st (fun _ k' => XS.iconst XJ87'.here hx rfl (hb hby at_389) k') ?_
                          show Go p e below s _ _ _ (TJ87'.setTop (mkF m 390 #[.val (.long ya), .second, .val (.long yb), .second, .val (.long yc), .second, .val (.int dd), .val (.int sel), .val (.long dl), .second, .val (.long ya), .second, .val (.long yb), .second, .val (.long yc), .second, .val (.long fd), .second, .val (.int dd), .val (.int ff), .val (.int fg), .val (.long fh), .second, .val (.int fi), .val (.int fj), .val (.long fk), .second, .val (.ref b1), .val (.int kk), .val (.int di), .val (.long ga), .second, .val (.long gb), .second, .val (.long gc), .second, .val (.long gd), .second, .val (.int ge), .val (.int gf), .val (.int gg), .val (.long gh), .second, .val (.int gi), .val (.int gj), .val (.long gk), .second, .val (.ref b37), .val (.int xe), .unset] [(.int (4 : Int32)), (.int sel)]))
                          refine Go.st (fun _ k' => XS.iushr XJ87'.here hx rfl (hb hby at_390) rfl k') ?_
                          show Go p e below s _ _ _ (TJ87'.setTop (mkF m 391 #[.val (.long ya), .second, .val (.long yb), .second, .val (.long yc), .second, .val (.int dd), .val (.int sel), .val (.long dl), .second, .val (.long ya), .second, .val (.long yb), .second, .val (.long yc), .second, .val (.long fd), .second, .val (.int dd), .val (.int ff), .val (.int fg), .val (.long fh), .second, .val (.int fi), .val (.int fj), .val (.long fk), .second, .val (.ref b1), .val (.int kk), .val (.int di), .val (.long ga), .second, .val (.long gb), .second, .val (.long gc), .second, .val (.long gd), .second, .val (.int ge), .val (.int gf), .val (.int gg), .val (.long gh), .second, .val (.int gi), .val (.int gj), .val (.long gk), .second, .val (.ref b37), .val (.int xe), .unset] [(.int ((sel.toUInt32 >>> ((4 : Int32) &&& 31).toUInt32).toInt32))]))
                          refine Go.st (fun _ k' => XS.iconst XJ87'.here hx rfl (hb hby at_391) k') ?_
                          show Go p e below s _ _ _ (TJ87'.setTop (mkF m 392 #[.val (.long ya), .second, .val (.long yb), .second, .val (.long yc), .second, .val (.int dd), .val (.int sel), .val (.long dl), .second, .val (.long ya), .second, .val (.long yb), .second, .val (.long yc), .second, .val (.long fd), .second, .val (.int dd), .val (.int ff), .val (.int fg), .val (.long fh), .second, .val (.int fi), .val (.int fj), .val (.long fk), .second, .val (.ref b1), .val (.int kk), .val (.int di), .val (.long ga), .second, .val (.long gb), .second, .val (.long gc), .second, .val (.long gd), .second, .val (.int ge), .val (.int gf), .val (.int gg), .val (.long gh), .second, .val (.int gi), .val (.int gj), .val (.long gk), .second, .val (.ref b37), .val (.int xe), .unset] [(.int (3 : Int32)), (.int ((sel.toUInt32 >>> ((4 : Int32) &&& 31).toUInt32).toInt32))]))
                          refine Go.st (fun _ k' => XS.iand XJ87'.here hx rfl (hb hby at_392) rfl k') ?_
                          show Go p e below s _ _ _ (TJ87'.setTop (mkF m 393 #[.val (.long ya), .second, .val (.long yb), .second, .val (.long yc), .second, .val (.int dd), .val (.int sel), .val (.long dl), .second, .val (.long ya), .second, .val (.long yb), .second, .val (.long yc), .second, .val (.long fd), .second, .val (.int dd), .val (.int ff), .val (.int fg), .val (.long fh), .second, .val (.int fi), .val (.int fj), .val (.long fk), .second, .val (.ref b1), .val (.int kk), .val (.int di), .val (.long ga), .second, .val (.long gb), .second, .val (.long gc), .second, .val (.long gd), .second, .val (.int ge), .val (.int gf), .val (.int gg), .val (.long gh), .second, .val (.int gi), .val (.int gj), .val (.long gk), .second, .val (.ref b37), .val (.int xe), .unset] [(.int (((sel.toUInt32 >>> ((4 : Int32) &&& 31).toUInt32).toInt32) &&& (3 : Int32)))]))
                          refine Go.st (fun _ k' => XS.istore XJ87'.here hx rfl (hb hby at_393) rfl (l' := #[.val (.long ya), .second, .val (.long yb), .second, .val (.long yc), .second, .val (.int dd), .val (.int sel), .val (.long dl), .second, .val (.long ya), .second, .val (.long yb), .second, .val (.long yc), .second, .val (.long fd), .second, .val (.int dd), .val (.int ff), .val (.int fg), .val (.long fh), .second, .val (.int fi), .val (.int fj), .val (.long fk), .second, .val (.ref b1), .val (.int kk), .val (.int di), .val (.long ga), .second, .val (.long gb), .second, .val (.long gc), .second, .val (.long gd), .second, .val (.int ge), .val (.int gf), .val (.int gg), .val (.long gh), .second, .val (.int gi), .val (.int gj), .val (.long gk), .second, .val (.ref b37), .val (.int xe), .val (.int (((sel.toUInt32 >>> ((4 : Int32) &&& 31).toUInt32).toInt32) &&& (3 : Int32)))]) rfl k') ?_
                          show Go p e below s _ _ _ (TJ87'.setTop (mkF m 395 #[.val (.long ya), .second, .val (.long yb), .second, .val (.long yc), .second, .val (.int dd), .val (.int sel), .val (.long dl), .second, .val (.long ya), .second, .val (.long yb), .second, .val (.long yc), .second, .val (.long fd), .second, .val (.int dd), .val (.int ff), .val (.int fg), .val (.long fh), .second, .val (.int fi), .val (.int fj), .val (.long fk), .second, .val (.ref b1), .val (.int kk), .val (.int di), .val (.long ga), .second, .val (.long gb), .second, .val (.long gc), .second, .val (.long gd), .second, .val (.int ge), .val (.int gf), .val (.int gg), .val (.long gh), .second, .val (.int gi), .val (.int gj), .val (.long gk), .second, .val (.ref b37), .val (.int xe), .val (.int (((sel.toUInt32 >>> ((4 : Int32) &&& 31).toUInt32).toInt32) &&& (3 : Int32)))] []))
                          obtain ⟨md, hd_md⟩ : ∃ z, z = (((sel.toUInt32 >>> ((4 : Int32) &&& 31).toUInt32).toInt32) &&& (3 : Int32)) := ⟨_, rfl⟩
                          rw [← hd_md]
                          have hmain := own_main kk di dl ya yb yc fd dd ff fg fh fi fj fk ga gb gc gd ge gf gg gh gi gj gk xe bk r_ga r_gb r_gc r_gd r_ge r_gf r_gg r_gh r_gi r_gj r_gk r_xe
                          show Go p e below s _ _ _ (TJ87'.setTop (mkF m 395 #[.val (.long ya), .second, .val (.long yb), .second, .val (.long yc), .second, .val (.int dd), .val (.int sel), .val (.long dl), .second, .val (.long ya), .second, .val (.long yb), .second, .val (.long yc), .second, .val (.long fd), .second, .val (.int dd), .val (.int ff), .val (.int fg), .val (.long fh), .second, .val (.int fi), .val (.int fj), .val (.long fk), .second, .val (.ref b1), .val (.int kk), .val (.int di), .val (.long ga), .second, .val (.long gb), .second, .val (.long gc), .second, .val (.long gd), .second, .val (.int ge), .val (.int gf), .val (.int gg), .val (.long gh), .second, .val (.int gi), .val (.int gj), .val (.long gk), .second, .val (.ref b37), .val (.int xe), .val (.int md)] []))
                          refine Go.st (fun _ k' => XS.iload XJ87'.here hx rfl (hb hby at_395) rfl k') ?_
                          show Go p e below s _ _ _ (TJ87'.setTop (mkF m 397 #[.val (.long ya), .second, .val (.long yb), .second, .val (.long yc), .second, .val (.int dd), .val (.int sel), .val (.long dl), .second, .val (.long ya), .second, .val (.long yb), .second, .val (.long yc), .second, .val (.long fd), .second, .val (.int dd), .val (.int ff), .val (.int fg), .val (.long fh), .second, .val (.int fi), .val (.int fj), .val (.long fk), .second, .val (.ref b1), .val (.int kk), .val (.int di), .val (.long ga), .second, .val (.long gb), .second, .val (.long gc), .second, .val (.long gd), .second, .val (.int ge), .val (.int gf), .val (.int gg), .val (.long gh), .second, .val (.int gi), .val (.int gj), .val (.long gk), .second, .val (.ref b37), .val (.int xe), .val (.int md)] [(.int md)]))
                          refine Go.st (fun _ k' => XS.iconst XJ87'.here hx rfl (hb hby at_397) k') ?_
                          show Go p e below s _ _ _ (TJ87'.setTop (mkF m 398 #[.val (.long ya), .second, .val (.long yb), .second, .val (.long yc), .second, .val (.int dd), .val (.int sel), .val (.long dl), .second, .val (.long ya), .second, .val (.long yb), .second, .val (.long yc), .second, .val (.long fd), .second, .val (.int dd), .val (.int ff), .val (.int fg), .val (.long fh), .second, .val (.int fi), .val (.int fj), .val (.long fk), .second, .val (.ref b1), .val (.int kk), .val (.int di), .val (.long ga), .second, .val (.long gb), .second, .val (.long gc), .second, .val (.long gd), .second, .val (.int ge), .val (.int gf), .val (.int gg), .val (.long gh), .second, .val (.int gi), .val (.int gj), .val (.long gk), .second, .val (.ref b37), .val (.int xe), .val (.int md)] [(.int (2 : Int32)), (.int md)]))
                          by_cases hc88 : md = (2 : Int32)
                          · refine Go.st (fun _ k' => XS.icmpNo XJ87'.here hx rfl (hb hby at_398) rfl (XT.ii_ne_f hc88) k') ?_
                            show Go p e below s _ _ _ (TJ87'.setTop (mkF m 401 #[.val (.long ya), .second, .val (.long yb), .second, .val (.long yc), .second, .val (.int dd), .val (.int sel), .val (.long dl), .second, .val (.long ya), .second, .val (.long yb), .second, .val (.long yc), .second, .val (.long fd), .second, .val (.int dd), .val (.int ff), .val (.int fg), .val (.long fh), .second, .val (.int fi), .val (.int fj), .val (.long fk), .second, .val (.ref b1), .val (.int kk), .val (.int di), .val (.long ga), .second, .val (.long gb), .second, .val (.long gc), .second, .val (.long gd), .second, .val (.int ge), .val (.int gf), .val (.int gg), .val (.long gh), .second, .val (.int gi), .val (.int gj), .val (.long gk), .second, .val (.ref b37), .val (.int xe), .val (.int md)] []))
                            refine Go.st (fun _ k' => XS.aload XJ87'.here hx rfl (hb hby at_401) rfl rfl k') ?_
                            show Go p e below s _ _ _ (TJ87'.setTop (mkF m 403 #[.val (.long ya), .second, .val (.long yb), .second, .val (.long yc), .second, .val (.int dd), .val (.int sel), .val (.long dl), .second, .val (.long ya), .second, .val (.long yb), .second, .val (.long yc), .second, .val (.long fd), .second, .val (.int dd), .val (.int ff), .val (.int fg), .val (.long fh), .second, .val (.int fi), .val (.int fj), .val (.long fk), .second, .val (.ref b1), .val (.int kk), .val (.int di), .val (.long ga), .second, .val (.long gb), .second, .val (.long gc), .second, .val (.long gd), .second, .val (.int ge), .val (.int gf), .val (.int gg), .val (.long gh), .second, .val (.int gi), .val (.int gj), .val (.long gk), .second, .val (.ref b37), .val (.int xe), .val (.int md)] [(.ref b1)]))
                            refine Go.st (fun _ k' => XS.aconstNull XJ87'.here hx rfl (hb hby at_403) k') ?_
                            show Go p e below s _ _ _ (TJ87'.setTop (mkF m 404 #[.val (.long ya), .second, .val (.long yb), .second, .val (.long yc), .second, .val (.int dd), .val (.int sel), .val (.long dl), .second, .val (.long ya), .second, .val (.long yb), .second, .val (.long yc), .second, .val (.long fd), .second, .val (.int dd), .val (.int ff), .val (.int fg), .val (.long fh), .second, .val (.int fi), .val (.int fj), .val (.long fk), .second, .val (.ref b1), .val (.int kk), .val (.int di), .val (.long ga), .second, .val (.long gb), .second, .val (.long gc), .second, .val (.long gd), .second, .val (.int ge), .val (.int gf), .val (.int gg), .val (.long gh), .second, .val (.int gi), .val (.int gj), .val (.long gk), .second, .val (.ref b37), .val (.int xe), .val (.int md)] [.null, (.ref b1)]))
                            obtain ⟨cq89, kq89, q89a, q89b, q89c⟩ := isOf hZ eJ87' f74
                            obtain ⟨_, _, ⟨T89, L89, k89, n89⟩, -, X89, ⟨Lc89, hQ89, l89, y89, z89⟩, st89⟩ := XJ87'.virtualBack hx (y := (⟨"com/example/exact_quorum/exactquorum/protocol/Stat", "equals", "(Ljava/lang/Object;)Z"⟩ : MethodName)) (z := (⟨"com/example/exact_quorum/exactquorum/protocol/Stat", "equals", "(Ljava/lang/Object;)Z"⟩ : MethodName)) hown (mvT hZ (wdx hw 35 rfl)) (mvT hZ (wdx hw 36 rfl)) (notFace_of_selects (args := #[]) (mvT hZ (wdx hw 38 rfl))) (mvT hZ (wdx hw 38 rfl)) (mvT hZ (wdx hw 37 rfl)) (by decide) (backOf (W := 0) (rm4_n l Z a0 hw [] b1 T62.heap n0 O62 ) hZ (wdx hw 39 rfl) (wdx hw 2 rfl) (by decide) (by decide)) q89a q89c (g := (mkF m 404 #[.val (.long ya), .second, .val (.long yb), .second, .val (.long yc), .second, .val (.int dd), .val (.int sel), .val (.long dl), .second, .val (.long ya), .second, .val (.long yb), .second, .val (.long yc), .second, .val (.long fd), .second, .val (.int dd), .val (.int ff), .val (.int fg), .val (.long fh), .second, .val (.int fi), .val (.int fj), .val (.long fk), .second, .val (.ref b1), .val (.int kk), .val (.int di), .val (.long ga), .second, .val (.long gb), .second, .val (.long gc), .second, .val (.long gd), .second, .val (.int ge), .val (.int gf), .val (.int gg), .val (.long gh), .second, .val (.int gi), .val (.int gj), .val (.long gk), .second, .val (.ref b37), .val (.int xe), .val (.int md)] [.null, (.ref b1)])) rfl (by rw [hml]; rfl) (Steps.refl _) (argsL := [.null]) (rest := []) (lenOf pd__Ljava_lang_Object__Z rfl) rfl (by show 2 * 0 + _ ≤ _; exact Nat.le_of_eq rfl) (hb hby at_404) (fun _ _ => ⟨rfl, eJ87', (by exact Nat.le_of_ble_eq_true rfl), (by exact Nat.le_of_ble_eq_true rfl)⟩)
                            dsimp only [Pt.U, Pt.locs, Pt.cells, Pt.slots] at X89 l89 y89 z89 st89 hQ89
                            subst l89 y89 z89
                            obtain ⟨rfl, Nq89, eq89⟩ := hQ89
                            have N89 := Fr.app NJ87' Nq89
                            refine Go.tr st89 ?_
                            show Go p e below s _ _ _ (T89.setTop (mkF m 407 #[.val (.long ya), .second, .val (.long yb), .second, .val (.long yc), .second, .val (.int dd), .val (.int sel), .val (.long dl), .second, .val (.long ya), .second, .val (.long yb), .second, .val (.long yc), .second, .val (.long fd), .second, .val (.int dd), .val (.int ff), .val (.int fg), .val (.long fh), .second, .val (.int fi), .val (.int fj), .val (.long fk), .second, .val (.ref b1), .val (.int kk), .val (.int di), .val (.long ga), .second, .val (.long gb), .second, .val (.long gc), .second, .val (.long gd), .second, .val (.int ge), .val (.int gf), .val (.int gg), .val (.long gh), .second, .val (.int gi), .val (.int gj), .val (.long gk), .second, .val (.ref b37), .val (.int xe), .val (.int md)] [(.int (0 : Int32))]))
                            refine Go.st (fun _ k' => XS.ifNo X89.here hx rfl (hb hby at_407) rfl (XT.i0_ne_f (by decide)) k') ?_
                            show Go p e below s _ _ _ (T89.setTop (mkF m 410 #[.val (.long ya), .second, .val (.long yb), .second, .val (.long yc), .second, .val (.int dd), .val (.int sel), .val (.long dl), .second, .val (.long ya), .second, .val (.long yb), .second, .val (.long yc), .second, .val (.long fd), .second, .val (.int dd), .val (.int ff), .val (.int fg), .val (.long fh), .second, .val (.int fi), .val (.int fj), .val (.long fk), .second, .val (.ref b1), .val (.int kk), .val (.int di), .val (.long ga), .second, .val (.long gb), .second, .val (.long gc), .second, .val (.long gd), .second, .val (.int ge), .val (.int gf), .val (.int gg), .val (.long gh), .second, .val (.int gi), .val (.int gj), .val (.long gk), .second, .val (.ref b37), .val (.int xe), .val (.int md)] []))
                            refine Go.st (fun _ k' => XS.aload X89.here hx rfl (hb hby at_410) rfl rfl k') ?_
                            show Go p e below s _ _ _ (T89.setTop (mkF m 412 #[.val (.long ya), .second, .val (.long yb), .second, .val (.long yc), .second, .val (.int dd), .val (.int sel), .val (.long dl), .second, .val (.long ya), .second, .val (.long yb), .second, .val (.long yc), .second, .val (.long fd), .second, .val (.int dd), .val (.int ff), .val (.int fg), .val (.long fh), .second, .val (.int fi), .val (.int fj), .val (.long fk), .second, .val (.ref b1), .val (.int kk), .val (.int di), .val (.long ga), .second, .val (.long gb), .second, .val (.long gc), .second, .val (.long gd), .second, .val (.int ge), .val (.int gf), .val (.int gg), .val (.long gh), .second, .val (.int gi), .val (.int gj), .val (.long gk), .second, .val (.ref b37), .val (.int xe), .val (.int md)] [(.ref b1)]))
                            refine Go.st (fun _ k' => XS.aload X89.here hx rfl (hb hby at_412) rfl rfl k') ?_
                            show Go p e below s _ _ _ (T89.setTop (mkF m 414 #[.val (.long ya), .second, .val (.long yb), .second, .val (.long yc), .second, .val (.int dd), .val (.int sel), .val (.long dl), .second, .val (.long ya), .second, .val (.long yb), .second, .val (.long yc), .second, .val (.long fd), .second, .val (.int dd), .val (.int ff), .val (.int fg), .val (.long fh), .second, .val (.int fi), .val (.int fj), .val (.long fk), .second, .val (.ref b1), .val (.int kk), .val (.int di), .val (.long ga), .second, .val (.long gb), .second, .val (.long gc), .second, .val (.long gd), .second, .val (.int ge), .val (.int gf), .val (.int gg), .val (.long gh), .second, .val (.int gi), .val (.int gj), .val (.long gk), .second, .val (.ref b37), .val (.int xe), .val (.int md)] [(.ref b1), (.ref b1)]))
                            obtain ⟨cq90, kq90, q90a, q90b, q90c⟩ := isOf hZ eq89 f74
                            obtain ⟨_, _, ⟨T90, L90, k90, n90⟩, -, X90, ⟨Lc90, hQ90, l90, y90, z90⟩, st90⟩ := X89.virtualBack hx (y := (⟨"com/example/exact_quorum/exactquorum/protocol/Stat", "equals", "(Ljava/lang/Object;)Z"⟩ : MethodName)) (z := (⟨"com/example/exact_quorum/exactquorum/protocol/Stat", "equals", "(Ljava/lang/Object;)Z"⟩ : MethodName)) hown (mvT hZ (wdx hw 35 rfl)) (mvT hZ (wdx hw 36 rfl)) (notFace_of_selects (args := #[]) (mvT hZ (wdx hw 38 rfl))) (mvT hZ (wdx hw 38 rfl)) (mvT hZ (wdx hw 37 rfl)) (by decide) (backOf (W := 0) (rm4 l Z a0 hw [] b1 b1 ya yb yc fd dd ff fg fh fi fj fk ya yb yc fd dd ff fg fh fi fj fk T62.heap n0 O62 f74 f75 f76 f77 f78 f79 f80 f81 f82 f83 f84 f85 f75 f76 f77 f78 f79 f80 f81 f82 f83 f84 f85) hZ (wdx hw 39 rfl) (wdx hw 2 rfl) (by decide) (by decide)) q90a q90c (g := (mkF m 414 #[.val (.long ya), .second, .val (.long yb), .second, .val (.long yc), .second, .val (.int dd), .val (.int sel), .val (.long dl), .second, .val (.long ya), .second, .val (.long yb), .second, .val (.long yc), .second, .val (.long fd), .second, .val (.int dd), .val (.int ff), .val (.int fg), .val (.long fh), .second, .val (.int fi), .val (.int fj), .val (.long fk), .second, .val (.ref b1), .val (.int kk), .val (.int di), .val (.long ga), .second, .val (.long gb), .second, .val (.long gc), .second, .val (.long gd), .second, .val (.int ge), .val (.int gf), .val (.int gg), .val (.long gh), .second, .val (.int gi), .val (.int gj), .val (.long gk), .second, .val (.ref b37), .val (.int xe), .val (.int md)] [(.ref b1), (.ref b1)])) rfl (by rw [hml]; rfl) (Steps.refl _) (argsL := [(.ref b1)]) (rest := []) (lenOf pd__Ljava_lang_Object__Z rfl) rfl (by show 2 * 0 + _ ≤ _; exact Nat.le_of_eq rfl) (hb hby at_414) (fun _ _ => ⟨rfl, eq89, (by exact Nat.le_of_ble_eq_true rfl), (by exact Nat.le_of_ble_eq_true rfl)⟩)
                            dsimp only [Pt.U, Pt.locs, Pt.cells, Pt.slots] at X90 l90 y90 z90 st90 hQ90
                            subst l90 y90 z90
                            obtain ⟨rfl, Nq90, eq90⟩ := hQ90
                            have N90 := Fr.app N89 Nq90
                            refine Go.tr st90 ?_
                            show Go p e below s _ _ _ (T90.setTop (mkF m 417 #[.val (.long ya), .second, .val (.long yb), .second, .val (.long yc), .second, .val (.int dd), .val (.int sel), .val (.long dl), .second, .val (.long ya), .second, .val (.long yb), .second, .val (.long yc), .second, .val (.long fd), .second, .val (.int dd), .val (.int ff), .val (.int fg), .val (.long fh), .second, .val (.int fi), .val (.int fj), .val (.long fk), .second, .val (.ref b1), .val (.int kk), .val (.int di), .val (.long ga), .second, .val (.long gb), .second, .val (.long gc), .second, .val (.long gd), .second, .val (.int ge), .val (.int gf), .val (.int gg), .val (.long gh), .second, .val (.int gi), .val (.int gj), .val (.long gk), .second, .val (.ref b37), .val (.int xe), .val (.int md)] [(.int (fst ya yb yc fd dd ff fg fh fi fj fk ya yb yc fd dd ff fg fh fi fj fk))]))
                            refine Go.st (fun _ k' => XS.ifNo X90.here hx rfl (hb hby at_417) rfl (XT.i0_eq_f (own_refl _ _ _ _ _ _ _ _ _ _ _)) k') ?_
                            show Go p e below s _ _ _ (T90.setTop (mkF m 420 #[.val (.long ya), .second, .val (.long yb), .second, .val (.long yc), .second, .val (.int dd), .val (.int sel), .val (.long dl), .second, .val (.long ya), .second, .val (.long yb), .second, .val (.long yc), .second, .val (.long fd), .second, .val (.int dd), .val (.int ff), .val (.int fg), .val (.long fh), .second, .val (.int fi), .val (.int fj), .val (.long fk), .second, .val (.ref b1), .val (.int kk), .val (.int di), .val (.long ga), .second, .val (.long gb), .second, .val (.long gc), .second, .val (.long gd), .second, .val (.int ge), .val (.int gf), .val (.int gg), .val (.long gh), .second, .val (.int gi), .val (.int gj), .val (.long gk), .second, .val (.ref b37), .val (.int xe), .val (.int md)] []))
                            refine Go.st (fun _ k' => XS.iconst X90.here hx rfl (hb hby at_420) k') ?_
                            show Go p e below s _ _ _ (T90.setTop (mkF m 421 #[.val (.long ya), .second, .val (.long yb), .second, .val (.long yc), .second, .val (.int dd), .val (.int sel), .val (.long dl), .second, .val (.long ya), .second, .val (.long yb), .second, .val (.long yc), .second, .val (.long fd), .second, .val (.int dd), .val (.int ff), .val (.int fg), .val (.long fh), .second, .val (.int fi), .val (.int fj), .val (.long fk), .second, .val (.ref b1), .val (.int kk), .val (.int di), .val (.long ga), .second, .val (.long gb), .second, .val (.long gc), .second, .val (.long gd), .second, .val (.int ge), .val (.int gf), .val (.int gg), .val (.long gh), .second, .val (.int gi), .val (.int gj), .val (.long gk), .second, .val (.ref b37), .val (.int xe), .val (.int md)] [(.int (1 : Int32))]))
                            refine Go.st (fun _ k' => XS.goto X90.here hx rfl (pc0 := 421) (pc' := 425) rfl (hb hby at_421) (by decide) (by decide) k') ?_
                            show Go p e below s _ _ _ (T90.setTop (mkF m 425 #[.val (.long ya), .second, .val (.long yb), .second, .val (.long yc), .second, .val (.int dd), .val (.int sel), .val (.long dl), .second, .val (.long ya), .second, .val (.long yb), .second, .val (.long yc), .second, .val (.long fd), .second, .val (.int dd), .val (.int ff), .val (.int fg), .val (.long fh), .second, .val (.int fi), .val (.int fj), .val (.long fk), .second, .val (.ref b1), .val (.int kk), .val (.int di), .val (.long ga), .second, .val (.long gb), .second, .val (.long gc), .second, .val (.long gd), .second, .val (.int ge), .val (.int gf), .val (.int gg), .val (.long gh), .second, .val (.int gi), .val (.int gj), .val (.long gk), .second, .val (.ref b37), .val (.int xe), .val (.int md)] [(.int (1 : Int32))]))
                            refine Go.retB X90 hx hlk (t := .boolean) Bd.returns (by simp) (hb hby at_425) (by decide) (by decide) eq90 ?_
                            exact ⟨rfl, N90, trivial⟩
                          · refine Go.st (fun _ k' => XS.icmpYes XJ87'.here hx rfl (pc0 := 398) (pc' := 426) rfl (hb hby at_398) rfl (XT.ii_ne_t hc88) (by decide) (by decide) k') ?_
                            show Go p e below s _ _ _ (TJ87'.setTop (mkF m 426 #[.val (.long ya), .second, .val (.long yb), .second, .val (.long yc), .second, .val (.int dd), .val (.int sel), .val (.long dl), .second, .val (.long ya), .second, .val (.long yb), .second, .val (.long yc), .second, .val (.long fd), .second, .val (.int dd), .val (.int ff), .val (.int fg), .val (.long fh), .second, .val (.int fi), .val (.int fj), .val (.long fk), .second, .val (.ref b1), .val (.int kk), .val (.int di), .val (.long ga), .second, .val (.long gb), .second, .val (.long gc), .second, .val (.long gd), .second, .val (.int ge), .val (.int gf), .val (.int gg), .val (.long gh), .second, .val (.int gi), .val (.int gj), .val (.long gk), .second, .val (.ref b37), .val (.int xe), .val (.int md)] []))
                            refine Go.st (fun _ k' => XS.iload XJ87'.here hx rfl (hb hby at_426) rfl k') ?_
                            show Go p e below s _ _ _ (TJ87'.setTop (mkF m 428 #[.val (.long ya), .second, .val (.long yb), .second, .val (.long yc), .second, .val (.int dd), .val (.int sel), .val (.long dl), .second, .val (.long ya), .second, .val (.long yb), .second, .val (.long yc), .second, .val (.long fd), .second, .val (.int dd), .val (.int ff), .val (.int fg), .val (.long fh), .second, .val (.int fi), .val (.int fj), .val (.long fk), .second, .val (.ref b1), .val (.int kk), .val (.int di), .val (.long ga), .second, .val (.long gb), .second, .val (.long gc), .second, .val (.long gd), .second, .val (.int ge), .val (.int gf), .val (.int gg), .val (.long gh), .second, .val (.int gi), .val (.int gj), .val (.long gk), .second, .val (.ref b37), .val (.int xe), .val (.int md)] [(.int md)]))
                            refine Go.st (fun _ k' => XS.iconst XJ87'.here hx rfl (hb hby at_428) k') ?_
                            show Go p e below s _ _ _ (TJ87'.setTop (mkF m 429 #[.val (.long ya), .second, .val (.long yb), .second, .val (.long yc), .second, .val (.int dd), .val (.int sel), .val (.long dl), .second, .val (.long ya), .second, .val (.long yb), .second, .val (.long yc), .second, .val (.long fd), .second, .val (.int dd), .val (.int ff), .val (.int fg), .val (.long fh), .second, .val (.int fi), .val (.int fj), .val (.long fk), .second, .val (.ref b1), .val (.int kk), .val (.int di), .val (.long ga), .second, .val (.long gb), .second, .val (.long gc), .second, .val (.long gd), .second, .val (.int ge), .val (.int gf), .val (.int gg), .val (.long gh), .second, .val (.int gi), .val (.int gj), .val (.long gk), .second, .val (.ref b37), .val (.int xe), .val (.int md)] [(.int (3 : Int32)), (.int md)]))
                            by_cases hc91 : md = (3 : Int32)
                            · refine Go.st (fun _ k' => XS.icmpNo XJ87'.here hx rfl (hb hby at_429) rfl (XT.ii_ne_f hc91) k') ?_
                              show Go p e below s _ _ _ (TJ87'.setTop (mkF m 432 #[.val (.long ya), .second, .val (.long yb), .second, .val (.long yc), .second, .val (.int dd), .val (.int sel), .val (.long dl), .second, .val (.long ya), .second, .val (.long yb), .second, .val (.long yc), .second, .val (.long fd), .second, .val (.int dd), .val (.int ff), .val (.int fg), .val (.long fh), .second, .val (.int fi), .val (.int fj), .val (.long fk), .second, .val (.ref b1), .val (.int kk), .val (.int di), .val (.long ga), .second, .val (.long gb), .second, .val (.long gc), .second, .val (.long gd), .second, .val (.int ge), .val (.int gf), .val (.int gg), .val (.long gh), .second, .val (.int gi), .val (.int gj), .val (.long gk), .second, .val (.ref b37), .val (.int xe), .val (.int md)] []))
                              refine Go.st (fun _ k' => XS.aload XJ87'.here hx rfl (hb hby at_432) rfl rfl k') ?_
                              show Go p e below s _ _ _ (TJ87'.setTop (mkF m 434 #[.val (.long ya), .second, .val (.long yb), .second, .val (.long yc), .second, .val (.int dd), .val (.int sel), .val (.long dl), .second, .val (.long ya), .second, .val (.long yb), .second, .val (.long yc), .second, .val (.long fd), .second, .val (.int dd), .val (.int ff), .val (.int fg), .val (.long fh), .second, .val (.int fi), .val (.int fj), .val (.long fk), .second, .val (.ref b1), .val (.int kk), .val (.int di), .val (.long ga), .second, .val (.long gb), .second, .val (.long gc), .second, .val (.long gd), .second, .val (.int ge), .val (.int gf), .val (.int gg), .val (.long gh), .second, .val (.int gi), .val (.int gj), .val (.long gk), .second, .val (.ref b37), .val (.int xe), .val (.int md)] [(.ref b1)]))
                              refine Go.st (fun _ k' => XS.iload XJ87'.here hx rfl (hb hby at_434) rfl k') ?_
                              show Go p e below s _ _ _ (TJ87'.setTop (mkF m 436 #[.val (.long ya), .second, .val (.long yb), .second, .val (.long yc), .second, .val (.int dd), .val (.int sel), .val (.long dl), .second, .val (.long ya), .second, .val (.long yb), .second, .val (.long yc), .second, .val (.long fd), .second, .val (.int dd), .val (.int ff), .val (.int fg), .val (.long fh), .second, .val (.int fi), .val (.int fj), .val (.long fk), .second, .val (.ref b1), .val (.int kk), .val (.int di), .val (.long ga), .second, .val (.long gb), .second, .val (.long gc), .second, .val (.long gd), .second, .val (.int ge), .val (.int gf), .val (.int gg), .val (.long gh), .second, .val (.int gi), .val (.int gj), .val (.long gk), .second, .val (.ref b37), .val (.int xe), .val (.int md)] [(.int dd), (.ref b1)]))
                              obtain ⟨_, _, ⟨T92, L92, k92, n92⟩, -, X92, ⟨Lc92, hQ92, l92, y92, z92⟩, st92⟩ := Jvm.LawKit.callS XJ87' hx (y := (⟨"java/lang/Integer", "valueOf", "(I)Ljava/lang/Integer;"⟩ : MethodName)) hown (mvT hZ (wdx hw 42 rfl)) (mvT hZ (wdx hw 43 rfl)) (mvT hZ (wdx hw 44 rfl)) (mvT hZ (wdx hw 45 rfl)) (by decide) (backOf (W := 1) (rm5 l Z a0 hw [] dd ca cb T62.heap n0 O62 S_hi S_ca Bx) hZ (wdx hw 45 rfl) (wdx hw 44 rfl) (by decide) (by decide)) (g := (mkF m 436 #[.val (.long ya), .second, .val (.long yb), .second, .val (.long yc), .second, .val (.int dd), .val (.int sel), .val (.long dl), .second, .val (.long ya), .second, .val (.long yb), .second, .val (.long yc), .second, .val (.long fd), .second, .val (.int dd), .val (.int ff), .val (.int fg), .val (.long fh), .second, .val (.int fi), .val (.int fj), .val (.long fk), .second, .val (.ref b1), .val (.int kk), .val (.int di), .val (.long ga), .second, .val (.long gb), .second, .val (.long gc), .second, .val (.long gd), .second, .val (.int ge), .val (.int gf), .val (.int gg), .val (.long gh), .second, .val (.int gi), .val (.int gj), .val (.long gk), .second, .val (.ref b37), .val (.int xe), .val (.int md)] [(.int dd), (.ref b1)])) rfl (by rw [hml]; rfl) (argsL := [(.int dd)]) (rest := [(.ref b1)]) (lenOf pd__I_Ljava_lang_Integer_ rfl) rfl (by show 2 * 0 + _ ≤ _; exact Nat.le_of_eq rfl) (hb hby at_436) (fun _ _ => ⟨rfl, eJ87', (by exact Nat.le_of_ble_eq_true rfl), (by exact Nat.le_of_ble_eq_true rfl)⟩)
                              dsimp only [Pt.U, Pt.locs, Pt.cells, Pt.slots] at X92 l92 y92 z92 st92 hQ92
                              subst l92 y92 z92
                              obtain ⟨rr_92, rfl, Nq92, Kq92, f93⟩ := hQ92
                              have N92 := Fr.app NJ87' Nq92
                              refine Go.st st92 ?_
                              have f94 : Exa Z T92.heap b1 "com/example/exact_quorum/exactquorum/protocol/Stat" := f74.keep Kq92
                              have f95 : Fld Z T92.heap b1 "com/example/exact_quorum/exactquorum/protocol/Stat" "czxid" "J" (.long ya) := f75.keep Kq92 nin0
                              have f96 : Fld Z T92.heap b1 "com/example/exact_quorum/exactquorum/protocol/Stat" "mzxid" "J" (.long yb) := f76.keep Kq92 nin0
                              have f97 : Fld Z T92.heap b1 "com/example/exact_quorum/exactquorum/protocol/Stat" "ctime" "J" (.long yc) := f77.keep Kq92 nin0
                              have f98 : Fld Z T92.heap b1 "com/example/exact_quorum/exactquorum/protocol/Stat" "mtime" "J" (.long fd) := f78.keep Kq92 nin0
                              have f99 : Fld Z T92.heap b1 "com/example/exact_quorum/exactquorum/protocol/Stat" "version" "I" (.int dd) := f79.keep Kq92 nin0
                              have f100 : Fld Z T92.heap b1 "com/example/exact_quorum/exactquorum/protocol/Stat" "cversion" "I" (.int ff) := f80.keep Kq92 nin0
                              have f101 : Fld Z T92.heap b1 "com/example/exact_quorum/exactquorum/protocol/Stat" "aversion" "I" (.int fg) := f81.keep Kq92 nin0
                              have f102 : Fld Z T92.heap b1 "com/example/exact_quorum/exactquorum/protocol/Stat" "ephemeralOwner" "J" (.long fh) := f82.keep Kq92 nin0
                              have f103 : Fld Z T92.heap b1 "com/example/exact_quorum/exactquorum/protocol/Stat" "dataLength" "I" (.int fi) := f83.keep Kq92 nin0
                              have f104 : Fld Z T92.heap b1 "com/example/exact_quorum/exactquorum/protocol/Stat" "numChildren" "I" (.int fj) := f84.keep Kq92 nin0
                              have f105 : Fld Z T92.heap b1 "com/example/exact_quorum/exactquorum/protocol/Stat" "pzxid" "J" (.long fk) := f85.keep Kq92 nin0
                              have f106 : Exa Z T92.heap b37 "com/example/exact_quorum/exactquorum/protocol/Stat" := f86.keep Kq92
                              have f107 : Fld Z T92.heap b37 "com/example/exact_quorum/exactquorum/protocol/Stat" "czxid" "J" (.long ga) := f63.keep Kq92 nin0
                              have f108 : Fld Z T92.heap b37 "com/example/exact_quorum/exactquorum/protocol/Stat" "mzxid" "J" (.long gb) := f64.keep Kq92 nin0
                              have f109 : Fld Z T92.heap b37 "com/example/exact_quorum/exactquorum/protocol/Stat" "ctime" "J" (.long gc) := f65.keep Kq92 nin0
                              have f110 : Fld Z T92.heap b37 "com/example/exact_quorum/exactquorum/protocol/Stat" "mtime" "J" (.long gd) := f66.keep Kq92 nin0
                              have f111 : Fld Z T92.heap b37 "com/example/exact_quorum/exactquorum/protocol/Stat" "version" "I" (.int ge) := f67.keep Kq92 nin0
                              have f112 : Fld Z T92.heap b37 "com/example/exact_quorum/exactquorum/protocol/Stat" "cversion" "I" (.int gf) := f68.keep Kq92 nin0
                              have f113 : Fld Z T92.heap b37 "com/example/exact_quorum/exactquorum/protocol/Stat" "aversion" "I" (.int gg) := f69.keep Kq92 nin0
                              have f114 : Fld Z T92.heap b37 "com/example/exact_quorum/exactquorum/protocol/Stat" "ephemeralOwner" "J" (.long gh) := f70.keep Kq92 nin0
                              have f115 : Fld Z T92.heap b37 "com/example/exact_quorum/exactquorum/protocol/Stat" "dataLength" "I" (.int gi) := f71.keep Kq92 nin0
                              have f116 : Fld Z T92.heap b37 "com/example/exact_quorum/exactquorum/protocol/Stat" "numChildren" "I" (.int gj) := f72.keep Kq92 nin0
                              have f117 : Fld Z T92.heap b37 "com/example/exact_quorum/exactquorum/protocol/Stat" "pzxid" "J" (.long gk) := f73.keep Kq92 nin0
                              have O92 : Old Z n0 T92.heap := O62.keep Kq92 all0
                              show Go p e below s _ _ _ (T92.setTop (mkF m 439 #[.val (.long ya), .second, .val (.long yb), .second, .val (.long yc), .second, .val (.int dd), .val (.int sel), .val (.long dl), .second, .val (.long ya), .second, .val (.long yb), .second, .val (.long yc), .second, .val (.long fd), .second, .val (.int dd), .val (.int ff), .val (.int fg), .val (.long fh), .second, .val (.int fi), .val (.int fj), .val (.long fk), .second, .val (.ref b1), .val (.int kk), .val (.int di), .val (.long ga), .second, .val (.long gb), .second, .val (.long gc), .second, .val (.long gd), .second, .val (.int ge), .val (.int gf), .val (.int gg), .val (.long gh), .second, .val (.int gi), .val (.int gj), .val (.long gk), .second, .val (.ref b37), .val (.int xe), .val (.int md)] [(.ref rr_92), (.ref b1)]))
                              obtain ⟨cq118, kq118, q118a, q118b, q118c⟩ := isOf hZ rfl f94
                              obtain ⟨_, _, ⟨T118, L118, k118, n118⟩, -, X118, ⟨Lc118, hQ118, l118, y118, z118⟩, st118⟩ := X92.virtualBack hx (y := (⟨"com/example/exact_quorum/exactquorum/protocol/Stat", "equals", "(Ljava/lang/Object;)Z"⟩ : MethodName)) (z := (⟨"com/example/exact_quorum/exactquorum/protocol/Stat", "equals", "(Ljava/lang/Object;)Z"⟩ : MethodName)) hown (mvT hZ (wdx hw 35 rfl)) (mvT hZ (wdx hw 36 rfl)) (notFace_of_selects (args := #[]) (mvT hZ (wdx hw 38 rfl))) (mvT hZ (wdx hw 38 rfl)) (mvT hZ (wdx hw 37 rfl)) (by decide) (backOf (W := 0) (rm4_i l Z a0 hw [] b1 rr_92 T92.heap n0 O92 f93) hZ (wdx hw 39 rfl) (wdx hw 2 rfl) (by decide) (by decide)) q118a q118c (g := (mkF m 439 #[.val (.long ya), .second, .val (.long yb), .second, .val (.long yc), .second, .val (.int dd), .val (.int sel), .val (.long dl), .second, .val (.long ya), .second, .val (.long yb), .second, .val (.long yc), .second, .val (.long fd), .second, .val (.int dd), .val (.int ff), .val (.int fg), .val (.long fh), .second, .val (.int fi), .val (.int fj), .val (.long fk), .second, .val (.ref b1), .val (.int kk), .val (.int di), .val (.long ga), .second, .val (.long gb), .second, .val (.long gc), .second, .val (.long gd), .second, .val (.int ge), .val (.int gf), .val (.int gg), .val (.long gh), .second, .val (.int gi), .val (.int gj), .val (.long gk), .second, .val (.ref b37), .val (.int xe), .val (.int md)] [(.ref rr_92), (.ref b1)])) rfl (by rw [hml]; rfl) (Steps.refl _) (argsL := [(.ref rr_92)]) (rest := []) (lenOf pd__Ljava_lang_Object__Z rfl) rfl (by show 2 * 0 + _ ≤ _; exact Nat.le_of_eq rfl) (hb hby at_439) (fun _ _ => ⟨rfl, rfl, (by exact Nat.le_of_ble_eq_true rfl), (by exact Nat.le_of_ble_eq_true rfl)⟩)
                              dsimp only [Pt.U, Pt.locs, Pt.cells, Pt.slots] at X118 l118 y118 z118 st118 hQ118
                              subst l118 y118 z118
                              obtain ⟨rfl, Nq118, eq118⟩ := hQ118
                              have N118 := Fr.app N92 Nq118
                              refine Go.tr st118 ?_
                              show Go p e below s _ _ _ (T118.setTop (mkF m 442 #[.val (.long ya), .second, .val (.long yb), .second, .val (.long yc), .second, .val (.int dd), .val (.int sel), .val (.long dl), .second, .val (.long ya), .second, .val (.long yb), .second, .val (.long yc), .second, .val (.long fd), .second, .val (.int dd), .val (.int ff), .val (.int fg), .val (.long fh), .second, .val (.int fi), .val (.int fj), .val (.long fk), .second, .val (.ref b1), .val (.int kk), .val (.int di), .val (.long ga), .second, .val (.long gb), .second, .val (.long gc), .second, .val (.long gd), .second, .val (.int ge), .val (.int gf), .val (.int gg), .val (.long gh), .second, .val (.int gi), .val (.int gj), .val (.long gk), .second, .val (.ref b37), .val (.int xe), .val (.int md)] [(.int (0 : Int32))]))
                              refine Go.st (fun _ k' => XS.ifNo X118.here hx rfl (hb hby at_442) rfl (XT.i0_ne_f (by decide)) k') ?_
                              show Go p e below s _ _ _ (T118.setTop (mkF m 445 #[.val (.long ya), .second, .val (.long yb), .second, .val (.long yc), .second, .val (.int dd), .val (.int sel), .val (.long dl), .second, .val (.long ya), .second, .val (.long yb), .second, .val (.long yc), .second, .val (.long fd), .second, .val (.int dd), .val (.int ff), .val (.int fg), .val (.long fh), .second, .val (.int fi), .val (.int fj), .val (.long fk), .second, .val (.ref b1), .val (.int kk), .val (.int di), .val (.long ga), .second, .val (.long gb), .second, .val (.long gc), .second, .val (.long gd), .second, .val (.int ge), .val (.int gf), .val (.int gg), .val (.long gh), .second, .val (.int gi), .val (.int gj), .val (.long gk), .second, .val (.ref b37), .val (.int xe), .val (.int md)] []))
                              refine Go.st (fun _ k' => XS.aload X118.here hx rfl (hb hby at_445) rfl rfl k') ?_
                              show Go p e below s _ _ _ (T118.setTop (mkF m 447 #[.val (.long ya), .second, .val (.long yb), .second, .val (.long yc), .second, .val (.int dd), .val (.int sel), .val (.long dl), .second, .val (.long ya), .second, .val (.long yb), .second, .val (.long yc), .second, .val (.long fd), .second, .val (.int dd), .val (.int ff), .val (.int fg), .val (.long fh), .second, .val (.int fi), .val (.int fj), .val (.long fk), .second, .val (.ref b1), .val (.int kk), .val (.int di), .val (.long ga), .second, .val (.long gb), .second, .val (.long gc), .second, .val (.long gd), .second, .val (.int ge), .val (.int gf), .val (.int gg), .val (.long gh), .second, .val (.int gi), .val (.int gj), .val (.long gk), .second, .val (.ref b37), .val (.int xe), .val (.int md)] [(.ref b1)]))
                              refine Go.st (fun _ k' => XS.aload X118.here hx rfl (hb hby at_447) rfl rfl k') ?_
                              show Go p e below s _ _ _ (T118.setTop (mkF m 449 #[.val (.long ya), .second, .val (.long yb), .second, .val (.long yc), .second, .val (.int dd), .val (.int sel), .val (.long dl), .second, .val (.long ya), .second, .val (.long yb), .second, .val (.long yc), .second, .val (.long fd), .second, .val (.int dd), .val (.int ff), .val (.int fg), .val (.long fh), .second, .val (.int fi), .val (.int fj), .val (.long fk), .second, .val (.ref b1), .val (.int kk), .val (.int di), .val (.long ga), .second, .val (.long gb), .second, .val (.long gc), .second, .val (.long gd), .second, .val (.int ge), .val (.int gf), .val (.int gg), .val (.long gh), .second, .val (.int gi), .val (.int gj), .val (.long gk), .second, .val (.ref b37), .val (.int xe), .val (.int md)] [(.ref b1), (.ref b1)]))
                              obtain ⟨cq119, kq119, q119a, q119b, q119c⟩ := isOf hZ eq118 f94
                              obtain ⟨_, _, ⟨T119, L119, k119, n119⟩, -, X119, ⟨Lc119, hQ119, l119, y119, z119⟩, st119⟩ := X118.virtualBack hx (y := (⟨"com/example/exact_quorum/exactquorum/protocol/Stat", "equals", "(Ljava/lang/Object;)Z"⟩ : MethodName)) (z := (⟨"com/example/exact_quorum/exactquorum/protocol/Stat", "equals", "(Ljava/lang/Object;)Z"⟩ : MethodName)) hown (mvT hZ (wdx hw 35 rfl)) (mvT hZ (wdx hw 36 rfl)) (notFace_of_selects (args := #[]) (mvT hZ (wdx hw 38 rfl))) (mvT hZ (wdx hw 38 rfl)) (mvT hZ (wdx hw 37 rfl)) (by decide) (backOf (W := 0) (rm4 l Z a0 hw [] b1 b1 ya yb yc fd dd ff fg fh fi fj fk ya yb yc fd dd ff fg fh fi fj fk T92.heap n0 O92 f94 f95 f96 f97 f98 f99 f100 f101 f102 f103 f104 f105 f95 f96 f97 f98 f99 f100 f101 f102 f103 f104 f105) hZ (wdx hw 39 rfl) (wdx hw 2 rfl) (by decide) (by decide)) q119a q119c (g := (mkF m 449 #[.val (.long ya), .second, .val (.long yb), .second, .val (.long yc), .second, .val (.int dd), .val (.int sel), .val (.long dl), .second, .val (.long ya), .second, .val (.long yb), .second, .val (.long yc), .second, .val (.long fd), .second, .val (.int dd), .val (.int ff), .val (.int fg), .val (.long fh), .second, .val (.int fi), .val (.int fj), .val (.long fk), .second, .val (.ref b1), .val (.int kk), .val (.int di), .val (.long ga), .second, .val (.long gb), .second, .val (.long gc), .second, .val (.long gd), .second, .val (.int ge), .val (.int gf), .val (.int gg), .val (.long gh), .second, .val (.int gi), .val (.int gj), .val (.long gk), .second, .val (.ref b37), .val (.int xe), .val (.int md)] [(.ref b1), (.ref b1)])) rfl (by rw [hml]; rfl) (Steps.refl _) (argsL := [(.ref b1)]) (rest := []) (lenOf pd__Ljava_lang_Object__Z rfl) rfl (by show 2 * 0 + _ ≤ _; exact Nat.le_of_eq rfl) (hb hby at_449) (fun _ _ => ⟨rfl, eq118, (by exact Nat.le_of_ble_eq_true rfl), (by exact Nat.le_of_ble_eq_true rfl)⟩)
                              dsimp only [Pt.U, Pt.locs, Pt.cells, Pt.slots] at X119 l119 y119 z119 st119 hQ119
                              subst l119 y119 z119
                              obtain ⟨rfl, Nq119, eq119⟩ := hQ119
                              have N119 := Fr.app N118 Nq119
                              refine Go.tr st119 ?_
                              show Go p e below s _ _ _ (T119.setTop (mkF m 452 #[.val (.long ya), .second, .val (.long yb), .second, .val (.long yc), .second, .val (.int dd), .val (.int sel), .val (.long dl), .second, .val (.long ya), .second, .val (.long yb), .second, .val (.long yc), .second, .val (.long fd), .second, .val (.int dd), .val (.int ff), .val (.int fg), .val (.long fh), .second, .val (.int fi), .val (.int fj), .val (.long fk), .second, .val (.ref b1), .val (.int kk), .val (.int di), .val (.long ga), .second, .val (.long gb), .second, .val (.long gc), .second, .val (.long gd), .second, .val (.int ge), .val (.int gf), .val (.int gg), .val (.long gh), .second, .val (.int gi), .val (.int gj), .val (.long gk), .second, .val (.ref b37), .val (.int xe), .val (.int md)] [(.int (fst ya yb yc fd dd ff fg fh fi fj fk ya yb yc fd dd ff fg fh fi fj fk))]))
                              refine Go.st (fun _ k' => XS.ifNo X119.here hx rfl (hb hby at_452) rfl (XT.i0_eq_f (own_refl _ _ _ _ _ _ _ _ _ _ _)) k') ?_
                              show Go p e below s _ _ _ (T119.setTop (mkF m 455 #[.val (.long ya), .second, .val (.long yb), .second, .val (.long yc), .second, .val (.int dd), .val (.int sel), .val (.long dl), .second, .val (.long ya), .second, .val (.long yb), .second, .val (.long yc), .second, .val (.long fd), .second, .val (.int dd), .val (.int ff), .val (.int fg), .val (.long fh), .second, .val (.int fi), .val (.int fj), .val (.long fk), .second, .val (.ref b1), .val (.int kk), .val (.int di), .val (.long ga), .second, .val (.long gb), .second, .val (.long gc), .second, .val (.long gd), .second, .val (.int ge), .val (.int gf), .val (.int gg), .val (.long gh), .second, .val (.int gi), .val (.int gj), .val (.long gk), .second, .val (.ref b37), .val (.int xe), .val (.int md)] []))
                              refine Go.st (fun _ k' => XS.iconst X119.here hx rfl (hb hby at_455) k') ?_
                              show Go p e below s _ _ _ (T119.setTop (mkF m 456 #[.val (.long ya), .second, .val (.long yb), .second, .val (.long yc), .second, .val (.int dd), .val (.int sel), .val (.long dl), .second, .val (.long ya), .second, .val (.long yb), .second, .val (.long yc), .second, .val (.long fd), .second, .val (.int dd), .val (.int ff), .val (.int fg), .val (.long fh), .second, .val (.int fi), .val (.int fj), .val (.long fk), .second, .val (.ref b1), .val (.int kk), .val (.int di), .val (.long ga), .second, .val (.long gb), .second, .val (.long gc), .second, .val (.long gd), .second, .val (.int ge), .val (.int gf), .val (.int gg), .val (.long gh), .second, .val (.int gi), .val (.int gj), .val (.long gk), .second, .val (.ref b37), .val (.int xe), .val (.int md)] [(.int (1 : Int32))]))
                              refine Go.st (fun _ k' => XS.goto X119.here hx rfl (pc0 := 456) (pc' := 460) rfl (hb hby at_456) (by decide) (by decide) k') ?_
                              show Go p e below s _ _ _ (T119.setTop (mkF m 460 #[.val (.long ya), .second, .val (.long yb), .second, .val (.long yc), .second, .val (.int dd), .val (.int sel), .val (.long dl), .second, .val (.long ya), .second, .val (.long yb), .second, .val (.long yc), .second, .val (.long fd), .second, .val (.int dd), .val (.int ff), .val (.int fg), .val (.long fh), .second, .val (.int fi), .val (.int fj), .val (.long fk), .second, .val (.ref b1), .val (.int kk), .val (.int di), .val (.long ga), .second, .val (.long gb), .second, .val (.long gc), .second, .val (.long gd), .second, .val (.int ge), .val (.int gf), .val (.int gg), .val (.long gh), .second, .val (.int gi), .val (.int gj), .val (.long gk), .second, .val (.ref b37), .val (.int xe), .val (.int md)] [(.int (1 : Int32))]))
                              refine Go.retB X119 hx hlk (t := .boolean) Bd.returns (by simp) (hb hby at_460) (by decide) (by decide) eq119 ?_
                              exact ⟨rfl, N119, trivial⟩
                            · refine Go.st (fun _ k' => XS.icmpYes XJ87'.here hx rfl (pc0 := 429) (pc' := 461) rfl (hb hby at_429) rfl (XT.ii_ne_t hc91) (by decide) (by decide) k') ?_
                              show Go p e below s _ _ _ (TJ87'.setTop (mkF m 461 #[.val (.long ya), .second, .val (.long yb), .second, .val (.long yc), .second, .val (.int dd), .val (.int sel), .val (.long dl), .second, .val (.long ya), .second, .val (.long yb), .second, .val (.long yc), .second, .val (.long fd), .second, .val (.int dd), .val (.int ff), .val (.int fg), .val (.long fh), .second, .val (.int fi), .val (.int fj), .val (.long fk), .second, .val (.ref b1), .val (.int kk), .val (.int di), .val (.long ga), .second, .val (.long gb), .second, .val (.long gc), .second, .val (.long gd), .second, .val (.int ge), .val (.int gf), .val (.int gg), .val (.long gh), .second, .val (.int gi), .val (.int gj), .val (.long gk), .second, .val (.ref b37), .val (.int xe), .val (.int md)] []))
                              refine Go.st (fun _ k' => XS.aload XJ87'.here hx rfl (hb hby at_461) rfl rfl k') ?_
                              show Go p e below s _ _ _ (TJ87'.setTop (mkF m 463 #[.val (.long ya), .second, .val (.long yb), .second, .val (.long yc), .second, .val (.int dd), .val (.int sel), .val (.long dl), .second, .val (.long ya), .second, .val (.long yb), .second, .val (.long yc), .second, .val (.long fd), .second, .val (.int dd), .val (.int ff), .val (.int fg), .val (.long fh), .second, .val (.int fi), .val (.int fj), .val (.long fk), .second, .val (.ref b1), .val (.int kk), .val (.int di), .val (.long ga), .second, .val (.long gb), .second, .val (.long gc), .second, .val (.long gd), .second, .val (.int ge), .val (.int gf), .val (.int gg), .val (.long gh), .second, .val (.int gi), .val (.int gj), .val (.long gk), .second, .val (.ref b37), .val (.int xe), .val (.int md)] [(.ref b1)]))
                              refine Go.st (fun _ k' => XS.aload XJ87'.here hx rfl (hb hby at_463) rfl rfl k') ?_
                              show Go p e below s _ _ _ (TJ87'.setTop (mkF m 465 #[.val (.long ya), .second, .val (.long yb), .second, .val (.long yc), .second, .val (.int dd), .val (.int sel), .val (.long dl), .second, .val (.long ya), .second, .val (.long yb), .second, .val (.long yc), .second, .val (.long fd), .second, .val (.int dd), .val (.int ff), .val (.int fg), .val (.long fh), .second, .val (.int fi), .val (.int fj), .val (.long fk), .second, .val (.ref b1), .val (.int kk), .val (.int di), .val (.long ga), .second, .val (.long gb), .second, .val (.long gc), .second, .val (.long gd), .second, .val (.int ge), .val (.int gf), .val (.int gg), .val (.long gh), .second, .val (.int gi), .val (.int gj), .val (.long gk), .second, .val (.ref b37), .val (.int xe), .val (.int md)] [(.ref b37), (.ref b1)]))
                              obtain ⟨cq120, kq120, q120a, q120b, q120c⟩ := isOf hZ eJ87' f74
                              obtain ⟨_, _, ⟨T120, L120, k120, n120⟩, -, X120, ⟨Lc120, hQ120, l120, y120, z120⟩, st120⟩ := XJ87'.virtualBack hx (y := (⟨"com/example/exact_quorum/exactquorum/protocol/Stat", "equals", "(Ljava/lang/Object;)Z"⟩ : MethodName)) (z := (⟨"com/example/exact_quorum/exactquorum/protocol/Stat", "equals", "(Ljava/lang/Object;)Z"⟩ : MethodName)) hown (mvT hZ (wdx hw 35 rfl)) (mvT hZ (wdx hw 36 rfl)) (notFace_of_selects (args := #[]) (mvT hZ (wdx hw 38 rfl))) (mvT hZ (wdx hw 38 rfl)) (mvT hZ (wdx hw 37 rfl)) (by decide) (backOf (W := 0) (rm4 l Z a0 hw [] b1 b37 ya yb yc fd dd ff fg fh fi fj fk ga gb gc gd ge gf gg gh gi gj gk T62.heap n0 O62 f86 f75 f76 f77 f78 f79 f80 f81 f82 f83 f84 f85 f63 f64 f65 f66 f67 f68 f69 f70 f71 f72 f73) hZ (wdx hw 39 rfl) (wdx hw 2 rfl) (by decide) (by decide)) q120a q120c (g := (mkF m 465 #[.val (.long ya), .second, .val (.long yb), .second, .val (.long yc), .second, .val (.int dd), .val (.int sel), .val (.long dl), .second, .val (.long ya), .second, .val (.long yb), .second, .val (.long yc), .second, .val (.long fd), .second, .val (.int dd), .val (.int ff), .val (.int fg), .val (.long fh), .second, .val (.int fi), .val (.int fj), .val (.long fk), .second, .val (.ref b1), .val (.int kk), .val (.int di), .val (.long ga), .second, .val (.long gb), .second, .val (.long gc), .second, .val (.long gd), .second, .val (.int ge), .val (.int gf), .val (.int gg), .val (.long gh), .second, .val (.int gi), .val (.int gj), .val (.long gk), .second, .val (.ref b37), .val (.int xe), .val (.int md)] [(.ref b37), (.ref b1)])) rfl (by rw [hml]; rfl) (Steps.refl _) (argsL := [(.ref b37)]) (rest := []) (lenOf pd__Ljava_lang_Object__Z rfl) rfl (by show 2 * 0 + _ ≤ _; exact Nat.le_of_eq rfl) (hb hby at_465) (fun _ _ => ⟨rfl, eJ87', (by exact Nat.le_of_ble_eq_true rfl), (by exact Nat.le_of_ble_eq_true rfl)⟩)
                              dsimp only [Pt.U, Pt.locs, Pt.cells, Pt.slots] at X120 l120 y120 z120 st120 hQ120
                              subst l120 y120 z120
                              obtain ⟨rfl, Nq120, eq120⟩ := hQ120
                              have N120 := Fr.app NJ87' Nq120
                              refine Go.tr st120 ?_
                              show Go p e below s _ _ _ (T120.setTop (mkF m 468 #[.val (.long ya), .second, .val (.long yb), .second, .val (.long yc), .second, .val (.int dd), .val (.int sel), .val (.long dl), .second, .val (.long ya), .second, .val (.long yb), .second, .val (.long yc), .second, .val (.long fd), .second, .val (.int dd), .val (.int ff), .val (.int fg), .val (.long fh), .second, .val (.int fi), .val (.int fj), .val (.long fk), .second, .val (.ref b1), .val (.int kk), .val (.int di), .val (.long ga), .second, .val (.long gb), .second, .val (.long gc), .second, .val (.long gd), .second, .val (.int ge), .val (.int gf), .val (.int gg), .val (.long gh), .second, .val (.int gi), .val (.int gj), .val (.long gk), .second, .val (.ref b37), .val (.int xe), .val (.int md)] [(.int (fst ya yb yc fd dd ff fg fh fi fj fk ga gb gc gd ge gf gg gh gi gj gk))]))
                              refine Go.st (fun _ k' => XS.iload X120.here hx rfl (hb hby at_468) rfl k') ?_
                              show Go p e below s _ _ _ (T120.setTop (mkF m 470 #[.val (.long ya), .second, .val (.long yb), .second, .val (.long yc), .second, .val (.int dd), .val (.int sel), .val (.long dl), .second, .val (.long ya), .second, .val (.long yb), .second, .val (.long yc), .second, .val (.long fd), .second, .val (.int dd), .val (.int ff), .val (.int fg), .val (.long fh), .second, .val (.int fi), .val (.int fj), .val (.long fk), .second, .val (.ref b1), .val (.int kk), .val (.int di), .val (.long ga), .second, .val (.long gb), .second, .val (.long gc), .second, .val (.long gd), .second, .val (.int ge), .val (.int gf), .val (.int gg), .val (.long gh), .second, .val (.int gi), .val (.int gj), .val (.long gk), .second, .val (.ref b37), .val (.int xe), .val (.int md)] [(.int xe), (.int (fst ya yb yc fd dd ff fg fh fi fj fk ga gb gc gd ge gf gg gh gi gj gk))]))
                              refine Go.st (fun _ k' => XS.icmpNo X120.here hx rfl (hb hby at_470) rfl (XT.ii_ne_f hmain.1) k') ?_
                              show Go p e below s _ _ _ (T120.setTop (mkF m 473 #[.val (.long ya), .second, .val (.long yb), .second, .val (.long yc), .second, .val (.int dd), .val (.int sel), .val (.long dl), .second, .val (.long ya), .second, .val (.long yb), .second, .val (.long yc), .second, .val (.long fd), .second, .val (.int dd), .val (.int ff), .val (.int fg), .val (.long fh), .second, .val (.int fi), .val (.int fj), .val (.long fk), .second, .val (.ref b1), .val (.int kk), .val (.int di), .val (.long ga), .second, .val (.long gb), .second, .val (.long gc), .second, .val (.long gd), .second, .val (.int ge), .val (.int gf), .val (.int gg), .val (.long gh), .second, .val (.int gi), .val (.int gj), .val (.long gk), .second, .val (.ref b37), .val (.int xe), .val (.int md)] []))
                              refine Go.st (fun _ k' => XS.aload X120.here hx rfl (hb hby at_473) rfl rfl k') ?_
                              show Go p e below s _ _ _ (T120.setTop (mkF m 475 #[.val (.long ya), .second, .val (.long yb), .second, .val (.long yc), .second, .val (.int dd), .val (.int sel), .val (.long dl), .second, .val (.long ya), .second, .val (.long yb), .second, .val (.long yc), .second, .val (.long fd), .second, .val (.int dd), .val (.int ff), .val (.int fg), .val (.long fh), .second, .val (.int fi), .val (.int fj), .val (.long fk), .second, .val (.ref b1), .val (.int kk), .val (.int di), .val (.long ga), .second, .val (.long gb), .second, .val (.long gc), .second, .val (.long gd), .second, .val (.int ge), .val (.int gf), .val (.int gg), .val (.long gh), .second, .val (.int gi), .val (.int gj), .val (.long gk), .second, .val (.ref b37), .val (.int xe), .val (.int md)] [(.ref b37)]))
                              refine Go.st (fun _ k' => XS.aload X120.here hx rfl (hb hby at_475) rfl rfl k') ?_
                              show Go p e below s _ _ _ (T120.setTop (mkF m 477 #[.val (.long ya), .second, .val (.long yb), .second, .val (.long yc), .second, .val (.int dd), .val (.int sel), .val (.long dl), .second, .val (.long ya), .second, .val (.long yb), .second, .val (.long yc), .second, .val (.long fd), .second, .val (.int dd), .val (.int ff), .val (.int fg), .val (.long fh), .second, .val (.int fi), .val (.int fj), .val (.long fk), .second, .val (.ref b1), .val (.int kk), .val (.int di), .val (.long ga), .second, .val (.long gb), .second, .val (.long gc), .second, .val (.long gd), .second, .val (.int ge), .val (.int gf), .val (.int gg), .val (.long gh), .second, .val (.int gi), .val (.int gj), .val (.long gk), .second, .val (.ref b37), .val (.int xe), .val (.int md)] [(.ref b1), (.ref b37)]))
                              obtain ⟨cq121, kq121, q121a, q121b, q121c⟩ := isOf hZ eq120 f86
                              obtain ⟨_, _, ⟨T121, L121, k121, n121⟩, -, X121, ⟨Lc121, hQ121, l121, y121, z121⟩, st121⟩ := X120.virtualBack hx (y := (⟨"com/example/exact_quorum/exactquorum/protocol/Stat", "equals", "(Ljava/lang/Object;)Z"⟩ : MethodName)) (z := (⟨"com/example/exact_quorum/exactquorum/protocol/Stat", "equals", "(Ljava/lang/Object;)Z"⟩ : MethodName)) hown (mvT hZ (wdx hw 35 rfl)) (mvT hZ (wdx hw 36 rfl)) (notFace_of_selects (args := #[]) (mvT hZ (wdx hw 38 rfl))) (mvT hZ (wdx hw 38 rfl)) (mvT hZ (wdx hw 37 rfl)) (by decide) (backOf (W := 0) (rm4 l Z a0 hw [] b37 b1 ga gb gc gd ge gf gg gh gi gj gk ya yb yc fd dd ff fg fh fi fj fk T62.heap n0 O62 f74 f63 f64 f65 f66 f67 f68 f69 f70 f71 f72 f73 f75 f76 f77 f78 f79 f80 f81 f82 f83 f84 f85) hZ (wdx hw 39 rfl) (wdx hw 2 rfl) (by decide) (by decide)) q121a q121c (g := (mkF m 477 #[.val (.long ya), .second, .val (.long yb), .second, .val (.long yc), .second, .val (.int dd), .val (.int sel), .val (.long dl), .second, .val (.long ya), .second, .val (.long yb), .second, .val (.long yc), .second, .val (.long fd), .second, .val (.int dd), .val (.int ff), .val (.int fg), .val (.long fh), .second, .val (.int fi), .val (.int fj), .val (.long fk), .second, .val (.ref b1), .val (.int kk), .val (.int di), .val (.long ga), .second, .val (.long gb), .second, .val (.long gc), .second, .val (.long gd), .second, .val (.int ge), .val (.int gf), .val (.int gg), .val (.long gh), .second, .val (.int gi), .val (.int gj), .val (.long gk), .second, .val (.ref b37), .val (.int xe), .val (.int md)] [(.ref b1), (.ref b37)])) rfl (by rw [hml]; rfl) (Steps.refl _) (argsL := [(.ref b1)]) (rest := []) (lenOf pd__Ljava_lang_Object__Z rfl) rfl (by show 2 * 0 + _ ≤ _; exact Nat.le_of_eq rfl) (hb hby at_477) (fun _ _ => ⟨rfl, eq120, (by exact Nat.le_of_ble_eq_true rfl), (by exact Nat.le_of_ble_eq_true rfl)⟩)
                              dsimp only [Pt.U, Pt.locs, Pt.cells, Pt.slots] at X121 l121 y121 z121 st121 hQ121
                              subst l121 y121 z121
                              obtain ⟨rfl, Nq121, eq121⟩ := hQ121
                              have N121 := Fr.app N120 Nq121
                              refine Go.tr st121 ?_
                              show Go p e below s _ _ _ (T121.setTop (mkF m 480 #[.val (.long ya), .second, .val (.long yb), .second, .val (.long yc), .second, .val (.int dd), .val (.int sel), .val (.long dl), .second, .val (.long ya), .second, .val (.long yb), .second, .val (.long yc), .second, .val (.long fd), .second, .val (.int dd), .val (.int ff), .val (.int fg), .val (.long fh), .second, .val (.int fi), .val (.int fj), .val (.long fk), .second, .val (.ref b1), .val (.int kk), .val (.int di), .val (.long ga), .second, .val (.long gb), .second, .val (.long gc), .second, .val (.long gd), .second, .val (.int ge), .val (.int gf), .val (.int gg), .val (.long gh), .second, .val (.int gi), .val (.int gj), .val (.long gk), .second, .val (.ref b37), .val (.int xe), .val (.int md)] [(.int (fst ga gb gc gd ge gf gg gh gi gj gk ya yb yc fd dd ff fg fh fi fj fk))]))
                              refine Go.st (fun _ k' => XS.iload X121.here hx rfl (hb hby at_480) rfl k') ?_
                              show Go p e below s _ _ _ (T121.setTop (mkF m 482 #[.val (.long ya), .second, .val (.long yb), .second, .val (.long yc), .second, .val (.int dd), .val (.int sel), .val (.long dl), .second, .val (.long ya), .second, .val (.long yb), .second, .val (.long yc), .second, .val (.long fd), .second, .val (.int dd), .val (.int ff), .val (.int fg), .val (.long fh), .second, .val (.int fi), .val (.int fj), .val (.long fk), .second, .val (.ref b1), .val (.int kk), .val (.int di), .val (.long ga), .second, .val (.long gb), .second, .val (.long gc), .second, .val (.long gd), .second, .val (.int ge), .val (.int gf), .val (.int gg), .val (.long gh), .second, .val (.int gi), .val (.int gj), .val (.long gk), .second, .val (.ref b37), .val (.int xe), .val (.int md)] [(.int xe), (.int (fst ga gb gc gd ge gf gg gh gi gj gk ya yb yc fd dd ff fg fh fi fj fk))]))
                              refine Go.st (fun _ k' => XS.icmpNo X121.here hx rfl (hb hby at_482) rfl (XT.ii_ne_f hmain.2) k') ?_
                              show Go p e below s _ _ _ (T121.setTop (mkF m 485 #[.val (.long ya), .second, .val (.long yb), .second, .val (.long yc), .second, .val (.int dd), .val (.int sel), .val (.long dl), .second, .val (.long ya), .second, .val (.long yb), .second, .val (.long yc), .second, .val (.long fd), .second, .val (.int dd), .val (.int ff), .val (.int fg), .val (.long fh), .second, .val (.int fi), .val (.int fj), .val (.long fk), .second, .val (.ref b1), .val (.int kk), .val (.int di), .val (.long ga), .second, .val (.long gb), .second, .val (.long gc), .second, .val (.long gd), .second, .val (.int ge), .val (.int gf), .val (.int gg), .val (.long gh), .second, .val (.int gi), .val (.int gj), .val (.long gk), .second, .val (.ref b37), .val (.int xe), .val (.int md)] []))
                              refine Go.st (fun _ k' => XS.iconst X121.here hx rfl (hb hby at_485) k') ?_
                              show Go p e below s _ _ _ (T121.setTop (mkF m 486 #[.val (.long ya), .second, .val (.long yb), .second, .val (.long yc), .second, .val (.int dd), .val (.int sel), .val (.long dl), .second, .val (.long ya), .second, .val (.long yb), .second, .val (.long yc), .second, .val (.long fd), .second, .val (.int dd), .val (.int ff), .val (.int fg), .val (.long fh), .second, .val (.int fi), .val (.int fj), .val (.long fk), .second, .val (.ref b1), .val (.int kk), .val (.int di), .val (.long ga), .second, .val (.long gb), .second, .val (.long gc), .second, .val (.long gd), .second, .val (.int ge), .val (.int gf), .val (.int gg), .val (.long gh), .second, .val (.int gi), .val (.int gj), .val (.long gk), .second, .val (.ref b37), .val (.int xe), .val (.int md)] [(.int (1 : Int32))]))
                              refine Go.st (fun _ k' => XS.goto X121.here hx rfl (pc0 := 486) (pc' := 490) rfl (hb hby at_486) (by decide) (by decide) k') ?_
                              show Go p e below s _ _ _ (T121.setTop (mkF m 490 #[.val (.long ya), .second, .val (.long yb), .second, .val (.long yc), .second, .val (.int dd), .val (.int sel), .val (.long dl), .second, .val (.long ya), .second, .val (.long yb), .second, .val (.long yc), .second, .val (.long fd), .second, .val (.int dd), .val (.int ff), .val (.int fg), .val (.long fh), .second, .val (.int fi), .val (.int fj), .val (.long fk), .second, .val (.ref b1), .val (.int kk), .val (.int di), .val (.long ga), .second, .val (.long gb), .second, .val (.long gc), .second, .val (.long gd), .second, .val (.int ge), .val (.int gf), .val (.int gg), .val (.long gh), .second, .val (.int gi), .val (.int gj), .val (.long gk), .second, .val (.ref b37), .val (.int xe), .val (.int md)] [(.int (1 : Int32))]))
                              refine Go.retB X121 hx hlk (t := .boolean) Bd.returns (by simp) (hb hby at_490) (by decide) (by decide) eq121 ?_
                              exact ⟨rfl, N121, trivial⟩
                        refine Go.st (fun _ k' => XS.iload X62.here hx rfl (hb hby at_337) rfl k') ?_
                        show Go p e below s _ _ _ (T62.setTop (mkF m 339 #[.val (.long ya), .second, .val (.long yb), .second, .val (.long yc), .second, .val (.int dd), .val (.int sel), .val (.long dl), .second, .val (.long ya), .second, .val (.long yb), .second, .val (.long yc), .second, .val (.long fd), .second, .val (.int dd), .val (.int ff), .val (.int fg), .val (.long fh), .second, .val (.int fi), .val (.int fj), .val (.long fk), .second, .val (.ref b1), .val (.int kk), .val (.int di), .val (.long ga), .second, .val (.long gb), .second, .val (.long gc), .second, .val (.long gd), .second, .val (.int ge), .val (.int gf), .val (.int gg), .val (.long gh), .second, .val (.int gi), .val (.int gj), .val (.long gk), .second, .val (.ref b37), .unset, .unset] [(.int kk)]))
                        refine Go.st (fun _ k' => XS.bipush X62.here hx rfl (hb hby at_339) k') ?_
                        show Go p e below s _ _ _ (T62.setTop (mkF m 341 #[.val (.long ya), .second, .val (.long yb), .second, .val (.long yc), .second, .val (.int dd), .val (.int sel), .val (.long dl), .second, .val (.long ya), .second, .val (.long yb), .second, .val (.long yc), .second, .val (.long fd), .second, .val (.int dd), .val (.int ff), .val (.int fg), .val (.long fh), .second, .val (.int fi), .val (.int fj), .val (.long fk), .second, .val (.ref b1), .val (.int kk), .val (.int di), .val (.long ga), .second, .val (.long gb), .second, .val (.long gc), .second, .val (.long gd), .second, .val (.int ge), .val (.int gf), .val (.int gg), .val (.long gh), .second, .val (.int gi), .val (.int gj), .val (.long gk), .second, .val (.ref b37), .unset, .unset] [(.int (11 : Int32)), (.int kk)]))
                        by_cases hc122 : kk = (11 : Int32)
                        · refine Go.st (fun _ k' => XS.icmpNo X62.here hx rfl (hb hby at_341) rfl (XT.ii_ne_f hc122) k') ?_
                          show Go p e below s _ _ _ (T62.setTop (mkF m 344 #[.val (.long ya), .second, .val (.long yb), .second, .val (.long yc), .second, .val (.int dd), .val (.int sel), .val (.long dl), .second, .val (.long ya), .second, .val (.long yb), .second, .val (.long yc), .second, .val (.long fd), .second, .val (.int dd), .val (.int ff), .val (.int fg), .val (.long fh), .second, .val (.int fi), .val (.int fj), .val (.long fk), .second, .val (.ref b1), .val (.int kk), .val (.int di), .val (.long ga), .second, .val (.long gb), .second, .val (.long gc), .second, .val (.long gd), .second, .val (.int ge), .val (.int gf), .val (.int gg), .val (.long gh), .second, .val (.int gi), .val (.int gj), .val (.long gk), .second, .val (.ref b37), .unset, .unset] []))
                          refine Go.st (fun _ k' => XS.iconst X62.here hx rfl (hb hby at_344) k') ?_
                          show Go p e below s _ _ _ (T62.setTop (mkF m 345 #[.val (.long ya), .second, .val (.long yb), .second, .val (.long yc), .second, .val (.int dd), .val (.int sel), .val (.long dl), .second, .val (.long ya), .second, .val (.long yb), .second, .val (.long yc), .second, .val (.long fd), .second, .val (.int dd), .val (.int ff), .val (.int fg), .val (.long fh), .second, .val (.int fi), .val (.int fj), .val (.long fk), .second, .val (.ref b1), .val (.int kk), .val (.int di), .val (.long ga), .second, .val (.long gb), .second, .val (.long gc), .second, .val (.long gd), .second, .val (.int ge), .val (.int gf), .val (.int gg), .val (.long gh), .second, .val (.int gi), .val (.int gj), .val (.long gk), .second, .val (.ref b37), .unset, .unset] [(.int (1 : Int32))]))
                          refine Go.st (fun _ k' => XS.istore X62.here hx rfl (hb hby at_345) rfl (l' := #[.val (.long ya), .second, .val (.long yb), .second, .val (.long yc), .second, .val (.int dd), .val (.int sel), .val (.long dl), .second, .val (.long ya), .second, .val (.long yb), .second, .val (.long yc), .second, .val (.long fd), .second, .val (.int dd), .val (.int ff), .val (.int fg), .val (.long fh), .second, .val (.int fi), .val (.int fj), .val (.long fk), .second, .val (.ref b1), .val (.int kk), .val (.int di), .val (.long ga), .second, .val (.long gb), .second, .val (.long gc), .second, .val (.long gd), .second, .val (.int ge), .val (.int gf), .val (.int gg), .val (.long gh), .second, .val (.int gi), .val (.int gj), .val (.long gk), .second, .val (.ref b37), .val (.int (1 : Int32)), .unset]) rfl k') ?_
                          show Go p e below s _ _ _ (T62.setTop (mkF m 347 #[.val (.long ya), .second, .val (.long yb), .second, .val (.long yc), .second, .val (.int dd), .val (.int sel), .val (.long dl), .second, .val (.long ya), .second, .val (.long yb), .second, .val (.long yc), .second, .val (.long fd), .second, .val (.int dd), .val (.int ff), .val (.int fg), .val (.long fh), .second, .val (.int fi), .val (.int fj), .val (.long fk), .second, .val (.ref b1), .val (.int kk), .val (.int di), .val (.long ga), .second, .val (.long gb), .second, .val (.long gc), .second, .val (.long gd), .second, .val (.int ge), .val (.int gf), .val (.int gg), .val (.long gh), .second, .val (.int gi), .val (.int gj), .val (.long gk), .second, .val (.ref b37), .val (.int (1 : Int32)), .unset] []))
                          refine Go.st (fun _ k' => XS.goto X62.here hx rfl (pc0 := 347) (pc' := 387) rfl (hb hby at_347) (by decide) (by decide) k') ?_
                          show Go p e below s _ _ _ (T62.setTop (mkF m 387 #[.val (.long ya), .second, .val (.long yb), .second, .val (.long yc), .second, .val (.int dd), .val (.int sel), .val (.long dl), .second, .val (.long ya), .second, .val (.long yb), .second, .val (.long yc), .second, .val (.long fd), .second, .val (.int dd), .val (.int ff), .val (.int fg), .val (.long fh), .second, .val (.int fi), .val (.int fj), .val (.long fk), .second, .val (.ref b1), .val (.int kk), .val (.int di), .val (.long ga), .second, .val (.long gb), .second, .val (.long gc), .second, .val (.long gd), .second, .val (.int ge), .val (.int gf), .val (.int gg), .val (.long gh), .second, .val (.int gi), .val (.int gj), .val (.long gk), .second, .val (.ref b37), .val (.int (1 : Int32)), .unset] []))
                          exact J87 T62 _ X62 rfl N62 (1 : Int32) (by simp [fexp, hc122])
                        · refine Go.st (fun _ k' => XS.icmpYes X62.here hx rfl (pc0 := 341) (pc' := 350) rfl (hb hby at_341) rfl (XT.ii_ne_t hc122) (by decide) (by decide) k') ?_
                          show Go p e below s _ _ _ (T62.setTop (mkF m 350 #[.val (.long ya), .second, .val (.long yb), .second, .val (.long yc), .second, .val (.int dd), .val (.int sel), .val (.long dl), .second, .val (.long ya), .second, .val (.long yb), .second, .val (.long yc), .second, .val (.long fd), .second, .val (.int dd), .val (.int ff), .val (.int fg), .val (.long fh), .second, .val (.int fi), .val (.int fj), .val (.long fk), .second, .val (.ref b1), .val (.int kk), .val (.int di), .val (.long ga), .second, .val (.long gb), .second, .val (.long gc), .second, .val (.long gd), .second, .val (.int ge), .val (.int gf), .val (.int gg), .val (.long gh), .second, .val (.int gi), .val (.int gj), .val (.long gk), .second, .val (.ref b37), .unset, .unset] []))
                          refine Go.st (fun _ k' => XS.iload X62.here hx rfl (hb hby at_350) rfl k') ?_
                          show Go p e below s _ _ _ (T62.setTop (mkF m 352 #[.val (.long ya), .second, .val (.long yb), .second, .val (.long yc), .second, .val (.int dd), .val (.int sel), .val (.long dl), .second, .val (.long ya), .second, .val (.long yb), .second, .val (.long yc), .second, .val (.long fd), .second, .val (.int dd), .val (.int ff), .val (.int fg), .val (.long fh), .second, .val (.int fi), .val (.int fj), .val (.long fk), .second, .val (.ref b1), .val (.int kk), .val (.int di), .val (.long ga), .second, .val (.long gb), .second, .val (.long gc), .second, .val (.long gd), .second, .val (.int ge), .val (.int gf), .val (.int gg), .val (.long gh), .second, .val (.int gi), .val (.int gj), .val (.long gk), .second, .val (.ref b37), .unset, .unset] [(.int kk)]))
                          obtain ⟨_, _, ⟨T123, L123, k123, n123⟩, -, X123, ⟨Lc123, hQ123, l123, y123, z123⟩, st123⟩ := Jvm.LawKit.callS X62 hx (y := (⟨"com/example/exact_quorum/exactquorum/protocol/StatEqualsPinLaw", "isIntField", "(I)Z"⟩ : MethodName)) hown (mvT hZ (wdx hw 31 rfl)) (mvT hZ (wdx hw 32 rfl)) (mvT hZ (wdx hw 33 rfl)) (mvT hZ (wdx hw 34 rfl)) (by decide) (backOf (W := 0) (rm3 l Z a0 hw [] kk T62.heap n0 O62 ) hZ (wdx hw 34 rfl) (wdx hw 33 rfl) (by decide) (by decide)) (g := (mkF m 352 #[.val (.long ya), .second, .val (.long yb), .second, .val (.long yc), .second, .val (.int dd), .val (.int sel), .val (.long dl), .second, .val (.long ya), .second, .val (.long yb), .second, .val (.long yc), .second, .val (.long fd), .second, .val (.int dd), .val (.int ff), .val (.int fg), .val (.long fh), .second, .val (.int fi), .val (.int fj), .val (.long fk), .second, .val (.ref b1), .val (.int kk), .val (.int di), .val (.long ga), .second, .val (.long gb), .second, .val (.long gc), .second, .val (.long gd), .second, .val (.int ge), .val (.int gf), .val (.int gg), .val (.long gh), .second, .val (.int gi), .val (.int gj), .val (.long gk), .second, .val (.ref b37), .unset, .unset] [(.int kk)])) rfl (by rw [hml]; rfl) (argsL := [(.int kk)]) (rest := []) (lenOf pd__I_Z rfl) rfl (by show 2 * 0 + _ ≤ _; exact Nat.le_of_eq rfl) (hb hby at_352) (fun _ _ => ⟨rfl, rfl, (by exact Nat.le_of_ble_eq_true rfl), (by exact Nat.le_of_ble_eq_true rfl)⟩)
                          dsimp only [Pt.U, Pt.locs, Pt.cells, Pt.slots] at X123 l123 y123 z123 st123 hQ123
                          subst l123 y123 z123
                          obtain ⟨rfl, Nq123, eq123⟩ := hQ123
                          have N123 := Fr.app N62 Nq123
                          refine Go.st st123 ?_
                          show Go p e below s _ _ _ (T123.setTop (mkF m 355 #[.val (.long ya), .second, .val (.long yb), .second, .val (.long yc), .second, .val (.int dd), .val (.int sel), .val (.long dl), .second, .val (.long ya), .second, .val (.long yb), .second, .val (.long yc), .second, .val (.long fd), .second, .val (.int dd), .val (.int ff), .val (.int fg), .val (.long fh), .second, .val (.int fi), .val (.int fj), .val (.long fk), .second, .val (.ref b1), .val (.int kk), .val (.int di), .val (.long ga), .second, .val (.long gb), .second, .val (.long gc), .second, .val (.long gd), .second, .val (.int ge), .val (.int gf), .val (.int gg), .val (.long gh), .second, .val (.int gi), .val (.int gj), .val (.long gk), .second, .val (.ref b37), .unset, .unset] [(.int (fint kk))]))
                          by_cases hc124 : (fint kk) = (0 : Int32)
                          · refine Go.st (fun _ k' => XS.ifYes X123.here hx rfl (pc0 := 355) (pc' := 373) rfl (hb hby at_355) rfl (XT.i0_eq_t hc124) (by decide) (by decide) k') ?_
                            show Go p e below s _ _ _ (T123.setTop (mkF m 373 #[.val (.long ya), .second, .val (.long yb), .second, .val (.long yc), .second, .val (.int dd), .val (.int sel), .val (.long dl), .second, .val (.long ya), .second, .val (.long yb), .second, .val (.long yc), .second, .val (.long fd), .second, .val (.int dd), .val (.int ff), .val (.int fg), .val (.long fh), .second, .val (.int fi), .val (.int fj), .val (.long fk), .second, .val (.ref b1), .val (.int kk), .val (.int di), .val (.long ga), .second, .val (.long gb), .second, .val (.long gc), .second, .val (.long gd), .second, .val (.int ge), .val (.int gf), .val (.int gg), .val (.long gh), .second, .val (.int gi), .val (.int gj), .val (.long gk), .second, .val (.ref b37), .unset, .unset] []))
                            refine Go.st (fun _ k' => XS.lload X123.here hx rfl (hb hby at_373) rfl k') ?_
                            show Go p e below s _ _ _ (T123.setTop (mkF m 375 #[.val (.long ya), .second, .val (.long yb), .second, .val (.long yc), .second, .val (.int dd), .val (.int sel), .val (.long dl), .second, .val (.long ya), .second, .val (.long yb), .second, .val (.long yc), .second, .val (.long fd), .second, .val (.int dd), .val (.int ff), .val (.int fg), .val (.long fh), .second, .val (.int fi), .val (.int fj), .val (.long fk), .second, .val (.ref b1), .val (.int kk), .val (.int di), .val (.long ga), .second, .val (.long gb), .second, .val (.long gc), .second, .val (.long gd), .second, .val (.int ge), .val (.int gf), .val (.int gg), .val (.long gh), .second, .val (.int gi), .val (.int gj), .val (.long gk), .second, .val (.ref b37), .unset, .unset] [(.long dl)]))
                            refine Go.st (fun _ k' => XS.lconst X123.here hx rfl (hb hby at_375) k') ?_
                            show Go p e below s _ _ _ (T123.setTop (mkF m 376 #[.val (.long ya), .second, .val (.long yb), .second, .val (.long yc), .second, .val (.int dd), .val (.int sel), .val (.long dl), .second, .val (.long ya), .second, .val (.long yb), .second, .val (.long yc), .second, .val (.long fd), .second, .val (.int dd), .val (.int ff), .val (.int fg), .val (.long fh), .second, .val (.int fi), .val (.int fj), .val (.long fk), .second, .val (.ref b1), .val (.int kk), .val (.int di), .val (.long ga), .second, .val (.long gb), .second, .val (.long gc), .second, .val (.long gd), .second, .val (.int ge), .val (.int gf), .val (.int gg), .val (.long gh), .second, .val (.int gi), .val (.int gj), .val (.long gk), .second, .val (.ref b37), .unset, .unset] [(.long (0 : Int64)), (.long dl)]))
                            refine Go.st (fun _ k' => XT.lcmp X123.here hx rfl (hb hby at_376) rfl k') ?_
                            show Go p e below s _ _ _ (T123.setTop (mkF m 377 #[.val (.long ya), .second, .val (.long yb), .second, .val (.long yc), .second, .val (.int dd), .val (.int sel), .val (.long dl), .second, .val (.long ya), .second, .val (.long yb), .second, .val (.long yc), .second, .val (.long fd), .second, .val (.int dd), .val (.int ff), .val (.int fg), .val (.long fh), .second, .val (.int fi), .val (.int fj), .val (.long fk), .second, .val (.ref b1), .val (.int kk), .val (.int di), .val (.long ga), .second, .val (.long gb), .second, .val (.long gc), .second, .val (.long gd), .second, .val (.int ge), .val (.int gf), .val (.int gg), .val (.long gh), .second, .val (.int gi), .val (.int gj), .val (.long gk), .second, .val (.ref b37), .unset, .unset] [(.int (XT.cmpL dl (0 : Int64)))]))
                            by_cases hc125 : dl = (0 : Int64)
                            · refine Go.st (fun _ k' => XS.ifNo X123.here hx rfl (hb hby at_377) rfl (XT.ll_ne_f hc125) k') ?_
                              show Go p e below s _ _ _ (T123.setTop (mkF m 380 #[.val (.long ya), .second, .val (.long yb), .second, .val (.long yc), .second, .val (.int dd), .val (.int sel), .val (.long dl), .second, .val (.long ya), .second, .val (.long yb), .second, .val (.long yc), .second, .val (.long fd), .second, .val (.int dd), .val (.int ff), .val (.int fg), .val (.long fh), .second, .val (.int fi), .val (.int fj), .val (.long fk), .second, .val (.ref b1), .val (.int kk), .val (.int di), .val (.long ga), .second, .val (.long gb), .second, .val (.long gc), .second, .val (.long gd), .second, .val (.int ge), .val (.int gf), .val (.int gg), .val (.long gh), .second, .val (.int gi), .val (.int gj), .val (.long gk), .second, .val (.ref b37), .unset, .unset] []))
                              refine Go.st (fun _ k' => XS.iconst X123.here hx rfl (hb hby at_380) k') ?_
                              show Go p e below s _ _ _ (T123.setTop (mkF m 381 #[.val (.long ya), .second, .val (.long yb), .second, .val (.long yc), .second, .val (.int dd), .val (.int sel), .val (.long dl), .second, .val (.long ya), .second, .val (.long yb), .second, .val (.long yc), .second, .val (.long fd), .second, .val (.int dd), .val (.int ff), .val (.int fg), .val (.long fh), .second, .val (.int fi), .val (.int fj), .val (.long fk), .second, .val (.ref b1), .val (.int kk), .val (.int di), .val (.long ga), .second, .val (.long gb), .second, .val (.long gc), .second, .val (.long gd), .second, .val (.int ge), .val (.int gf), .val (.int gg), .val (.long gh), .second, .val (.int gi), .val (.int gj), .val (.long gk), .second, .val (.ref b37), .unset, .unset] [(.int (1 : Int32))]))
                              refine Go.st (fun _ k' => XS.goto X123.here hx rfl (pc0 := 381) (pc' := 385) rfl (hb hby at_381) (by decide) (by decide) k') ?_
                              show Go p e below s _ _ _ (T123.setTop (mkF m 385 #[.val (.long ya), .second, .val (.long yb), .second, .val (.long yc), .second, .val (.int dd), .val (.int sel), .val (.long dl), .second, .val (.long ya), .second, .val (.long yb), .second, .val (.long yc), .second, .val (.long fd), .second, .val (.int dd), .val (.int ff), .val (.int fg), .val (.long fh), .second, .val (.int fi), .val (.int fj), .val (.long fk), .second, .val (.ref b1), .val (.int kk), .val (.int di), .val (.long ga), .second, .val (.long gb), .second, .val (.long gc), .second, .val (.long gd), .second, .val (.int ge), .val (.int gf), .val (.int gg), .val (.long gh), .second, .val (.int gi), .val (.int gj), .val (.long gk), .second, .val (.ref b37), .unset, .unset] [(.int (1 : Int32))]))
                              refine Go.st (fun _ k' => XS.istore X123.here hx rfl (hb hby at_385) rfl (l' := #[.val (.long ya), .second, .val (.long yb), .second, .val (.long yc), .second, .val (.int dd), .val (.int sel), .val (.long dl), .second, .val (.long ya), .second, .val (.long yb), .second, .val (.long yc), .second, .val (.long fd), .second, .val (.int dd), .val (.int ff), .val (.int fg), .val (.long fh), .second, .val (.int fi), .val (.int fj), .val (.long fk), .second, .val (.ref b1), .val (.int kk), .val (.int di), .val (.long ga), .second, .val (.long gb), .second, .val (.long gc), .second, .val (.long gd), .second, .val (.int ge), .val (.int gf), .val (.int gg), .val (.long gh), .second, .val (.int gi), .val (.int gj), .val (.long gk), .second, .val (.ref b37), .val (.int (1 : Int32)), .unset]) rfl k') ?_
                              show Go p e below s _ _ _ (T123.setTop (mkF m 387 #[.val (.long ya), .second, .val (.long yb), .second, .val (.long yc), .second, .val (.int dd), .val (.int sel), .val (.long dl), .second, .val (.long ya), .second, .val (.long yb), .second, .val (.long yc), .second, .val (.long fd), .second, .val (.int dd), .val (.int ff), .val (.int fg), .val (.long fh), .second, .val (.int fi), .val (.int fj), .val (.long fk), .second, .val (.ref b1), .val (.int kk), .val (.int di), .val (.long ga), .second, .val (.long gb), .second, .val (.long gc), .second, .val (.long gd), .second, .val (.int ge), .val (.int gf), .val (.int gg), .val (.long gh), .second, .val (.int gi), .val (.int gj), .val (.long gk), .second, .val (.ref b37), .val (.int (1 : Int32)), .unset] []))
                              exact J87 T123 _ X123 eq123 N123 (1 : Int32) (by simp [fexp, hc122, hc124, hc125])
                            · refine Go.st (fun _ k' => XS.ifYes X123.here hx rfl (pc0 := 377) (pc' := 384) rfl (hb hby at_377) rfl (XT.ll_ne_t hc125) (by decide) (by decide) k') ?_
                              show Go p e below s _ _ _ (T123.setTop (mkF m 384 #[.val (.long ya), .second, .val (.long yb), .second, .val (.long yc), .second, .val (.int dd), .val (.int sel), .val (.long dl), .second, .val (.long ya), .second, .val (.long yb), .second, .val (.long yc), .second, .val (.long fd), .second, .val (.int dd), .val (.int ff), .val (.int fg), .val (.long fh), .second, .val (.int fi), .val (.int fj), .val (.long fk), .second, .val (.ref b1), .val (.int kk), .val (.int di), .val (.long ga), .second, .val (.long gb), .second, .val (.long gc), .second, .val (.long gd), .second, .val (.int ge), .val (.int gf), .val (.int gg), .val (.long gh), .second, .val (.int gi), .val (.int gj), .val (.long gk), .second, .val (.ref b37), .unset, .unset] []))
                              refine Go.st (fun _ k' => XS.iconst X123.here hx rfl (hb hby at_384) k') ?_
                              show Go p e below s _ _ _ (T123.setTop (mkF m 385 #[.val (.long ya), .second, .val (.long yb), .second, .val (.long yc), .second, .val (.int dd), .val (.int sel), .val (.long dl), .second, .val (.long ya), .second, .val (.long yb), .second, .val (.long yc), .second, .val (.long fd), .second, .val (.int dd), .val (.int ff), .val (.int fg), .val (.long fh), .second, .val (.int fi), .val (.int fj), .val (.long fk), .second, .val (.ref b1), .val (.int kk), .val (.int di), .val (.long ga), .second, .val (.long gb), .second, .val (.long gc), .second, .val (.long gd), .second, .val (.int ge), .val (.int gf), .val (.int gg), .val (.long gh), .second, .val (.int gi), .val (.int gj), .val (.long gk), .second, .val (.ref b37), .unset, .unset] [(.int (0 : Int32))]))
                              refine Go.st (fun _ k' => XS.istore X123.here hx rfl (hb hby at_385) rfl (l' := #[.val (.long ya), .second, .val (.long yb), .second, .val (.long yc), .second, .val (.int dd), .val (.int sel), .val (.long dl), .second, .val (.long ya), .second, .val (.long yb), .second, .val (.long yc), .second, .val (.long fd), .second, .val (.int dd), .val (.int ff), .val (.int fg), .val (.long fh), .second, .val (.int fi), .val (.int fj), .val (.long fk), .second, .val (.ref b1), .val (.int kk), .val (.int di), .val (.long ga), .second, .val (.long gb), .second, .val (.long gc), .second, .val (.long gd), .second, .val (.int ge), .val (.int gf), .val (.int gg), .val (.long gh), .second, .val (.int gi), .val (.int gj), .val (.long gk), .second, .val (.ref b37), .val (.int (0 : Int32)), .unset]) rfl k') ?_
                              show Go p e below s _ _ _ (T123.setTop (mkF m 387 #[.val (.long ya), .second, .val (.long yb), .second, .val (.long yc), .second, .val (.int dd), .val (.int sel), .val (.long dl), .second, .val (.long ya), .second, .val (.long yb), .second, .val (.long yc), .second, .val (.long fd), .second, .val (.int dd), .val (.int ff), .val (.int fg), .val (.long fh), .second, .val (.int fi), .val (.int fj), .val (.long fk), .second, .val (.ref b1), .val (.int kk), .val (.int di), .val (.long ga), .second, .val (.long gb), .second, .val (.long gc), .second, .val (.long gd), .second, .val (.int ge), .val (.int gf), .val (.int gg), .val (.long gh), .second, .val (.int gi), .val (.int gj), .val (.long gk), .second, .val (.ref b37), .val (.int (0 : Int32)), .unset] []))
                              exact J87 T123 _ X123 eq123 N123 (0 : Int32) (by simp [fexp, hc122, hc124, hc125])
                          · refine Go.st (fun _ k' => XS.ifNo X123.here hx rfl (hb hby at_355) rfl (XT.i0_eq_f hc124) k') ?_
                            show Go p e below s _ _ _ (T123.setTop (mkF m 358 #[.val (.long ya), .second, .val (.long yb), .second, .val (.long yc), .second, .val (.int dd), .val (.int sel), .val (.long dl), .second, .val (.long ya), .second, .val (.long yb), .second, .val (.long yc), .second, .val (.long fd), .second, .val (.int dd), .val (.int ff), .val (.int fg), .val (.long fh), .second, .val (.int fi), .val (.int fj), .val (.long fk), .second, .val (.ref b1), .val (.int kk), .val (.int di), .val (.long ga), .second, .val (.long gb), .second, .val (.long gc), .second, .val (.long gd), .second, .val (.int ge), .val (.int gf), .val (.int gg), .val (.long gh), .second, .val (.int gi), .val (.int gj), .val (.long gk), .second, .val (.ref b37), .unset, .unset] []))
                            refine Go.st (fun _ k' => XS.iload X123.here hx rfl (hb hby at_358) rfl k') ?_
                            show Go p e below s _ _ _ (T123.setTop (mkF m 360 #[.val (.long ya), .second, .val (.long yb), .second, .val (.long yc), .second, .val (.int dd), .val (.int sel), .val (.long dl), .second, .val (.long ya), .second, .val (.long yb), .second, .val (.long yc), .second, .val (.long fd), .second, .val (.int dd), .val (.int ff), .val (.int fg), .val (.long fh), .second, .val (.int fi), .val (.int fj), .val (.long fk), .second, .val (.ref b1), .val (.int kk), .val (.int di), .val (.long ga), .second, .val (.long gb), .second, .val (.long gc), .second, .val (.long gd), .second, .val (.int ge), .val (.int gf), .val (.int gg), .val (.long gh), .second, .val (.int gi), .val (.int gj), .val (.long gk), .second, .val (.ref b37), .unset, .unset] [(.int di)]))
                            by_cases hc126 : di = (0 : Int32)
                            · refine Go.st (fun _ k' => XS.ifNo X123.here hx rfl (hb hby at_360) rfl (XT.i0_ne_f hc126) k') ?_
                              show Go p e below s _ _ _ (T123.setTop (mkF m 363 #[.val (.long ya), .second, .val (.long yb), .second, .val (.long yc), .second, .val (.int dd), .val (.int sel), .val (.long dl), .second, .val (.long ya), .second, .val (.long yb), .second, .val (.long yc), .second, .val (.long fd), .second, .val (.int dd), .val (.int ff), .val (.int fg), .val (.long fh), .second, .val (.int fi), .val (.int fj), .val (.long fk), .second, .val (.ref b1), .val (.int kk), .val (.int di), .val (.long ga), .second, .val (.long gb), .second, .val (.long gc), .second, .val (.long gd), .second, .val (.int ge), .val (.int gf), .val (.int gg), .val (.long gh), .second, .val (.int gi), .val (.int gj), .val (.long gk), .second, .val (.ref b37), .unset, .unset] []))
                              refine Go.st (fun _ k' => XS.iconst X123.here hx rfl (hb hby at_363) k') ?_
                              show Go p e below s _ _ _ (T123.setTop (mkF m 364 #[.val (.long ya), .second, .val (.long yb), .second, .val (.long yc), .second, .val (.int dd), .val (.int sel), .val (.long dl), .second, .val (.long ya), .second, .val (.long yb), .second, .val (.long yc), .second, .val (.long fd), .second, .val (.int dd), .val (.int ff), .val (.int fg), .val (.long fh), .second, .val (.int fi), .val (.int fj), .val (.long fk), .second, .val (.ref b1), .val (.int kk), .val (.int di), .val (.long ga), .second, .val (.long gb), .second, .val (.long gc), .second, .val (.long gd), .second, .val (.int ge), .val (.int gf), .val (.int gg), .val (.long gh), .second, .val (.int gi), .val (.int gj), .val (.long gk), .second, .val (.ref b37), .unset, .unset] [(.int (1 : Int32))]))
                              refine Go.st (fun _ k' => XS.goto X123.here hx rfl (pc0 := 364) (pc' := 368) rfl (hb hby at_364) (by decide) (by decide) k') ?_
                              show Go p e below s _ _ _ (T123.setTop (mkF m 368 #[.val (.long ya), .second, .val (.long yb), .second, .val (.long yc), .second, .val (.int dd), .val (.int sel), .val (.long dl), .second, .val (.long ya), .second, .val (.long yb), .second, .val (.long yc), .second, .val (.long fd), .second, .val (.int dd), .val (.int ff), .val (.int fg), .val (.long fh), .second, .val (.int fi), .val (.int fj), .val (.long fk), .second, .val (.ref b1), .val (.int kk), .val (.int di), .val (.long ga), .second, .val (.long gb), .second, .val (.long gc), .second, .val (.long gd), .second, .val (.int ge), .val (.int gf), .val (.int gg), .val (.long gh), .second, .val (.int gi), .val (.int gj), .val (.long gk), .second, .val (.ref b37), .unset, .unset] [(.int (1 : Int32))]))
                              refine Go.st (fun _ k' => XS.istore X123.here hx rfl (hb hby at_368) rfl (l' := #[.val (.long ya), .second, .val (.long yb), .second, .val (.long yc), .second, .val (.int dd), .val (.int sel), .val (.long dl), .second, .val (.long ya), .second, .val (.long yb), .second, .val (.long yc), .second, .val (.long fd), .second, .val (.int dd), .val (.int ff), .val (.int fg), .val (.long fh), .second, .val (.int fi), .val (.int fj), .val (.long fk), .second, .val (.ref b1), .val (.int kk), .val (.int di), .val (.long ga), .second, .val (.long gb), .second, .val (.long gc), .second, .val (.long gd), .second, .val (.int ge), .val (.int gf), .val (.int gg), .val (.long gh), .second, .val (.int gi), .val (.int gj), .val (.long gk), .second, .val (.ref b37), .val (.int (1 : Int32)), .unset]) rfl k') ?_
                              show Go p e below s _ _ _ (T123.setTop (mkF m 370 #[.val (.long ya), .second, .val (.long yb), .second, .val (.long yc), .second, .val (.int dd), .val (.int sel), .val (.long dl), .second, .val (.long ya), .second, .val (.long yb), .second, .val (.long yc), .second, .val (.long fd), .second, .val (.int dd), .val (.int ff), .val (.int fg), .val (.long fh), .second, .val (.int fi), .val (.int fj), .val (.long fk), .second, .val (.ref b1), .val (.int kk), .val (.int di), .val (.long ga), .second, .val (.long gb), .second, .val (.long gc), .second, .val (.long gd), .second, .val (.int ge), .val (.int gf), .val (.int gg), .val (.long gh), .second, .val (.int gi), .val (.int gj), .val (.long gk), .second, .val (.ref b37), .val (.int (1 : Int32)), .unset] []))
                              refine Go.st (fun _ k' => XS.goto X123.here hx rfl (pc0 := 370) (pc' := 387) rfl (hb hby at_370) (by decide) (by decide) k') ?_
                              show Go p e below s _ _ _ (T123.setTop (mkF m 387 #[.val (.long ya), .second, .val (.long yb), .second, .val (.long yc), .second, .val (.int dd), .val (.int sel), .val (.long dl), .second, .val (.long ya), .second, .val (.long yb), .second, .val (.long yc), .second, .val (.long fd), .second, .val (.int dd), .val (.int ff), .val (.int fg), .val (.long fh), .second, .val (.int fi), .val (.int fj), .val (.long fk), .second, .val (.ref b1), .val (.int kk), .val (.int di), .val (.long ga), .second, .val (.long gb), .second, .val (.long gc), .second, .val (.long gd), .second, .val (.int ge), .val (.int gf), .val (.int gg), .val (.long gh), .second, .val (.int gi), .val (.int gj), .val (.long gk), .second, .val (.ref b37), .val (.int (1 : Int32)), .unset] []))
                              exact J87 T123 _ X123 eq123 N123 (1 : Int32) (by simp [fexp, hc122, hc124, hc126])
                            · refine Go.st (fun _ k' => XS.ifYes X123.here hx rfl (pc0 := 360) (pc' := 367) rfl (hb hby at_360) rfl (XT.i0_ne_t hc126) (by decide) (by decide) k') ?_
                              show Go p e below s _ _ _ (T123.setTop (mkF m 367 #[.val (.long ya), .second, .val (.long yb), .second, .val (.long yc), .second, .val (.int dd), .val (.int sel), .val (.long dl), .second, .val (.long ya), .second, .val (.long yb), .second, .val (.long yc), .second, .val (.long fd), .second, .val (.int dd), .val (.int ff), .val (.int fg), .val (.long fh), .second, .val (.int fi), .val (.int fj), .val (.long fk), .second, .val (.ref b1), .val (.int kk), .val (.int di), .val (.long ga), .second, .val (.long gb), .second, .val (.long gc), .second, .val (.long gd), .second, .val (.int ge), .val (.int gf), .val (.int gg), .val (.long gh), .second, .val (.int gi), .val (.int gj), .val (.long gk), .second, .val (.ref b37), .unset, .unset] []))
                              refine Go.st (fun _ k' => XS.iconst X123.here hx rfl (hb hby at_367) k') ?_
                              show Go p e below s _ _ _ (T123.setTop (mkF m 368 #[.val (.long ya), .second, .val (.long yb), .second, .val (.long yc), .second, .val (.int dd), .val (.int sel), .val (.long dl), .second, .val (.long ya), .second, .val (.long yb), .second, .val (.long yc), .second, .val (.long fd), .second, .val (.int dd), .val (.int ff), .val (.int fg), .val (.long fh), .second, .val (.int fi), .val (.int fj), .val (.long fk), .second, .val (.ref b1), .val (.int kk), .val (.int di), .val (.long ga), .second, .val (.long gb), .second, .val (.long gc), .second, .val (.long gd), .second, .val (.int ge), .val (.int gf), .val (.int gg), .val (.long gh), .second, .val (.int gi), .val (.int gj), .val (.long gk), .second, .val (.ref b37), .unset, .unset] [(.int (0 : Int32))]))
                              refine Go.st (fun _ k' => XS.istore X123.here hx rfl (hb hby at_368) rfl (l' := #[.val (.long ya), .second, .val (.long yb), .second, .val (.long yc), .second, .val (.int dd), .val (.int sel), .val (.long dl), .second, .val (.long ya), .second, .val (.long yb), .second, .val (.long yc), .second, .val (.long fd), .second, .val (.int dd), .val (.int ff), .val (.int fg), .val (.long fh), .second, .val (.int fi), .val (.int fj), .val (.long fk), .second, .val (.ref b1), .val (.int kk), .val (.int di), .val (.long ga), .second, .val (.long gb), .second, .val (.long gc), .second, .val (.long gd), .second, .val (.int ge), .val (.int gf), .val (.int gg), .val (.long gh), .second, .val (.int gi), .val (.int gj), .val (.long gk), .second, .val (.ref b37), .val (.int (0 : Int32)), .unset]) rfl k') ?_
                              show Go p e below s _ _ _ (T123.setTop (mkF m 370 #[.val (.long ya), .second, .val (.long yb), .second, .val (.long yc), .second, .val (.int dd), .val (.int sel), .val (.long dl), .second, .val (.long ya), .second, .val (.long yb), .second, .val (.long yc), .second, .val (.long fd), .second, .val (.int dd), .val (.int ff), .val (.int fg), .val (.long fh), .second, .val (.int fi), .val (.int fj), .val (.long fk), .second, .val (.ref b1), .val (.int kk), .val (.int di), .val (.long ga), .second, .val (.long gb), .second, .val (.long gc), .second, .val (.long gd), .second, .val (.int ge), .val (.int gf), .val (.int gg), .val (.long gh), .second, .val (.int gi), .val (.int gj), .val (.long gk), .second, .val (.ref b37), .val (.int (0 : Int32)), .unset] []))
                              refine Go.st (fun _ k' => XS.goto X123.here hx rfl (pc0 := 370) (pc' := 387) rfl (hb hby at_370) (by decide) (by decide) k') ?_
                              show Go p e below s _ _ _ (T123.setTop (mkF m 387 #[.val (.long ya), .second, .val (.long yb), .second, .val (.long yc), .second, .val (.int dd), .val (.int sel), .val (.long dl), .second, .val (.long ya), .second, .val (.long yb), .second, .val (.long yc), .second, .val (.long fd), .second, .val (.int dd), .val (.int ff), .val (.int fg), .val (.long fh), .second, .val (.int fi), .val (.int fj), .val (.long fk), .second, .val (.ref b1), .val (.int kk), .val (.int di), .val (.long ga), .second, .val (.long gb), .second, .val (.long gc), .second, .val (.long gd), .second, .val (.int ge), .val (.int gf), .val (.int gg), .val (.long gh), .second, .val (.int gi), .val (.int gj), .val (.long gk), .second, .val (.ref b37), .val (.int (0 : Int32)), .unset] []))
                              exact J87 T123 _ X123 eq123 N123 (0 : Int32) (by simp [fexp, hc122, hc124, hc126])
                      refine Go.st (fun _ k' => XS.iload X13.here hx rfl (hb hby at_287) rfl k') ?_
                      show Go p e below s _ _ _ (T13.setTop (mkF m 289 #[.val (.long ya), .second, .val (.long yb), .second, .val (.long yc), .second, .val (.int dd), .val (.int sel), .val (.long dl), .second, .val (.long ya), .second, .val (.long yb), .second, .val (.long yc), .second, .val (.long fd), .second, .val (.int dd), .val (.int ff), .val (.int fg), .val (.long fh), .second, .val (.int fi), .val (.int fj), .val (.long fk), .second, .val (.ref b1), .val (.int kk), .val (.int di), .val (.long ga), .second, .val (.long gb), .second, .val (.long gc), .second, .val (.long gd), .second, .val (.int ge), .val (.int gf), .val (.int gg), .val (.long gh), .second, .val (.int gi), .val (.int gj), .unset, .unset, .unset, .unset, .unset] [(.int kk)]))
                      refine Go.st (fun _ k' => XS.bipush X13.here hx rfl (hb hby at_289) k') ?_
                      show Go p e below s _ _ _ (T13.setTop (mkF m 291 #[.val (.long ya), .second, .val (.long yb), .second, .val (.long yc), .second, .val (.int dd), .val (.int sel), .val (.long dl), .second, .val (.long ya), .second, .val (.long yb), .second, .val (.long yc), .second, .val (.long fd), .second, .val (.int dd), .val (.int ff), .val (.int fg), .val (.long fh), .second, .val (.int fi), .val (.int fj), .val (.long fk), .second, .val (.ref b1), .val (.int kk), .val (.int di), .val (.long ga), .second, .val (.long gb), .second, .val (.long gc), .second, .val (.long gd), .second, .val (.int ge), .val (.int gf), .val (.int gg), .val (.long gh), .second, .val (.int gi), .val (.int gj), .unset, .unset, .unset, .unset, .unset] [(.int (10 : Int32)), (.int kk)]))
                      by_cases hc127 : kk = (10 : Int32)
                      · refine Go.st (fun _ k' => XS.icmpNo X13.here hx rfl (hb hby at_291) rfl (XT.ii_ne_f hc127) k') ?_
                        show Go p e below s _ _ _ (T13.setTop (mkF m 294 #[.val (.long ya), .second, .val (.long yb), .second, .val (.long yc), .second, .val (.int dd), .val (.int sel), .val (.long dl), .second, .val (.long ya), .second, .val (.long yb), .second, .val (.long yc), .second, .val (.long fd), .second, .val (.int dd), .val (.int ff), .val (.int fg), .val (.long fh), .second, .val (.int fi), .val (.int fj), .val (.long fk), .second, .val (.ref b1), .val (.int kk), .val (.int di), .val (.long ga), .second, .val (.long gb), .second, .val (.long gc), .second, .val (.long gd), .second, .val (.int ge), .val (.int gf), .val (.int gg), .val (.long gh), .second, .val (.int gi), .val (.int gj), .unset, .unset, .unset, .unset, .unset] []))
                        refine Go.st (fun _ k' => XS.lload X13.here hx rfl (hb hby at_294) rfl k') ?_
                        show Go p e below s _ _ _ (T13.setTop (mkF m 296 #[.val (.long ya), .second, .val (.long yb), .second, .val (.long yc), .second, .val (.int dd), .val (.int sel), .val (.long dl), .second, .val (.long ya), .second, .val (.long yb), .second, .val (.long yc), .second, .val (.long fd), .second, .val (.int dd), .val (.int ff), .val (.int fg), .val (.long fh), .second, .val (.int fi), .val (.int fj), .val (.long fk), .second, .val (.ref b1), .val (.int kk), .val (.int di), .val (.long ga), .second, .val (.long gb), .second, .val (.long gc), .second, .val (.long gd), .second, .val (.int ge), .val (.int gf), .val (.int gg), .val (.long gh), .second, .val (.int gi), .val (.int gj), .unset, .unset, .unset, .unset, .unset] [(.long fk)]))
                        refine Go.st (fun _ k' => XS.lload X13.here hx rfl (hb hby at_296) rfl k') ?_
                        show Go p e below s _ _ _ (T13.setTop (mkF m 298 #[.val (.long ya), .second, .val (.long yb), .second, .val (.long yc), .second, .val (.int dd), .val (.int sel), .val (.long dl), .second, .val (.long ya), .second, .val (.long yb), .second, .val (.long yc), .second, .val (.long fd), .second, .val (.int dd), .val (.int ff), .val (.int fg), .val (.long fh), .second, .val (.int fi), .val (.int fj), .val (.long fk), .second, .val (.ref b1), .val (.int kk), .val (.int di), .val (.long ga), .second, .val (.long gb), .second, .val (.long gc), .second, .val (.long gd), .second, .val (.int ge), .val (.int gf), .val (.int gg), .val (.long gh), .second, .val (.int gi), .val (.int gj), .unset, .unset, .unset, .unset, .unset] [(.long dl), (.long fk)]))
                        refine Go.st (fun _ k' => XS.ladd X13.here hx rfl (hb hby at_298) rfl k') ?_
                        show Go p e below s _ _ _ (T13.setTop (mkF m 299 #[.val (.long ya), .second, .val (.long yb), .second, .val (.long yc), .second, .val (.int dd), .val (.int sel), .val (.long dl), .second, .val (.long ya), .second, .val (.long yb), .second, .val (.long yc), .second, .val (.long fd), .second, .val (.int dd), .val (.int ff), .val (.int fg), .val (.long fh), .second, .val (.int fi), .val (.int fj), .val (.long fk), .second, .val (.ref b1), .val (.int kk), .val (.int di), .val (.long ga), .second, .val (.long gb), .second, .val (.long gc), .second, .val (.long gd), .second, .val (.int ge), .val (.int gf), .val (.int gg), .val (.long gh), .second, .val (.int gi), .val (.int gj), .unset, .unset, .unset, .unset, .unset] [(.long (fk + dl))]))
                        refine Go.st (fun _ k' => XS.goto X13.here hx rfl (pc0 := 299) (pc' := 304) rfl (hb hby at_299) (by decide) (by decide) k') ?_
                        show Go p e below s _ _ _ (T13.setTop (mkF m 304 #[.val (.long ya), .second, .val (.long yb), .second, .val (.long yc), .second, .val (.int dd), .val (.int sel), .val (.long dl), .second, .val (.long ya), .second, .val (.long yb), .second, .val (.long yc), .second, .val (.long fd), .second, .val (.int dd), .val (.int ff), .val (.int fg), .val (.long fh), .second, .val (.int fi), .val (.int fj), .val (.long fk), .second, .val (.ref b1), .val (.int kk), .val (.int di), .val (.long ga), .second, .val (.long gb), .second, .val (.long gc), .second, .val (.long gd), .second, .val (.int ge), .val (.int gf), .val (.int gg), .val (.long gh), .second, .val (.int gi), .val (.int gj), .unset, .unset, .unset, .unset, .unset] [(.long (fk + dl))]))
                        exact J36 (fk + dl) (by simp [hc127])
                      · refine Go.st (fun _ k' => XS.icmpYes X13.here hx rfl (pc0 := 291) (pc' := 302) rfl (hb hby at_291) rfl (XT.ii_ne_t hc127) (by decide) (by decide) k') ?_
                        show Go p e below s _ _ _ (T13.setTop (mkF m 302 #[.val (.long ya), .second, .val (.long yb), .second, .val (.long yc), .second, .val (.int dd), .val (.int sel), .val (.long dl), .second, .val (.long ya), .second, .val (.long yb), .second, .val (.long yc), .second, .val (.long fd), .second, .val (.int dd), .val (.int ff), .val (.int fg), .val (.long fh), .second, .val (.int fi), .val (.int fj), .val (.long fk), .second, .val (.ref b1), .val (.int kk), .val (.int di), .val (.long ga), .second, .val (.long gb), .second, .val (.long gc), .second, .val (.long gd), .second, .val (.int ge), .val (.int gf), .val (.int gg), .val (.long gh), .second, .val (.int gi), .val (.int gj), .unset, .unset, .unset, .unset, .unset] []))
                        refine Go.st (fun _ k' => XS.lload X13.here hx rfl (hb hby at_302) rfl k') ?_
                        show Go p e below s _ _ _ (T13.setTop (mkF m 304 #[.val (.long ya), .second, .val (.long yb), .second, .val (.long yc), .second, .val (.int dd), .val (.int sel), .val (.long dl), .second, .val (.long ya), .second, .val (.long yb), .second, .val (.long yc), .second, .val (.long fd), .second, .val (.int dd), .val (.int ff), .val (.int fg), .val (.long fh), .second, .val (.int fi), .val (.int fj), .val (.long fk), .second, .val (.ref b1), .val (.int kk), .val (.int di), .val (.long ga), .second, .val (.long gb), .second, .val (.long gc), .second, .val (.long gd), .second, .val (.int ge), .val (.int gf), .val (.int gg), .val (.long gh), .second, .val (.int gi), .val (.int gj), .unset, .unset, .unset, .unset, .unset] [(.long fk)]))
                        exact J36 fk (by simp [hc127])
                    refine Go.st (fun _ k' => XS.iload X13.here hx rfl (hb hby at_268) rfl k') ?_
                    show Go p e below s _ _ _ (T13.setTop (mkF m 270 #[.val (.long ya), .second, .val (.long yb), .second, .val (.long yc), .second, .val (.int dd), .val (.int sel), .val (.long dl), .second, .val (.long ya), .second, .val (.long yb), .second, .val (.long yc), .second, .val (.long fd), .second, .val (.int dd), .val (.int ff), .val (.int fg), .val (.long fh), .second, .val (.int fi), .val (.int fj), .val (.long fk), .second, .val (.ref b1), .val (.int kk), .val (.int di), .val (.long ga), .second, .val (.long gb), .second, .val (.long gc), .second, .val (.long gd), .second, .val (.int ge), .val (.int gf), .val (.int gg), .val (.long gh), .second, .val (.int gi), .unset, .unset, .unset, .unset, .unset, .unset] [(.int kk)]))
                    refine Go.st (fun _ k' => XS.bipush X13.here hx rfl (hb hby at_270) k') ?_
                    show Go p e below s _ _ _ (T13.setTop (mkF m 272 #[.val (.long ya), .second, .val (.long yb), .second, .val (.long yc), .second, .val (.int dd), .val (.int sel), .val (.long dl), .second, .val (.long ya), .second, .val (.long yb), .second, .val (.long yc), .second, .val (.long fd), .second, .val (.int dd), .val (.int ff), .val (.int fg), .val (.long fh), .second, .val (.int fi), .val (.int fj), .val (.long fk), .second, .val (.ref b1), .val (.int kk), .val (.int di), .val (.long ga), .second, .val (.long gb), .second, .val (.long gc), .second, .val (.long gd), .second, .val (.int ge), .val (.int gf), .val (.int gg), .val (.long gh), .second, .val (.int gi), .unset, .unset, .unset, .unset, .unset, .unset] [(.int (9 : Int32)), (.int kk)]))
                    by_cases hc128 : kk = (9 : Int32)
                    · refine Go.st (fun _ k' => XS.icmpNo X13.here hx rfl (hb hby at_272) rfl (XT.ii_ne_f hc128) k') ?_
                      show Go p e below s _ _ _ (T13.setTop (mkF m 275 #[.val (.long ya), .second, .val (.long yb), .second, .val (.long yc), .second, .val (.int dd), .val (.int sel), .val (.long dl), .second, .val (.long ya), .second, .val (.long yb), .second, .val (.long yc), .second, .val (.long fd), .second, .val (.int dd), .val (.int ff), .val (.int fg), .val (.long fh), .second, .val (.int fi), .val (.int fj), .val (.long fk), .second, .val (.ref b1), .val (.int kk), .val (.int di), .val (.long ga), .second, .val (.long gb), .second, .val (.long gc), .second, .val (.long gd), .second, .val (.int ge), .val (.int gf), .val (.int gg), .val (.long gh), .second, .val (.int gi), .unset, .unset, .unset, .unset, .unset, .unset] []))
                      refine Go.st (fun _ k' => XS.iload X13.here hx rfl (hb hby at_275) rfl k') ?_
                      show Go p e below s _ _ _ (T13.setTop (mkF m 277 #[.val (.long ya), .second, .val (.long yb), .second, .val (.long yc), .second, .val (.int dd), .val (.int sel), .val (.long dl), .second, .val (.long ya), .second, .val (.long yb), .second, .val (.long yc), .second, .val (.long fd), .second, .val (.int dd), .val (.int ff), .val (.int fg), .val (.long fh), .second, .val (.int fi), .val (.int fj), .val (.long fk), .second, .val (.ref b1), .val (.int kk), .val (.int di), .val (.long ga), .second, .val (.long gb), .second, .val (.long gc), .second, .val (.long gd), .second, .val (.int ge), .val (.int gf), .val (.int gg), .val (.long gh), .second, .val (.int gi), .unset, .unset, .unset, .unset, .unset, .unset] [(.int fj)]))
                      refine Go.st (fun _ k' => XS.iload X13.here hx rfl (hb hby at_277) rfl k') ?_
                      show Go p e below s _ _ _ (T13.setTop (mkF m 279 #[.val (.long ya), .second, .val (.long yb), .second, .val (.long yc), .second, .val (.int dd), .val (.int sel), .val (.long dl), .second, .val (.long ya), .second, .val (.long yb), .second, .val (.long yc), .second, .val (.long fd), .second, .val (.int dd), .val (.int ff), .val (.int fg), .val (.long fh), .second, .val (.int fi), .val (.int fj), .val (.long fk), .second, .val (.ref b1), .val (.int kk), .val (.int di), .val (.long ga), .second, .val (.long gb), .second, .val (.long gc), .second, .val (.long gd), .second, .val (.int ge), .val (.int gf), .val (.int gg), .val (.long gh), .second, .val (.int gi), .unset, .unset, .unset, .unset, .unset, .unset] [(.int di), (.int fj)]))
                      refine Go.st (fun _ k' => XS.iadd X13.here hx rfl (hb hby at_279) rfl k') ?_
                      show Go p e below s _ _ _ (T13.setTop (mkF m 280 #[.val (.long ya), .second, .val (.long yb), .second, .val (.long yc), .second, .val (.int dd), .val (.int sel), .val (.long dl), .second, .val (.long ya), .second, .val (.long yb), .second, .val (.long yc), .second, .val (.long fd), .second, .val (.int dd), .val (.int ff), .val (.int fg), .val (.long fh), .second, .val (.int fi), .val (.int fj), .val (.long fk), .second, .val (.ref b1), .val (.int kk), .val (.int di), .val (.long ga), .second, .val (.long gb), .second, .val (.long gc), .second, .val (.long gd), .second, .val (.int ge), .val (.int gf), .val (.int gg), .val (.long gh), .second, .val (.int gi), .unset, .unset, .unset, .unset, .unset, .unset] [(.int (fj + di))]))
                      refine Go.st (fun _ k' => XS.goto X13.here hx rfl (pc0 := 280) (pc' := 285) rfl (hb hby at_280) (by decide) (by decide) k') ?_
                      show Go p e below s _ _ _ (T13.setTop (mkF m 285 #[.val (.long ya), .second, .val (.long yb), .second, .val (.long yc), .second, .val (.int dd), .val (.int sel), .val (.long dl), .second, .val (.long ya), .second, .val (.long yb), .second, .val (.long yc), .second, .val (.long fd), .second, .val (.int dd), .val (.int ff), .val (.int fg), .val (.long fh), .second, .val (.int fi), .val (.int fj), .val (.long fk), .second, .val (.ref b1), .val (.int kk), .val (.int di), .val (.long ga), .second, .val (.long gb), .second, .val (.long gc), .second, .val (.long gd), .second, .val (.int ge), .val (.int gf), .val (.int gg), .val (.long gh), .second, .val (.int gi), .unset, .unset, .unset, .unset, .unset, .unset] [(.int (fj + di))]))
                      exact J35 (fj + di) (by simp [hc128])
                    · refine Go.st (fun _ k' => XS.icmpYes X13.here hx rfl (pc0 := 272) (pc' := 283) rfl (hb hby at_272) rfl (XT.ii_ne_t hc128) (by decide) (by decide) k') ?_
                      show Go p e below s _ _ _ (T13.setTop (mkF m 283 #[.val (.long ya), .second, .val (.long yb), .second, .val (.long yc), .second, .val (.int dd), .val (.int sel), .val (.long dl), .second, .val (.long ya), .second, .val (.long yb), .second, .val (.long yc), .second, .val (.long fd), .second, .val (.int dd), .val (.int ff), .val (.int fg), .val (.long fh), .second, .val (.int fi), .val (.int fj), .val (.long fk), .second, .val (.ref b1), .val (.int kk), .val (.int di), .val (.long ga), .second, .val (.long gb), .second, .val (.long gc), .second, .val (.long gd), .second, .val (.int ge), .val (.int gf), .val (.int gg), .val (.long gh), .second, .val (.int gi), .unset, .unset, .unset, .unset, .unset, .unset] []))
                      refine Go.st (fun _ k' => XS.iload X13.here hx rfl (hb hby at_283) rfl k') ?_
                      show Go p e below s _ _ _ (T13.setTop (mkF m 285 #[.val (.long ya), .second, .val (.long yb), .second, .val (.long yc), .second, .val (.int dd), .val (.int sel), .val (.long dl), .second, .val (.long ya), .second, .val (.long yb), .second, .val (.long yc), .second, .val (.long fd), .second, .val (.int dd), .val (.int ff), .val (.int fg), .val (.long fh), .second, .val (.int fi), .val (.int fj), .val (.long fk), .second, .val (.ref b1), .val (.int kk), .val (.int di), .val (.long ga), .second, .val (.long gb), .second, .val (.long gc), .second, .val (.long gd), .second, .val (.int ge), .val (.int gf), .val (.int gg), .val (.long gh), .second, .val (.int gi), .unset, .unset, .unset, .unset, .unset, .unset] [(.int fj)]))
                      exact J35 fj (by simp [hc128])
                  refine Go.st (fun _ k' => XS.iload X13.here hx rfl (hb hby at_249) rfl k') ?_
                  show Go p e below s _ _ _ (T13.setTop (mkF m 251 #[.val (.long ya), .second, .val (.long yb), .second, .val (.long yc), .second, .val (.int dd), .val (.int sel), .val (.long dl), .second, .val (.long ya), .second, .val (.long yb), .second, .val (.long yc), .second, .val (.long fd), .second, .val (.int dd), .val (.int ff), .val (.int fg), .val (.long fh), .second, .val (.int fi), .val (.int fj), .val (.long fk), .second, .val (.ref b1), .val (.int kk), .val (.int di), .val (.long ga), .second, .val (.long gb), .second, .val (.long gc), .second, .val (.long gd), .second, .val (.int ge), .val (.int gf), .val (.int gg), .val (.long gh), .second, .unset, .unset, .unset, .unset, .unset, .unset, .unset] [(.int kk)]))
                  refine Go.st (fun _ k' => XS.bipush X13.here hx rfl (hb hby at_251) k') ?_
                  show Go p e below s _ _ _ (T13.setTop (mkF m 253 #[.val (.long ya), .second, .val (.long yb), .second, .val (.long yc), .second, .val (.int dd), .val (.int sel), .val (.long dl), .second, .val (.long ya), .second, .val (.long yb), .second, .val (.long yc), .second, .val (.long fd), .second, .val (.int dd), .val (.int ff), .val (.int fg), .val (.long fh), .second, .val (.int fi), .val (.int fj), .val (.long fk), .second, .val (.ref b1), .val (.int kk), .val (.int di), .val (.long ga), .second, .val (.long gb), .second, .val (.long gc), .second, .val (.long gd), .second, .val (.int ge), .val (.int gf), .val (.int gg), .val (.long gh), .second, .unset, .unset, .unset, .unset, .unset, .unset, .unset] [(.int (8 : Int32)), (.int kk)]))
                  by_cases hc129 : kk = (8 : Int32)
                  · refine Go.st (fun _ k' => XS.icmpNo X13.here hx rfl (hb hby at_253) rfl (XT.ii_ne_f hc129) k') ?_
                    show Go p e below s _ _ _ (T13.setTop (mkF m 256 #[.val (.long ya), .second, .val (.long yb), .second, .val (.long yc), .second, .val (.int dd), .val (.int sel), .val (.long dl), .second, .val (.long ya), .second, .val (.long yb), .second, .val (.long yc), .second, .val (.long fd), .second, .val (.int dd), .val (.int ff), .val (.int fg), .val (.long fh), .second, .val (.int fi), .val (.int fj), .val (.long fk), .second, .val (.ref b1), .val (.int kk), .val (.int di), .val (.long ga), .second, .val (.long gb), .second, .val (.long gc), .second, .val (.long gd), .second, .val (.int ge), .val (.int gf), .val (.int gg), .val (.long gh), .second, .unset, .unset, .unset, .unset, .unset, .unset, .unset] []))
                    refine Go.st (fun _ k' => XS.iload X13.here hx rfl (hb hby at_256) rfl k') ?_
                    show Go p e below s _ _ _ (T13.setTop (mkF m 258 #[.val (.long ya), .second, .val (.long yb), .second, .val (.long yc), .second, .val (.int dd), .val (.int sel), .val (.long dl), .second, .val (.long ya), .second, .val (.long yb), .second, .val (.long yc), .second, .val (.long fd), .second, .val (.int dd), .val (.int ff), .val (.int fg), .val (.long fh), .second, .val (.int fi), .val (.int fj), .val (.long fk), .second, .val (.ref b1), .val (.int kk), .val (.int di), .val (.long ga), .second, .val (.long gb), .second, .val (.long gc), .second, .val (.long gd), .second, .val (.int ge), .val (.int gf), .val (.int gg), .val (.long gh), .second, .unset, .unset, .unset, .unset, .unset, .unset, .unset] [(.int fi)]))
                    refine Go.st (fun _ k' => XS.iload X13.here hx rfl (hb hby at_258) rfl k') ?_
                    show Go p e below s _ _ _ (T13.setTop (mkF m 260 #[.val (.long ya), .second, .val (.long yb), .second, .val (.long yc), .second, .val (.int dd), .val (.int sel), .val (.long dl), .second, .val (.long ya), .second, .val (.long yb), .second, .val (.long yc), .second, .val (.long fd), .second, .val (.int dd), .val (.int ff), .val (.int fg), .val (.long fh), .second, .val (.int fi), .val (.int fj), .val (.long fk), .second, .val (.ref b1), .val (.int kk), .val (.int di), .val (.long ga), .second, .val (.long gb), .second, .val (.long gc), .second, .val (.long gd), .second, .val (.int ge), .val (.int gf), .val (.int gg), .val (.long gh), .second, .unset, .unset, .unset, .unset, .unset, .unset, .unset] [(.int di), (.int fi)]))
                    refine Go.st (fun _ k' => XS.iadd X13.here hx rfl (hb hby at_260) rfl k') ?_
                    show Go p e below s _ _ _ (T13.setTop (mkF m 261 #[.val (.long ya), .second, .val (.long yb), .second, .val (.long yc), .second, .val (.int dd), .val (.int sel), .val (.long dl), .second, .val (.long ya), .second, .val (.long yb), .second, .val (.long yc), .second, .val (.long fd), .second, .val (.int dd), .val (.int ff), .val (.int fg), .val (.long fh), .second, .val (.int fi), .val (.int fj), .val (.long fk), .second, .val (.ref b1), .val (.int kk), .val (.int di), .val (.long ga), .second, .val (.long gb), .second, .val (.long gc), .second, .val (.long gd), .second, .val (.int ge), .val (.int gf), .val (.int gg), .val (.long gh), .second, .unset, .unset, .unset, .unset, .unset, .unset, .unset] [(.int (fi + di))]))
                    refine Go.st (fun _ k' => XS.goto X13.here hx rfl (pc0 := 261) (pc' := 266) rfl (hb hby at_261) (by decide) (by decide) k') ?_
                    show Go p e below s _ _ _ (T13.setTop (mkF m 266 #[.val (.long ya), .second, .val (.long yb), .second, .val (.long yc), .second, .val (.int dd), .val (.int sel), .val (.long dl), .second, .val (.long ya), .second, .val (.long yb), .second, .val (.long yc), .second, .val (.long fd), .second, .val (.int dd), .val (.int ff), .val (.int fg), .val (.long fh), .second, .val (.int fi), .val (.int fj), .val (.long fk), .second, .val (.ref b1), .val (.int kk), .val (.int di), .val (.long ga), .second, .val (.long gb), .second, .val (.long gc), .second, .val (.long gd), .second, .val (.int ge), .val (.int gf), .val (.int gg), .val (.long gh), .second, .unset, .unset, .unset, .unset, .unset, .unset, .unset] [(.int (fi + di))]))
                    exact J34 (fi + di) (by simp [hc129])
                  · refine Go.st (fun _ k' => XS.icmpYes X13.here hx rfl (pc0 := 253) (pc' := 264) rfl (hb hby at_253) rfl (XT.ii_ne_t hc129) (by decide) (by decide) k') ?_
                    show Go p e below s _ _ _ (T13.setTop (mkF m 264 #[.val (.long ya), .second, .val (.long yb), .second, .val (.long yc), .second, .val (.int dd), .val (.int sel), .val (.long dl), .second, .val (.long ya), .second, .val (.long yb), .second, .val (.long yc), .second, .val (.long fd), .second, .val (.int dd), .val (.int ff), .val (.int fg), .val (.long fh), .second, .val (.int fi), .val (.int fj), .val (.long fk), .second, .val (.ref b1), .val (.int kk), .val (.int di), .val (.long ga), .second, .val (.long gb), .second, .val (.long gc), .second, .val (.long gd), .second, .val (.int ge), .val (.int gf), .val (.int gg), .val (.long gh), .second, .unset, .unset, .unset, .unset, .unset, .unset, .unset] []))
                    refine Go.st (fun _ k' => XS.iload X13.here hx rfl (hb hby at_264) rfl k') ?_
                    show Go p e below s _ _ _ (T13.setTop (mkF m 266 #[.val (.long ya), .second, .val (.long yb), .second, .val (.long yc), .second, .val (.int dd), .val (.int sel), .val (.long dl), .second, .val (.long ya), .second, .val (.long yb), .second, .val (.long yc), .second, .val (.long fd), .second, .val (.int dd), .val (.int ff), .val (.int fg), .val (.long fh), .second, .val (.int fi), .val (.int fj), .val (.long fk), .second, .val (.ref b1), .val (.int kk), .val (.int di), .val (.long ga), .second, .val (.long gb), .second, .val (.long gc), .second, .val (.long gd), .second, .val (.int ge), .val (.int gf), .val (.int gg), .val (.long gh), .second, .unset, .unset, .unset, .unset, .unset, .unset, .unset] [(.int fi)]))
                    exact J34 fi (by simp [hc129])
                refine Go.st (fun _ k' => XS.iload X13.here hx rfl (hb hby at_230) rfl k') ?_
                show Go p e below s _ _ _ (T13.setTop (mkF m 232 #[.val (.long ya), .second, .val (.long yb), .second, .val (.long yc), .second, .val (.int dd), .val (.int sel), .val (.long dl), .second, .val (.long ya), .second, .val (.long yb), .second, .val (.long yc), .second, .val (.long fd), .second, .val (.int dd), .val (.int ff), .val (.int fg), .val (.long fh), .second, .val (.int fi), .val (.int fj), .val (.long fk), .second, .val (.ref b1), .val (.int kk), .val (.int di), .val (.long ga), .second, .val (.long gb), .second, .val (.long gc), .second, .val (.long gd), .second, .val (.int ge), .val (.int gf), .val (.int gg), .unset, .unset, .unset, .unset, .unset, .unset, .unset, .unset, .unset] [(.int kk)]))
                refine Go.st (fun _ k' => XS.bipush X13.here hx rfl (hb hby at_232) k') ?_
                show Go p e below s _ _ _ (T13.setTop (mkF m 234 #[.val (.long ya), .second, .val (.long yb), .second, .val (.long yc), .second, .val (.int dd), .val (.int sel), .val (.long dl), .second, .val (.long ya), .second, .val (.long yb), .second, .val (.long yc), .second, .val (.long fd), .second, .val (.int dd), .val (.int ff), .val (.int fg), .val (.long fh), .second, .val (.int fi), .val (.int fj), .val (.long fk), .second, .val (.ref b1), .val (.int kk), .val (.int di), .val (.long ga), .second, .val (.long gb), .second, .val (.long gc), .second, .val (.long gd), .second, .val (.int ge), .val (.int gf), .val (.int gg), .unset, .unset, .unset, .unset, .unset, .unset, .unset, .unset, .unset] [(.int (7 : Int32)), (.int kk)]))
                by_cases hc130 : kk = (7 : Int32)
                · refine Go.st (fun _ k' => XS.icmpNo X13.here hx rfl (hb hby at_234) rfl (XT.ii_ne_f hc130) k') ?_
                  show Go p e below s _ _ _ (T13.setTop (mkF m 237 #[.val (.long ya), .second, .val (.long yb), .second, .val (.long yc), .second, .val (.int dd), .val (.int sel), .val (.long dl), .second, .val (.long ya), .second, .val (.long yb), .second, .val (.long yc), .second, .val (.long fd), .second, .val (.int dd), .val (.int ff), .val (.int fg), .val (.long fh), .second, .val (.int fi), .val (.int fj), .val (.long fk), .second, .val (.ref b1), .val (.int kk), .val (.int di), .val (.long ga), .second, .val (.long gb), .second, .val (.long gc), .second, .val (.long gd), .second, .val (.int ge), .val (.int gf), .val (.int gg), .unset, .unset, .unset, .unset, .unset, .unset, .unset, .unset, .unset] []))
                  refine Go.st (fun _ k' => XS.lload X13.here hx rfl (hb hby at_237) rfl k') ?_
                  show Go p e below s _ _ _ (T13.setTop (mkF m 239 #[.val (.long ya), .second, .val (.long yb), .second, .val (.long yc), .second, .val (.int dd), .val (.int sel), .val (.long dl), .second, .val (.long ya), .second, .val (.long yb), .second, .val (.long yc), .second, .val (.long fd), .second, .val (.int dd), .val (.int ff), .val (.int fg), .val (.long fh), .second, .val (.int fi), .val (.int fj), .val (.long fk), .second, .val (.ref b1), .val (.int kk), .val (.int di), .val (.long ga), .second, .val (.long gb), .second, .val (.long gc), .second, .val (.long gd), .second, .val (.int ge), .val (.int gf), .val (.int gg), .unset, .unset, .unset, .unset, .unset, .unset, .unset, .unset, .unset] [(.long fh)]))
                  refine Go.st (fun _ k' => XS.lload X13.here hx rfl (hb hby at_239) rfl k') ?_
                  show Go p e below s _ _ _ (T13.setTop (mkF m 241 #[.val (.long ya), .second, .val (.long yb), .second, .val (.long yc), .second, .val (.int dd), .val (.int sel), .val (.long dl), .second, .val (.long ya), .second, .val (.long yb), .second, .val (.long yc), .second, .val (.long fd), .second, .val (.int dd), .val (.int ff), .val (.int fg), .val (.long fh), .second, .val (.int fi), .val (.int fj), .val (.long fk), .second, .val (.ref b1), .val (.int kk), .val (.int di), .val (.long ga), .second, .val (.long gb), .second, .val (.long gc), .second, .val (.long gd), .second, .val (.int ge), .val (.int gf), .val (.int gg), .unset, .unset, .unset, .unset, .unset, .unset, .unset, .unset, .unset] [(.long dl), (.long fh)]))
                  refine Go.st (fun _ k' => XS.ladd X13.here hx rfl (hb hby at_241) rfl k') ?_
                  show Go p e below s _ _ _ (T13.setTop (mkF m 242 #[.val (.long ya), .second, .val (.long yb), .second, .val (.long yc), .second, .val (.int dd), .val (.int sel), .val (.long dl), .second, .val (.long ya), .second, .val (.long yb), .second, .val (.long yc), .second, .val (.long fd), .second, .val (.int dd), .val (.int ff), .val (.int fg), .val (.long fh), .second, .val (.int fi), .val (.int fj), .val (.long fk), .second, .val (.ref b1), .val (.int kk), .val (.int di), .val (.long ga), .second, .val (.long gb), .second, .val (.long gc), .second, .val (.long gd), .second, .val (.int ge), .val (.int gf), .val (.int gg), .unset, .unset, .unset, .unset, .unset, .unset, .unset, .unset, .unset] [(.long (fh + dl))]))
                  refine Go.st (fun _ k' => XS.goto X13.here hx rfl (pc0 := 242) (pc' := 247) rfl (hb hby at_242) (by decide) (by decide) k') ?_
                  show Go p e below s _ _ _ (T13.setTop (mkF m 247 #[.val (.long ya), .second, .val (.long yb), .second, .val (.long yc), .second, .val (.int dd), .val (.int sel), .val (.long dl), .second, .val (.long ya), .second, .val (.long yb), .second, .val (.long yc), .second, .val (.long fd), .second, .val (.int dd), .val (.int ff), .val (.int fg), .val (.long fh), .second, .val (.int fi), .val (.int fj), .val (.long fk), .second, .val (.ref b1), .val (.int kk), .val (.int di), .val (.long ga), .second, .val (.long gb), .second, .val (.long gc), .second, .val (.long gd), .second, .val (.int ge), .val (.int gf), .val (.int gg), .unset, .unset, .unset, .unset, .unset, .unset, .unset, .unset, .unset] [(.long (fh + dl))]))
                  exact J33 (fh + dl) (by simp [hc130])
                · refine Go.st (fun _ k' => XS.icmpYes X13.here hx rfl (pc0 := 234) (pc' := 245) rfl (hb hby at_234) rfl (XT.ii_ne_t hc130) (by decide) (by decide) k') ?_
                  show Go p e below s _ _ _ (T13.setTop (mkF m 245 #[.val (.long ya), .second, .val (.long yb), .second, .val (.long yc), .second, .val (.int dd), .val (.int sel), .val (.long dl), .second, .val (.long ya), .second, .val (.long yb), .second, .val (.long yc), .second, .val (.long fd), .second, .val (.int dd), .val (.int ff), .val (.int fg), .val (.long fh), .second, .val (.int fi), .val (.int fj), .val (.long fk), .second, .val (.ref b1), .val (.int kk), .val (.int di), .val (.long ga), .second, .val (.long gb), .second, .val (.long gc), .second, .val (.long gd), .second, .val (.int ge), .val (.int gf), .val (.int gg), .unset, .unset, .unset, .unset, .unset, .unset, .unset, .unset, .unset] []))
                  refine Go.st (fun _ k' => XS.lload X13.here hx rfl (hb hby at_245) rfl k') ?_
                  show Go p e below s _ _ _ (T13.setTop (mkF m 247 #[.val (.long ya), .second, .val (.long yb), .second, .val (.long yc), .second, .val (.int dd), .val (.int sel), .val (.long dl), .second, .val (.long ya), .second, .val (.long yb), .second, .val (.long yc), .second, .val (.long fd), .second, .val (.int dd), .val (.int ff), .val (.int fg), .val (.long fh), .second, .val (.int fi), .val (.int fj), .val (.long fk), .second, .val (.ref b1), .val (.int kk), .val (.int di), .val (.long ga), .second, .val (.long gb), .second, .val (.long gc), .second, .val (.long gd), .second, .val (.int ge), .val (.int gf), .val (.int gg), .unset, .unset, .unset, .unset, .unset, .unset, .unset, .unset, .unset] [(.long fh)]))
                  exact J33 fh (by simp [hc130])
              refine Go.st (fun _ k' => XS.iload X13.here hx rfl (hb hby at_211) rfl k') ?_
              show Go p e below s _ _ _ (T13.setTop (mkF m 213 #[.val (.long ya), .second, .val (.long yb), .second, .val (.long yc), .second, .val (.int dd), .val (.int sel), .val (.long dl), .second, .val (.long ya), .second, .val (.long yb), .second, .val (.long yc), .second, .val (.long fd), .second, .val (.int dd), .val (.int ff), .val (.int fg), .val (.long fh), .second, .val (.int fi), .val (.int fj), .val (.long fk), .second, .val (.ref b1), .val (.int kk), .val (.int di), .val (.long ga), .second, .val (.long gb), .second, .val (.long gc), .second, .val (.long gd), .second, .val (.int ge), .val (.int gf), .unset, .unset, .unset, .unset, .unset, .unset, .unset, .unset, .unset, .unset] [(.int kk)]))
              refine Go.st (fun _ k' => XS.bipush X13.here hx rfl (hb hby at_213) k') ?_
              show Go p e below s _ _ _ (T13.setTop (mkF m 215 #[.val (.long ya), .second, .val (.long yb), .second, .val (.long yc), .second, .val (.int dd), .val (.int sel), .val (.long dl), .second, .val (.long ya), .second, .val (.long yb), .second, .val (.long yc), .second, .val (.long fd), .second, .val (.int dd), .val (.int ff), .val (.int fg), .val (.long fh), .second, .val (.int fi), .val (.int fj), .val (.long fk), .second, .val (.ref b1), .val (.int kk), .val (.int di), .val (.long ga), .second, .val (.long gb), .second, .val (.long gc), .second, .val (.long gd), .second, .val (.int ge), .val (.int gf), .unset, .unset, .unset, .unset, .unset, .unset, .unset, .unset, .unset, .unset] [(.int (6 : Int32)), (.int kk)]))
              by_cases hc131 : kk = (6 : Int32)
              · refine Go.st (fun _ k' => XS.icmpNo X13.here hx rfl (hb hby at_215) rfl (XT.ii_ne_f hc131) k') ?_
                show Go p e below s _ _ _ (T13.setTop (mkF m 218 #[.val (.long ya), .second, .val (.long yb), .second, .val (.long yc), .second, .val (.int dd), .val (.int sel), .val (.long dl), .second, .val (.long ya), .second, .val (.long yb), .second, .val (.long yc), .second, .val (.long fd), .second, .val (.int dd), .val (.int ff), .val (.int fg), .val (.long fh), .second, .val (.int fi), .val (.int fj), .val (.long fk), .second, .val (.ref b1), .val (.int kk), .val (.int di), .val (.long ga), .second, .val (.long gb), .second, .val (.long gc), .second, .val (.long gd), .second, .val (.int ge), .val (.int gf), .unset, .unset, .unset, .unset, .unset, .unset, .unset, .unset, .unset, .unset] []))
                refine Go.st (fun _ k' => XS.iload X13.here hx rfl (hb hby at_218) rfl k') ?_
                show Go p e below s _ _ _ (T13.setTop (mkF m 220 #[.val (.long ya), .second, .val (.long yb), .second, .val (.long yc), .second, .val (.int dd), .val (.int sel), .val (.long dl), .second, .val (.long ya), .second, .val (.long yb), .second, .val (.long yc), .second, .val (.long fd), .second, .val (.int dd), .val (.int ff), .val (.int fg), .val (.long fh), .second, .val (.int fi), .val (.int fj), .val (.long fk), .second, .val (.ref b1), .val (.int kk), .val (.int di), .val (.long ga), .second, .val (.long gb), .second, .val (.long gc), .second, .val (.long gd), .second, .val (.int ge), .val (.int gf), .unset, .unset, .unset, .unset, .unset, .unset, .unset, .unset, .unset, .unset] [(.int fg)]))
                refine Go.st (fun _ k' => XS.iload X13.here hx rfl (hb hby at_220) rfl k') ?_
                show Go p e below s _ _ _ (T13.setTop (mkF m 222 #[.val (.long ya), .second, .val (.long yb), .second, .val (.long yc), .second, .val (.int dd), .val (.int sel), .val (.long dl), .second, .val (.long ya), .second, .val (.long yb), .second, .val (.long yc), .second, .val (.long fd), .second, .val (.int dd), .val (.int ff), .val (.int fg), .val (.long fh), .second, .val (.int fi), .val (.int fj), .val (.long fk), .second, .val (.ref b1), .val (.int kk), .val (.int di), .val (.long ga), .second, .val (.long gb), .second, .val (.long gc), .second, .val (.long gd), .second, .val (.int ge), .val (.int gf), .unset, .unset, .unset, .unset, .unset, .unset, .unset, .unset, .unset, .unset] [(.int di), (.int fg)]))
                refine Go.st (fun _ k' => XS.iadd X13.here hx rfl (hb hby at_222) rfl k') ?_
                show Go p e below s _ _ _ (T13.setTop (mkF m 223 #[.val (.long ya), .second, .val (.long yb), .second, .val (.long yc), .second, .val (.int dd), .val (.int sel), .val (.long dl), .second, .val (.long ya), .second, .val (.long yb), .second, .val (.long yc), .second, .val (.long fd), .second, .val (.int dd), .val (.int ff), .val (.int fg), .val (.long fh), .second, .val (.int fi), .val (.int fj), .val (.long fk), .second, .val (.ref b1), .val (.int kk), .val (.int di), .val (.long ga), .second, .val (.long gb), .second, .val (.long gc), .second, .val (.long gd), .second, .val (.int ge), .val (.int gf), .unset, .unset, .unset, .unset, .unset, .unset, .unset, .unset, .unset, .unset] [(.int (fg + di))]))
                refine Go.st (fun _ k' => XS.goto X13.here hx rfl (pc0 := 223) (pc' := 228) rfl (hb hby at_223) (by decide) (by decide) k') ?_
                show Go p e below s _ _ _ (T13.setTop (mkF m 228 #[.val (.long ya), .second, .val (.long yb), .second, .val (.long yc), .second, .val (.int dd), .val (.int sel), .val (.long dl), .second, .val (.long ya), .second, .val (.long yb), .second, .val (.long yc), .second, .val (.long fd), .second, .val (.int dd), .val (.int ff), .val (.int fg), .val (.long fh), .second, .val (.int fi), .val (.int fj), .val (.long fk), .second, .val (.ref b1), .val (.int kk), .val (.int di), .val (.long ga), .second, .val (.long gb), .second, .val (.long gc), .second, .val (.long gd), .second, .val (.int ge), .val (.int gf), .unset, .unset, .unset, .unset, .unset, .unset, .unset, .unset, .unset, .unset] [(.int (fg + di))]))
                exact J32 (fg + di) (by simp [hc131])
              · refine Go.st (fun _ k' => XS.icmpYes X13.here hx rfl (pc0 := 215) (pc' := 226) rfl (hb hby at_215) rfl (XT.ii_ne_t hc131) (by decide) (by decide) k') ?_
                show Go p e below s _ _ _ (T13.setTop (mkF m 226 #[.val (.long ya), .second, .val (.long yb), .second, .val (.long yc), .second, .val (.int dd), .val (.int sel), .val (.long dl), .second, .val (.long ya), .second, .val (.long yb), .second, .val (.long yc), .second, .val (.long fd), .second, .val (.int dd), .val (.int ff), .val (.int fg), .val (.long fh), .second, .val (.int fi), .val (.int fj), .val (.long fk), .second, .val (.ref b1), .val (.int kk), .val (.int di), .val (.long ga), .second, .val (.long gb), .second, .val (.long gc), .second, .val (.long gd), .second, .val (.int ge), .val (.int gf), .unset, .unset, .unset, .unset, .unset, .unset, .unset, .unset, .unset, .unset] []))
                refine Go.st (fun _ k' => XS.iload X13.here hx rfl (hb hby at_226) rfl k') ?_
                show Go p e below s _ _ _ (T13.setTop (mkF m 228 #[.val (.long ya), .second, .val (.long yb), .second, .val (.long yc), .second, .val (.int dd), .val (.int sel), .val (.long dl), .second, .val (.long ya), .second, .val (.long yb), .second, .val (.long yc), .second, .val (.long fd), .second, .val (.int dd), .val (.int ff), .val (.int fg), .val (.long fh), .second, .val (.int fi), .val (.int fj), .val (.long fk), .second, .val (.ref b1), .val (.int kk), .val (.int di), .val (.long ga), .second, .val (.long gb), .second, .val (.long gc), .second, .val (.long gd), .second, .val (.int ge), .val (.int gf), .unset, .unset, .unset, .unset, .unset, .unset, .unset, .unset, .unset, .unset] [(.int fg)]))
                exact J32 fg (by simp [hc131])
            refine Go.st (fun _ k' => XS.iload X13.here hx rfl (hb hby at_193) rfl k') ?_
            show Go p e below s _ _ _ (T13.setTop (mkF m 195 #[.val (.long ya), .second, .val (.long yb), .second, .val (.long yc), .second, .val (.int dd), .val (.int sel), .val (.long dl), .second, .val (.long ya), .second, .val (.long yb), .second, .val (.long yc), .second, .val (.long fd), .second, .val (.int dd), .val (.int ff), .val (.int fg), .val (.long fh), .second, .val (.int fi), .val (.int fj), .val (.long fk), .second, .val (.ref b1), .val (.int kk), .val (.int di), .val (.long ga), .second, .val (.long gb), .second, .val (.long gc), .second, .val (.long gd), .second, .val (.int ge), .unset, .unset, .unset, .unset, .unset, .unset, .unset, .unset, .unset, .unset, .unset] [(.int kk)]))
            refine Go.st (fun _ k' => XS.iconst X13.here hx rfl (hb hby at_195) k') ?_
            show Go p e below s _ _ _ (T13.setTop (mkF m 196 #[.val (.long ya), .second, .val (.long yb), .second, .val (.long yc), .second, .val (.int dd), .val (.int sel), .val (.long dl), .second, .val (.long ya), .second, .val (.long yb), .second, .val (.long yc), .second, .val (.long fd), .second, .val (.int dd), .val (.int ff), .val (.int fg), .val (.long fh), .second, .val (.int fi), .val (.int fj), .val (.long fk), .second, .val (.ref b1), .val (.int kk), .val (.int di), .val (.long ga), .second, .val (.long gb), .second, .val (.long gc), .second, .val (.long gd), .second, .val (.int ge), .unset, .unset, .unset, .unset, .unset, .unset, .unset, .unset, .unset, .unset, .unset] [(.int (5 : Int32)), (.int kk)]))
            by_cases hc132 : kk = (5 : Int32)
            · refine Go.st (fun _ k' => XS.icmpNo X13.here hx rfl (hb hby at_196) rfl (XT.ii_ne_f hc132) k') ?_
              show Go p e below s _ _ _ (T13.setTop (mkF m 199 #[.val (.long ya), .second, .val (.long yb), .second, .val (.long yc), .second, .val (.int dd), .val (.int sel), .val (.long dl), .second, .val (.long ya), .second, .val (.long yb), .second, .val (.long yc), .second, .val (.long fd), .second, .val (.int dd), .val (.int ff), .val (.int fg), .val (.long fh), .second, .val (.int fi), .val (.int fj), .val (.long fk), .second, .val (.ref b1), .val (.int kk), .val (.int di), .val (.long ga), .second, .val (.long gb), .second, .val (.long gc), .second, .val (.long gd), .second, .val (.int ge), .unset, .unset, .unset, .unset, .unset, .unset, .unset, .unset, .unset, .unset, .unset] []))
              refine Go.st (fun _ k' => XS.iload X13.here hx rfl (hb hby at_199) rfl k') ?_
              show Go p e below s _ _ _ (T13.setTop (mkF m 201 #[.val (.long ya), .second, .val (.long yb), .second, .val (.long yc), .second, .val (.int dd), .val (.int sel), .val (.long dl), .second, .val (.long ya), .second, .val (.long yb), .second, .val (.long yc), .second, .val (.long fd), .second, .val (.int dd), .val (.int ff), .val (.int fg), .val (.long fh), .second, .val (.int fi), .val (.int fj), .val (.long fk), .second, .val (.ref b1), .val (.int kk), .val (.int di), .val (.long ga), .second, .val (.long gb), .second, .val (.long gc), .second, .val (.long gd), .second, .val (.int ge), .unset, .unset, .unset, .unset, .unset, .unset, .unset, .unset, .unset, .unset, .unset] [(.int ff)]))
              refine Go.st (fun _ k' => XS.iload X13.here hx rfl (hb hby at_201) rfl k') ?_
              show Go p e below s _ _ _ (T13.setTop (mkF m 203 #[.val (.long ya), .second, .val (.long yb), .second, .val (.long yc), .second, .val (.int dd), .val (.int sel), .val (.long dl), .second, .val (.long ya), .second, .val (.long yb), .second, .val (.long yc), .second, .val (.long fd), .second, .val (.int dd), .val (.int ff), .val (.int fg), .val (.long fh), .second, .val (.int fi), .val (.int fj), .val (.long fk), .second, .val (.ref b1), .val (.int kk), .val (.int di), .val (.long ga), .second, .val (.long gb), .second, .val (.long gc), .second, .val (.long gd), .second, .val (.int ge), .unset, .unset, .unset, .unset, .unset, .unset, .unset, .unset, .unset, .unset, .unset] [(.int di), (.int ff)]))
              refine Go.st (fun _ k' => XS.iadd X13.here hx rfl (hb hby at_203) rfl k') ?_
              show Go p e below s _ _ _ (T13.setTop (mkF m 204 #[.val (.long ya), .second, .val (.long yb), .second, .val (.long yc), .second, .val (.int dd), .val (.int sel), .val (.long dl), .second, .val (.long ya), .second, .val (.long yb), .second, .val (.long yc), .second, .val (.long fd), .second, .val (.int dd), .val (.int ff), .val (.int fg), .val (.long fh), .second, .val (.int fi), .val (.int fj), .val (.long fk), .second, .val (.ref b1), .val (.int kk), .val (.int di), .val (.long ga), .second, .val (.long gb), .second, .val (.long gc), .second, .val (.long gd), .second, .val (.int ge), .unset, .unset, .unset, .unset, .unset, .unset, .unset, .unset, .unset, .unset, .unset] [(.int (ff + di))]))
              refine Go.st (fun _ k' => XS.goto X13.here hx rfl (pc0 := 204) (pc' := 209) rfl (hb hby at_204) (by decide) (by decide) k') ?_
              show Go p e below s _ _ _ (T13.setTop (mkF m 209 #[.val (.long ya), .second, .val (.long yb), .second, .val (.long yc), .second, .val (.int dd), .val (.int sel), .val (.long dl), .second, .val (.long ya), .second, .val (.long yb), .second, .val (.long yc), .second, .val (.long fd), .second, .val (.int dd), .val (.int ff), .val (.int fg), .val (.long fh), .second, .val (.int fi), .val (.int fj), .val (.long fk), .second, .val (.ref b1), .val (.int kk), .val (.int di), .val (.long ga), .second, .val (.long gb), .second, .val (.long gc), .second, .val (.long gd), .second, .val (.int ge), .unset, .unset, .unset, .unset, .unset, .unset, .unset, .unset, .unset, .unset, .unset] [(.int (ff + di))]))
              exact J31 (ff + di) (by simp [hc132])
            · refine Go.st (fun _ k' => XS.icmpYes X13.here hx rfl (pc0 := 196) (pc' := 207) rfl (hb hby at_196) rfl (XT.ii_ne_t hc132) (by decide) (by decide) k') ?_
              show Go p e below s _ _ _ (T13.setTop (mkF m 207 #[.val (.long ya), .second, .val (.long yb), .second, .val (.long yc), .second, .val (.int dd), .val (.int sel), .val (.long dl), .second, .val (.long ya), .second, .val (.long yb), .second, .val (.long yc), .second, .val (.long fd), .second, .val (.int dd), .val (.int ff), .val (.int fg), .val (.long fh), .second, .val (.int fi), .val (.int fj), .val (.long fk), .second, .val (.ref b1), .val (.int kk), .val (.int di), .val (.long ga), .second, .val (.long gb), .second, .val (.long gc), .second, .val (.long gd), .second, .val (.int ge), .unset, .unset, .unset, .unset, .unset, .unset, .unset, .unset, .unset, .unset, .unset] []))
              refine Go.st (fun _ k' => XS.iload X13.here hx rfl (hb hby at_207) rfl k') ?_
              show Go p e below s _ _ _ (T13.setTop (mkF m 209 #[.val (.long ya), .second, .val (.long yb), .second, .val (.long yc), .second, .val (.int dd), .val (.int sel), .val (.long dl), .second, .val (.long ya), .second, .val (.long yb), .second, .val (.long yc), .second, .val (.long fd), .second, .val (.int dd), .val (.int ff), .val (.int fg), .val (.long fh), .second, .val (.int fi), .val (.int fj), .val (.long fk), .second, .val (.ref b1), .val (.int kk), .val (.int di), .val (.long ga), .second, .val (.long gb), .second, .val (.long gc), .second, .val (.long gd), .second, .val (.int ge), .unset, .unset, .unset, .unset, .unset, .unset, .unset, .unset, .unset, .unset, .unset] [(.int ff)]))
              exact J31 ff (by simp [hc132])
          refine Go.st (fun _ k' => XS.iload X13.here hx rfl (hb hby at_175) rfl k') ?_
          show Go p e below s _ _ _ (T13.setTop (mkF m 177 #[.val (.long ya), .second, .val (.long yb), .second, .val (.long yc), .second, .val (.int dd), .val (.int sel), .val (.long dl), .second, .val (.long ya), .second, .val (.long yb), .second, .val (.long yc), .second, .val (.long fd), .second, .val (.int dd), .val (.int ff), .val (.int fg), .val (.long fh), .second, .val (.int fi), .val (.int fj), .val (.long fk), .second, .val (.ref b1), .val (.int kk), .val (.int di), .val (.long ga), .second, .val (.long gb), .second, .val (.long gc), .second, .val (.long gd), .second, .unset, .unset, .unset, .unset, .unset, .unset, .unset, .unset, .unset, .unset, .unset, .unset] [(.int kk)]))
          refine Go.st (fun _ k' => XS.iconst X13.here hx rfl (hb hby at_177) k') ?_
          show Go p e below s _ _ _ (T13.setTop (mkF m 178 #[.val (.long ya), .second, .val (.long yb), .second, .val (.long yc), .second, .val (.int dd), .val (.int sel), .val (.long dl), .second, .val (.long ya), .second, .val (.long yb), .second, .val (.long yc), .second, .val (.long fd), .second, .val (.int dd), .val (.int ff), .val (.int fg), .val (.long fh), .second, .val (.int fi), .val (.int fj), .val (.long fk), .second, .val (.ref b1), .val (.int kk), .val (.int di), .val (.long ga), .second, .val (.long gb), .second, .val (.long gc), .second, .val (.long gd), .second, .unset, .unset, .unset, .unset, .unset, .unset, .unset, .unset, .unset, .unset, .unset, .unset] [(.int (4 : Int32)), (.int kk)]))
          by_cases hc133 : kk = (4 : Int32)
          · refine Go.st (fun _ k' => XS.icmpNo X13.here hx rfl (hb hby at_178) rfl (XT.ii_ne_f hc133) k') ?_
            show Go p e below s _ _ _ (T13.setTop (mkF m 181 #[.val (.long ya), .second, .val (.long yb), .second, .val (.long yc), .second, .val (.int dd), .val (.int sel), .val (.long dl), .second, .val (.long ya), .second, .val (.long yb), .second, .val (.long yc), .second, .val (.long fd), .second, .val (.int dd), .val (.int ff), .val (.int fg), .val (.long fh), .second, .val (.int fi), .val (.int fj), .val (.long fk), .second, .val (.ref b1), .val (.int kk), .val (.int di), .val (.long ga), .second, .val (.long gb), .second, .val (.long gc), .second, .val (.long gd), .second, .unset, .unset, .unset, .unset, .unset, .unset, .unset, .unset, .unset, .unset, .unset, .unset] []))
            refine Go.st (fun _ k' => XS.iload X13.here hx rfl (hb hby at_181) rfl k') ?_
            show Go p e below s _ _ _ (T13.setTop (mkF m 183 #[.val (.long ya), .second, .val (.long yb), .second, .val (.long yc), .second, .val (.int dd), .val (.int sel), .val (.long dl), .second, .val (.long ya), .second, .val (.long yb), .second, .val (.long yc), .second, .val (.long fd), .second, .val (.int dd), .val (.int ff), .val (.int fg), .val (.long fh), .second, .val (.int fi), .val (.int fj), .val (.long fk), .second, .val (.ref b1), .val (.int kk), .val (.int di), .val (.long ga), .second, .val (.long gb), .second, .val (.long gc), .second, .val (.long gd), .second, .unset, .unset, .unset, .unset, .unset, .unset, .unset, .unset, .unset, .unset, .unset, .unset] [(.int dd)]))
            refine Go.st (fun _ k' => XS.iload X13.here hx rfl (hb hby at_183) rfl k') ?_
            show Go p e below s _ _ _ (T13.setTop (mkF m 185 #[.val (.long ya), .second, .val (.long yb), .second, .val (.long yc), .second, .val (.int dd), .val (.int sel), .val (.long dl), .second, .val (.long ya), .second, .val (.long yb), .second, .val (.long yc), .second, .val (.long fd), .second, .val (.int dd), .val (.int ff), .val (.int fg), .val (.long fh), .second, .val (.int fi), .val (.int fj), .val (.long fk), .second, .val (.ref b1), .val (.int kk), .val (.int di), .val (.long ga), .second, .val (.long gb), .second, .val (.long gc), .second, .val (.long gd), .second, .unset, .unset, .unset, .unset, .unset, .unset, .unset, .unset, .unset, .unset, .unset, .unset] [(.int di), (.int dd)]))
            refine Go.st (fun _ k' => XS.iadd X13.here hx rfl (hb hby at_185) rfl k') ?_
            show Go p e below s _ _ _ (T13.setTop (mkF m 186 #[.val (.long ya), .second, .val (.long yb), .second, .val (.long yc), .second, .val (.int dd), .val (.int sel), .val (.long dl), .second, .val (.long ya), .second, .val (.long yb), .second, .val (.long yc), .second, .val (.long fd), .second, .val (.int dd), .val (.int ff), .val (.int fg), .val (.long fh), .second, .val (.int fi), .val (.int fj), .val (.long fk), .second, .val (.ref b1), .val (.int kk), .val (.int di), .val (.long ga), .second, .val (.long gb), .second, .val (.long gc), .second, .val (.long gd), .second, .unset, .unset, .unset, .unset, .unset, .unset, .unset, .unset, .unset, .unset, .unset, .unset] [(.int (dd + di))]))
            refine Go.st (fun _ k' => XS.goto X13.here hx rfl (pc0 := 186) (pc' := 191) rfl (hb hby at_186) (by decide) (by decide) k') ?_
            show Go p e below s _ _ _ (T13.setTop (mkF m 191 #[.val (.long ya), .second, .val (.long yb), .second, .val (.long yc), .second, .val (.int dd), .val (.int sel), .val (.long dl), .second, .val (.long ya), .second, .val (.long yb), .second, .val (.long yc), .second, .val (.long fd), .second, .val (.int dd), .val (.int ff), .val (.int fg), .val (.long fh), .second, .val (.int fi), .val (.int fj), .val (.long fk), .second, .val (.ref b1), .val (.int kk), .val (.int di), .val (.long ga), .second, .val (.long gb), .second, .val (.long gc), .second, .val (.long gd), .second, .unset, .unset, .unset, .unset, .unset, .unset, .unset, .unset, .unset, .unset, .unset, .unset] [(.int (dd + di))]))
            exact J30 (dd + di) (by simp [hc133])
          · refine Go.st (fun _ k' => XS.icmpYes X13.here hx rfl (pc0 := 178) (pc' := 189) rfl (hb hby at_178) rfl (XT.ii_ne_t hc133) (by decide) (by decide) k') ?_
            show Go p e below s _ _ _ (T13.setTop (mkF m 189 #[.val (.long ya), .second, .val (.long yb), .second, .val (.long yc), .second, .val (.int dd), .val (.int sel), .val (.long dl), .second, .val (.long ya), .second, .val (.long yb), .second, .val (.long yc), .second, .val (.long fd), .second, .val (.int dd), .val (.int ff), .val (.int fg), .val (.long fh), .second, .val (.int fi), .val (.int fj), .val (.long fk), .second, .val (.ref b1), .val (.int kk), .val (.int di), .val (.long ga), .second, .val (.long gb), .second, .val (.long gc), .second, .val (.long gd), .second, .unset, .unset, .unset, .unset, .unset, .unset, .unset, .unset, .unset, .unset, .unset, .unset] []))
            refine Go.st (fun _ k' => XS.iload X13.here hx rfl (hb hby at_189) rfl k') ?_
            show Go p e below s _ _ _ (T13.setTop (mkF m 191 #[.val (.long ya), .second, .val (.long yb), .second, .val (.long yc), .second, .val (.int dd), .val (.int sel), .val (.long dl), .second, .val (.long ya), .second, .val (.long yb), .second, .val (.long yc), .second, .val (.long fd), .second, .val (.int dd), .val (.int ff), .val (.int fg), .val (.long fh), .second, .val (.int fi), .val (.int fj), .val (.long fk), .second, .val (.ref b1), .val (.int kk), .val (.int di), .val (.long ga), .second, .val (.long gb), .second, .val (.long gc), .second, .val (.long gd), .second, .unset, .unset, .unset, .unset, .unset, .unset, .unset, .unset, .unset, .unset, .unset, .unset] [(.int dd)]))
            exact J30 dd (by simp [hc133])
        refine Go.st (fun _ k' => XS.iload X13.here hx rfl (hb hby at_157) rfl k') ?_
        show Go p e below s _ _ _ (T13.setTop (mkF m 159 #[.val (.long ya), .second, .val (.long yb), .second, .val (.long yc), .second, .val (.int dd), .val (.int sel), .val (.long dl), .second, .val (.long ya), .second, .val (.long yb), .second, .val (.long yc), .second, .val (.long fd), .second, .val (.int dd), .val (.int ff), .val (.int fg), .val (.long fh), .second, .val (.int fi), .val (.int fj), .val (.long fk), .second, .val (.ref b1), .val (.int kk), .val (.int di), .val (.long ga), .second, .val (.long gb), .second, .val (.long gc), .second, .unset, .unset, .unset, .unset, .unset, .unset, .unset, .unset, .unset, .unset, .unset, .unset, .unset, .unset] [(.int kk)]))
        refine Go.st (fun _ k' => XS.iconst X13.here hx rfl (hb hby at_159) k') ?_
        show Go p e below s _ _ _ (T13.setTop (mkF m 160 #[.val (.long ya), .second, .val (.long yb), .second, .val (.long yc), .second, .val (.int dd), .val (.int sel), .val (.long dl), .second, .val (.long ya), .second, .val (.long yb), .second, .val (.long yc), .second, .val (.long fd), .second, .val (.int dd), .val (.int ff), .val (.int fg), .val (.long fh), .second, .val (.int fi), .val (.int fj), .val (.long fk), .second, .val (.ref b1), .val (.int kk), .val (.int di), .val (.long ga), .second, .val (.long gb), .second, .val (.long gc), .second, .unset, .unset, .unset, .unset, .unset, .unset, .unset, .unset, .unset, .unset, .unset, .unset, .unset, .unset] [(.int (3 : Int32)), (.int kk)]))
        by_cases hc134 : kk = (3 : Int32)
        · refine Go.st (fun _ k' => XS.icmpNo X13.here hx rfl (hb hby at_160) rfl (XT.ii_ne_f hc134) k') ?_
          show Go p e below s _ _ _ (T13.setTop (mkF m 163 #[.val (.long ya), .second, .val (.long yb), .second, .val (.long yc), .second, .val (.int dd), .val (.int sel), .val (.long dl), .second, .val (.long ya), .second, .val (.long yb), .second, .val (.long yc), .second, .val (.long fd), .second, .val (.int dd), .val (.int ff), .val (.int fg), .val (.long fh), .second, .val (.int fi), .val (.int fj), .val (.long fk), .second, .val (.ref b1), .val (.int kk), .val (.int di), .val (.long ga), .second, .val (.long gb), .second, .val (.long gc), .second, .unset, .unset, .unset, .unset, .unset, .unset, .unset, .unset, .unset, .unset, .unset, .unset, .unset, .unset] []))
          refine Go.st (fun _ k' => XS.lload X13.here hx rfl (hb hby at_163) rfl k') ?_
          show Go p e below s _ _ _ (T13.setTop (mkF m 165 #[.val (.long ya), .second, .val (.long yb), .second, .val (.long yc), .second, .val (.int dd), .val (.int sel), .val (.long dl), .second, .val (.long ya), .second, .val (.long yb), .second, .val (.long yc), .second, .val (.long fd), .second, .val (.int dd), .val (.int ff), .val (.int fg), .val (.long fh), .second, .val (.int fi), .val (.int fj), .val (.long fk), .second, .val (.ref b1), .val (.int kk), .val (.int di), .val (.long ga), .second, .val (.long gb), .second, .val (.long gc), .second, .unset, .unset, .unset, .unset, .unset, .unset, .unset, .unset, .unset, .unset, .unset, .unset, .unset, .unset] [(.long fd)]))
          refine Go.st (fun _ k' => XS.lload X13.here hx rfl (hb hby at_165) rfl k') ?_
          show Go p e below s _ _ _ (T13.setTop (mkF m 167 #[.val (.long ya), .second, .val (.long yb), .second, .val (.long yc), .second, .val (.int dd), .val (.int sel), .val (.long dl), .second, .val (.long ya), .second, .val (.long yb), .second, .val (.long yc), .second, .val (.long fd), .second, .val (.int dd), .val (.int ff), .val (.int fg), .val (.long fh), .second, .val (.int fi), .val (.int fj), .val (.long fk), .second, .val (.ref b1), .val (.int kk), .val (.int di), .val (.long ga), .second, .val (.long gb), .second, .val (.long gc), .second, .unset, .unset, .unset, .unset, .unset, .unset, .unset, .unset, .unset, .unset, .unset, .unset, .unset, .unset] [(.long dl), (.long fd)]))
          refine Go.st (fun _ k' => XS.ladd X13.here hx rfl (hb hby at_167) rfl k') ?_
          show Go p e below s _ _ _ (T13.setTop (mkF m 168 #[.val (.long ya), .second, .val (.long yb), .second, .val (.long yc), .second, .val (.int dd), .val (.int sel), .val (.long dl), .second, .val (.long ya), .second, .val (.long yb), .second, .val (.long yc), .second, .val (.long fd), .second, .val (.int dd), .val (.int ff), .val (.int fg), .val (.long fh), .second, .val (.int fi), .val (.int fj), .val (.long fk), .second, .val (.ref b1), .val (.int kk), .val (.int di), .val (.long ga), .second, .val (.long gb), .second, .val (.long gc), .second, .unset, .unset, .unset, .unset, .unset, .unset, .unset, .unset, .unset, .unset, .unset, .unset, .unset, .unset] [(.long (fd + dl))]))
          refine Go.st (fun _ k' => XS.goto X13.here hx rfl (pc0 := 168) (pc' := 173) rfl (hb hby at_168) (by decide) (by decide) k') ?_
          show Go p e below s _ _ _ (T13.setTop (mkF m 173 #[.val (.long ya), .second, .val (.long yb), .second, .val (.long yc), .second, .val (.int dd), .val (.int sel), .val (.long dl), .second, .val (.long ya), .second, .val (.long yb), .second, .val (.long yc), .second, .val (.long fd), .second, .val (.int dd), .val (.int ff), .val (.int fg), .val (.long fh), .second, .val (.int fi), .val (.int fj), .val (.long fk), .second, .val (.ref b1), .val (.int kk), .val (.int di), .val (.long ga), .second, .val (.long gb), .second, .val (.long gc), .second, .unset, .unset, .unset, .unset, .unset, .unset, .unset, .unset, .unset, .unset, .unset, .unset, .unset, .unset] [(.long (fd + dl))]))
          exact J29 (fd + dl) (by simp [hc134])
        · refine Go.st (fun _ k' => XS.icmpYes X13.here hx rfl (pc0 := 160) (pc' := 171) rfl (hb hby at_160) rfl (XT.ii_ne_t hc134) (by decide) (by decide) k') ?_
          show Go p e below s _ _ _ (T13.setTop (mkF m 171 #[.val (.long ya), .second, .val (.long yb), .second, .val (.long yc), .second, .val (.int dd), .val (.int sel), .val (.long dl), .second, .val (.long ya), .second, .val (.long yb), .second, .val (.long yc), .second, .val (.long fd), .second, .val (.int dd), .val (.int ff), .val (.int fg), .val (.long fh), .second, .val (.int fi), .val (.int fj), .val (.long fk), .second, .val (.ref b1), .val (.int kk), .val (.int di), .val (.long ga), .second, .val (.long gb), .second, .val (.long gc), .second, .unset, .unset, .unset, .unset, .unset, .unset, .unset, .unset, .unset, .unset, .unset, .unset, .unset, .unset] []))
          refine Go.st (fun _ k' => XS.lload X13.here hx rfl (hb hby at_171) rfl k') ?_
          show Go p e below s _ _ _ (T13.setTop (mkF m 173 #[.val (.long ya), .second, .val (.long yb), .second, .val (.long yc), .second, .val (.int dd), .val (.int sel), .val (.long dl), .second, .val (.long ya), .second, .val (.long yb), .second, .val (.long yc), .second, .val (.long fd), .second, .val (.int dd), .val (.int ff), .val (.int fg), .val (.long fh), .second, .val (.int fi), .val (.int fj), .val (.long fk), .second, .val (.ref b1), .val (.int kk), .val (.int di), .val (.long ga), .second, .val (.long gb), .second, .val (.long gc), .second, .unset, .unset, .unset, .unset, .unset, .unset, .unset, .unset, .unset, .unset, .unset, .unset, .unset, .unset] [(.long fd)]))
          exact J29 fd (by simp [hc134])
      refine Go.st (fun _ k' => XS.iload X13.here hx rfl (hb hby at_139) rfl k') ?_
      show Go p e below s _ _ _ (T13.setTop (mkF m 141 #[.val (.long ya), .second, .val (.long yb), .second, .val (.long yc), .second, .val (.int dd), .val (.int sel), .val (.long dl), .second, .val (.long ya), .second, .val (.long yb), .second, .val (.long yc), .second, .val (.long fd), .second, .val (.int dd), .val (.int ff), .val (.int fg), .val (.long fh), .second, .val (.int fi), .val (.int fj), .val (.long fk), .second, .val (.ref b1), .val (.int kk), .val (.int di), .val (.long ga), .second, .val (.long gb), .second, .unset, .unset, .unset, .unset, .unset, .unset, .unset, .unset, .unset, .unset, .unset, .unset, .unset, .unset, .unset, .unset] [(.int kk)]))
      refine Go.st (fun _ k' => XS.iconst X13.here hx rfl (hb hby at_141) k') ?_
      show Go p e below s _ _ _ (T13.setTop (mkF m 142 #[.val (.long ya), .second, .val (.long yb), .second, .val (.long yc), .second, .val (.int dd), .val (.int sel), .val (.long dl), .second, .val (.long ya), .second, .val (.long yb), .second, .val (.long yc), .second, .val (.long fd), .second, .val (.int dd), .val (.int ff), .val (.int fg), .val (.long fh), .second, .val (.int fi), .val (.int fj), .val (.long fk), .second, .val (.ref b1), .val (.int kk), .val (.int di), .val (.long ga), .second, .val (.long gb), .second, .unset, .unset, .unset, .unset, .unset, .unset, .unset, .unset, .unset, .unset, .unset, .unset, .unset, .unset, .unset, .unset] [(.int (2 : Int32)), (.int kk)]))
      by_cases hc135 : kk = (2 : Int32)
      · refine Go.st (fun _ k' => XS.icmpNo X13.here hx rfl (hb hby at_142) rfl (XT.ii_ne_f hc135) k') ?_
        show Go p e below s _ _ _ (T13.setTop (mkF m 145 #[.val (.long ya), .second, .val (.long yb), .second, .val (.long yc), .second, .val (.int dd), .val (.int sel), .val (.long dl), .second, .val (.long ya), .second, .val (.long yb), .second, .val (.long yc), .second, .val (.long fd), .second, .val (.int dd), .val (.int ff), .val (.int fg), .val (.long fh), .second, .val (.int fi), .val (.int fj), .val (.long fk), .second, .val (.ref b1), .val (.int kk), .val (.int di), .val (.long ga), .second, .val (.long gb), .second, .unset, .unset, .unset, .unset, .unset, .unset, .unset, .unset, .unset, .unset, .unset, .unset, .unset, .unset, .unset, .unset] []))
        refine Go.st (fun _ k' => XS.lload X13.here hx rfl (hb hby at_145) rfl k') ?_
        show Go p e below s _ _ _ (T13.setTop (mkF m 147 #[.val (.long ya), .second, .val (.long yb), .second, .val (.long yc), .second, .val (.int dd), .val (.int sel), .val (.long dl), .second, .val (.long ya), .second, .val (.long yb), .second, .val (.long yc), .second, .val (.long fd), .second, .val (.int dd), .val (.int ff), .val (.int fg), .val (.long fh), .second, .val (.int fi), .val (.int fj), .val (.long fk), .second, .val (.ref b1), .val (.int kk), .val (.int di), .val (.long ga), .second, .val (.long gb), .second, .unset, .unset, .unset, .unset, .unset, .unset, .unset, .unset, .unset, .unset, .unset, .unset, .unset, .unset, .unset, .unset] [(.long yc)]))
        refine Go.st (fun _ k' => XS.lload X13.here hx rfl (hb hby at_147) rfl k') ?_
        show Go p e below s _ _ _ (T13.setTop (mkF m 149 #[.val (.long ya), .second, .val (.long yb), .second, .val (.long yc), .second, .val (.int dd), .val (.int sel), .val (.long dl), .second, .val (.long ya), .second, .val (.long yb), .second, .val (.long yc), .second, .val (.long fd), .second, .val (.int dd), .val (.int ff), .val (.int fg), .val (.long fh), .second, .val (.int fi), .val (.int fj), .val (.long fk), .second, .val (.ref b1), .val (.int kk), .val (.int di), .val (.long ga), .second, .val (.long gb), .second, .unset, .unset, .unset, .unset, .unset, .unset, .unset, .unset, .unset, .unset, .unset, .unset, .unset, .unset, .unset, .unset] [(.long dl), (.long yc)]))
        refine Go.st (fun _ k' => XS.ladd X13.here hx rfl (hb hby at_149) rfl k') ?_
        show Go p e below s _ _ _ (T13.setTop (mkF m 150 #[.val (.long ya), .second, .val (.long yb), .second, .val (.long yc), .second, .val (.int dd), .val (.int sel), .val (.long dl), .second, .val (.long ya), .second, .val (.long yb), .second, .val (.long yc), .second, .val (.long fd), .second, .val (.int dd), .val (.int ff), .val (.int fg), .val (.long fh), .second, .val (.int fi), .val (.int fj), .val (.long fk), .second, .val (.ref b1), .val (.int kk), .val (.int di), .val (.long ga), .second, .val (.long gb), .second, .unset, .unset, .unset, .unset, .unset, .unset, .unset, .unset, .unset, .unset, .unset, .unset, .unset, .unset, .unset, .unset] [(.long (yc + dl))]))
        refine Go.st (fun _ k' => XS.goto X13.here hx rfl (pc0 := 150) (pc' := 155) rfl (hb hby at_150) (by decide) (by decide) k') ?_
        show Go p e below s _ _ _ (T13.setTop (mkF m 155 #[.val (.long ya), .second, .val (.long yb), .second, .val (.long yc), .second, .val (.int dd), .val (.int sel), .val (.long dl), .second, .val (.long ya), .second, .val (.long yb), .second, .val (.long yc), .second, .val (.long fd), .second, .val (.int dd), .val (.int ff), .val (.int fg), .val (.long fh), .second, .val (.int fi), .val (.int fj), .val (.long fk), .second, .val (.ref b1), .val (.int kk), .val (.int di), .val (.long ga), .second, .val (.long gb), .second, .unset, .unset, .unset, .unset, .unset, .unset, .unset, .unset, .unset, .unset, .unset, .unset, .unset, .unset, .unset, .unset] [(.long (yc + dl))]))
        exact J28 (yc + dl) (by simp [hc135])
      · refine Go.st (fun _ k' => XS.icmpYes X13.here hx rfl (pc0 := 142) (pc' := 153) rfl (hb hby at_142) rfl (XT.ii_ne_t hc135) (by decide) (by decide) k') ?_
        show Go p e below s _ _ _ (T13.setTop (mkF m 153 #[.val (.long ya), .second, .val (.long yb), .second, .val (.long yc), .second, .val (.int dd), .val (.int sel), .val (.long dl), .second, .val (.long ya), .second, .val (.long yb), .second, .val (.long yc), .second, .val (.long fd), .second, .val (.int dd), .val (.int ff), .val (.int fg), .val (.long fh), .second, .val (.int fi), .val (.int fj), .val (.long fk), .second, .val (.ref b1), .val (.int kk), .val (.int di), .val (.long ga), .second, .val (.long gb), .second, .unset, .unset, .unset, .unset, .unset, .unset, .unset, .unset, .unset, .unset, .unset, .unset, .unset, .unset, .unset, .unset] []))
        refine Go.st (fun _ k' => XS.lload X13.here hx rfl (hb hby at_153) rfl k') ?_
        show Go p e below s _ _ _ (T13.setTop (mkF m 155 #[.val (.long ya), .second, .val (.long yb), .second, .val (.long yc), .second, .val (.int dd), .val (.int sel), .val (.long dl), .second, .val (.long ya), .second, .val (.long yb), .second, .val (.long yc), .second, .val (.long fd), .second, .val (.int dd), .val (.int ff), .val (.int fg), .val (.long fh), .second, .val (.int fi), .val (.int fj), .val (.long fk), .second, .val (.ref b1), .val (.int kk), .val (.int di), .val (.long ga), .second, .val (.long gb), .second, .unset, .unset, .unset, .unset, .unset, .unset, .unset, .unset, .unset, .unset, .unset, .unset, .unset, .unset, .unset, .unset] [(.long yc)]))
        exact J28 yc (by simp [hc135])
    refine Go.st (fun _ k' => XS.iload X13.here hx rfl (hb hby at_121) rfl k') ?_
    show Go p e below s _ _ _ (T13.setTop (mkF m 123 #[.val (.long ya), .second, .val (.long yb), .second, .val (.long yc), .second, .val (.int dd), .val (.int sel), .val (.long dl), .second, .val (.long ya), .second, .val (.long yb), .second, .val (.long yc), .second, .val (.long fd), .second, .val (.int dd), .val (.int ff), .val (.int fg), .val (.long fh), .second, .val (.int fi), .val (.int fj), .val (.long fk), .second, .val (.ref b1), .val (.int kk), .val (.int di), .val (.long ga), .second, .unset, .unset, .unset, .unset, .unset, .unset, .unset, .unset, .unset, .unset, .unset, .unset, .unset, .unset, .unset, .unset, .unset, .unset] [(.int kk)]))
    refine Go.st (fun _ k' => XS.iconst X13.here hx rfl (hb hby at_123) k') ?_
    show Go p e below s _ _ _ (T13.setTop (mkF m 124 #[.val (.long ya), .second, .val (.long yb), .second, .val (.long yc), .second, .val (.int dd), .val (.int sel), .val (.long dl), .second, .val (.long ya), .second, .val (.long yb), .second, .val (.long yc), .second, .val (.long fd), .second, .val (.int dd), .val (.int ff), .val (.int fg), .val (.long fh), .second, .val (.int fi), .val (.int fj), .val (.long fk), .second, .val (.ref b1), .val (.int kk), .val (.int di), .val (.long ga), .second, .unset, .unset, .unset, .unset, .unset, .unset, .unset, .unset, .unset, .unset, .unset, .unset, .unset, .unset, .unset, .unset, .unset, .unset] [(.int (1 : Int32)), (.int kk)]))
    by_cases hc136 : kk = (1 : Int32)
    · refine Go.st (fun _ k' => XS.icmpNo X13.here hx rfl (hb hby at_124) rfl (XT.ii_ne_f hc136) k') ?_
      show Go p e below s _ _ _ (T13.setTop (mkF m 127 #[.val (.long ya), .second, .val (.long yb), .second, .val (.long yc), .second, .val (.int dd), .val (.int sel), .val (.long dl), .second, .val (.long ya), .second, .val (.long yb), .second, .val (.long yc), .second, .val (.long fd), .second, .val (.int dd), .val (.int ff), .val (.int fg), .val (.long fh), .second, .val (.int fi), .val (.int fj), .val (.long fk), .second, .val (.ref b1), .val (.int kk), .val (.int di), .val (.long ga), .second, .unset, .unset, .unset, .unset, .unset, .unset, .unset, .unset, .unset, .unset, .unset, .unset, .unset, .unset, .unset, .unset, .unset, .unset] []))
      refine Go.st (fun _ k' => XS.lload X13.here hx rfl (hb hby at_127) rfl k') ?_
      show Go p e below s _ _ _ (T13.setTop (mkF m 129 #[.val (.long ya), .second, .val (.long yb), .second, .val (.long yc), .second, .val (.int dd), .val (.int sel), .val (.long dl), .second, .val (.long ya), .second, .val (.long yb), .second, .val (.long yc), .second, .val (.long fd), .second, .val (.int dd), .val (.int ff), .val (.int fg), .val (.long fh), .second, .val (.int fi), .val (.int fj), .val (.long fk), .second, .val (.ref b1), .val (.int kk), .val (.int di), .val (.long ga), .second, .unset, .unset, .unset, .unset, .unset, .unset, .unset, .unset, .unset, .unset, .unset, .unset, .unset, .unset, .unset, .unset, .unset, .unset] [(.long yb)]))
      refine Go.st (fun _ k' => XS.lload X13.here hx rfl (hb hby at_129) rfl k') ?_
      show Go p e below s _ _ _ (T13.setTop (mkF m 131 #[.val (.long ya), .second, .val (.long yb), .second, .val (.long yc), .second, .val (.int dd), .val (.int sel), .val (.long dl), .second, .val (.long ya), .second, .val (.long yb), .second, .val (.long yc), .second, .val (.long fd), .second, .val (.int dd), .val (.int ff), .val (.int fg), .val (.long fh), .second, .val (.int fi), .val (.int fj), .val (.long fk), .second, .val (.ref b1), .val (.int kk), .val (.int di), .val (.long ga), .second, .unset, .unset, .unset, .unset, .unset, .unset, .unset, .unset, .unset, .unset, .unset, .unset, .unset, .unset, .unset, .unset, .unset, .unset] [(.long dl), (.long yb)]))
      refine Go.st (fun _ k' => XS.ladd X13.here hx rfl (hb hby at_131) rfl k') ?_
      show Go p e below s _ _ _ (T13.setTop (mkF m 132 #[.val (.long ya), .second, .val (.long yb), .second, .val (.long yc), .second, .val (.int dd), .val (.int sel), .val (.long dl), .second, .val (.long ya), .second, .val (.long yb), .second, .val (.long yc), .second, .val (.long fd), .second, .val (.int dd), .val (.int ff), .val (.int fg), .val (.long fh), .second, .val (.int fi), .val (.int fj), .val (.long fk), .second, .val (.ref b1), .val (.int kk), .val (.int di), .val (.long ga), .second, .unset, .unset, .unset, .unset, .unset, .unset, .unset, .unset, .unset, .unset, .unset, .unset, .unset, .unset, .unset, .unset, .unset, .unset] [(.long (yb + dl))]))
      refine Go.st (fun _ k' => XS.goto X13.here hx rfl (pc0 := 132) (pc' := 137) rfl (hb hby at_132) (by decide) (by decide) k') ?_
      show Go p e below s _ _ _ (T13.setTop (mkF m 137 #[.val (.long ya), .second, .val (.long yb), .second, .val (.long yc), .second, .val (.int dd), .val (.int sel), .val (.long dl), .second, .val (.long ya), .second, .val (.long yb), .second, .val (.long yc), .second, .val (.long fd), .second, .val (.int dd), .val (.int ff), .val (.int fg), .val (.long fh), .second, .val (.int fi), .val (.int fj), .val (.long fk), .second, .val (.ref b1), .val (.int kk), .val (.int di), .val (.long ga), .second, .unset, .unset, .unset, .unset, .unset, .unset, .unset, .unset, .unset, .unset, .unset, .unset, .unset, .unset, .unset, .unset, .unset, .unset] [(.long (yb + dl))]))
      exact J27 (yb + dl) (by simp [hc136])
    · refine Go.st (fun _ k' => XS.icmpYes X13.here hx rfl (pc0 := 124) (pc' := 135) rfl (hb hby at_124) rfl (XT.ii_ne_t hc136) (by decide) (by decide) k') ?_
      show Go p e below s _ _ _ (T13.setTop (mkF m 135 #[.val (.long ya), .second, .val (.long yb), .second, .val (.long yc), .second, .val (.int dd), .val (.int sel), .val (.long dl), .second, .val (.long ya), .second, .val (.long yb), .second, .val (.long yc), .second, .val (.long fd), .second, .val (.int dd), .val (.int ff), .val (.int fg), .val (.long fh), .second, .val (.int fi), .val (.int fj), .val (.long fk), .second, .val (.ref b1), .val (.int kk), .val (.int di), .val (.long ga), .second, .unset, .unset, .unset, .unset, .unset, .unset, .unset, .unset, .unset, .unset, .unset, .unset, .unset, .unset, .unset, .unset, .unset, .unset] []))
      refine Go.st (fun _ k' => XS.lload X13.here hx rfl (hb hby at_135) rfl k') ?_
      show Go p e below s _ _ _ (T13.setTop (mkF m 137 #[.val (.long ya), .second, .val (.long yb), .second, .val (.long yc), .second, .val (.int dd), .val (.int sel), .val (.long dl), .second, .val (.long ya), .second, .val (.long yb), .second, .val (.long yc), .second, .val (.long fd), .second, .val (.int dd), .val (.int ff), .val (.int fg), .val (.long fh), .second, .val (.int fi), .val (.int fj), .val (.long fk), .second, .val (.ref b1), .val (.int kk), .val (.int di), .val (.long ga), .second, .unset, .unset, .unset, .unset, .unset, .unset, .unset, .unset, .unset, .unset, .unset, .unset, .unset, .unset, .unset, .unset, .unset, .unset] [(.long yb)]))
      exact J27 yb (by simp [hc136])
  refine Go.st (fun _ k' => XS.iload X13.here hx rfl (hb hby at_104) rfl k') ?_
  show Go p e below s _ _ _ (T13.setTop (mkF m 106 #[.val (.long ya), .second, .val (.long yb), .second, .val (.long yc), .second, .val (.int dd), .val (.int sel), .val (.long dl), .second, .val (.long ya), .second, .val (.long yb), .second, .val (.long yc), .second, .val (.long fd), .second, .val (.int dd), .val (.int ff), .val (.int fg), .val (.long fh), .second, .val (.int fi), .val (.int fj), .val (.long fk), .second, .val (.ref b1), .val (.int kk), .val (.int di), .unset, .unset, .unset, .unset, .unset, .unset, .unset, .unset, .unset, .unset, .unset, .unset, .unset, .unset, .unset, .unset, .unset, .unset, .unset, .unset] [(.int kk)]))
  by_cases hc137 : kk = (0 : Int32)
  · refine Go.st (fun _ k' => XS.ifNo X13.here hx rfl (hb hby at_106) rfl (XT.i0_ne_f hc137) k') ?_
    show Go p e below s _ _ _ (T13.setTop (mkF m 109 #[.val (.long ya), .second, .val (.long yb), .second, .val (.long yc), .second, .val (.int dd), .val (.int sel), .val (.long dl), .second, .val (.long ya), .second, .val (.long yb), .second, .val (.long yc), .second, .val (.long fd), .second, .val (.int dd), .val (.int ff), .val (.int fg), .val (.long fh), .second, .val (.int fi), .val (.int fj), .val (.long fk), .second, .val (.ref b1), .val (.int kk), .val (.int di), .unset, .unset, .unset, .unset, .unset, .unset, .unset, .unset, .unset, .unset, .unset, .unset, .unset, .unset, .unset, .unset, .unset, .unset, .unset, .unset] []))
    refine Go.st (fun _ k' => XS.lload X13.here hx rfl (hb hby at_109) rfl k') ?_
    show Go p e below s _ _ _ (T13.setTop (mkF m 111 #[.val (.long ya), .second, .val (.long yb), .second, .val (.long yc), .second, .val (.int dd), .val (.int sel), .val (.long dl), .second, .val (.long ya), .second, .val (.long yb), .second, .val (.long yc), .second, .val (.long fd), .second, .val (.int dd), .val (.int ff), .val (.int fg), .val (.long fh), .second, .val (.int fi), .val (.int fj), .val (.long fk), .second, .val (.ref b1), .val (.int kk), .val (.int di), .unset, .unset, .unset, .unset, .unset, .unset, .unset, .unset, .unset, .unset, .unset, .unset, .unset, .unset, .unset, .unset, .unset, .unset, .unset, .unset] [(.long ya)]))
    refine Go.st (fun _ k' => XS.lload X13.here hx rfl (hb hby at_111) rfl k') ?_
    show Go p e below s _ _ _ (T13.setTop (mkF m 113 #[.val (.long ya), .second, .val (.long yb), .second, .val (.long yc), .second, .val (.int dd), .val (.int sel), .val (.long dl), .second, .val (.long ya), .second, .val (.long yb), .second, .val (.long yc), .second, .val (.long fd), .second, .val (.int dd), .val (.int ff), .val (.int fg), .val (.long fh), .second, .val (.int fi), .val (.int fj), .val (.long fk), .second, .val (.ref b1), .val (.int kk), .val (.int di), .unset, .unset, .unset, .unset, .unset, .unset, .unset, .unset, .unset, .unset, .unset, .unset, .unset, .unset, .unset, .unset, .unset, .unset, .unset, .unset] [(.long dl), (.long ya)]))
    refine Go.st (fun _ k' => XS.ladd X13.here hx rfl (hb hby at_113) rfl k') ?_
    show Go p e below s _ _ _ (T13.setTop (mkF m 114 #[.val (.long ya), .second, .val (.long yb), .second, .val (.long yc), .second, .val (.int dd), .val (.int sel), .val (.long dl), .second, .val (.long ya), .second, .val (.long yb), .second, .val (.long yc), .second, .val (.long fd), .second, .val (.int dd), .val (.int ff), .val (.int fg), .val (.long fh), .second, .val (.int fi), .val (.int fj), .val (.long fk), .second, .val (.ref b1), .val (.int kk), .val (.int di), .unset, .unset, .unset, .unset, .unset, .unset, .unset, .unset, .unset, .unset, .unset, .unset, .unset, .unset, .unset, .unset, .unset, .unset, .unset, .unset] [(.long (ya + dl))]))
    refine Go.st (fun _ k' => XS.goto X13.here hx rfl (pc0 := 114) (pc' := 119) rfl (hb hby at_114) (by decide) (by decide) k') ?_
    show Go p e below s _ _ _ (T13.setTop (mkF m 119 #[.val (.long ya), .second, .val (.long yb), .second, .val (.long yc), .second, .val (.int dd), .val (.int sel), .val (.long dl), .second, .val (.long ya), .second, .val (.long yb), .second, .val (.long yc), .second, .val (.long fd), .second, .val (.int dd), .val (.int ff), .val (.int fg), .val (.long fh), .second, .val (.int fi), .val (.int fj), .val (.long fk), .second, .val (.ref b1), .val (.int kk), .val (.int di), .unset, .unset, .unset, .unset, .unset, .unset, .unset, .unset, .unset, .unset, .unset, .unset, .unset, .unset, .unset, .unset, .unset, .unset, .unset, .unset] [(.long (ya + dl))]))
    exact J26 (ya + dl) (by simp [hc137])
  · refine Go.st (fun _ k' => XS.ifYes X13.here hx rfl (pc0 := 106) (pc' := 117) rfl (hb hby at_106) rfl (XT.i0_ne_t hc137) (by decide) (by decide) k') ?_
    show Go p e below s _ _ _ (T13.setTop (mkF m 117 #[.val (.long ya), .second, .val (.long yb), .second, .val (.long yc), .second, .val (.int dd), .val (.int sel), .val (.long dl), .second, .val (.long ya), .second, .val (.long yb), .second, .val (.long yc), .second, .val (.long fd), .second, .val (.int dd), .val (.int ff), .val (.int fg), .val (.long fh), .second, .val (.int fi), .val (.int fj), .val (.long fk), .second, .val (.ref b1), .val (.int kk), .val (.int di), .unset, .unset, .unset, .unset, .unset, .unset, .unset, .unset, .unset, .unset, .unset, .unset, .unset, .unset, .unset, .unset, .unset, .unset, .unset, .unset] []))
    refine Go.st (fun _ k' => XS.lload X13.here hx rfl (hb hby at_117) rfl k') ?_
    show Go p e below s _ _ _ (T13.setTop (mkF m 119 #[.val (.long ya), .second, .val (.long yb), .second, .val (.long yc), .second, .val (.int dd), .val (.int sel), .val (.long dl), .second, .val (.long ya), .second, .val (.long yb), .second, .val (.long yc), .second, .val (.long fd), .second, .val (.int dd), .val (.int ff), .val (.int fg), .val (.long fh), .second, .val (.int fi), .val (.int fj), .val (.long fk), .second, .val (.ref b1), .val (.int kk), .val (.int di), .unset, .unset, .unset, .unset, .unset, .unset, .unset, .unset, .unset, .unset, .unset, .unset, .unset, .unset, .unset, .unset, .unset, .unset, .unset, .unset] [(.long ya)]))
    exact J26 ya (by simp [hc137])
theorem own_st {s : State} {args : Array Value} {C n d : String} {z : Int32} (h : (Jvm.Cond.eq (Term.static C n d) (Term.int z)).value args s none s [] = some true) (hi : (Jvm.Cond.initializedFor C n d).before args s = true) : Sta s s.heap C n d (.int z) := Sta.start (eqv_i rfl h) (Or.inl hi)
set_option maxRecDepth 65536 in
set_option maxHeartbeats 40000000 in
theorem comes_1 {Post : Tables → Env → Array Value → State → Outcome → State → Prop} (hpost : ∀ tb e args s v u, (limb_1_1.after args s (.returned v) u = true ∧ limb_1_2.after args s (.returned v) u = true ∧ True) → FrameEnd s (.returned v) u (Jvm.fieldLocs frame_1_writes args s ++ Jvm.arrayLocs frame_1_arrays args s ++ Jvm.staticLocs frame_1_statics s) 16 128 → Post tb e args s (.returned v) u) :
    ArmFor flags0 classFile x code maxLocals ret World_1 tables_1 room_1 Calls_1 rest_1 Pre_1 Post := by
  intro l hfl _ _ p e ha hc hk s m args below hf hA hF happ hP
  obtain ⟨hcalls, hrest, hpre⟩ := hP
  obtain ⟨-, -, -, hnamed, -, -, -, hat⟩ := (Spec.applies_iff hf).mp happ
  obtain ⟨hg, hn⟩ := and_e (Cond.before_iff.mp (show (Jvm.Cond.and given_1 narrow_1).before args s = true from hpre))
  obtain ⟨hcnt, hg0⟩ := and_e hg
  obtain ⟨ha0, hg1⟩ := and_e hg0
  obtain ⟨ha1, hg2⟩ := and_e hg1
  obtain ⟨ha2, hg3⟩ := and_e hg2
  obtain ⟨ha3, hg4⟩ := and_e hg3
  obtain ⟨ha4, hg5⟩ := and_e hg4
  have ha5 := hg5
  obtain ⟨w0, w1, w2, w3, w4, w5, rfl⟩ : ∃ w0 w1 w2 w3 w4 w5 : Value, args = #[w0, w1, w2, w3, w4, w5] := by
    have hs : args.size = 6 := by simpa [Cond.value, given_1] using hcnt
    obtain ⟨L⟩ := args
    match L, hs with
    | [w0, w1, w2, w3, w4, w5], _ => exact ⟨w0, w1, w2, w3, w4, w5, rfl⟩
  have hw := fun d (hd : d ∈ tables_1) => atoms_spec (ws := Jvm.Cond.code x code maxLocals ret :: tables_1) hat d (List.mem_cons_of_mem _ hd)
  have hfit : Fit s := fun {y c} hc i hi => by
    obtain ⟨ha, rfl⟩ := Array.getElem?_eq_some_iff.mp hc
    have q := List.all_eq_true.mp ((Array.all_eq_true_iff_forall_mem.mp hF) _ (Array.getElem_mem ha)) i (List.mem_range.mpr hi)
    simpa [Array.getElem?_eq_getElem hi] using q
  obtain ⟨hsets, hown0⟩ := atoms_of _ (rest_1_c_eq ▸ (show rest_1_c.before _ s = true from hrest))
  have hr0 := Cond.before_iff.mp hown0
  obtain ⟨i0, ei0⟩ := isL_v ha0
  obtain rfl : w0 = (.long i0) := Option.some.inj ei0
  obtain ⟨i1, ei1⟩ := isL_v ha1
  obtain rfl : w1 = (.long i1) := Option.some.inj ei1
  obtain ⟨i2, ei2⟩ := isL_v ha2
  obtain rfl : w2 = (.long i2) := Option.some.inj ei2
  obtain ⟨i3, ei3⟩ := is_v ha3
  obtain rfl : w3 = (.int i3) := Option.some.inj ei3
  obtain ⟨i4, ei4⟩ := is_v ha4
  obtain rfl : w4 = (.int i4) := Option.some.inj ei4
  obtain ⟨i5, ei5⟩ := isL_v ha5
  obtain rfl : w5 = (.long i5) := Option.some.inj ei5
  have S_hi := own_st (Cond.before_iff.mp (hsets _ (List.mem_of_getElem? (i := 3) rfl))) (hsets _ (List.mem_of_getElem? (i := 1) rfl))
  obtain ⟨ca, ev_ca⟩ := arr_v (Cond.before_iff.mp (hsets _ (List.mem_of_getElem? (i := 4) rfl)))
  obtain ⟨cb, Ar_ca⟩ := Arr.start ev_ca (Cond.before_iff.mp (hsets _ (List.mem_of_getElem? (i := 4) rfl)))
  have S_ca : Sta s s.heap "java/lang/Integer$IntegerCache" "cache" "[Ljava/lang/Integer;" (.ref ca) := Sta.start ev_ca (Or.inr ⟨(wdx hw 47 rfl), (hsets _ (List.mem_of_getElem? (i := 2) rfl))⟩)
  have Bx := own_bx (fun idx => (show _ = _ from ev_ca)) Ar_ca (Cond.before_iff.mp (hsets _ (List.mem_of_getElem? (i := 6) rfl))) (Cond.before_iff.mp (hsets _ (List.mem_of_getElem? (i := 7) rfl)))
  obtain ⟨n, o, h1, h2, h3, _, L, rfl, ⟨rfl, N, -⟩, hq⟩ := rm0 l s _ hw tables_1 i0 i1 i2 i3 i4 i5 ca cb s.heap s.heap.size (Old.start s) S_hi S_ca Bx p e ha hc hk s m _ below hf ((Spec.applies_iff_loose hf).mp happ).1 ⟨rfl, State.Warmed39.refl s, rfl⟩ trivial
  refine ⟨n, _, h1, h2, h3, hpost _ _ _ _ _ _ ⟨Cond.after_iff.mpr rfl, Cond.after_iff.mpr (eq_i res_at (Term.int_eval (1)) rfl), trivial⟩ ⟨hq.1, hq.2.1, (hq.2.2.sift fun y hy => Or.inr (N y hy)).mono (by decide) (by decide)⟩⟩
theorem main_1_1 : Claimed_1_1 := comes_1 fun _ _ _ _ _ _ h hF => ⟨h.1, hF⟩
theorem main_1_2 : Claimed_1_2 := comes_1 fun _ _ _ _ _ _ h hF => ⟨h.2.1, hF⟩
end Jvm.Pilot.@@N@@
namespace Jvm.Pilot.@@N@@
open Jvm Jvm.ClassFile Sem Op Lib Jvm.Free Jvm.Stand Jvm.Pilot.@@N@@.Jvm.D
/-! MADE BY PROGRAM (witnessworld.py) out of the Statement's table words and the real class files: 16 classes; the members and pool entries that the words name. The judged class is class 1, her method 2. -/
namespace start1
open Jvm.ClassFile
def u (s : String) : CpInfo := .utf8 (stringToUtf16 s)
/-- a pool by its gaps: so many unusable entries, then the entry; so many at the end -/
def gap : Nat → List CpInfo → List CpInfo
  | 0, r => r
  | n + 1, r => .unusable :: gap n r
def poolList (es : List (Nat × CpInfo)) (last : Nat) : List CpInfo := es.foldr (fun e r => gap e.1 (e.2 :: r)) (gap last [])
def pool (es : List (Nat × CpInfo)) (last : Nat) : Array CpInfo := ⟨poolList es last⟩
def fileOf (pool : Array CpInfo) (this : Nat) (attrs : Array Attribute := #[]) (ms : Array MethodInfo := #[]) (fl : Nat := 33) (sup : Nat := 0) (ifs : Array Nat := #[]) (fds : Array FieldInfo := #[]) : ClassFile where
  minorVersion := 0
  majorVersion := 65
  constantPool := pool
  accessFlags := fl
  thisClass := this
  superClass := sup
  interfaces := ifs
  fields := fds
  methods := ms
  attributes := attrs
def plain (name : String) (sup : Option ClassId) : Class where
  name := name
  kind := .ordinary
  loader := none
  accessFlags := 33
  super := sup
  interfaces := #[]
  cf := none
  fields := #[]
  methods := #[]
  instanceTypes := #[]
  staticTypes := #[]
  resolved := #[]
  callSites := []
  init := .initialized
  statics := none
  mirror := none

def pool0 : Array CpInfo := pool [(5, u "<init>"), (0, u "()V"), (1, .class_ 10), (1, u "java/lang/Object")] 113

def k0c0 : Code := { maxStack := 0, maxLocals := 1, code := object_method_1_code, exceptionTable := #[], attributes := #[] }
def k0m0 : Method := { name := "<init>", desc := "()V", sig := { parameters := [], returnType := none }, accessFlags := 1, code := some k0c0 }
/-- java/lang/Object -/
def k0 : Class := { plain "java/lang/Object" none with
  accessFlags := 33
  interfaces := #[]
  cf := some (fileOf pool0 8 #[] #[{ accessFlags := 1, nameIndex := 5, descriptorIndex := 6, attributes := #[] }] 33 0 #[] #[])
  fields := #[]
  methods := #[k0m0]
  instanceTypes := #[]
  staticTypes := #[]
  resolved := Array.replicate 124 none
  statics := none }

def pool1 : Array CpInfo := pool [(2, .class_ 4), (1, u "java/lang/Object"), (0, u "<init>"), (0, u "()V"), (0, .class_ 8), (0, u "com/example/exact_quorum/exactquorum/protocol/Stat"), (0, .methodref 7 10), (0, .nameAndType 5 11), (0, u "(JJJJIIIJIIJ)V"), (0, .methodref 13 14), (0, .class_ 15), (0, .nameAndType 16 17), (0, u "com/example/exact_quorum/exactquorum/protocol/StatEqualsPinLaw"), (0, u "isIntField"), (0, u "(I)Z"), (0, .methodref 7 19), (0, .nameAndType 20 21), (0, u "equals"), (0, u "(Ljava/lang/Object;)Z"), (0, .methodref 23 24), (0, .class_ 25), (0, .nameAndType 26 27), (0, u "java/lang/Integer"), (0, u "valueOf"), (0, u "(I)Ljava/lang/Integer;"), (3, u "law"), (0, u "(JJJIIJ)Z")] 2

def k1m0 : Method := { name := "<init>", desc := "()V", sig := { parameters := [], returnType := none }, accessFlags := 1, code := none }
def k1c1 : Code := { maxStack := 2, maxLocals := 1, code := method_2_code, exceptionTable := #[], attributes := #[] }
def k1m1 : Method := { name := "isIntField", desc := "(I)Z", sig := { parameters := [.int], returnType := some .boolean }, accessFlags := 10, code := some k1c1 }
def k1c2 : Code := { maxStack := 19, maxLocals := 50, code := code, exceptionTable := #[], attributes := #[] }
def k1m2 : Method := { name := "law", desc := "(JJJIIJ)Z", sig := { parameters := [.long, .long, .long, .int, .int, .long], returnType := some .boolean }, accessFlags := 9, code := some k1c2 }
/-- com/example/exact_quorum/exactquorum/protocol/StatEqualsPinLaw -/
def k1 : Class := { plain "com/example/exact_quorum/exactquorum/protocol/StatEqualsPinLaw" (some 0) with
  accessFlags := 49
  interfaces := #[]
  cf := some (fileOf pool1 13 #[] #[{ accessFlags := 1, nameIndex := 5, descriptorIndex := 6, attributes := #[] }, { accessFlags := 10, nameIndex := 16, descriptorIndex := 17, attributes := #[] }, { accessFlags := 9, nameIndex := 31, descriptorIndex := 32, attributes := #[] }] 49 2 #[] #[])
  fields := #[]
  methods := #[k1m0, k1m1, k1m2]
  instanceTypes := #[]
  staticTypes := #[]
  resolved := Array.replicate 35 none
  statics := none }

def pool2 : Array CpInfo := pool [(1, .methodref 2 3), (0, .class_ 4), (0, .nameAndType 5 6), (0, u "java/lang/Object"), (0, u "<init>"), (0, u "()V"), (0, .fieldref 8 9), (0, .class_ 10), (0, .nameAndType 11 12), (0, u "com/example/exact_quorum/exactquorum/protocol/Stat"), (0, u "czxid"), (0, u "J"), (0, .fieldref 8 14), (0, .nameAndType 15 12), (0, u "mzxid"), (0, .fieldref 8 17), (0, .nameAndType 18 12), (0, u "ctime"), (0, .fieldref 8 20), (0, .nameAndType 21 12), (0, u "mtime"), (0, .fieldref 8 23), (0, .nameAndType 24 25), (0, u "version"), (0, u "I"), (0, .fieldref 8 27), (0, .nameAndType 28 25), (0, u "cversion"), (0, .fieldref 8 30), (0, .nameAndType 31 25), (0, u "aversion"), (0, .fieldref 8 33), (0, .nameAndType 34 12), (0, u "ephemeralOwner"), (0, .fieldref 8 36), (0, .nameAndType 37 25), (0, u "dataLength"), (0, .fieldref 8 39), (0, .nameAndType 40 25), (0, u "numChildren"), (0, .fieldref 8 42), (0, .nameAndType 43 12), (0, u "pzxid"), (35, u "(JJJJIIIJIIJ)V"), (5, u "equals"), (0, u "(Ljava/lang/Object;)Z")] 22

def k2c0 : Code := { maxStack := 3, maxLocals := 18, code := prog_65_method_1_code, exceptionTable := #[], attributes := #[] }
def k2m0 : Method := { name := "<init>", desc := "(JJJJIIIJIIJ)V", sig := { parameters := [.long, .long, .long, .long, .int, .int, .int, .long, .int, .int, .long], returnType := none }, accessFlags := 1, code := some k2c0 }
def k2c1 : Code := { maxStack := 4, maxLocals := 3, code := prog_65_method_5_code, exceptionTable := #[], attributes := #[] }
def k2m1 : Method := { name := "equals", desc := "(Ljava/lang/Object;)Z", sig := { parameters := [(.object "java/lang/Object")], returnType := some .boolean }, accessFlags := 1, code := some k2c1 }
/-- com/example/exact_quorum/exactquorum/protocol/Stat -/
def k2 : Class := { plain "com/example/exact_quorum/exactquorum/protocol/Stat" (some 0) with
  accessFlags := 49
  interfaces := #[]
  cf := some (fileOf pool2 8 #[] #[{ accessFlags := 1, nameIndex := 5, descriptorIndex := 79, attributes := #[] }, { accessFlags := 1, nameIndex := 85, descriptorIndex := 86, attributes := #[] }] 49 2 #[] #[{ accessFlags := 18, nameIndex := 11, descriptorIndex := 12, attributes := #[] }, { accessFlags := 18, nameIndex := 15, descriptorIndex := 12, attributes := #[] }, { accessFlags := 18, nameIndex := 18, descriptorIndex := 12, attributes := #[] }, { accessFlags := 18, nameIndex := 21, descriptorIndex := 12, attributes := #[] }, { accessFlags := 18, nameIndex := 24, descriptorIndex := 25, attributes := #[] }, { accessFlags := 18, nameIndex := 28, descriptorIndex := 25, attributes := #[] }, { accessFlags := 18, nameIndex := 31, descriptorIndex := 25, attributes := #[] }, { accessFlags := 18, nameIndex := 34, descriptorIndex := 12, attributes := #[] }, { accessFlags := 18, nameIndex := 37, descriptorIndex := 25, attributes := #[] }, { accessFlags := 18, nameIndex := 40, descriptorIndex := 25, attributes := #[] }, { accessFlags := 18, nameIndex := 43, descriptorIndex := 12, attributes := #[] }])
  fields := #[{ name := "czxid", type := .long, accessFlags := 18, slot := 0, constantValue := 0 }, { name := "mzxid", type := .long, accessFlags := 18, slot := 1, constantValue := 0 }, { name := "ctime", type := .long, accessFlags := 18, slot := 2, constantValue := 0 }, { name := "mtime", type := .long, accessFlags := 18, slot := 3, constantValue := 0 }, { name := "version", type := .int, accessFlags := 18, slot := 4, constantValue := 0 }, { name := "cversion", type := .int, accessFlags := 18, slot := 5, constantValue := 0 }, { name := "aversion", type := .int, accessFlags := 18, slot := 6, constantValue := 0 }, { name := "ephemeralOwner", type := .long, accessFlags := 18, slot := 7, constantValue := 0 }, { name := "dataLength", type := .int, accessFlags := 18, slot := 8, constantValue := 0 }, { name := "numChildren", type := .int, accessFlags := 18, slot := 9, constantValue := 0 }, { name := "pzxid", type := .long, accessFlags := 18, slot := 10, constantValue := 0 }]
  methods := #[k2m0, k2m1]
  instanceTypes := #[.long, .long, .long, .long, .int, .int, .int, .long, .int, .int, .long]
  staticTypes := #[]
  resolved := Array.replicate 109 none
  statics := none }

def pool3 : Array CpInfo := pool [(1, .class_ 2), (0, u "java/io/Serializable"), (0, .class_ 4), (0, u "java/lang/Object")] 2

/-- java/io/Serializable -/
def k3 : Class := { plain "java/io/Serializable" (some 0) with
  accessFlags := 1537
  interfaces := #[]
  cf := some (fileOf pool3 1 #[] #[] 1537 3 #[] #[])
  fields := #[]
  methods := #[]
  instanceTypes := #[]
  staticTypes := #[]
  resolved := Array.replicate 7 none
  statics := none }

def pool4 : Array CpInfo := pool [(1, .methodref 2 3), (0, .class_ 4), (0, .nameAndType 5 6), (0, u "java/lang/Object"), (0, u "<init>"), (0, u "()V"), (1, .class_ 10), (1, u "java/lang/Number"), (2, .class_ 14), (0, u "java/io/Serializable"), (0, u "serialVersionUID"), (0, u "J")] 20

def k4c0 : Code := { maxStack := 1, maxLocals := 1, code := jdk_18_method_1_code, exceptionTable := #[], attributes := #[] }
def k4m0 : Method := { name := "<init>", desc := "()V", sig := { parameters := [], returnType := none }, accessFlags := 1, code := some k4c0 }
/-- java/lang/Number -/
def k4 : Class := { plain "java/lang/Number" (some 0) with
  accessFlags := 1057
  interfaces := #[3]
  cf := some (fileOf pool4 8 #[] #[{ accessFlags := 1, nameIndex := 5, descriptorIndex := 6, attributes := #[] }] 1057 2 #[13] #[{ accessFlags := 26, nameIndex := 15, descriptorIndex := 16, attributes := #[] }])
  fields := #[{ name := "serialVersionUID", type := .long, accessFlags := 26, slot := 0, constantValue := 0 }]
  methods := #[k4m0]
  instanceTypes := #[]
  staticTypes := #[.long]
  resolved := Array.replicate 37 none
  statics := none }

def pool5 : Array CpInfo := pool [(1, .class_ 2), (0, u "java/lang/Comparable"), (0, .class_ 4), (0, u "java/lang/Object")] 7

/-- java/lang/Comparable -/
def k5 : Class := { plain "java/lang/Comparable" (some 0) with
  accessFlags := 1537
  interfaces := #[]
  cf := some (fileOf pool5 1 #[] #[] 1537 3 #[] #[])
  fields := #[]
  methods := #[]
  instanceTypes := #[]
  staticTypes := #[]
  resolved := Array.replicate 12 none
  statics := none }

def pool6 : Array CpInfo := pool [(1, .class_ 2), (0, u "java/lang/constant/Constable"), (0, .class_ 4), (0, u "java/lang/Object")] 6

/-- java/lang/constant/Constable -/
def k6 : Class := { plain "java/lang/constant/Constable" (some 0) with
  accessFlags := 1537
  interfaces := #[]
  cf := some (fileOf pool6 1 #[] #[] 1537 3 #[] #[])
  fields := #[]
  methods := #[]
  instanceTypes := #[]
  staticTypes := #[]
  resolved := Array.replicate 11 none
  statics := none }

def pool7 : Array CpInfo := pool [(1, .class_ 2), (0, u "java/lang/constant/ConstantDesc"), (0, .class_ 4), (0, u "java/lang/Object")] 32

/-- java/lang/constant/ConstantDesc -/
def k7 : Class := { plain "java/lang/constant/ConstantDesc" (some 0) with
  accessFlags := 1537
  interfaces := #[]
  cf := some (fileOf pool7 1 #[] #[] 1537 3 #[] #[])
  fields := #[]
  methods := #[]
  instanceTypes := #[]
  staticTypes := #[]
  resolved := Array.replicate 37 none
  statics := none }

def pool8 : Array CpInfo := pool [(1, .class_ 2), (0, u "java/lang/Integer"), (16, u "digits"), (0, u "[C"), (46, u "<init>"), (17, u "DigitOnes"), (0, u "[B"), (2, u "DigitTens"), (10, .nameAndType 67 101), (0, u "()V"), (85, u "valueOf"), (0, u "(I)Ljava/lang/Integer;"), (0, .class_ 190), (0, u "java/lang/Integer$IntegerCache"), (0, .fieldref 189 192), (0, .nameAndType 193 194), (0, u "high"), (0, u "I"), (0, .fieldref 189 196), (0, .nameAndType 197 198), (0, u "cache"), (0, u "[Ljava/lang/Integer;"), (0, .methodref 1 200), (0, .nameAndType 67 201), (0, u "(I)V"), (0, .methodref 203 100), (0, .class_ 204), (0, u "java/lang/Number"), (0, .fieldref 1 206), (0, .nameAndType 207 194), (0, u "value"), (94, u "TYPE"), (0, u "Ljava/lang/Class;"), (0, .class_ 305), (0, u "java/lang/Comparable"), (0, .class_ 307), (0, u "java/lang/constant/Constable"), (0, .class_ 309), (0, u "java/lang/constant/ConstantDesc"), (0, u "MIN_VALUE"), (1, u "MAX_VALUE"), (3, u "SIZE"), (1, u "BYTES"), (1, u "serialVersionUID"), (0, u "J")] 131

def k8c0 : Code := { maxStack := 3, maxLocals := 1, code := jdk_33_method_22_code, exceptionTable := #[], attributes := #[] }
def k8m0 : Method := { name := "valueOf", desc := "(I)Ljava/lang/Integer;", sig := { parameters := [.int], returnType := some (.object "java/lang/Integer") }, accessFlags := 9, code := some k8c0 }
def k8c1 : Code := { maxStack := 2, maxLocals := 2, code := jdk_33_method_23_code, exceptionTable := #[], attributes := #[] }
def k8m1 : Method := { name := "<init>", desc := "(I)V", sig := { parameters := [.int], returnType := none }, accessFlags := 1, code := some k8c1 }
/-- java/lang/Integer -/
def k8 : Class := { plain "java/lang/Integer" (some 4) with
  accessFlags := 49
  interfaces := #[5, 6, 7]
  cf := some (fileOf pool8 1 #[.nestMembers #[189]] #[{ accessFlags := 9, nameIndex := 187, descriptorIndex := 188, attributes := #[] }, { accessFlags := 1, nameIndex := 67, descriptorIndex := 201, attributes := #[] }] 49 203 #[304, 306, 308] #[{ accessFlags := 25, nameIndex := 310, descriptorIndex := 194, attributes := #[] }, { accessFlags := 25, nameIndex := 312, descriptorIndex := 194, attributes := #[] }, { accessFlags := 25, nameIndex := 302, descriptorIndex := 303, attributes := #[] }, { accessFlags := 24, nameIndex := 19, descriptorIndex := 20, attributes := #[] }, { accessFlags := 24, nameIndex := 89, descriptorIndex := 86, attributes := #[] }, { accessFlags := 24, nameIndex := 85, descriptorIndex := 86, attributes := #[] }, { accessFlags := 18, nameIndex := 207, descriptorIndex := 194, attributes := #[] }, { accessFlags := 25, nameIndex := 316, descriptorIndex := 194, attributes := #[] }, { accessFlags := 25, nameIndex := 318, descriptorIndex := 194, attributes := #[] }, { accessFlags := 26, nameIndex := 320, descriptorIndex := 321, attributes := #[] }])
  fields := #[{ name := "MIN_VALUE", type := .int, accessFlags := 25, slot := 0, constantValue := 0 }, { name := "MAX_VALUE", type := .int, accessFlags := 25, slot := 1, constantValue := 0 }, { name := "TYPE", type := (.object "java/lang/Class"), accessFlags := 25, slot := 2, constantValue := 0 }, { name := "digits", type := (.array .char), accessFlags := 24, slot := 3, constantValue := 0 }, { name := "DigitTens", type := (.array .byte), accessFlags := 24, slot := 4, constantValue := 0 }, { name := "DigitOnes", type := (.array .byte), accessFlags := 24, slot := 5, constantValue := 0 }, { name := "value", type := .int, accessFlags := 18, slot := 0, constantValue := 0 }, { name := "SIZE", type := .int, accessFlags := 25, slot := 6, constantValue := 0 }, { name := "BYTES", type := .int, accessFlags := 25, slot := 7, constantValue := 0 }, { name := "serialVersionUID", type := .long, accessFlags := 26, slot := 8, constantValue := 0 }]
  methods := #[k8m0, k8m1]
  instanceTypes := #[.int]
  staticTypes := #[.int, .int, (.object "java/lang/Class"), (.array .char), (.array .byte), (.array .byte), .int, .int, .long]
  resolved := Array.replicate 453 none
  statics := none }

def pool9 : Array CpInfo := pool [(2, .class_ 4), (1, u "java/lang/Object"), (0, u "<init>"), (0, u "()V"), (0, .class_ 8), (0, u "java/lang/Integer"), (7, .class_ 18), (1, u "java/lang/Integer$IntegerCache"), (0, u "$assertionsDisabled"), (0, u "Z"), (26, u "high"), (0, u "I"), (8, u "archivedCache"), (0, u "[Ljava/lang/Integer;"), (12, u "cache"), (0, u "low")] 27

def k9m0 : Method := { name := "<init>", desc := "()V", sig := { parameters := [], returnType := none }, accessFlags := 2, code := none }
/-- java/lang/Integer$IntegerCache -/
def k9 : Class := { plain "java/lang/Integer$IntegerCache" (some 0) with
  accessFlags := 48
  interfaces := #[]
  cf := some (fileOf pool9 16 #[.nestHost 7] #[{ accessFlags := 2, nameIndex := 5, descriptorIndex := 6, attributes := #[] }] 48 2 #[] #[{ accessFlags := 24, nameIndex := 72, descriptorIndex := 48, attributes := #[] }, { accessFlags := 24, nameIndex := 47, descriptorIndex := 48, attributes := #[] }, { accessFlags := 24, nameIndex := 71, descriptorIndex := 58, attributes := #[] }, { accessFlags := 8, nameIndex := 57, descriptorIndex := 58, attributes := #[] }, { accessFlags := 4120, nameIndex := 19, descriptorIndex := 20, attributes := #[] }])
  fields := #[{ name := "low", type := .int, accessFlags := 24, slot := 0, constantValue := 0 }, { name := "high", type := .int, accessFlags := 24, slot := 1, constantValue := 0 }, { name := "cache", type := (.array (.object "java/lang/Integer")), accessFlags := 24, slot := 2, constantValue := 0 }, { name := "archivedCache", type := (.array (.object "java/lang/Integer")), accessFlags := 8, slot := 3, constantValue := 0 }, { name := "$assertionsDisabled", type := .boolean, accessFlags := 4120, slot := 4, constantValue := 0 }]
  methods := #[k9m0]
  instanceTypes := #[]
  staticTypes := #[.int, .int, (.array (.object "java/lang/Integer")), (.array (.object "java/lang/Integer")), .boolean]
  resolved := Array.replicate 100 none
  statics := some 0 }

def pool10 : Array CpInfo := pool [(1, u "java/lang/Cloneable"), (0, .class_ 1), (0, u "java/lang/Object"), (0, .class_ 3)] 3

/-- java/lang/Cloneable -/
def k10 : Class := { plain "java/lang/Cloneable" (some 0) with
  accessFlags := 1537
  interfaces := #[]
  cf := some (fileOf pool10 2 #[] #[] 1537 4 #[] #[])
  fields := #[]
  methods := #[]
  instanceTypes := #[]
  staticTypes := #[]
  resolved := Array.replicate 8 none
  statics := none }

/-- the primitive byte -/
def k11 : Class := { plain "byte" none with kind := .primitive 'B', accessFlags := 0x411 }
/-- [B -/
def k12 : Class := { plain "[B" (some 0) with kind := .array 11 .byte, interfaces := #[10, 3], accessFlags := 1041 }

/-- the primitive int -/
def k13 : Class := { plain "int" none with kind := .primitive 'I', accessFlags := 0x411 }
/-- [I -/
def k14 : Class := { plain "[I" (some 0) with kind := .array 13 .int, interfaces := #[10, 3], accessFlags := 1041 }

/-- [Ljava/lang/Integer; -/
def k15 : Class := { plain "[Ljava/lang/Integer;" (some 0) with kind := .array 8 (.object "java/lang/Integer"), interfaces := #[10, 3], accessFlags := 1041 }

def heap : Heap := #[{ cls := 9, slots := #[.int 0, .int 127, .ref 1, .null, .int 0], vm := .statics 9 },
  { cls := 15, slots := #[.ref 2, .ref 3, .ref 4, .ref 5, .ref 6, .ref 7, .ref 8, .ref 9, .ref 10, .ref 11, .ref 12, .ref 13, .ref 14, .ref 15, .ref 16, .ref 17, .ref 18, .ref 19, .ref 20, .ref 21, .ref 22, .ref 23, .ref 24, .ref 25, .ref 26, .ref 27, .ref 28, .ref 29, .ref 30, .ref 31, .ref 32, .ref 33, .ref 34, .ref 35, .ref 36, .ref 37, .ref 38, .ref 39, .ref 40, .ref 41, .ref 42, .ref 43, .ref 44, .ref 45, .ref 46, .ref 47, .ref 48, .ref 49, .ref 50, .ref 51, .ref 52, .ref 53, .ref 54, .ref 55, .ref 56, .ref 57, .ref 58, .ref 59, .ref 60, .ref 61, .ref 62, .ref 63, .ref 64, .ref 65, .ref 66, .ref 67, .ref 68, .ref 69, .ref 70, .ref 71, .ref 72, .ref 73, .ref 74, .ref 75, .ref 76, .ref 77, .ref 78, .ref 79, .ref 80, .ref 81, .ref 82, .ref 83, .ref 84, .ref 85, .ref 86, .ref 87, .ref 88, .ref 89, .ref 90, .ref 91, .ref 92, .ref 93, .ref 94, .ref 95, .ref 96, .ref 97, .ref 98, .ref 99, .ref 100, .ref 101, .ref 102, .ref 103, .ref 104, .ref 105, .ref 106, .ref 107, .ref 108, .ref 109, .ref 110, .ref 111, .ref 112, .ref 113, .ref 114, .ref 115, .ref 116, .ref 117, .ref 118, .ref 119, .ref 120, .ref 121, .ref 122, .ref 123, .ref 124, .ref 125, .ref 126, .ref 127, .ref 128, .ref 129, .ref 130, .ref 131, .ref 132, .ref 133, .ref 134, .ref 135, .ref 136, .ref 137, .ref 138, .ref 139, .ref 140, .ref 141, .ref 142, .ref 143, .ref 144, .ref 145, .ref 146, .ref 147, .ref 148, .ref 149, .ref 150, .ref 151, .ref 152, .ref 153, .ref 154, .ref 155, .ref 156, .ref 157, .ref 158, .ref 159, .ref 160, .ref 161, .ref 162, .ref 163, .ref 164, .ref 165, .ref 166, .ref 167, .ref 168, .ref 169, .ref 170, .ref 171, .ref 172, .ref 173, .ref 174, .ref 175, .ref 176, .ref 177, .ref 178, .ref 179, .ref 180, .ref 181, .ref 182, .ref 183, .ref 184, .ref 185, .ref 186, .ref 187, .ref 188, .ref 189, .ref 190, .ref 191, .ref 192, .ref 193, .ref 194, .ref 195, .ref 196, .ref 197, .ref 198, .ref 199, .ref 200, .ref 201, .ref 202, .ref 203, .ref 204, .ref 205, .ref 206, .ref 207, .ref 208, .ref 209, .ref 210, .ref 211, .ref 212, .ref 213, .ref 214, .ref 215, .ref 216, .ref 217, .ref 218, .ref 219, .ref 220, .ref 221, .ref 222, .ref 223, .ref 224, .ref 225, .ref 226, .ref 227, .ref 228, .ref 229, .ref 230, .ref 231, .ref 232, .ref 233, .ref 234, .ref 235, .ref 236, .ref 237, .ref 238, .ref 239, .ref 240, .ref 241, .ref 242, .ref 243, .ref 244, .ref 245, .ref 246, .ref 247, .ref 248, .ref 249, .ref 250, .ref 251, .ref 252, .ref 253, .ref 254, .ref 255, .ref 256, .ref 257], vm := .none },
  { cls := 8, slots := #[.int (-128)], vm := .none },
  { cls := 8, slots := #[.int (-127)], vm := .none },
  { cls := 8, slots := #[.int (-126)], vm := .none },
  { cls := 8, slots := #[.int (-125)], vm := .none },
  { cls := 8, slots := #[.int (-124)], vm := .none },
  { cls := 8, slots := #[.int (-123)], vm := .none },
  { cls := 8, slots := #[.int (-122)], vm := .none },
  { cls := 8, slots := #[.int (-121)], vm := .none },
  { cls := 8, slots := #[.int (-120)], vm := .none },
  { cls := 8, slots := #[.int (-119)], vm := .none },
  { cls := 8, slots := #[.int (-118)], vm := .none },
  { cls := 8, slots := #[.int (-117)], vm := .none },
  { cls := 8, slots := #[.int (-116)], vm := .none },
  { cls := 8, slots := #[.int (-115)], vm := .none },
  { cls := 8, slots := #[.int (-114)], vm := .none },
  { cls := 8, slots := #[.int (-113)], vm := .none },
  { cls := 8, slots := #[.int (-112)], vm := .none },
  { cls := 8, slots := #[.int (-111)], vm := .none },
  { cls := 8, slots := #[.int (-110)], vm := .none },
  { cls := 8, slots := #[.int (-109)], vm := .none },
  { cls := 8, slots := #[.int (-108)], vm := .none },
  { cls := 8, slots := #[.int (-107)], vm := .none },
  { cls := 8, slots := #[.int (-106)], vm := .none },
  { cls := 8, slots := #[.int (-105)], vm := .none },
  { cls := 8, slots := #[.int (-104)], vm := .none },
  { cls := 8, slots := #[.int (-103)], vm := .none },
  { cls := 8, slots := #[.int (-102)], vm := .none },
  { cls := 8, slots := #[.int (-101)], vm := .none },
  { cls := 8, slots := #[.int (-100)], vm := .none },
  { cls := 8, slots := #[.int (-99)], vm := .none },
  { cls := 8, slots := #[.int (-98)], vm := .none },
  { cls := 8, slots := #[.int (-97)], vm := .none },
  { cls := 8, slots := #[.int (-96)], vm := .none },
  { cls := 8, slots := #[.int (-95)], vm := .none },
  { cls := 8, slots := #[.int (-94)], vm := .none },
  { cls := 8, slots := #[.int (-93)], vm := .none },
  { cls := 8, slots := #[.int (-92)], vm := .none },
  { cls := 8, slots := #[.int (-91)], vm := .none },
  { cls := 8, slots := #[.int (-90)], vm := .none },
  { cls := 8, slots := #[.int (-89)], vm := .none },
  { cls := 8, slots := #[.int (-88)], vm := .none },
  { cls := 8, slots := #[.int (-87)], vm := .none },
  { cls := 8, slots := #[.int (-86)], vm := .none },
  { cls := 8, slots := #[.int (-85)], vm := .none },
  { cls := 8, slots := #[.int (-84)], vm := .none },
  { cls := 8, slots := #[.int (-83)], vm := .none },
  { cls := 8, slots := #[.int (-82)], vm := .none },
  { cls := 8, slots := #[.int (-81)], vm := .none },
  { cls := 8, slots := #[.int (-80)], vm := .none },
  { cls := 8, slots := #[.int (-79)], vm := .none },
  { cls := 8, slots := #[.int (-78)], vm := .none },
  { cls := 8, slots := #[.int (-77)], vm := .none },
  { cls := 8, slots := #[.int (-76)], vm := .none },
  { cls := 8, slots := #[.int (-75)], vm := .none },
  { cls := 8, slots := #[.int (-74)], vm := .none },
  { cls := 8, slots := #[.int (-73)], vm := .none },
  { cls := 8, slots := #[.int (-72)], vm := .none },
  { cls := 8, slots := #[.int (-71)], vm := .none },
  { cls := 8, slots := #[.int (-70)], vm := .none },
  { cls := 8, slots := #[.int (-69)], vm := .none },
  { cls := 8, slots := #[.int (-68)], vm := .none },
  { cls := 8, slots := #[.int (-67)], vm := .none },
  { cls := 8, slots := #[.int (-66)], vm := .none },
  { cls := 8, slots := #[.int (-65)], vm := .none },
  { cls := 8, slots := #[.int (-64)], vm := .none },
  { cls := 8, slots := #[.int (-63)], vm := .none },
  { cls := 8, slots := #[.int (-62)], vm := .none },
  { cls := 8, slots := #[.int (-61)], vm := .none },
  { cls := 8, slots := #[.int (-60)], vm := .none },
  { cls := 8, slots := #[.int (-59)], vm := .none },
  { cls := 8, slots := #[.int (-58)], vm := .none },
  { cls := 8, slots := #[.int (-57)], vm := .none },
  { cls := 8, slots := #[.int (-56)], vm := .none },
  { cls := 8, slots := #[.int (-55)], vm := .none },
  { cls := 8, slots := #[.int (-54)], vm := .none },
  { cls := 8, slots := #[.int (-53)], vm := .none },
  { cls := 8, slots := #[.int (-52)], vm := .none },
  { cls := 8, slots := #[.int (-51)], vm := .none },
  { cls := 8, slots := #[.int (-50)], vm := .none },
  { cls := 8, slots := #[.int (-49)], vm := .none },
  { cls := 8, slots := #[.int (-48)], vm := .none },
  { cls := 8, slots := #[.int (-47)], vm := .none },
  { cls := 8, slots := #[.int (-46)], vm := .none },
  { cls := 8, slots := #[.int (-45)], vm := .none },
  { cls := 8, slots := #[.int (-44)], vm := .none },
  { cls := 8, slots := #[.int (-43)], vm := .none },
  { cls := 8, slots := #[.int (-42)], vm := .none },
  { cls := 8, slots := #[.int (-41)], vm := .none },
  { cls := 8, slots := #[.int (-40)], vm := .none },
  { cls := 8, slots := #[.int (-39)], vm := .none },
  { cls := 8, slots := #[.int (-38)], vm := .none },
  { cls := 8, slots := #[.int (-37)], vm := .none },
  { cls := 8, slots := #[.int (-36)], vm := .none },
  { cls := 8, slots := #[.int (-35)], vm := .none },
  { cls := 8, slots := #[.int (-34)], vm := .none },
  { cls := 8, slots := #[.int (-33)], vm := .none },
  { cls := 8, slots := #[.int (-32)], vm := .none },
  { cls := 8, slots := #[.int (-31)], vm := .none },
  { cls := 8, slots := #[.int (-30)], vm := .none },
  { cls := 8, slots := #[.int (-29)], vm := .none },
  { cls := 8, slots := #[.int (-28)], vm := .none },
  { cls := 8, slots := #[.int (-27)], vm := .none },
  { cls := 8, slots := #[.int (-26)], vm := .none },
  { cls := 8, slots := #[.int (-25)], vm := .none },
  { cls := 8, slots := #[.int (-24)], vm := .none },
  { cls := 8, slots := #[.int (-23)], vm := .none },
  { cls := 8, slots := #[.int (-22)], vm := .none },
  { cls := 8, slots := #[.int (-21)], vm := .none },
  { cls := 8, slots := #[.int (-20)], vm := .none },
  { cls := 8, slots := #[.int (-19)], vm := .none },
  { cls := 8, slots := #[.int (-18)], vm := .none },
  { cls := 8, slots := #[.int (-17)], vm := .none },
  { cls := 8, slots := #[.int (-16)], vm := .none },
  { cls := 8, slots := #[.int (-15)], vm := .none },
  { cls := 8, slots := #[.int (-14)], vm := .none },
  { cls := 8, slots := #[.int (-13)], vm := .none },
  { cls := 8, slots := #[.int (-12)], vm := .none },
  { cls := 8, slots := #[.int (-11)], vm := .none },
  { cls := 8, slots := #[.int (-10)], vm := .none },
  { cls := 8, slots := #[.int (-9)], vm := .none },
  { cls := 8, slots := #[.int (-8)], vm := .none },
  { cls := 8, slots := #[.int (-7)], vm := .none },
  { cls := 8, slots := #[.int (-6)], vm := .none },
  { cls := 8, slots := #[.int (-5)], vm := .none },
  { cls := 8, slots := #[.int (-4)], vm := .none },
  { cls := 8, slots := #[.int (-3)], vm := .none },
  { cls := 8, slots := #[.int (-2)], vm := .none },
  { cls := 8, slots := #[.int (-1)], vm := .none },
  { cls := 8, slots := #[.int 0], vm := .none },
  { cls := 8, slots := #[.int 1], vm := .none },
  { cls := 8, slots := #[.int 2], vm := .none },
  { cls := 8, slots := #[.int 3], vm := .none },
  { cls := 8, slots := #[.int 4], vm := .none },
  { cls := 8, slots := #[.int 5], vm := .none },
  { cls := 8, slots := #[.int 6], vm := .none },
  { cls := 8, slots := #[.int 7], vm := .none },
  { cls := 8, slots := #[.int 8], vm := .none },
  { cls := 8, slots := #[.int 9], vm := .none },
  { cls := 8, slots := #[.int 10], vm := .none },
  { cls := 8, slots := #[.int 11], vm := .none },
  { cls := 8, slots := #[.int 12], vm := .none },
  { cls := 8, slots := #[.int 13], vm := .none },
  { cls := 8, slots := #[.int 14], vm := .none },
  { cls := 8, slots := #[.int 15], vm := .none },
  { cls := 8, slots := #[.int 16], vm := .none },
  { cls := 8, slots := #[.int 17], vm := .none },
  { cls := 8, slots := #[.int 18], vm := .none },
  { cls := 8, slots := #[.int 19], vm := .none },
  { cls := 8, slots := #[.int 20], vm := .none },
  { cls := 8, slots := #[.int 21], vm := .none },
  { cls := 8, slots := #[.int 22], vm := .none },
  { cls := 8, slots := #[.int 23], vm := .none },
  { cls := 8, slots := #[.int 24], vm := .none },
  { cls := 8, slots := #[.int 25], vm := .none },
  { cls := 8, slots := #[.int 26], vm := .none },
  { cls := 8, slots := #[.int 27], vm := .none },
  { cls := 8, slots := #[.int 28], vm := .none },
  { cls := 8, slots := #[.int 29], vm := .none },
  { cls := 8, slots := #[.int 30], vm := .none },
  { cls := 8, slots := #[.int 31], vm := .none },
  { cls := 8, slots := #[.int 32], vm := .none },
  { cls := 8, slots := #[.int 33], vm := .none },
  { cls := 8, slots := #[.int 34], vm := .none },
  { cls := 8, slots := #[.int 35], vm := .none },
  { cls := 8, slots := #[.int 36], vm := .none },
  { cls := 8, slots := #[.int 37], vm := .none },
  { cls := 8, slots := #[.int 38], vm := .none },
  { cls := 8, slots := #[.int 39], vm := .none },
  { cls := 8, slots := #[.int 40], vm := .none },
  { cls := 8, slots := #[.int 41], vm := .none },
  { cls := 8, slots := #[.int 42], vm := .none },
  { cls := 8, slots := #[.int 43], vm := .none },
  { cls := 8, slots := #[.int 44], vm := .none },
  { cls := 8, slots := #[.int 45], vm := .none },
  { cls := 8, slots := #[.int 46], vm := .none },
  { cls := 8, slots := #[.int 47], vm := .none },
  { cls := 8, slots := #[.int 48], vm := .none },
  { cls := 8, slots := #[.int 49], vm := .none },
  { cls := 8, slots := #[.int 50], vm := .none },
  { cls := 8, slots := #[.int 51], vm := .none },
  { cls := 8, slots := #[.int 52], vm := .none },
  { cls := 8, slots := #[.int 53], vm := .none },
  { cls := 8, slots := #[.int 54], vm := .none },
  { cls := 8, slots := #[.int 55], vm := .none },
  { cls := 8, slots := #[.int 56], vm := .none },
  { cls := 8, slots := #[.int 57], vm := .none },
  { cls := 8, slots := #[.int 58], vm := .none },
  { cls := 8, slots := #[.int 59], vm := .none },
  { cls := 8, slots := #[.int 60], vm := .none },
  { cls := 8, slots := #[.int 61], vm := .none },
  { cls := 8, slots := #[.int 62], vm := .none },
  { cls := 8, slots := #[.int 63], vm := .none },
  { cls := 8, slots := #[.int 64], vm := .none },
  { cls := 8, slots := #[.int 65], vm := .none },
  { cls := 8, slots := #[.int 66], vm := .none },
  { cls := 8, slots := #[.int 67], vm := .none },
  { cls := 8, slots := #[.int 68], vm := .none },
  { cls := 8, slots := #[.int 69], vm := .none },
  { cls := 8, slots := #[.int 70], vm := .none },
  { cls := 8, slots := #[.int 71], vm := .none },
  { cls := 8, slots := #[.int 72], vm := .none },
  { cls := 8, slots := #[.int 73], vm := .none },
  { cls := 8, slots := #[.int 74], vm := .none },
  { cls := 8, slots := #[.int 75], vm := .none },
  { cls := 8, slots := #[.int 76], vm := .none },
  { cls := 8, slots := #[.int 77], vm := .none },
  { cls := 8, slots := #[.int 78], vm := .none },
  { cls := 8, slots := #[.int 79], vm := .none },
  { cls := 8, slots := #[.int 80], vm := .none },
  { cls := 8, slots := #[.int 81], vm := .none },
  { cls := 8, slots := #[.int 82], vm := .none },
  { cls := 8, slots := #[.int 83], vm := .none },
  { cls := 8, slots := #[.int 84], vm := .none },
  { cls := 8, slots := #[.int 85], vm := .none },
  { cls := 8, slots := #[.int 86], vm := .none },
  { cls := 8, slots := #[.int 87], vm := .none },
  { cls := 8, slots := #[.int 88], vm := .none },
  { cls := 8, slots := #[.int 89], vm := .none },
  { cls := 8, slots := #[.int 90], vm := .none },
  { cls := 8, slots := #[.int 91], vm := .none },
  { cls := 8, slots := #[.int 92], vm := .none },
  { cls := 8, slots := #[.int 93], vm := .none },
  { cls := 8, slots := #[.int 94], vm := .none },
  { cls := 8, slots := #[.int 95], vm := .none },
  { cls := 8, slots := #[.int 96], vm := .none },
  { cls := 8, slots := #[.int 97], vm := .none },
  { cls := 8, slots := #[.int 98], vm := .none },
  { cls := 8, slots := #[.int 99], vm := .none },
  { cls := 8, slots := #[.int 100], vm := .none },
  { cls := 8, slots := #[.int 101], vm := .none },
  { cls := 8, slots := #[.int 102], vm := .none },
  { cls := 8, slots := #[.int 103], vm := .none },
  { cls := 8, slots := #[.int 104], vm := .none },
  { cls := 8, slots := #[.int 105], vm := .none },
  { cls := 8, slots := #[.int 106], vm := .none },
  { cls := 8, slots := #[.int 107], vm := .none },
  { cls := 8, slots := #[.int 108], vm := .none },
  { cls := 8, slots := #[.int 109], vm := .none },
  { cls := 8, slots := #[.int 110], vm := .none },
  { cls := 8, slots := #[.int 111], vm := .none },
  { cls := 8, slots := #[.int 112], vm := .none },
  { cls := 8, slots := #[.int 113], vm := .none },
  { cls := 8, slots := #[.int 114], vm := .none },
  { cls := 8, slots := #[.int 115], vm := .none },
  { cls := 8, slots := #[.int 116], vm := .none },
  { cls := 8, slots := #[.int 117], vm := .none },
  { cls := 8, slots := #[.int 118], vm := .none },
  { cls := 8, slots := #[.int 119], vm := .none },
  { cls := 8, slots := #[.int 120], vm := .none },
  { cls := 8, slots := #[.int 121], vm := .none },
  { cls := 8, slots := #[.int 122], vm := .none },
  { cls := 8, slots := #[.int 123], vm := .none },
  { cls := 8, slots := #[.int 124], vm := .none },
  { cls := 8, slots := #[.int 125], vm := .none },
  { cls := 8, slots := #[.int 126], vm := .none },
  { cls := 8, slots := #[.int 127], vm := .none }]
def classes : Array Class := #[k0, k1, k2, k3, k4, k5, k6, k7, k8, k9, k10, k11, k12, k13, k14, k15]
def interned : List (Array UInt16 × Addr) := []
def slotsUsed : Nat := 517
def theMethod : MethodId := ⟨1, 2⟩
def args0 : Array Value := #[.long 5, .long 5, .long 5, .int 5, .int 5, .long 5]
def aboutOver (below : List Frame) : State where
  vm := { classes := classes, interned := interned.toArray }
  heap := heap
  slotsUsed := slotsUsed
  threads := #[{ frames := .invoking theMethod args0 :: below }]
def below0 : List Frame := [.native { method := ⟨0, 0⟩, args := #[] }]
def about1 : State := aboutOver below0
def p0 : Program := .bare "" "" ""
def e0 : Env := launch0.env 0 0 0
theorem w_frames : about1.frames = Frame.invoking theMethod args0 :: below0 := rfl
set_option maxRecDepth 65536 in
theorem w_args : argsFit about1.vm theMethod args0 = true := by decide +kernel
set_option maxRecDepth 65536 in
theorem w_heap : heapFits about1 = true := by decide +kernel
set_option maxRecDepth 65536 in
theorem w_runnable : about1.curStatus? = some .runnable := by decide +kernel
set_option maxRecDepth 65536 in
theorem w_alone : about1.alone = true := by decide +kernel
set_option maxRecDepth 65536 in
theorem w_named : about1.methodNamed? x = some theMethod := by decide +kernel
set_option maxRecDepth 65536 in
theorem w_hears : about1.hears theMethod below0 = true := by decide +kernel
set_option maxRecDepth 65536 in
theorem w_ripe : about1.ripe theMethod args0 below0 = true := by decide +kernel
theorem w_running : about1.status = .running := rfl
set_option maxRecDepth 65536 in
theorem w_room : about1.hasRoom e0.platform room_1 = true :=
  launch0.hasRoom_least _ room_1 (by decide +kernel) (by decide +kernel) (by decide +kernel) (by decide +kernel) (by decide +kernel) (by decide +kernel)
theorem allAtoms_all (ts : List Jvm.Cond) (a : Array Jvm.Value) (st : Jvm.State) : (allAtoms ts).before a st = ts.all (fun c => c.before a st) := by
  induction ts with
  | nil => rfl
  | cons c t ih =>
    show (Jvm.Cond.and c (allAtoms t)).before a st = _
    rw [Jvm.Cond.before_and, ih, List.all_cons]
def words1 : List Jvm.Cond := Jvm.Cond.code x code maxLocals ret :: tables_1
/-- a 'code' word, met by the world's own term for the bytes: nothing is compared byte by byte -/
theorem code_word {y : MethodName} {bytes : ByteArray} {mx : Nat} {rt : Option FieldType} {a : Array Value} {s : State} {m : MethodId} {meth : Method} {c : Code} (h1 : s.methodNamed? y = some m) (h2 : s.vm.method? m = some meth) (h3 : meth.code = some c) (h4 : c.code = bytes)
    (h5 : (c.maxLocals == mx && c.exceptionTable.isEmpty && decide (c.maxStack ≤ mostOperands) && decide (meth.sig.returnType = rt) && !meth.locks && decide (parseMethodDescriptor y.desc = some meth.sig)) = true) : (Jvm.Cond.code y bytes mx rt).before a s = true := by
  simp only [Bool.and_eq_true, beq_iff_eq, Bool.not_eq_true', decide_eq_true_eq] at h5
  obtain ⟨⟨⟨⟨⟨g1, g2⟩, g3⟩, g4⟩, g5⟩, g6⟩ := h5
  simp [Cond.before, Cond.holds, Cond.value, h1, h2, h3, h4, g1, g2, g3, g4, g5, g6]
def isCode : Jvm.Cond → Bool
  | .code _ _ _ _ => true
  | _ => false
theorem all_split {L : List Jvm.Cond} {P : Jvm.Cond → Bool} (h1 : L.all (fun c => isCode c || P c) = true) (h2 : ∀ c ∈ L.filter isCode, P c = true) : L.all P = true := by
  refine List.all_eq_true.mpr fun c hc => ?_
  have h := List.all_eq_true.mp h1 c hc
  rcases Bool.eq_false_or_eq_true (isCode c) with hi | hi
  · exact h2 c (List.mem_filter.mpr ⟨hc, hi⟩)
  · simpa [hi] using h
set_option maxRecDepth 65536 in
theorem w_c0 : (Jvm.Cond.code x code maxLocals ret).before args0 about1 = true := code_word (m := ⟨1, 2⟩) (meth := k1m2) (c := k1c2) (by decide +kernel) rfl rfl rfl (by decide +kernel)
set_option maxRecDepth 65536 in
theorem w_c1 : (Jvm.Cond.code ({ cls := "com/example/exact_quorum/exactquorum/protocol/Stat", name := "<init>", desc := "(JJJJIIIJIIJ)V" } : Jvm.MethodName) prog_65_method_1_code (18 : Nat) (Option.none : Option Jvm.ClassFile.FieldType)).before args0 about1 = true := code_word (m := ⟨2, 0⟩) (meth := k2m0) (c := k2c0) (by decide +kernel) rfl rfl rfl (by decide +kernel)
set_option maxRecDepth 65536 in
theorem w_c2 : (Jvm.Cond.code ({ cls := "java/lang/Object", name := "<init>", desc := "()V" } : Jvm.MethodName) object_method_1_code (1 : Nat) (Option.none : Option Jvm.ClassFile.FieldType)).before args0 about1 = true := code_word (m := ⟨0, 0⟩) (meth := k0m0) (c := k0c0) (by decide +kernel) rfl rfl rfl (by decide +kernel)
set_option maxRecDepth 65536 in
theorem w_c3 : (Jvm.Cond.code ({ cls := "com/example/exact_quorum/exactquorum/protocol/StatEqualsPinLaw", name := "isIntField", desc := "(I)Z" } : Jvm.MethodName) method_2_code (1 : Nat) (Option.some Jvm.ClassFile.FieldType.boolean)).before args0 about1 = true := code_word (m := ⟨1, 1⟩) (meth := k1m1) (c := k1c1) (by decide +kernel) rfl rfl rfl (by decide +kernel)
set_option maxRecDepth 65536 in
theorem w_c4 : (Jvm.Cond.code ({ cls := "com/example/exact_quorum/exactquorum/protocol/Stat", name := "equals", desc := "(Ljava/lang/Object;)Z" } : Jvm.MethodName) prog_65_method_5_code (3 : Nat) (Option.some Jvm.ClassFile.FieldType.boolean)).before args0 about1 = true := code_word (m := ⟨2, 1⟩) (meth := k2m1) (c := k2c1) (by decide +kernel) rfl rfl rfl (by decide +kernel)
set_option maxRecDepth 65536 in
theorem w_c5 : (Jvm.Cond.code ({ cls := "java/lang/Integer", name := "valueOf", desc := "(I)Ljava/lang/Integer;" } : Jvm.MethodName) jdk_33_method_22_code (1 : Nat) (Option.some (Jvm.ClassFile.FieldType.object "java/lang/Integer"))).before args0 about1 = true := code_word (m := ⟨8, 0⟩) (meth := k8m0) (c := k8c0) (by decide +kernel) rfl rfl rfl (by decide +kernel)
set_option maxRecDepth 65536 in
theorem w_c6 : (Jvm.Cond.code ({ cls := "java/lang/Integer", name := "<init>", desc := "(I)V" } : Jvm.MethodName) jdk_33_method_23_code (2 : Nat) (Option.none : Option Jvm.ClassFile.FieldType)).before args0 about1 = true := code_word (m := ⟨8, 1⟩) (meth := k8m1) (c := k8c1) (by decide +kernel) rfl rfl rfl (by decide +kernel)
set_option maxRecDepth 65536 in
theorem w_c7 : (Jvm.Cond.code ({ cls := "java/lang/Number", name := "<init>", desc := "()V" } : Jvm.MethodName) jdk_18_method_1_code (1 : Nat) (Option.none : Option Jvm.ClassFile.FieldType)).before args0 about1 = true := code_word (m := ⟨4, 0⟩) (meth := k4m0) (c := k4c0) (by decide +kernel) rfl rfl rfl (by decide +kernel)
def codes1 : List Jvm.Cond := [Jvm.Cond.code x code maxLocals ret, Jvm.Cond.code ({ cls := "com/example/exact_quorum/exactquorum/protocol/Stat", name := "<init>", desc := "(JJJJIIIJIIJ)V" } : Jvm.MethodName) prog_65_method_1_code (18 : Nat) (Option.none : Option Jvm.ClassFile.FieldType), Jvm.Cond.code ({ cls := "java/lang/Object", name := "<init>", desc := "()V" } : Jvm.MethodName) object_method_1_code (1 : Nat) (Option.none : Option Jvm.ClassFile.FieldType), Jvm.Cond.code ({ cls := "com/example/exact_quorum/exactquorum/protocol/StatEqualsPinLaw", name := "isIntField", desc := "(I)Z" } : Jvm.MethodName) method_2_code (1 : Nat) (Option.some Jvm.ClassFile.FieldType.boolean), Jvm.Cond.code ({ cls := "com/example/exact_quorum/exactquorum/protocol/Stat", name := "equals", desc := "(Ljava/lang/Object;)Z" } : Jvm.MethodName) prog_65_method_5_code (3 : Nat) (Option.some Jvm.ClassFile.FieldType.boolean), Jvm.Cond.code ({ cls := "java/lang/Integer", name := "valueOf", desc := "(I)Ljava/lang/Integer;" } : Jvm.MethodName) jdk_33_method_22_code (1 : Nat) (Option.some (Jvm.ClassFile.FieldType.object "java/lang/Integer")), Jvm.Cond.code ({ cls := "java/lang/Integer", name := "<init>", desc := "(I)V" } : Jvm.MethodName) jdk_33_method_23_code (2 : Nat) (Option.none : Option Jvm.ClassFile.FieldType), Jvm.Cond.code ({ cls := "java/lang/Number", name := "<init>", desc := "()V" } : Jvm.MethodName) jdk_18_method_1_code (1 : Nat) (Option.none : Option Jvm.ClassFile.FieldType)]
set_option maxRecDepth 65536 in
theorem codes_eq : words1.filter isCode = codes1 := rfl
theorem w_codes : ∀ c ∈ words1.filter isCode, c.before args0 about1 = true := by
  rw [codes_eq]
  intro c hc
  simp only [codes1, List.mem_cons, List.not_mem_nil, or_false] at hc
  rcases hc with rfl | rfl | rfl | rfl | rfl | rfl | rfl | rfl
  · exact w_c0
  · exact w_c1
  · exact w_c2
  · exact w_c3
  · exact w_c4
  · exact w_c5
  · exact w_c6
  · exact w_c7
set_option maxRecDepth 65536 in
theorem w_t1 : (words1.take 24).all (fun c => isCode c || c.before args0 about1) = true := by decide +kernel
set_option maxRecDepth 65536 in
theorem w_t2 : ((words1.drop 24).take 24).all (fun c => isCode c || c.before args0 about1) = true := by decide +kernel
set_option maxRecDepth 65536 in
theorem w_t3 : ((words1.drop 24).drop 24).all (fun c => isCode c || c.before args0 about1) = true := by decide +kernel
theorem w_tables : (allAtoms (Jvm.Cond.code x code maxLocals ret :: tables_1)).before args0 about1 = true := by
  rw [allAtoms_all]
  show words1.all (fun c => c.before args0 about1) = true
  refine all_split ?_ w_codes
  rw [← List.take_append_drop 24 words1, List.all_append, w_t1, ← List.take_append_drop 24 (words1.drop 24), List.all_append, w_t2, w_t3]
  rfl
set_option maxRecDepth 65536 in
theorem w_rest : rest_1_c.before args0 about1 = true := by decide +kernel
set_option maxRecDepth 65536 in
theorem w_case : (Jvm.Cond.and given_1 narrow_1).before args0 about1 = true := by decide +kernel
theorem w_applies : (headSpec (Jvm.Cond.code x code maxLocals ret :: tables_1) room_1).applies x e0.platform about1 = true :=
  (Spec.applies_iff w_frames).mpr ⟨w_running, w_runnable, w_alone, w_named, w_hears, w_ripe, w_room, w_tables⟩
theorem atStart : AtStart classFile x code maxLocals ret World_1 tables_1 room_1 Calls_1 rest_1 Pre_1 launch0 p0 e0 about1 theMethod args0 below0 :=
  ⟨lists_1, trivial, launch0.admits_env _ _ _, launch0.least_env, fairChoices_fair.cas, fairChoices_fair.clock, w_frames, w_args, w_heap, w_applies, trivial, w_rest, w_case⟩
end start1
theorem witness_1 : WitnessClaimed_1 := ⟨start1.p0, start1.e0, start1.about1, start1.theMethod, start1.args0, start1.below0, start1.atStart⟩
end Jvm.Pilot.@@N@@
