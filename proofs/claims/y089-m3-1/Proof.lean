import JvmDerived
import JvmDerived.Pilot.@@N@@Statement
import JvmDerived.Pilot.@@N@@Code
set_option linter.unusedVariables false
set_option linter.unusedSimpArgs false
namespace Jvm.Pilot.@@N@@
open Jvm Jvm.ClassFile Sem Op Lib Jvm.Free Jvm.Stand Jvm.LawKit Jvm.RoadKit Bundle Jvm.Pilot.@@N@@.Jvm.D
theorem wdx {a0 : Array Value} {Z : State} (hw : ∀ d ∈ tables_1, d.before a0 Z = true) (i : Nat) {d : Jvm.Cond} (h : tables_1[i]? = some d) : d.before a0 Z = true := hw d (List.mem_of_getElem? h)
/-! the walk in one predicate: from S the run comes to an end at which Q holds -/
def Go (p : Program) (e : Env) (below : List Frame) (s : State) (rc rs : Nat) (Q : Option Value → Heap → List Loc → Prop) (S : State) : Prop :=
  ∃ t o, Steps p.tables e below S t ∧ t.status = .running ∧ Ended t below o ∧ ∃ v L, o = .returned v ∧ Q v t.heap L ∧ FrameEnd s o t L rc rs
section Pre
variable {p : Program} {l : Launch} {e : Env} {R : Room} {s : State} {m : MethodId} {args : Array Value} {below : List Frame} {meth : Method} {c : Code} {T : State} {locs : List Loc} {cells slots rc rs : Nat} {Q : Option Value → Heap → List Loc → Prop} {S S' : State} {h : Heap} {Z : State} {n0 : Nat}
theorem Go.st (k : ∀ t, Steps p.tables e below S' t → Steps p.tables e below S t) (g : Go p e below s rc rs Q S') : Go p e below s rc rs Q S := by
  obtain ⟨t, o, h, r⟩ := g; exact ⟨t, o, k t h, r⟩
theorem Go.tr (k : Steps p.tables e below S S') (g : Go p e below s rc rs Q S') : Go p e below s rc rs Q S := by
  obtain ⟨t, o, h, r⟩ := g; exact ⟨t, o, k.trans h, r⟩
theorem Go.ret (X : Stand p l e R s m args below meth c T locs cells slots) (hx : p.tables.exec = Jvm.exec) (hlk : meth.locks = false) {pc : Nat} {Ls : Array Slot} {w : Value} {t : FieldType} {i : Instr} {rest : List Value} (hret : meth.sig.returnType = some t) (hn : narrow t w = w)
    (hi : (i = .ireturn ∧ (t = .int ∨ t = .boolean ∨ t = .byte ∨ t = .char ∨ t = .short) ∧ ∃ z, w = .int z) ∨ (i = .lreturn ∧ t = .long ∧ ∃ z, w = .long z) ∨ (i = .dreturn ∧ t = .double ∧ ∃ z, w = .double z) ∨ (i = .freturn ∧ t = .float ∧ ∃ z, w = .float z) ∨ (i = .areturn ∧ t.isReference = true ∧ w.isRef = true))
    (hd : decode c.code pc = .ok (i, 1)) (hc : cells ≤ rc) (hs : slots ≤ rs) (hh : T.heap = h) (hq : Q (some w) h locs) : Go p e below s rc rs Q (T.setTop (mkF m pc Ls (w :: rest))) := by
  obtain ⟨fs, hr, hrun, hended, hW, hsame⟩ := X.leave (v := some w) (fun h => by rw [hret] at h; cases h) hlk
  subst hh
  exact ⟨_, _, retOut X hx hret hn hi hd hr, hrun, hended, _, _, rfl, hq, ⟨_, rfl⟩, hW, hsame.mono hc hs⟩
theorem Go.retB (X : Stand p l e R s m args below meth c T locs cells slots) (hx : p.tables.exec = Jvm.exec) (hlk : meth.locks = false) {pc : Nat} {Ls : Array Slot} {z : Int32} {t : FieldType} {rest : List Value} (hret : meth.sig.returnType = some t) (ht : t = .boolean ∨ t = .byte ∨ t = .char ∨ t = .short)
    (hd : decode c.code pc = .ok (.ireturn, 1)) (hc : cells ≤ rc) (hs : slots ≤ rs) (hh : T.heap = h) (hq : Q (some (.int (nar t z))) h locs) : Go p e below s rc rs Q (T.setTop (mkF m pc Ls (.int z :: rest))) := by
  obtain ⟨fs, hr, hrun, hended, hW, hsame⟩ := X.leave (v := some (.int (nar t z))) (fun h => by rw [hret] at h; cases h) hlk
  subst hh
  exact ⟨_, _, retN X hx hret ht hd hr, hrun, hended, _, _, rfl, hq, ⟨_, rfl⟩, hW, hsame.mono hc hs⟩
theorem Go.retV (X : Stand p l e R s m args below meth c T locs cells slots) (hx : p.tables.exec = Jvm.exec) (hlk : meth.locks = false) {pc : Nat} {Ls : Array Slot} (hret : meth.sig.returnType = none)
    (hd : decode c.code pc = .ok (.return_, 1)) (hc : cells ≤ rc) (hs : slots ≤ rs) (hh : T.heap = h) (hq : Q none h locs) : Go p e below s rc rs Q (T.setTop (mkF m pc Ls [])) := by
  obtain ⟨fs, hr, hrun, hended, hW, hsame⟩ := X.leave (v := none) (fun _ => rfl) hlk
  subst hh
  exact ⟨_, _, X.returnOut hx hret hd hr, hrun, hended, _, _, rfl, hq, ⟨_, rfl⟩, hW, hsame.mono hc hs⟩
theorem own_le (O : Old Z n0 h) : n0 ≤ h.size := O.1 ▸ O.2.1
theorem own_nb (b : Bool) : nar .boolean (if b then 1 else 0) = if b then 1 else 0 := by cases b <;> rfl
end Pre
/-- a cache of boxes: an old array, each element an object of the class K -/
def Bxw (Z : State) (a : Addr) (cl : Cell) (K : String) : Prop := Arr Z Z.heap a cl (.object K) ∧ cl.slots.size = 256 ∧ ∀ j : Int32, ¬ (j < 0 ∨ cl.slots.size ≤ j.toNatClampNeg) → ∃ b : Addr, cl.slots[j.toNatClampNeg]? = some (.ref b) ∧ Exa Z Z.heap b K
theorem own_nsa {a0 : Array Value} {Z : State} {O K : String} {kk : Nat} (w : (Jvm.Cond.noSuperclass O).before a0 Z = true) (wk : (Jvm.Cond.instantiable K kk).before a0 Z = true) (hn : O ≠ K) : NS Z O K := by
  obtain ⟨c, k, h1, h2, h3, -, -⟩ := Cond.noSuperclass_spec w
  obtain ⟨u, k2, g1, -⟩ := Cond.instantiable_spec wk
  have ne := ids_ne h1 g1 hn
  refine ⟨c, u, h1, g1, fun fuel => ?_⟩
  cases fuel with
  | zero => rfl
  | succ f => simp [Vm.isSubclassAux, ne, h2, h3]
theorem own_nsb {a0 : Array Value} {Z : State} {C S K : String} {kk : Nat} (w : (Jvm.Cond.superclass C S).before a0 Z = true) (wk : (Jvm.Cond.instantiable K kk).before a0 Z = true) (n : NS Z C K) (hn : C ≠ K) : ∃ c t, Z.vm.findClass C = some c ∧ Z.vm.findClass K = some t ∧ Z.vm.assignable c t = false := by
  obtain ⟨c, u, h0, g0, n3⟩ := n
  obtain ⟨q1, k, kp, h1, h2, h3, h4, h5, -, h7⟩ := Cond.superclass_spec h0 w
  obtain ⟨u2, k', g1, g2, g3, g4, -⟩ := Cond.instantiable_spec wk
  cases g0.symm.trans g1
  have ne := ids_ne h0 g0 hn
  have g5 : k'.isInterface = false := by
    cases hi : k'.isInterface
    · rfl
    · rw [hi] at g4; cases g4
  refine ⟨c, u, h0, g0, ?_⟩
  show Z.vm.assignableAux (255 + 1) c u = false
  simp [Vm.assignableAux, ne, h2, g2, h5, g3, g5, Vm.isSubclass, n3]
theorem own_bx {Z : State} {args : Array Value} {t : Term} {a : Addr} {c : Cell} {K : String} {G : Jvm.Cond} (et : ∀ idx, t.eval args Z none idx Z = some (.ref a)) (A : Arr Z Z.heap a c (.object K)) (hlen : (Jvm.Cond.eq (.length t) (.int 256)).value args Z none Z [] = some true)
    (h : (Jvm.Cond.all t (.and (.exactly (.elem t (.index 0)) K) G)).value args Z none Z [] = some true) : Bxw Z a c K := by
  have hl := eqv_i (y := 256) rfl hlen
  have ha := A.fin (Vm.Alike.refl _)
  have hsz : c.slots.size = 256 := by
    by_cases hb : c.slots.size < 2 ^ 31
    · rw [len_f (et []) ha hb] at hl
      have := congrArg Int32.toInt (Value.int.inj (Option.some.inj hl))
      rw [len_toInt hb] at this
      have e : (256 : Int32).toInt = 256 := rfl
      omega
    · simp [Term.eval, et, ha, hb] at hl
  refine ⟨A, hsz, fun j hj => ?_⟩
  have nn : ¬ j < 0 := fun x => hj (Or.inl x)
  obtain ⟨u1, u2⟩ := and_e (Cond.all_elim (et []) (A.fin (Vm.Alike.refl _)) h j.toNatClampNeg (Nat.lt_of_not_le fun x => hj (Or.inr x)))
  obtain ⟨box, eb⟩ := exa_v u1
  exact ⟨box, (elem_f (et _) (idx_at nn) (A.fin (Vm.Alike.refl _)) nn).symm.trans eb, exa_at eb u1⟩
theorem own_ix (z : Int32) (h1 : ¬ z < -128) (h2 : ¬ (127 : Int32) < z) {n : Nat} (hn : n = 256) : ¬ (z + (128 : Int32) < 0 ∨ n ≤ (z + (128 : Int32)).toNatClampNeg) := by
  subst hn
  have h := c_iadd z 128
  have e1 : (128 : Int32).toInt = 128 := rfl
  have e2 : (-128 : Int32).toInt = -128 := rfl
  have e3 : (127 : Int32).toInt = 127 := rfl
  have e4 : (0 : Int32).toInt = 0 := rfl
  have b1 := (z + (128 : Int32)).toInt_lt; have b2 := (z + (128 : Int32)).le_toInt
  rw [Int32.lt_iff_toInt_lt] at h1 h2
  simp only [Int32.lt_iff_toInt_lt, Int32.toNatClampNeg]
  omega
theorem own_ixl (z : Int64) (h1 : ¬ z < -128) (h2 : ¬ (127 : Int64) < z) {n : Nat} (hn : n = 256) : ¬ (z.toInt32 + (128 : Int32) < 0 ∨ n ≤ (z.toInt32 + (128 : Int32)).toNatClampNeg) := by
  have e2 : (-128 : Int64).toInt = -128 := rfl
  have e3 : (127 : Int64).toInt = 127 := rfl
  have e5 : (-128 : Int32).toInt = -128 := rfl
  have e6 : (127 : Int32).toInt = 127 := rfl
  rw [Int64.lt_iff_toInt_lt] at h1 h2
  have h := c_l2i z
  have b1 := z.toInt32.toInt_lt; have b2 := z.toInt32.le_toInt
  exact own_ix z.toInt32 (by rw [Int32.lt_iff_toInt_lt]; omega) (by rw [Int32.lt_iff_toInt_lt]; omega) hn
def feq (a : Int32) (y : Int64) (b : Int32) (w : Int64) : Int32 := if a = b then (if y = w then 1 else 0) else 0
theorem own_sym (a : Int32) (y : Int64) (b : Int32) (w : Int64) : feq a y b w = feq b w a y := by
  unfold feq; simp only [eq_comm]
theorem own_refl (a : Int32) (y : Int64) : ¬ feq a y a y = 0 := by simp [feq]
theorem own_st {s : State} {args : Array Value} {C n d : String} {z : Int32} (h : (Jvm.Cond.eq (Term.static C n d) (Term.int z)).value args s none s [] = some true) (hi : (Jvm.Cond.initializedFor C n d).before args s = true) : Sta s s.heap C n d (.int z) := Sta.start (eqv_i rfl h) (Or.inl hi)
theorem d1_0 : decode prog_77_method_1_code 0 = .ok (.aload_n 0, 1) := by decide +kernel
theorem d1_1 : decode prog_77_method_1_code 1 = .ok (.invokespecial 1, 3) := by decide +kernel
theorem d1_4 : decode prog_77_method_1_code 4 = .ok (.aload_n 0, 1) := by decide +kernel
theorem d1_5 : decode prog_77_method_1_code 5 = .ok (.iload_n 1, 1) := by decide +kernel
theorem d1_6 : decode prog_77_method_1_code 6 = .ok (.putfield 7, 3) := by decide +kernel
theorem d1_9 : decode prog_77_method_1_code 9 = .ok (.aload_n 0, 1) := by decide +kernel
theorem d1_10 : decode prog_77_method_1_code 10 = .ok (.lload_n 2, 1) := by decide +kernel
theorem d1_11 : decode prog_77_method_1_code 11 = .ok (.putfield 13, 3) := by decide +kernel
theorem d1_14 : decode prog_77_method_1_code 14 = .ok (.return_, 1) := by decide +kernel
theorem pn_com_example_exact_quorum_exactquorum_server_Election_Vote : plainName "com/example/exact_quorum/exactquorum/server/Election$Vote" = true := by first | (simp [plainName, overriddenIn]; done) | decide +kernel
theorem ef_rm1 (m : MethodId) (ob : Addr) (ul : Int32) (uz : Int64) : entryFrame m #[(.ref ob), (.int ul), (.long uz)] 4 = mkF m 0 #[.val (.ref ob), .val (.int ul), .val (.long uz), .second] [] := by first | (simp [entryFrame, mkF, argsToLocals, Value.category]; done) | rfl
def Q1 (Z : State) (ob : Addr) (ul : Int32) (uz : Int64) (h0 : Heap) (n0 : Nat) (v : Option Value) (h : Heap) (L : List Loc) : Prop := v = none ∧ Fr n0 L ∧ Keep h0 h [ob] ∧ Fld Z h ob "com/example/exact_quorum/exactquorum/server/Election$Vote" "leader" "I" (.int ul) ∧ Fld Z h ob "com/example/exact_quorum/exactquorum/server/Election$Vote" "zxid" "J" (.long uz)
set_option maxRecDepth 65536 in
set_option maxHeartbeats 40000000 in
theorem rm1 (l : Launch) (Z : State) (a0 : Array Value) (hw : ∀ d ∈ tables_1, d.before a0 Z = true) (ws : List Jvm.Cond) (ob : Addr) (ul : Int32) (uz : Int64) (h0 : Heap) (n0 : Nat) (O0 : Old Z n0 h0) (E_o : Exa Z h0 ob "com/example/exact_quorum/exactquorum/server/Election$Vote") (Fa : Fld Z h0 ob "com/example/exact_quorum/exactquorum/server/Election$Vote" "leader" "I" (.int (0 : Int32))) (Fb : Fld Z h0 ob "com/example/exact_quorum/exactquorum/server/Election$Vote" "zxid" "J" (.long (0 : Int64))) (g_o : n0 ≤ ob) :
    MetFree l (⟨"com/example/exact_quorum/exactquorum/server/Election$Vote", "<init>", "(IJ)V"⟩ : MethodName) (head1 (Jvm.Cond.code (⟨"com/example/exact_quorum/exactquorum/server/Election$Vote", "<init>", "(IJ)V"⟩ : MethodName) prog_77_method_1_code 4 none :: ws) ({ frames := 1, cells := 0, slots := 0, locals := 12 } : Room)) (fun ay U => ay = #[(.ref ob), (.int ul), (.long uz)] ∧ Z.Warmed39 U.vm ∧ U.heap = h0) (fun _ _ _ _ _ => True) (fun _ U o U' => ∃ v L, o = .returned v ∧ Q1 Z ob ul uz h0 n0 v U'.heap L ∧ FrameEnd U o U' L ({ frames := 1, cells := 0, slots := 0, locals := 12 } : Room).cells ({ frames := 1, cells := 0, slots := 0, locals := 12 } : Room).slots) := by
  refine MetFree.of_bodySF (plainFor_of_name pn_com_example_exact_quorum_exactquorum_server_Election_Vote) hisR ?_
  intro p e s m args below meth c s₁ Bd hml0 hP hK
  obtain ⟨rfl, hZ, hh⟩ := hP
  have hx := Bd.exec
  have hby := Bd.bytes
  have hlk : meth.locks = false := BodyLoose.notSynchronized Bd
  have hml : c.maxLocals = 4 := hml0
  have hown : s.vm.findClass "com/example/exact_quorum/exactquorum/server/Election$Vote" = some m.cls := findClass_of_methodNamed Bd.named
  have hnm := (name_of_methodNamed Bd.named Bd.method).1
  have X0 : Stand p l e ({ frames := 1, cells := 0, slots := 0, locals := 12 } : Room) s m #[(.ref ob), (.int ul), (.long uz)] below meth c s₁ [] 0 0 := Stand.of_body Bd
  have e0 : s₁.heap = h0 := by rw [← hh, Bd.state]; rfl
  have N0 := Fr.nil n0
  suffices hgo : Go p e below s 0 0 (Q1 Z ob ul uz h0 n0) (s₁.setTop (mkF m 0 #[.val (.ref ob), .val (.int ul), .val (.long uz), .second] [])) by
    obtain ⟨t, o, h1, h2⟩ := hgo; exact ⟨t, o, castTop (ef_rm1 m ob ul uz) h1, h2⟩
  show Go p e below s _ _ _ (s₁.setTop (mkF m 0 #[.val (.ref ob), .val (.int ul), .val (.long uz), .second] []))
  refine Go.st (fun _ k' => XS.aloadN X0.here hx rfl (hb hby d1_0) rfl rfl k') ?_
  show Go p e below s _ _ _ (s₁.setTop (mkF m 1 #[.val (.ref ob), .val (.int ul), .val (.long uz), .second] [(.ref ob)]))
  obtain ⟨T1, X1, e1, st1⟩ := initO X0 hx hZ hown (wdx hw 6 rfl) (wdx hw 7 rfl) (wdx hw 8 rfl) e0 (g := (mkF m 1 #[.val (.ref ob), .val (.int ul), .val (.long uz), .second] [(.ref ob)])) rfl (by rw [hml]; rfl) rfl (hb hby d1_1) (by decide) (W := 0) (by show 2 * 0 + _ ≤ _; exact Nat.le_of_eq rfl) (by decide)
  refine Go.st st1 ?_
  show Go p e below s _ _ _ (T1.setTop (mkF m 4 #[.val (.ref ob), .val (.int ul), .val (.long uz), .second] []))
  refine Go.st (fun _ k' => XS.aloadN X1.here hx rfl (hb hby d1_4) rfl rfl k') ?_
  show Go p e below s _ _ _ (T1.setTop (mkF m 5 #[.val (.ref ob), .val (.int ul), .val (.long uz), .second] [(.ref ob)]))
  refine Go.st (fun _ k' => XS.iloadN X1.here hx rfl (hb hby d1_5) rfl k') ?_
  show Go p e below s _ _ _ (T1.setTop (mkF m 6 #[.val (.ref ob), .val (.int ul), .val (.long uz), .second] [(.int ul), (.ref ob)]))
  obtain ⟨T2, h2, X2, e2, W2, st2⟩ := putF X1 hx hZ hown (host := "") (Or.inl (wdx hw 9 rfl)) Via.refl e1 Fa E_o (Or.inr ⟨(wdx hw 10 rfl), rfl, hnm⟩) (wdx hw 1 rfl) (ty := .int) (by decide) rfl rfl (g := (mkF m 6 #[.val (.ref ob), .val (.int ul), .val (.long uz), .second] [(.int ul), (.ref ob)])) rfl rfl (hb hby d1_6)
  refine Go.st st2 ?_
  have f3 : Exa Z h2 ob "com/example/exact_quorum/exactquorum/server/Election$Vote" := E_o.wr W2
  have f4 : Fld Z h2 ob "com/example/exact_quorum/exactquorum/server/Election$Vote" "leader" "I" (.int ul) := Fa.same W2
  have f5 : Fld Z h2 ob "com/example/exact_quorum/exactquorum/server/Election$Vote" "zxid" "J" (.long (0 : Int64)) := Fb.other W2 (Or.inr (slot_ne (Or.inr (wdx hw 12 rfl)) (Or.inr (wdx hw 10 rfl)) (by decide) (t := .long) (t' := .int) (by decide) (by decide)))
  have O2 : Old Z n0 h2 := O0.wr W2 g_o
  have N2 := Fr.snoc X2 N0 g_o
  have K2 : Keep h0 h2 [ob] := (Keep.refl h0 [ob]).wr W2 (Or.inl (by simp))
  show Go p e below s _ _ _ (T2.setTop (mkF m 9 #[.val (.ref ob), .val (.int ul), .val (.long uz), .second] []))
  refine Go.st (fun _ k' => XS.aloadN X2.here hx rfl (hb hby d1_9) rfl rfl k') ?_
  show Go p e below s _ _ _ (T2.setTop (mkF m 10 #[.val (.ref ob), .val (.int ul), .val (.long uz), .second] [(.ref ob)]))
  refine Go.st (fun _ k' => XS.lloadN X2.here hx rfl (hb hby d1_10) rfl k') ?_
  show Go p e below s _ _ _ (T2.setTop (mkF m 11 #[.val (.ref ob), .val (.int ul), .val (.long uz), .second] [(.long uz), (.ref ob)]))
  obtain ⟨T6, h6, X6, e6, W6, st6⟩ := putF X2 hx hZ hown (host := "") (Or.inl (wdx hw 11 rfl)) Via.refl e2 f5 f3 (Or.inr ⟨(wdx hw 12 rfl), rfl, hnm⟩) (wdx hw 1 rfl) (ty := .long) (by decide) rfl rfl (g := (mkF m 11 #[.val (.ref ob), .val (.int ul), .val (.long uz), .second] [(.long uz), (.ref ob)])) rfl rfl (hb hby d1_11)
  refine Go.st st6 ?_
  have f7 : Exa Z h6 ob "com/example/exact_quorum/exactquorum/server/Election$Vote" := f3.wr W6
  have f8 : Fld Z h6 ob "com/example/exact_quorum/exactquorum/server/Election$Vote" "leader" "I" (.int ul) := f4.other W6 (Or.inr (slot_ne (Or.inr (wdx hw 10 rfl)) (Or.inr (wdx hw 12 rfl)) (by decide) (t := .int) (t' := .long) (by decide) (by decide)))
  have f9 : Fld Z h6 ob "com/example/exact_quorum/exactquorum/server/Election$Vote" "zxid" "J" (.long uz) := f5.same W6
  have O6 : Old Z n0 h6 := O2.wr W6 g_o
  have N6 := Fr.snoc X6 N2 g_o
  have K6 : Keep h0 h6 [ob] := K2.wr W6 (Or.inl (by simp))
  show Go p e below s _ _ _ (T6.setTop (mkF m 14 #[.val (.ref ob), .val (.int ul), .val (.long uz), .second] []))
  refine Go.retV X6 hx hlk Bd.returns (hb hby d1_14) (by decide) (by decide) e6 ?_
  exact ⟨rfl, N6, K6, f8, f9⟩
theorem d6_0 : decode jdk_18_method_1_code 0 = .ok (.aload_n 0, 1) := by decide +kernel
theorem d6_1 : decode jdk_18_method_1_code 1 = .ok (.invokespecial 1, 3) := by decide +kernel
theorem d6_4 : decode jdk_18_method_1_code 4 = .ok (.return_, 1) := by decide +kernel
theorem pn_java_lang_Number : plainName "java/lang/Number" = true := by first | (simp [plainName, overriddenIn]; done) | decide +kernel
theorem ef_rm6 (m : MethodId) (ob : Addr) : entryFrame m #[(.ref ob)] 1 = mkF m 0 #[.val (.ref ob)] [] := by first | (simp [entryFrame, mkF, argsToLocals, Value.category]; done) | rfl
def Q6 (Z : State) (ob : Addr) (h0 : Heap) (n0 : Nat) (v : Option Value) (h : Heap) (L : List Loc) : Prop := v = none ∧ Fr n0 L ∧ h = h0
set_option maxRecDepth 65536 in
set_option maxHeartbeats 40000000 in
theorem rm6 (l : Launch) (Z : State) (a0 : Array Value) (hw : ∀ d ∈ tables_1, d.before a0 Z = true) (ws : List Jvm.Cond) (ob : Addr) (h0 : Heap) (n0 : Nat) (O0 : Old Z n0 h0) :
    MetFree l (⟨"java/lang/Number", "<init>", "()V"⟩ : MethodName) (head1 (Jvm.Cond.code (⟨"java/lang/Number", "<init>", "()V"⟩ : MethodName) jdk_18_method_1_code 1 none :: ws) ({ frames := 1, cells := 0, slots := 0, locals := 12 } : Room)) (fun ay U => ay = #[(.ref ob)] ∧ Z.Warmed39 U.vm ∧ U.heap = h0) (fun _ _ _ _ _ => True) (fun _ U o U' => ∃ v L, o = .returned v ∧ Q6 Z ob h0 n0 v U'.heap L ∧ FrameEnd U o U' L ({ frames := 1, cells := 0, slots := 0, locals := 12 } : Room).cells ({ frames := 1, cells := 0, slots := 0, locals := 12 } : Room).slots) := by
  refine MetFree.of_bodySF (plainFor_of_name pn_java_lang_Number) hisR ?_
  intro p e s m args below meth c s₁ Bd hml0 hP hK
  obtain ⟨rfl, hZ, hh⟩ := hP
  have hx := Bd.exec
  have hby := Bd.bytes
  have hlk : meth.locks = false := BodyLoose.notSynchronized Bd
  have hml : c.maxLocals = 1 := hml0
  have hown : s.vm.findClass "java/lang/Number" = some m.cls := findClass_of_methodNamed Bd.named
  have hnm := (name_of_methodNamed Bd.named Bd.method).1
  have X0 : Stand p l e ({ frames := 1, cells := 0, slots := 0, locals := 12 } : Room) s m #[(.ref ob)] below meth c s₁ [] 0 0 := Stand.of_body Bd
  have e0 : s₁.heap = h0 := by rw [← hh, Bd.state]; rfl
  have N0 := Fr.nil n0
  suffices hgo : Go p e below s 0 0 (Q6 Z ob h0 n0) (s₁.setTop (mkF m 0 #[.val (.ref ob)] [])) by
    obtain ⟨t, o, h1, h2⟩ := hgo; exact ⟨t, o, castTop (ef_rm6 m ob) h1, h2⟩
  show Go p e below s _ _ _ (s₁.setTop (mkF m 0 #[.val (.ref ob)] []))
  refine Go.st (fun _ k' => XS.aloadN X0.here hx rfl (hb hby d6_0) rfl rfl k') ?_
  show Go p e below s _ _ _ (s₁.setTop (mkF m 1 #[.val (.ref ob)] [(.ref ob)]))
  obtain ⟨T1, X1, e1, st1⟩ := initO X0 hx hZ hown (wdx hw 42 rfl) (wdx hw 7 rfl) (wdx hw 8 rfl) e0 (g := (mkF m 1 #[.val (.ref ob)] [(.ref ob)])) rfl (by rw [hml]; rfl) rfl (hb hby d6_1) (by decide) (W := 0) (by show 2 * 0 + _ ≤ _; exact Nat.le_of_eq rfl) (by decide)
  refine Go.st st1 ?_
  show Go p e below s _ _ _ (T1.setTop (mkF m 4 #[.val (.ref ob)] []))
  refine Go.retV X1 hx hlk Bd.returns (hb hby d6_4) (by decide) (by decide) e1 ?_
  exact ⟨rfl, N0, rfl⟩
theorem d5_0 : decode jdk_33_method_23_code 0 = .ok (.aload_n 0, 1) := by decide +kernel
theorem pd___V : parseMethodDescriptor "()V" = some ⟨[], none⟩ := by decide +kernel
theorem d5_1 : decode jdk_33_method_23_code 1 = .ok (.invokespecial 202, 3) := by decide +kernel
theorem d5_4 : decode jdk_33_method_23_code 4 = .ok (.aload_n 0, 1) := by decide +kernel
theorem d5_5 : decode jdk_33_method_23_code 5 = .ok (.iload_n 1, 1) := by decide +kernel
theorem d5_6 : decode jdk_33_method_23_code 6 = .ok (.putfield 205, 3) := by decide +kernel
theorem d5_9 : decode jdk_33_method_23_code 9 = .ok (.return_, 1) := by decide +kernel
theorem pn_java_lang_Integer : plainName "java/lang/Integer" = true := by first | (simp [plainName, overriddenIn]; done) | decide +kernel
theorem ef_rm5 (m : MethodId) (ob : Addr) (iv : Int32) : entryFrame m #[(.ref ob), (.int iv)] 2 = mkF m 0 #[.val (.ref ob), .val (.int iv)] [] := by first | (simp [entryFrame, mkF, argsToLocals, Value.category]; done) | rfl
def Q5 (Z : State) (ob : Addr) (iv : Int32) (h0 : Heap) (n0 : Nat) (v : Option Value) (h : Heap) (L : List Loc) : Prop := v = none ∧ Fr n0 L ∧ Keep h0 h [ob] ∧ Fld Z h ob "java/lang/Integer" "value" "I" (.int iv)
set_option maxRecDepth 65536 in
set_option maxHeartbeats 40000000 in
theorem rm5 (l : Launch) (Z : State) (a0 : Array Value) (hw : ∀ d ∈ tables_1, d.before a0 Z = true) (ws : List Jvm.Cond) (ob : Addr) (iv : Int32) (h0 : Heap) (n0 : Nat) (O0 : Old Z n0 h0) (E_o : Exa Z h0 ob "java/lang/Integer") (Fv : Fld Z h0 ob "java/lang/Integer" "value" "I" (.int (0 : Int32))) (g_o : n0 ≤ ob) :
    MetFree l (⟨"java/lang/Integer", "<init>", "(I)V"⟩ : MethodName) (head1 (Jvm.Cond.code (⟨"java/lang/Integer", "<init>", "(I)V"⟩ : MethodName) jdk_33_method_23_code 2 none :: ws) ({ frames := 2, cells := 0, slots := 0, locals := 24 } : Room)) (fun ay U => ay = #[(.ref ob), (.int iv)] ∧ Z.Warmed39 U.vm ∧ U.heap = h0) (fun _ _ _ _ _ => True) (fun _ U o U' => ∃ v L, o = .returned v ∧ Q5 Z ob iv h0 n0 v U'.heap L ∧ FrameEnd U o U' L ({ frames := 2, cells := 0, slots := 0, locals := 24 } : Room).cells ({ frames := 2, cells := 0, slots := 0, locals := 24 } : Room).slots) := by
  refine MetFree.of_bodySF (plainFor_of_name pn_java_lang_Integer) hisR ?_
  intro p e s m args below meth c s₁ Bd hml0 hP hK
  obtain ⟨rfl, hZ, hh⟩ := hP
  have hx := Bd.exec
  have hby := Bd.bytes
  have hlk : meth.locks = false := BodyLoose.notSynchronized Bd
  have hml : c.maxLocals = 2 := hml0
  have hown : s.vm.findClass "java/lang/Integer" = some m.cls := findClass_of_methodNamed Bd.named
  have hnm := (name_of_methodNamed Bd.named Bd.method).1
  have X0 : Stand p l e ({ frames := 2, cells := 0, slots := 0, locals := 24 } : Room) s m #[(.ref ob), (.int iv)] below meth c s₁ [] 0 0 := Stand.of_body Bd
  have e0 : s₁.heap = h0 := by rw [← hh, Bd.state]; rfl
  have N0 := Fr.nil n0
  suffices hgo : Go p e below s 0 0 (Q5 Z ob iv h0 n0) (s₁.setTop (mkF m 0 #[.val (.ref ob), .val (.int iv)] [])) by
    obtain ⟨t, o, h1, h2⟩ := hgo; exact ⟨t, o, castTop (ef_rm5 m ob iv) h1, h2⟩
  show Go p e below s _ _ _ (s₁.setTop (mkF m 0 #[.val (.ref ob), .val (.int iv)] []))
  refine Go.st (fun _ k' => XS.aloadN X0.here hx rfl (hb hby d5_0) rfl rfl k') ?_
  show Go p e below s _ _ _ (s₁.setTop (mkF m 1 #[.val (.ref ob), .val (.int iv)] [(.ref ob)]))
  obtain ⟨_, _, ⟨T1, L1, k1, n1⟩, -, X1, ⟨Lc1, hQ1, l1, y1, z1⟩, st1⟩ := X0.specialBack hx (y := (⟨"java/lang/Number", "<init>", "()V"⟩ : MethodName)) rfl hown (mvT hZ (wdx hw 36 rfl)) (mvT hZ (wdx hw 37 rfl)) (mvT hZ (wdx hw 41 rfl)) (by decide) (backOf (W := 0) (rm6 l Z a0 hw [] ob h0 n0 O0 ) hZ (wdx hw 41 rfl) (wdx hw 40 rfl) (by decide) (by decide)) (g := (mkF m 1 #[.val (.ref ob), .val (.int iv)] [(.ref ob)])) rfl (by rw [hml]; rfl) (Steps.refl _) (a := ob) (argsL := []) (rest := []) (lenOf pd___V rfl) rfl (by show 2 * 0 + _ ≤ _; exact Nat.le_of_eq rfl) (hb hby d5_1) (fun _ _ => ⟨rfl, e0, (by exact Nat.le_of_ble_eq_true rfl), (by exact Nat.le_of_ble_eq_true rfl)⟩)
  dsimp only [Pt.U, Pt.locs, Pt.cells, Pt.slots] at X1 l1 y1 z1 st1 hQ1
  subst l1 y1 z1
  obtain ⟨rfl, Nq1, eq1⟩ := hQ1
  have N1 := Fr.app N0 Nq1
  refine Go.tr st1 ?_
  show Go p e below s _ _ _ (T1.setTop (mkF m 4 #[.val (.ref ob), .val (.int iv)] []))
  refine Go.st (fun _ k' => XS.aloadN X1.here hx rfl (hb hby d5_4) rfl rfl k') ?_
  show Go p e below s _ _ _ (T1.setTop (mkF m 5 #[.val (.ref ob), .val (.int iv)] [(.ref ob)]))
  refine Go.st (fun _ k' => XS.iloadN X1.here hx rfl (hb hby d5_5) rfl k') ?_
  show Go p e below s _ _ _ (T1.setTop (mkF m 6 #[.val (.ref ob), .val (.int iv)] [(.int iv), (.ref ob)]))
  obtain ⟨T2, h2, X2, e2, W2, st2⟩ := putF X1 hx hZ hown (host := "") (Or.inl (wdx hw 43 rfl)) Via.refl eq1 Fv E_o (Or.inr ⟨(wdx hw 44 rfl), rfl, hnm⟩) (wdx hw 31 rfl) (ty := .int) (by decide) rfl rfl (g := (mkF m 6 #[.val (.ref ob), .val (.int iv)] [(.int iv), (.ref ob)])) rfl rfl (hb hby d5_6)
  refine Go.st st2 ?_
  have f3 : Exa Z h2 ob "java/lang/Integer" := E_o.wr W2
  have f4 : Fld Z h2 ob "java/lang/Integer" "value" "I" (.int iv) := Fv.same W2
  have O2 : Old Z n0 h2 := O0.wr W2 g_o
  have N2 := Fr.snoc X2 N1 g_o
  have K2 : Keep h0 h2 [ob] := (Keep.refl h0 [ob]).wr W2 (Or.inl (by simp))
  show Go p e below s _ _ _ (T2.setTop (mkF m 9 #[.val (.ref ob), .val (.int iv)] []))
  refine Go.retV X2 hx hlk Bd.returns (hb hby d5_9) (by decide) (by decide) e2 ?_
  exact ⟨rfl, N2, K2, f4⟩
theorem d4_0 : decode jdk_33_method_22_code 0 = .ok (.iload_n 0, 1) := by decide +kernel
theorem d4_1 : decode jdk_33_method_22_code 1 = .ok (.bipush (-128), 2) := by decide +kernel
theorem d4_3 : decode jdk_33_method_22_code 3 = .ok (.if_icmp .lt 20, 3) := by decide +kernel
theorem d4_23 : decode jdk_33_method_22_code 23 = .ok (.new 1, 3) := by decide +kernel
theorem d4_26 : decode jdk_33_method_22_code 26 = .ok (.dup, 1) := by decide +kernel
theorem d4_27 : decode jdk_33_method_22_code 27 = .ok (.iload_n 0, 1) := by decide +kernel
theorem pd__I_V : parseMethodDescriptor "(I)V" = some ⟨[.int], none⟩ := by decide +kernel
theorem d4_28 : decode jdk_33_method_22_code 28 = .ok (.invokespecial 199, 3) := by decide +kernel
theorem d4_31 : decode jdk_33_method_22_code 31 = .ok (.areturn, 1) := by decide +kernel
theorem d4_6 : decode jdk_33_method_22_code 6 = .ok (.iload_n 0, 1) := by decide +kernel
theorem d4_7 : decode jdk_33_method_22_code 7 = .ok (.getstatic 191, 3) := by decide +kernel
theorem d4_10 : decode jdk_33_method_22_code 10 = .ok (.if_icmp .gt 13, 3) := by decide +kernel
theorem d4_13 : decode jdk_33_method_22_code 13 = .ok (.getstatic 195, 3) := by decide +kernel
theorem d4_16 : decode jdk_33_method_22_code 16 = .ok (.iload_n 0, 1) := by decide +kernel
theorem d4_17 : decode jdk_33_method_22_code 17 = .ok (.sipush 128, 3) := by decide +kernel
theorem d4_20 : decode jdk_33_method_22_code 20 = .ok (.iadd, 1) := by decide +kernel
theorem d4_21 : decode jdk_33_method_22_code 21 = .ok (.aaload, 1) := by decide +kernel
theorem d4_22 : decode jdk_33_method_22_code 22 = .ok (.areturn, 1) := by decide +kernel
theorem ef_rm4 (m : MethodId) (iv : Int32) : entryFrame m #[(.int iv)] 1 = mkF m 0 #[.val (.int iv)] [] := by first | (simp [entryFrame, mkF, argsToLocals, Value.category]; done) | rfl
def Q4 (Z : State) (iv : Int32) (ca : Addr) (cb : Cell) (h0 : Heap) (n0 : Nat) (v : Option Value) (h : Heap) (L : List Loc) : Prop := ∃ (rr : Addr), v = some (.ref rr) ∧ Fr n0 L ∧ Keep h0 h [] ∧ Exa Z h rr "java/lang/Integer"
set_option maxRecDepth 65536 in
set_option maxHeartbeats 40000000 in
theorem rm4 (l : Launch) (Z : State) (a0 : Array Value) (hw : ∀ d ∈ tables_1, d.before a0 Z = true) (ws : List Jvm.Cond) (iv : Int32) (ca : Addr) (cb : Cell) (h0 : Heap) (n0 : Nat) (O0 : Old Z n0 h0) (S_hi : Sta Z Z.heap "java/lang/Integer$IntegerCache" "high" "I" (.int (127 : Int32))) (S_ca : Sta Z Z.heap "java/lang/Integer$IntegerCache" "cache" "[Ljava/lang/Integer;" (.ref ca)) (Bx : Bxw Z ca cb "java/lang/Integer") :
    MetFree l (⟨"java/lang/Integer", "valueOf", "(I)Ljava/lang/Integer;"⟩ : MethodName) (head1 (Jvm.Cond.code (⟨"java/lang/Integer", "valueOf", "(I)Ljava/lang/Integer;"⟩ : MethodName) jdk_33_method_22_code 1 (some (.object "java/lang/Integer")) :: ws) ({ frames := 3, cells := 1, slots := 1, locals := 38 } : Room)) (fun ay U => ay = #[(.int iv)] ∧ Z.Warmed39 U.vm ∧ U.heap = h0) (fun _ _ _ _ _ => True) (fun _ U o U' => ∃ v L, o = .returned v ∧ Q4 Z iv ca cb h0 n0 v U'.heap L ∧ FrameEnd U o U' L ({ frames := 3, cells := 1, slots := 1, locals := 38 } : Room).cells ({ frames := 3, cells := 1, slots := 1, locals := 38 } : Room).slots) := by
  refine MetFree.of_bodySF (plainFor_of_name pn_java_lang_Integer) hisR ?_
  intro p e s m args below meth c s₁ Bd hml0 hP hK
  obtain ⟨rfl, hZ, hh⟩ := hP
  have hx := Bd.exec
  have hby := Bd.bytes
  have hlk : meth.locks = false := BodyLoose.notSynchronized Bd
  have hml : c.maxLocals = 1 := hml0
  have hown : s.vm.findClass "java/lang/Integer" = some m.cls := findClass_of_methodNamed Bd.named
  have hnm := (name_of_methodNamed Bd.named Bd.method).1
  have X0 : Stand p l e ({ frames := 3, cells := 1, slots := 1, locals := 38 } : Room) s m #[(.int iv)] below meth c s₁ [] 0 0 := Stand.of_body Bd
  have e0 : s₁.heap = h0 := by rw [← hh, Bd.state]; rfl
  have N0 := Fr.nil n0
  suffices hgo : Go p e below s 1 1 (Q4 Z iv ca cb h0 n0) (s₁.setTop (mkF m 0 #[.val (.int iv)] [])) by
    obtain ⟨t, o, h1, h2⟩ := hgo; exact ⟨t, o, castTop (ef_rm4 m iv) h1, h2⟩
  show Go p e below s _ _ _ (s₁.setTop (mkF m 0 #[.val (.int iv)] []))
  refine Go.st (fun _ k' => XS.iloadN X0.here hx rfl (hb hby d4_0) rfl k') ?_
  show Go p e below s _ _ _ (s₁.setTop (mkF m 1 #[.val (.int iv)] [(.int iv)]))
  refine Go.st (fun _ k' => XS.bipush X0.here hx rfl (hb hby d4_1) k') ?_
  show Go p e below s _ _ _ (s₁.setTop (mkF m 3 #[.val (.int iv)] [(.int (-128 : Int32)), (.int iv)]))
  by_cases hc1 : iv < (-128 : Int32)
  · refine Go.st (fun _ k' => XS.icmpYes X0.here hx rfl (pc0 := 3) (pc' := 23) rfl (hb hby d4_3) rfl (XT.ii_lt_t hc1) (by decide) (by decide) k') ?_
    show Go p e below s _ _ _ (s₁.setTop (mkF m 23 #[.val (.int iv)] []))
    obtain ⟨T2, h2, X2, e2, E2, A2, D2, -, st2⟩ := newO X0 hx hZ hown (wdx hw 30 rfl) (wdx hw 31 rfl) (wdx hw 22 rfl) e0 (g := (mkF m 23 #[.val (.int iv)] [])) rfl (hb hby d4_23) (by decide) (by decide)
    obtain ⟨b2, g2⟩ : ∃ z, z = h0.size := ⟨_, rfl⟩
    rw [← g2] at A2 D2 st2
    refine Go.st st2 ?_
    have g_b2 : n0 ≤ b2 := Nat.le_trans (own_le O0) (Nat.le_of_eq g2.symm)
    have z_b2 : h0.size ≤ b2 := Nat.le_of_eq g2.symm
    have O2 : Old Z n0 h2 := O0.ext E2
    have K2 : Keep h0 h2 [] := (Keep.refl h0 []).ext E2
    have f3 : Fld Z h2 b2 "java/lang/Integer" "value" "I" (.int (0 : Int32)) := D2 (Or.inr (wdx hw 44 rfl)) (ty := .int) (by decide)
    show Go p e below s _ _ _ (T2.setTop (mkF m 26 #[.val (.int iv)] [(.ref b2)]))
    refine Go.st (fun _ k' => XS.dup X2.here hx rfl (hb hby d4_26) rfl rfl k') ?_
    show Go p e below s _ _ _ (T2.setTop (mkF m 27 #[.val (.int iv)] [(.ref b2), (.ref b2)]))
    refine Go.st (fun _ k' => XS.iloadN X2.here hx rfl (hb hby d4_27) rfl k') ?_
    show Go p e below s _ _ _ (T2.setTop (mkF m 28 #[.val (.int iv)] [(.int iv), (.ref b2), (.ref b2)]))
    obtain ⟨_, _, ⟨T4, L4, k4, n4⟩, -, X4, ⟨Lc4, hQ4, l4, y4, z4⟩, st4⟩ := X2.specialBack hx (y := (⟨"java/lang/Integer", "<init>", "(I)V"⟩ : MethodName)) rfl hown (mvT hZ (wdx hw 32 rfl)) (mvT hZ (wdx hw 33 rfl)) (mvT hZ (wdx hw 35 rfl)) (by decide) (backOf (W := 1) (rm5 l Z a0 hw [] b2 iv h2 n0 O2 A2 f3 g_b2) hZ (wdx hw 35 rfl) (wdx hw 22 rfl) (by decide) (by decide)) (g := (mkF m 28 #[.val (.int iv)] [(.int iv), (.ref b2), (.ref b2)])) rfl (by rw [hml]; rfl) (Steps.refl _) (a := b2) (argsL := [(.int iv)]) (rest := [(.ref b2)]) (lenOf pd__I_V rfl) rfl (by show 2 * 0 + _ ≤ _; exact Nat.le_of_eq rfl) (hb hby d4_28) (fun _ _ => ⟨rfl, e2, (by exact Nat.le_of_ble_eq_true rfl), (by exact Nat.le_of_ble_eq_true rfl)⟩)
    dsimp only [Pt.U, Pt.locs, Pt.cells, Pt.slots] at X4 l4 y4 z4 st4 hQ4
    subst l4 y4 z4
    obtain ⟨rfl, Nq4, Kq4, f5⟩ := hQ4
    have N4 := Fr.app N0 Nq4
    refine Go.tr st4 ?_
    have f6 : Exa Z T4.heap b2 "java/lang/Integer" := A2.keep Kq4
    have O4 : Old Z n0 T4.heap := O2.keep Kq4 (allS g_b2 all0)
    have K4 : Keep h0 T4.heap [] := K2.trans Kq4 (allS (Or.inr z_b2) all0)
    show Go p e below s _ _ _ (T4.setTop (mkF m 31 #[.val (.int iv)] [(.ref b2)]))
    refine Go.ret X4 hx hlk (t := (.object "java/lang/Integer")) Bd.returns rfl (Or.inr (Or.inr (Or.inr (Or.inr ⟨rfl, rfl, rfl⟩)))) (hb hby d4_31) (by decide) (by decide) rfl ?_
    exact ⟨b2, rfl, N4, K4, f6⟩
  · refine Go.st (fun _ k' => XS.icmpNo X0.here hx rfl (hb hby d4_3) rfl (XT.ii_lt_f hc1) k') ?_
    show Go p e below s _ _ _ (s₁.setTop (mkF m 6 #[.val (.int iv)] []))
    refine Go.st (fun _ k' => XS.iloadN X0.here hx rfl (hb hby d4_6) rfl k') ?_
    show Go p e below s _ _ _ (s₁.setTop (mkF m 7 #[.val (.int iv)] [(.int iv)]))
    obtain ⟨T7, X7, e7, st7⟩ := getS2 X0 hx hZ hown (host := "") (Or.inl (wdx hw 24 rfl)) Via.refl e0 (S_hi.ext O0.2) (g := (mkF m 7 #[.val (.int iv)] [(.int iv)])) rfl (hb hby d4_7)
    refine Go.st st7 ?_
    show Go p e below s _ _ _ (T7.setTop (mkF m 10 #[.val (.int iv)] [(.int (127 : Int32)), (.int iv)]))
    by_cases hc8 : (127 : Int32) < iv
    · refine Go.st (fun _ k' => XS.icmpYes X7.here hx rfl (pc0 := 10) (pc' := 23) rfl (hb hby d4_10) rfl (XT.ii_gt_t hc8) (by decide) (by decide) k') ?_
      show Go p e below s _ _ _ (T7.setTop (mkF m 23 #[.val (.int iv)] []))
      obtain ⟨T9, h9, X9, e9, E9, A9, D9, -, st9⟩ := newO X7 hx hZ hown (wdx hw 30 rfl) (wdx hw 31 rfl) (wdx hw 22 rfl) e7 (g := (mkF m 23 #[.val (.int iv)] [])) rfl (hb hby d4_23) (by decide) (by decide)
      obtain ⟨b9, g9⟩ : ∃ z, z = h0.size := ⟨_, rfl⟩
      rw [← g9] at A9 D9 st9
      refine Go.st st9 ?_
      have g_b9 : n0 ≤ b9 := Nat.le_trans (own_le O0) (Nat.le_of_eq g9.symm)
      have z_b9 : h0.size ≤ b9 := Nat.le_of_eq g9.symm
      have O9 : Old Z n0 h9 := O0.ext E9
      have K9 : Keep h0 h9 [] := (Keep.refl h0 []).ext E9
      have f10 : Fld Z h9 b9 "java/lang/Integer" "value" "I" (.int (0 : Int32)) := D9 (Or.inr (wdx hw 44 rfl)) (ty := .int) (by decide)
      show Go p e below s _ _ _ (T9.setTop (mkF m 26 #[.val (.int iv)] [(.ref b9)]))
      refine Go.st (fun _ k' => XS.dup X9.here hx rfl (hb hby d4_26) rfl rfl k') ?_
      show Go p e below s _ _ _ (T9.setTop (mkF m 27 #[.val (.int iv)] [(.ref b9), (.ref b9)]))
      refine Go.st (fun _ k' => XS.iloadN X9.here hx rfl (hb hby d4_27) rfl k') ?_
      show Go p e below s _ _ _ (T9.setTop (mkF m 28 #[.val (.int iv)] [(.int iv), (.ref b9), (.ref b9)]))
      obtain ⟨_, _, ⟨T11, L11, k11, n11⟩, -, X11, ⟨Lc11, hQ11, l11, y11, z11⟩, st11⟩ := X9.specialBack hx (y := (⟨"java/lang/Integer", "<init>", "(I)V"⟩ : MethodName)) rfl hown (mvT hZ (wdx hw 32 rfl)) (mvT hZ (wdx hw 33 rfl)) (mvT hZ (wdx hw 35 rfl)) (by decide) (backOf (W := 1) (rm5 l Z a0 hw [] b9 iv h9 n0 O9 A9 f10 g_b9) hZ (wdx hw 35 rfl) (wdx hw 22 rfl) (by decide) (by decide)) (g := (mkF m 28 #[.val (.int iv)] [(.int iv), (.ref b9), (.ref b9)])) rfl (by rw [hml]; rfl) (Steps.refl _) (a := b9) (argsL := [(.int iv)]) (rest := [(.ref b9)]) (lenOf pd__I_V rfl) rfl (by show 2 * 0 + _ ≤ _; exact Nat.le_of_eq rfl) (hb hby d4_28) (fun _ _ => ⟨rfl, e9, (by exact Nat.le_of_ble_eq_true rfl), (by exact Nat.le_of_ble_eq_true rfl)⟩)
      dsimp only [Pt.U, Pt.locs, Pt.cells, Pt.slots] at X11 l11 y11 z11 st11 hQ11
      subst l11 y11 z11
      obtain ⟨rfl, Nq11, Kq11, f12⟩ := hQ11
      have N11 := Fr.app N0 Nq11
      refine Go.tr st11 ?_
      have f13 : Exa Z T11.heap b9 "java/lang/Integer" := A9.keep Kq11
      have O11 : Old Z n0 T11.heap := O9.keep Kq11 (allS g_b9 all0)
      have K11 : Keep h0 T11.heap [] := K9.trans Kq11 (allS (Or.inr z_b9) all0)
      show Go p e below s _ _ _ (T11.setTop (mkF m 31 #[.val (.int iv)] [(.ref b9)]))
      refine Go.ret X11 hx hlk (t := (.object "java/lang/Integer")) Bd.returns rfl (Or.inr (Or.inr (Or.inr (Or.inr ⟨rfl, rfl, rfl⟩)))) (hb hby d4_31) (by decide) (by decide) rfl ?_
      exact ⟨b9, rfl, N11, K11, f13⟩
    · refine Go.st (fun _ k' => XS.icmpNo X7.here hx rfl (hb hby d4_10) rfl (XT.ii_gt_f hc8) k') ?_
      show Go p e below s _ _ _ (T7.setTop (mkF m 13 #[.val (.int iv)] []))
      obtain ⟨T14, X14, e14, st14⟩ := getS2 X7 hx hZ hown (host := "") (Or.inl (wdx hw 26 rfl)) Via.refl e7 (S_ca.ext O0.2) (g := (mkF m 13 #[.val (.int iv)] [])) rfl (hb hby d4_13)
      refine Go.st st14 ?_
      show Go p e below s _ _ _ (T14.setTop (mkF m 16 #[.val (.int iv)] [(.ref ca)]))
      refine Go.st (fun _ k' => XS.iloadN X14.here hx rfl (hb hby d4_16) rfl k') ?_
      show Go p e below s _ _ _ (T14.setTop (mkF m 17 #[.val (.int iv)] [(.int iv), (.ref ca)]))
      refine Go.st (fun _ k' => XS.sipush X14.here hx rfl (hb hby d4_17) k') ?_
      show Go p e below s _ _ _ (T14.setTop (mkF m 20 #[.val (.int iv)] [(.int (128 : Int32)), (.int iv), (.ref ca)]))
      refine Go.st (fun _ k' => XS.iadd X14.here hx rfl (hb hby d4_20) rfl k') ?_
      show Go p e below s _ _ _ (T14.setTop (mkF m 21 #[.val (.int iv)] [(.int (iv + (128 : Int32))), (.ref ca)]))
      have hin15 := own_ix iv hc1 hc8 Bx.2.1
      obtain ⟨bx, hb15, hx15⟩ := Bx.2.2 (iv + (128 : Int32)) hin15
      refine Go.st (fun _ k' => X14.aaload hx (j := (iv + (128 : Int32))) (v := (.ref bx)) (by rw [e14]; exact (Bx.1.ext O0.2).1) (State.isArrayOf_alike hZ.alike Bx.1.2.1) rfl Bx.1.2.2 hin15 hb15 (g := (mkF m 21 #[.val (.int iv)] [(.int (iv + (128 : Int32))), (.ref ca)])) rfl rfl (hb hby d4_21) _ k') ?_
      have E_bx := hx15.ext O0.2
      show Go p e below s _ _ _ (T14.setTop (mkF m 22 #[.val (.int iv)] [(.ref bx)]))
      refine Go.ret X14 hx hlk (t := (.object "java/lang/Integer")) Bd.returns rfl (Or.inr (Or.inr (Or.inr (Or.inr ⟨rfl, rfl, rfl⟩)))) (hb hby d4_22) (by decide) (by decide) e14 ?_
      exact ⟨bx, rfl, N0, (Keep.refl _ _), E_bx⟩
theorem d8_0 : decode jdk_35_method_26_code 0 = .ok (.aload_n 0, 1) := by decide +kernel
theorem d8_1 : decode jdk_35_method_26_code 1 = .ok (.invokespecial 270, 3) := by decide +kernel
theorem d8_4 : decode jdk_35_method_26_code 4 = .ok (.aload_n 0, 1) := by decide +kernel
theorem d8_5 : decode jdk_35_method_26_code 5 = .ok (.lload_n 1, 1) := by decide +kernel
theorem d8_6 : decode jdk_35_method_26_code 6 = .ok (.putfield 273, 3) := by decide +kernel
theorem d8_9 : decode jdk_35_method_26_code 9 = .ok (.return_, 1) := by decide +kernel
theorem pn_java_lang_Long : plainName "java/lang/Long" = true := by first | (simp [plainName, overriddenIn]; done) | decide +kernel
theorem ef_rm8 (m : MethodId) (ob : Addr) (iv : Int64) : entryFrame m #[(.ref ob), (.long iv)] 3 = mkF m 0 #[.val (.ref ob), .val (.long iv), .second] [] := by first | (simp [entryFrame, mkF, argsToLocals, Value.category]; done) | rfl
def Q8 (Z : State) (ob : Addr) (iv : Int64) (h0 : Heap) (n0 : Nat) (v : Option Value) (h : Heap) (L : List Loc) : Prop := v = none ∧ Fr n0 L ∧ Keep h0 h [ob] ∧ Fld Z h ob "java/lang/Long" "value" "J" (.long iv)
set_option maxRecDepth 65536 in
set_option maxHeartbeats 40000000 in
theorem rm8 (l : Launch) (Z : State) (a0 : Array Value) (hw : ∀ d ∈ tables_1, d.before a0 Z = true) (ws : List Jvm.Cond) (ob : Addr) (iv : Int64) (h0 : Heap) (n0 : Nat) (O0 : Old Z n0 h0) (E_o : Exa Z h0 ob "java/lang/Long") (Fv : Fld Z h0 ob "java/lang/Long" "value" "J" (.long (0 : Int64))) (g_o : n0 ≤ ob) :
    MetFree l (⟨"java/lang/Long", "<init>", "(J)V"⟩ : MethodName) (head1 (Jvm.Cond.code (⟨"java/lang/Long", "<init>", "(J)V"⟩ : MethodName) jdk_35_method_26_code 3 none :: ws) ({ frames := 2, cells := 0, slots := 0, locals := 24 } : Room)) (fun ay U => ay = #[(.ref ob), (.long iv)] ∧ Z.Warmed39 U.vm ∧ U.heap = h0) (fun _ _ _ _ _ => True) (fun _ U o U' => ∃ v L, o = .returned v ∧ Q8 Z ob iv h0 n0 v U'.heap L ∧ FrameEnd U o U' L ({ frames := 2, cells := 0, slots := 0, locals := 24 } : Room).cells ({ frames := 2, cells := 0, slots := 0, locals := 24 } : Room).slots) := by
  refine MetFree.of_bodySF (plainFor_of_name pn_java_lang_Long) hisR ?_
  intro p e s m args below meth c s₁ Bd hml0 hP hK
  obtain ⟨rfl, hZ, hh⟩ := hP
  have hx := Bd.exec
  have hby := Bd.bytes
  have hlk : meth.locks = false := BodyLoose.notSynchronized Bd
  have hml : c.maxLocals = 3 := hml0
  have hown : s.vm.findClass "java/lang/Long" = some m.cls := findClass_of_methodNamed Bd.named
  have hnm := (name_of_methodNamed Bd.named Bd.method).1
  have X0 : Stand p l e ({ frames := 2, cells := 0, slots := 0, locals := 24 } : Room) s m #[(.ref ob), (.long iv)] below meth c s₁ [] 0 0 := Stand.of_body Bd
  have e0 : s₁.heap = h0 := by rw [← hh, Bd.state]; rfl
  have N0 := Fr.nil n0
  suffices hgo : Go p e below s 0 0 (Q8 Z ob iv h0 n0) (s₁.setTop (mkF m 0 #[.val (.ref ob), .val (.long iv), .second] [])) by
    obtain ⟨t, o, h1, h2⟩ := hgo; exact ⟨t, o, castTop (ef_rm8 m ob iv) h1, h2⟩
  show Go p e below s _ _ _ (s₁.setTop (mkF m 0 #[.val (.ref ob), .val (.long iv), .second] []))
  refine Go.st (fun _ k' => XS.aloadN X0.here hx rfl (hb hby d8_0) rfl rfl k') ?_
  show Go p e below s _ _ _ (s₁.setTop (mkF m 1 #[.val (.ref ob), .val (.long iv), .second] [(.ref ob)]))
  obtain ⟨_, _, ⟨T1, L1, k1, n1⟩, -, X1, ⟨Lc1, hQ1, l1, y1, z1⟩, st1⟩ := X0.specialBack hx (y := (⟨"java/lang/Number", "<init>", "()V"⟩ : MethodName)) rfl hown (mvT hZ (wdx hw 57 rfl)) (mvT hZ (wdx hw 37 rfl)) (mvT hZ (wdx hw 41 rfl)) (by decide) (backOf (W := 0) (rm6 l Z a0 hw [] ob h0 n0 O0 ) hZ (wdx hw 41 rfl) (wdx hw 40 rfl) (by decide) (by decide)) (g := (mkF m 1 #[.val (.ref ob), .val (.long iv), .second] [(.ref ob)])) rfl (by rw [hml]; rfl) (Steps.refl _) (a := ob) (argsL := []) (rest := []) (lenOf pd___V rfl) rfl (by show 2 * 0 + _ ≤ _; exact Nat.le_of_eq rfl) (hb hby d8_1) (fun _ _ => ⟨rfl, e0, (by exact Nat.le_of_ble_eq_true rfl), (by exact Nat.le_of_ble_eq_true rfl)⟩)
  dsimp only [Pt.U, Pt.locs, Pt.cells, Pt.slots] at X1 l1 y1 z1 st1 hQ1
  subst l1 y1 z1
  obtain ⟨rfl, Nq1, eq1⟩ := hQ1
  have N1 := Fr.app N0 Nq1
  refine Go.tr st1 ?_
  show Go p e below s _ _ _ (T1.setTop (mkF m 4 #[.val (.ref ob), .val (.long iv), .second] []))
  refine Go.st (fun _ k' => XS.aloadN X1.here hx rfl (hb hby d8_4) rfl rfl k') ?_
  show Go p e below s _ _ _ (T1.setTop (mkF m 5 #[.val (.ref ob), .val (.long iv), .second] [(.ref ob)]))
  refine Go.st (fun _ k' => XS.lloadN X1.here hx rfl (hb hby d8_5) rfl k') ?_
  show Go p e below s _ _ _ (T1.setTop (mkF m 6 #[.val (.ref ob), .val (.long iv), .second] [(.long iv), (.ref ob)]))
  obtain ⟨T2, h2, X2, e2, W2, st2⟩ := putF X1 hx hZ hown (host := "") (Or.inl (wdx hw 59 rfl)) Via.refl eq1 Fv E_o (Or.inr ⟨(wdx hw 60 rfl), rfl, hnm⟩) (wdx hw 52 rfl) (ty := .long) (by decide) rfl rfl (g := (mkF m 6 #[.val (.ref ob), .val (.long iv), .second] [(.long iv), (.ref ob)])) rfl rfl (hb hby d8_6)
  refine Go.st st2 ?_
  have f3 : Exa Z h2 ob "java/lang/Long" := E_o.wr W2
  have f4 : Fld Z h2 ob "java/lang/Long" "value" "J" (.long iv) := Fv.same W2
  have O2 : Old Z n0 h2 := O0.wr W2 g_o
  have N2 := Fr.snoc X2 N1 g_o
  have K2 : Keep h0 h2 [ob] := (Keep.refl h0 [ob]).wr W2 (Or.inl (by simp))
  show Go p e below s _ _ _ (T2.setTop (mkF m 9 #[.val (.ref ob), .val (.long iv), .second] []))
  refine Go.retV X2 hx hlk Bd.returns (hb hby d8_9) (by decide) (by decide) e2 ?_
  exact ⟨rfl, N2, K2, f4⟩
theorem d7_0 : decode jdk_35_method_24_code 0 = .ok (.sipush 128, 3) := by decide +kernel
theorem d7_3 : decode jdk_35_method_24_code 3 = .ok (.istore_n 2, 1) := by decide +kernel
theorem d7_4 : decode jdk_35_method_24_code 4 = .ok (.lload_n 0, 1) := by decide +kernel
theorem d7_5 : decode jdk_35_method_24_code 5 = .ok (.ldc2_w 230, 3) := by decide +kernel
theorem d7_8 : decode jdk_35_method_24_code 8 = .ok (.lcmp, 1) := by decide +kernel
theorem d7_9 : decode jdk_35_method_24_code 9 = .ok (.ifCond .lt 22, 3) := by decide +kernel
theorem d7_31 : decode jdk_35_method_24_code 31 = .ok (.new 1, 3) := by decide +kernel
theorem d7_34 : decode jdk_35_method_24_code 34 = .ok (.dup, 1) := by decide +kernel
theorem d7_35 : decode jdk_35_method_24_code 35 = .ok (.lload_n 0, 1) := by decide +kernel
theorem pd__J_V : parseMethodDescriptor "(J)V" = some ⟨[.long], none⟩ := by decide +kernel
theorem d7_36 : decode jdk_35_method_24_code 36 = .ok (.invokespecial 240, 3) := by decide +kernel
theorem d7_39 : decode jdk_35_method_24_code 39 = .ok (.areturn, 1) := by decide +kernel
theorem d7_12 : decode jdk_35_method_24_code 12 = .ok (.lload_n 0, 1) := by decide +kernel
theorem d7_13 : decode jdk_35_method_24_code 13 = .ok (.ldc2_w 232, 3) := by decide +kernel
theorem d7_16 : decode jdk_35_method_24_code 16 = .ok (.lcmp, 1) := by decide +kernel
theorem d7_17 : decode jdk_35_method_24_code 17 = .ok (.ifCond .gt 14, 3) := by decide +kernel
theorem d7_20 : decode jdk_35_method_24_code 20 = .ok (.getstatic 234, 3) := by decide +kernel
theorem d7_23 : decode jdk_35_method_24_code 23 = .ok (.lload_n 0, 1) := by decide +kernel
theorem d7_24 : decode jdk_35_method_24_code 24 = .ok (.l2i, 1) := by decide +kernel
theorem d7_25 : decode jdk_35_method_24_code 25 = .ok (.sipush 128, 3) := by decide +kernel
theorem d7_28 : decode jdk_35_method_24_code 28 = .ok (.iadd, 1) := by decide +kernel
theorem d7_29 : decode jdk_35_method_24_code 29 = .ok (.aaload, 1) := by decide +kernel
theorem d7_30 : decode jdk_35_method_24_code 30 = .ok (.areturn, 1) := by decide +kernel
theorem ef_rm7 (m : MethodId) (iv : Int64) : entryFrame m #[(.long iv)] 3 = mkF m 0 #[.val (.long iv), .second, .unset] [] := by first | (simp [entryFrame, mkF, argsToLocals, Value.category]; done) | rfl
def Q7 (Z : State) (iv : Int64) (cc : Addr) (cd : Cell) (h0 : Heap) (n0 : Nat) (v : Option Value) (h : Heap) (L : List Loc) : Prop := ∃ (rr : Addr), v = some (.ref rr) ∧ Fr n0 L ∧ Keep h0 h [] ∧ Exa Z h rr "java/lang/Long"
set_option maxRecDepth 65536 in
set_option maxHeartbeats 40000000 in
theorem rm7 (l : Launch) (Z : State) (a0 : Array Value) (hw : ∀ d ∈ tables_1, d.before a0 Z = true) (ws : List Jvm.Cond) (iv : Int64) (cc : Addr) (cd : Cell) (h0 : Heap) (n0 : Nat) (O0 : Old Z n0 h0) (S_cl : Sta Z Z.heap "java/lang/Long$LongCache" "cache" "[Ljava/lang/Long;" (.ref cc)) (Bx : Bxw Z cc cd "java/lang/Long") :
    MetFree l (⟨"java/lang/Long", "valueOf", "(J)Ljava/lang/Long;"⟩ : MethodName) (head1 (Jvm.Cond.code (⟨"java/lang/Long", "valueOf", "(J)Ljava/lang/Long;"⟩ : MethodName) jdk_35_method_24_code 3 (some (.object "java/lang/Long")) :: ws) ({ frames := 3, cells := 1, slots := 1, locals := 39 } : Room)) (fun ay U => ay = #[(.long iv)] ∧ Z.Warmed39 U.vm ∧ U.heap = h0) (fun _ _ _ _ _ => True) (fun _ U o U' => ∃ v L, o = .returned v ∧ Q7 Z iv cc cd h0 n0 v U'.heap L ∧ FrameEnd U o U' L ({ frames := 3, cells := 1, slots := 1, locals := 39 } : Room).cells ({ frames := 3, cells := 1, slots := 1, locals := 39 } : Room).slots) := by
  refine MetFree.of_bodySF (plainFor_of_name pn_java_lang_Long) hisR ?_
  intro p e s m args below meth c s₁ Bd hml0 hP hK
  obtain ⟨rfl, hZ, hh⟩ := hP
  have hx := Bd.exec
  have hby := Bd.bytes
  have hlk : meth.locks = false := BodyLoose.notSynchronized Bd
  have hml : c.maxLocals = 3 := hml0
  have hown : s.vm.findClass "java/lang/Long" = some m.cls := findClass_of_methodNamed Bd.named
  have hnm := (name_of_methodNamed Bd.named Bd.method).1
  have X0 : Stand p l e ({ frames := 3, cells := 1, slots := 1, locals := 39 } : Room) s m #[(.long iv)] below meth c s₁ [] 0 0 := Stand.of_body Bd
  have e0 : s₁.heap = h0 := by rw [← hh, Bd.state]; rfl
  have N0 := Fr.nil n0
  suffices hgo : Go p e below s 1 1 (Q7 Z iv cc cd h0 n0) (s₁.setTop (mkF m 0 #[.val (.long iv), .second, .unset] [])) by
    obtain ⟨t, o, h1, h2⟩ := hgo; exact ⟨t, o, castTop (ef_rm7 m iv) h1, h2⟩
  show Go p e below s _ _ _ (s₁.setTop (mkF m 0 #[.val (.long iv), .second, .unset] []))
  refine Go.st (fun _ k' => XS.sipush X0.here hx rfl (hb hby d7_0) k') ?_
  show Go p e below s _ _ _ (s₁.setTop (mkF m 3 #[.val (.long iv), .second, .unset] [(.int (128 : Int32))]))
  refine Go.st (fun _ k' => XS.istoreN X0.here hx rfl (hb hby d7_3) rfl (l' := #[.val (.long iv), .second, .val (.int (128 : Int32))]) rfl k') ?_
  show Go p e below s _ _ _ (s₁.setTop (mkF m 4 #[.val (.long iv), .second, .val (.int (128 : Int32))] []))
  refine Go.st (fun _ k' => XS.lloadN X0.here hx rfl (hb hby d7_4) rfl k') ?_
  show Go p e below s _ _ _ (s₁.setTop (mkF m 5 #[.val (.long iv), .second, .val (.int (128 : Int32))] [(.long iv)]))
  refine Go.st (fun _ k' => X0.ldc2J hx hown (mvT hZ (wdx hw 49 rfl)) rfl (hb hby d7_5) k') ?_
  show Go p e below s _ _ _ (s₁.setTop (mkF m 8 #[.val (.long iv), .second, .val (.int (128 : Int32))] [(.long (-128 : Int64)), (.long iv)]))
  refine Go.st (fun _ k' => XT.lcmp X0.here hx rfl (hb hby d7_8) rfl k') ?_
  show Go p e below s _ _ _ (s₁.setTop (mkF m 9 #[.val (.long iv), .second, .val (.int (128 : Int32))] [(.int (XT.cmpL iv (-128 : Int64)))]))
  by_cases hc1 : iv < (-128 : Int64)
  · refine Go.st (fun _ k' => XS.ifYes X0.here hx rfl (pc0 := 9) (pc' := 31) rfl (hb hby d7_9) rfl (XT.ll_lt_t hc1) (by decide) (by decide) k') ?_
    show Go p e below s _ _ _ (s₁.setTop (mkF m 31 #[.val (.long iv), .second, .val (.int (128 : Int32))] []))
    obtain ⟨T2, h2, X2, e2, E2, A2, D2, -, st2⟩ := newO X0 hx hZ hown (wdx hw 51 rfl) (wdx hw 52 rfl) (wdx hw 47 rfl) e0 (g := (mkF m 31 #[.val (.long iv), .second, .val (.int (128 : Int32))] [])) rfl (hb hby d7_31) (by decide) (by decide)
    obtain ⟨b2, g2⟩ : ∃ z, z = h0.size := ⟨_, rfl⟩
    rw [← g2] at A2 D2 st2
    refine Go.st st2 ?_
    have g_b2 : n0 ≤ b2 := Nat.le_trans (own_le O0) (Nat.le_of_eq g2.symm)
    have z_b2 : h0.size ≤ b2 := Nat.le_of_eq g2.symm
    have O2 : Old Z n0 h2 := O0.ext E2
    have K2 : Keep h0 h2 [] := (Keep.refl h0 []).ext E2
    have f3 : Fld Z h2 b2 "java/lang/Long" "value" "J" (.long (0 : Int64)) := D2 (Or.inr (wdx hw 60 rfl)) (ty := .long) (by decide)
    show Go p e below s _ _ _ (T2.setTop (mkF m 34 #[.val (.long iv), .second, .val (.int (128 : Int32))] [(.ref b2)]))
    refine Go.st (fun _ k' => XS.dup X2.here hx rfl (hb hby d7_34) rfl rfl k') ?_
    show Go p e below s _ _ _ (T2.setTop (mkF m 35 #[.val (.long iv), .second, .val (.int (128 : Int32))] [(.ref b2), (.ref b2)]))
    refine Go.st (fun _ k' => XS.lloadN X2.here hx rfl (hb hby d7_35) rfl k') ?_
    show Go p e below s _ _ _ (T2.setTop (mkF m 36 #[.val (.long iv), .second, .val (.int (128 : Int32))] [(.long iv), (.ref b2), (.ref b2)]))
    obtain ⟨_, _, ⟨T4, L4, k4, n4⟩, -, X4, ⟨Lc4, hQ4, l4, y4, z4⟩, st4⟩ := X2.specialBack hx (y := (⟨"java/lang/Long", "<init>", "(J)V"⟩ : MethodName)) rfl hown (mvT hZ (wdx hw 53 rfl)) (mvT hZ (wdx hw 54 rfl)) (mvT hZ (wdx hw 56 rfl)) (by decide) (backOf (W := 1) (rm8 l Z a0 hw [] b2 iv h2 n0 O2 A2 f3 g_b2) hZ (wdx hw 56 rfl) (wdx hw 47 rfl) (by decide) (by decide)) (g := (mkF m 36 #[.val (.long iv), .second, .val (.int (128 : Int32))] [(.long iv), (.ref b2), (.ref b2)])) rfl (by rw [hml]; rfl) (Steps.refl _) (a := b2) (argsL := [(.long iv)]) (rest := [(.ref b2)]) (lenOf pd__J_V rfl) rfl (by show 2 * 0 + _ ≤ _; exact Nat.le_of_eq rfl) (hb hby d7_36) (fun _ _ => ⟨rfl, e2, (by exact Nat.le_of_ble_eq_true rfl), (by exact Nat.le_of_ble_eq_true rfl)⟩)
    dsimp only [Pt.U, Pt.locs, Pt.cells, Pt.slots] at X4 l4 y4 z4 st4 hQ4
    subst l4 y4 z4
    obtain ⟨rfl, Nq4, Kq4, f5⟩ := hQ4
    have N4 := Fr.app N0 Nq4
    refine Go.tr st4 ?_
    have f6 : Exa Z T4.heap b2 "java/lang/Long" := A2.keep Kq4
    have O4 : Old Z n0 T4.heap := O2.keep Kq4 (allS g_b2 all0)
    have K4 : Keep h0 T4.heap [] := K2.trans Kq4 (allS (Or.inr z_b2) all0)
    show Go p e below s _ _ _ (T4.setTop (mkF m 39 #[.val (.long iv), .second, .val (.int (128 : Int32))] [(.ref b2)]))
    refine Go.ret X4 hx hlk (t := (.object "java/lang/Long")) Bd.returns rfl (Or.inr (Or.inr (Or.inr (Or.inr ⟨rfl, rfl, rfl⟩)))) (hb hby d7_39) (by decide) (by decide) rfl ?_
    exact ⟨b2, rfl, N4, K4, f6⟩
  · refine Go.st (fun _ k' => XS.ifNo X0.here hx rfl (hb hby d7_9) rfl (XT.ll_lt_f hc1) k') ?_
    show Go p e below s _ _ _ (s₁.setTop (mkF m 12 #[.val (.long iv), .second, .val (.int (128 : Int32))] []))
    refine Go.st (fun _ k' => XS.lloadN X0.here hx rfl (hb hby d7_12) rfl k') ?_
    show Go p e below s _ _ _ (s₁.setTop (mkF m 13 #[.val (.long iv), .second, .val (.int (128 : Int32))] [(.long iv)]))
    refine Go.st (fun _ k' => X0.ldc2J hx hown (mvT hZ (wdx hw 50 rfl)) rfl (hb hby d7_13) k') ?_
    show Go p e below s _ _ _ (s₁.setTop (mkF m 16 #[.val (.long iv), .second, .val (.int (128 : Int32))] [(.long (127 : Int64)), (.long iv)]))
    refine Go.st (fun _ k' => XT.lcmp X0.here hx rfl (hb hby d7_16) rfl k') ?_
    show Go p e below s _ _ _ (s₁.setTop (mkF m 17 #[.val (.long iv), .second, .val (.int (128 : Int32))] [(.int (XT.cmpL iv (127 : Int64)))]))
    by_cases hc7 : (127 : Int64) < iv
    · refine Go.st (fun _ k' => XS.ifYes X0.here hx rfl (pc0 := 17) (pc' := 31) rfl (hb hby d7_17) rfl (XT.ll_gt_t hc7) (by decide) (by decide) k') ?_
      show Go p e below s _ _ _ (s₁.setTop (mkF m 31 #[.val (.long iv), .second, .val (.int (128 : Int32))] []))
      obtain ⟨T8, h8, X8, e8, E8, A8, D8, -, st8⟩ := newO X0 hx hZ hown (wdx hw 51 rfl) (wdx hw 52 rfl) (wdx hw 47 rfl) e0 (g := (mkF m 31 #[.val (.long iv), .second, .val (.int (128 : Int32))] [])) rfl (hb hby d7_31) (by decide) (by decide)
      obtain ⟨b8, g8⟩ : ∃ z, z = h0.size := ⟨_, rfl⟩
      rw [← g8] at A8 D8 st8
      refine Go.st st8 ?_
      have g_b8 : n0 ≤ b8 := Nat.le_trans (own_le O0) (Nat.le_of_eq g8.symm)
      have z_b8 : h0.size ≤ b8 := Nat.le_of_eq g8.symm
      have O8 : Old Z n0 h8 := O0.ext E8
      have K8 : Keep h0 h8 [] := (Keep.refl h0 []).ext E8
      have f9 : Fld Z h8 b8 "java/lang/Long" "value" "J" (.long (0 : Int64)) := D8 (Or.inr (wdx hw 60 rfl)) (ty := .long) (by decide)
      show Go p e below s _ _ _ (T8.setTop (mkF m 34 #[.val (.long iv), .second, .val (.int (128 : Int32))] [(.ref b8)]))
      refine Go.st (fun _ k' => XS.dup X8.here hx rfl (hb hby d7_34) rfl rfl k') ?_
      show Go p e below s _ _ _ (T8.setTop (mkF m 35 #[.val (.long iv), .second, .val (.int (128 : Int32))] [(.ref b8), (.ref b8)]))
      refine Go.st (fun _ k' => XS.lloadN X8.here hx rfl (hb hby d7_35) rfl k') ?_
      show Go p e below s _ _ _ (T8.setTop (mkF m 36 #[.val (.long iv), .second, .val (.int (128 : Int32))] [(.long iv), (.ref b8), (.ref b8)]))
      obtain ⟨_, _, ⟨T10, L10, k10, n10⟩, -, X10, ⟨Lc10, hQ10, l10, y10, z10⟩, st10⟩ := X8.specialBack hx (y := (⟨"java/lang/Long", "<init>", "(J)V"⟩ : MethodName)) rfl hown (mvT hZ (wdx hw 53 rfl)) (mvT hZ (wdx hw 54 rfl)) (mvT hZ (wdx hw 56 rfl)) (by decide) (backOf (W := 1) (rm8 l Z a0 hw [] b8 iv h8 n0 O8 A8 f9 g_b8) hZ (wdx hw 56 rfl) (wdx hw 47 rfl) (by decide) (by decide)) (g := (mkF m 36 #[.val (.long iv), .second, .val (.int (128 : Int32))] [(.long iv), (.ref b8), (.ref b8)])) rfl (by rw [hml]; rfl) (Steps.refl _) (a := b8) (argsL := [(.long iv)]) (rest := [(.ref b8)]) (lenOf pd__J_V rfl) rfl (by show 2 * 0 + _ ≤ _; exact Nat.le_of_eq rfl) (hb hby d7_36) (fun _ _ => ⟨rfl, e8, (by exact Nat.le_of_ble_eq_true rfl), (by exact Nat.le_of_ble_eq_true rfl)⟩)
      dsimp only [Pt.U, Pt.locs, Pt.cells, Pt.slots] at X10 l10 y10 z10 st10 hQ10
      subst l10 y10 z10
      obtain ⟨rfl, Nq10, Kq10, f11⟩ := hQ10
      have N10 := Fr.app N0 Nq10
      refine Go.tr st10 ?_
      have f12 : Exa Z T10.heap b8 "java/lang/Long" := A8.keep Kq10
      have O10 : Old Z n0 T10.heap := O8.keep Kq10 (allS g_b8 all0)
      have K10 : Keep h0 T10.heap [] := K8.trans Kq10 (allS (Or.inr z_b8) all0)
      show Go p e below s _ _ _ (T10.setTop (mkF m 39 #[.val (.long iv), .second, .val (.int (128 : Int32))] [(.ref b8)]))
      refine Go.ret X10 hx hlk (t := (.object "java/lang/Long")) Bd.returns rfl (Or.inr (Or.inr (Or.inr (Or.inr ⟨rfl, rfl, rfl⟩)))) (hb hby d7_39) (by decide) (by decide) rfl ?_
      exact ⟨b8, rfl, N10, K10, f12⟩
    · refine Go.st (fun _ k' => XS.ifNo X0.here hx rfl (hb hby d7_17) rfl (XT.ll_gt_f hc7) k') ?_
      show Go p e below s _ _ _ (s₁.setTop (mkF m 20 #[.val (.long iv), .second, .val (.int (128 : Int32))] []))
      obtain ⟨T13, X13, e13, st13⟩ := getS2 X0 hx hZ hown (host := "") (Or.inl (wdx hw 62 rfl)) Via.refl e0 (S_cl.ext O0.2) (g := (mkF m 20 #[.val (.long iv), .second, .val (.int (128 : Int32))] [])) rfl (hb hby d7_20)
      refine Go.st st13 ?_
      show Go p e below s _ _ _ (T13.setTop (mkF m 23 #[.val (.long iv), .second, .val (.int (128 : Int32))] [(.ref cc)]))
      refine Go.st (fun _ k' => XS.lloadN X13.here hx rfl (hb hby d7_23) rfl k') ?_
      show Go p e below s _ _ _ (T13.setTop (mkF m 24 #[.val (.long iv), .second, .val (.int (128 : Int32))] [(.long iv), (.ref cc)]))
      refine Go.st (fun _ k' => XS.l2i X13.here hx rfl (hb hby d7_24) rfl k') ?_
      show Go p e below s _ _ _ (T13.setTop (mkF m 25 #[.val (.long iv), .second, .val (.int (128 : Int32))] [(.int (iv.toInt32)), (.ref cc)]))
      refine Go.st (fun _ k' => XS.sipush X13.here hx rfl (hb hby d7_25) k') ?_
      show Go p e below s _ _ _ (T13.setTop (mkF m 28 #[.val (.long iv), .second, .val (.int (128 : Int32))] [(.int (128 : Int32)), (.int (iv.toInt32)), (.ref cc)]))
      refine Go.st (fun _ k' => XS.iadd X13.here hx rfl (hb hby d7_28) rfl k') ?_
      show Go p e below s _ _ _ (T13.setTop (mkF m 29 #[.val (.long iv), .second, .val (.int (128 : Int32))] [(.int ((iv.toInt32) + (128 : Int32))), (.ref cc)]))
      have hin14 := own_ixl iv hc1 hc7 Bx.2.1
      obtain ⟨bx, hb14, hx14⟩ := Bx.2.2 ((iv.toInt32) + (128 : Int32)) hin14
      refine Go.st (fun _ k' => X13.aaload hx (j := ((iv.toInt32) + (128 : Int32))) (v := (.ref bx)) (by rw [e13]; exact (Bx.1.ext O0.2).1) (State.isArrayOf_alike hZ.alike Bx.1.2.1) rfl Bx.1.2.2 hin14 hb14 (g := (mkF m 29 #[.val (.long iv), .second, .val (.int (128 : Int32))] [(.int ((iv.toInt32) + (128 : Int32))), (.ref cc)])) rfl rfl (hb hby d7_29) _ k') ?_
      have E_bx := hx14.ext O0.2
      show Go p e below s _ _ _ (T13.setTop (mkF m 30 #[.val (.long iv), .second, .val (.int (128 : Int32))] [(.ref bx)]))
      refine Go.ret X13 hx hlk (t := (.object "java/lang/Long")) Bd.returns rfl (Or.inr (Or.inr (Or.inr (Or.inr ⟨rfl, rfl, rfl⟩)))) (hb hby d7_30) (by decide) (by decide) e13 ?_
      exact ⟨bx, rfl, N0, (Keep.refl _ _), E_bx⟩
theorem d3_0 : decode prog_77_method_5_code 0 = .ok (.aload_n 1, 1) := by decide +kernel
theorem d3_1 : decode prog_77_method_5_code 1 = .ok (.instanceof 8, 3) := by decide +kernel
theorem d3_4 : decode prog_77_method_5_code 4 = .ok (.ifCond .eq 35, 3) := by decide +kernel
theorem d3_39 : decode prog_77_method_5_code 39 = .ok (.iconst 0, 1) := by decide +kernel
theorem d3_40 : decode prog_77_method_5_code 40 = .ok (.ireturn, 1) := by decide +kernel
theorem ef_rm3_n (m : MethodId) (ob : Addr) : entryFrame m #[(.ref ob), .null] 3 = mkF m 0 #[.val (.ref ob), .val .null, .unset] [] := by first | (simp [entryFrame, mkF, argsToLocals, Value.category]; done) | rfl
def Q3_n (Z : State) (ob : Addr) (h0 : Heap) (n0 : Nat) (v : Option Value) (h : Heap) (L : List Loc) : Prop := v = some (.int (0 : Int32)) ∧ Fr n0 L ∧ h = h0
set_option maxRecDepth 65536 in
set_option maxHeartbeats 40000000 in
theorem rm3_n (l : Launch) (Z : State) (a0 : Array Value) (hw : ∀ d ∈ tables_1, d.before a0 Z = true) (ws : List Jvm.Cond) (ob : Addr) (h0 : Heap) (n0 : Nat) (O0 : Old Z n0 h0) :
    MetFree l (⟨"com/example/exact_quorum/exactquorum/server/Election$Vote", "equals", "(Ljava/lang/Object;)Z"⟩ : MethodName) (head1 (Jvm.Cond.code (⟨"com/example/exact_quorum/exactquorum/server/Election$Vote", "equals", "(Ljava/lang/Object;)Z"⟩ : MethodName) prog_77_method_5_code 3 (some .boolean) :: ws) ({ frames := 0, cells := 0, slots := 0, locals := 0 } : Room)) (fun ay U => ay = #[(.ref ob), .null] ∧ Z.Warmed39 U.vm ∧ U.heap = h0) (fun _ _ _ _ _ => True) (fun _ U o U' => ∃ v L, o = .returned v ∧ Q3_n Z ob h0 n0 v U'.heap L ∧ FrameEnd U o U' L ({ frames := 0, cells := 0, slots := 0, locals := 0 } : Room).cells ({ frames := 0, cells := 0, slots := 0, locals := 0 } : Room).slots) := by
  refine MetFree.of_bodySF (plainFor_of_name pn_com_example_exact_quorum_exactquorum_server_Election_Vote) hisR ?_
  intro p e s m args below meth c s₁ Bd hml0 hP hK
  obtain ⟨rfl, hZ, hh⟩ := hP
  have hx := Bd.exec
  have hby := Bd.bytes
  have hlk : meth.locks = false := BodyLoose.notSynchronized Bd
  have hml : c.maxLocals = 3 := hml0
  have hown : s.vm.findClass "com/example/exact_quorum/exactquorum/server/Election$Vote" = some m.cls := findClass_of_methodNamed Bd.named
  have hnm := (name_of_methodNamed Bd.named Bd.method).1
  have X0 : Stand p l e ({ frames := 0, cells := 0, slots := 0, locals := 0 } : Room) s m #[(.ref ob), .null] below meth c s₁ [] 0 0 := Stand.of_body Bd
  have e0 : s₁.heap = h0 := by rw [← hh, Bd.state]; rfl
  have N0 := Fr.nil n0
  suffices hgo : Go p e below s 0 0 (Q3_n Z ob h0 n0) (s₁.setTop (mkF m 0 #[.val (.ref ob), .val .null, .unset] [])) by
    obtain ⟨t, o, h1, h2⟩ := hgo; exact ⟨t, o, castTop (ef_rm3_n m ob) h1, h2⟩
  show Go p e below s _ _ _ (s₁.setTop (mkF m 0 #[.val (.ref ob), .val .null, .unset] []))
  refine Go.st (fun _ k' => XS.aloadN X0.here hx rfl (hb hby d3_0) rfl rfl k') ?_
  show Go p e below s _ _ _ (s₁.setTop (mkF m 1 #[.val (.ref ob), .val .null, .unset] [.null]))
  refine Go.st (fun _ k' => X0.instanceofNull hx (g := (mkF m 1 #[.val (.ref ob), .val .null, .unset] [.null])) rfl rfl (hb hby d3_1) _ k') ?_
  show Go p e below s _ _ _ (s₁.setTop (mkF m 4 #[.val (.ref ob), .val .null, .unset] [(.int (0 : Int32))]))
  refine Go.st (fun _ k' => XS.ifYes X0.here hx rfl (pc0 := 4) (pc' := 39) rfl (hb hby d3_4) rfl (XT.i0_eq_t (by decide)) (by decide) (by decide) k') ?_
  show Go p e below s _ _ _ (s₁.setTop (mkF m 39 #[.val (.ref ob), .val .null, .unset] []))
  refine Go.st (fun _ k' => XS.iconst X0.here hx rfl (hb hby d3_39) k') ?_
  show Go p e below s _ _ _ (s₁.setTop (mkF m 40 #[.val (.ref ob), .val .null, .unset] [(.int (0 : Int32))]))
  refine Go.retB X0 hx hlk (t := .boolean) Bd.returns (by simp) (hb hby d3_40) (by decide) (by decide) e0 ?_
  exact ⟨rfl, N0, rfl⟩
theorem ef_rm3_i (m : MethodId) (ob : Addr) (oc : Addr) : entryFrame m #[(.ref ob), (.ref oc)] 3 = mkF m 0 #[.val (.ref ob), .val (.ref oc), .unset] [] := by first | (simp [entryFrame, mkF, argsToLocals, Value.category]; done) | rfl
def Q3_i (Z : State) (ob : Addr) (oc : Addr) (h0 : Heap) (n0 : Nat) (v : Option Value) (h : Heap) (L : List Loc) : Prop := v = some (.int (0 : Int32)) ∧ Fr n0 L ∧ h = h0
set_option maxRecDepth 65536 in
set_option maxHeartbeats 40000000 in
theorem rm3_i (l : Launch) (Z : State) (a0 : Array Value) (hw : ∀ d ∈ tables_1, d.before a0 Z = true) (ws : List Jvm.Cond) (ob : Addr) (oc : Addr) (h0 : Heap) (n0 : Nat) (O0 : Old Z n0 h0) (E_c : Exa Z h0 oc "java/lang/Integer") :
    MetFree l (⟨"com/example/exact_quorum/exactquorum/server/Election$Vote", "equals", "(Ljava/lang/Object;)Z"⟩ : MethodName) (head1 (Jvm.Cond.code (⟨"com/example/exact_quorum/exactquorum/server/Election$Vote", "equals", "(Ljava/lang/Object;)Z"⟩ : MethodName) prog_77_method_5_code 3 (some .boolean) :: ws) ({ frames := 0, cells := 0, slots := 0, locals := 0 } : Room)) (fun ay U => ay = #[(.ref ob), (.ref oc)] ∧ Z.Warmed39 U.vm ∧ U.heap = h0) (fun _ _ _ _ _ => True) (fun _ U o U' => ∃ v L, o = .returned v ∧ Q3_i Z ob oc h0 n0 v U'.heap L ∧ FrameEnd U o U' L ({ frames := 0, cells := 0, slots := 0, locals := 0 } : Room).cells ({ frames := 0, cells := 0, slots := 0, locals := 0 } : Room).slots) := by
  refine MetFree.of_bodySF (plainFor_of_name pn_com_example_exact_quorum_exactquorum_server_Election_Vote) hisR ?_
  intro p e s m args below meth c s₁ Bd hml0 hP hK
  obtain ⟨rfl, hZ, hh⟩ := hP
  have hx := Bd.exec
  have hby := Bd.bytes
  have hlk : meth.locks = false := BodyLoose.notSynchronized Bd
  have hml : c.maxLocals = 3 := hml0
  have hown : s.vm.findClass "com/example/exact_quorum/exactquorum/server/Election$Vote" = some m.cls := findClass_of_methodNamed Bd.named
  have hnm := (name_of_methodNamed Bd.named Bd.method).1
  have X0 : Stand p l e ({ frames := 0, cells := 0, slots := 0, locals := 0 } : Room) s m #[(.ref ob), (.ref oc)] below meth c s₁ [] 0 0 := Stand.of_body Bd
  have e0 : s₁.heap = h0 := by rw [← hh, Bd.state]; rfl
  have N0 := Fr.nil n0
  suffices hgo : Go p e below s 0 0 (Q3_i Z ob oc h0 n0) (s₁.setTop (mkF m 0 #[.val (.ref ob), .val (.ref oc), .unset] [])) by
    obtain ⟨t, o, h1, h2⟩ := hgo; exact ⟨t, o, castTop (ef_rm3_i m ob oc) h1, h2⟩
  show Go p e below s _ _ _ (s₁.setTop (mkF m 0 #[.val (.ref ob), .val (.ref oc), .unset] []))
  refine Go.st (fun _ k' => XS.aloadN X0.here hx rfl (hb hby d3_0) rfl rfl k') ?_
  show Go p e below s _ _ _ (s₁.setTop (mkF m 1 #[.val (.ref ob), .val (.ref oc), .unset] [(.ref oc)]))
  obtain ⟨T1, X1, e1, st1⟩ := instNo X0 hx hZ hown (wdx hw 18 rfl) e0 E_c (own_nsb (wdx hw 27 rfl) (wdx hw 1 rfl) (NS.step (wdx hw 27 rfl) (NS.step (wdx hw 28 rfl) (own_nsa (wdx hw 29 rfl) (wdx hw 1 rfl) (by decide)) (by decide)) (by decide)) (by decide)) (g := (mkF m 1 #[.val (.ref ob), .val (.ref oc), .unset] [(.ref oc)])) rfl rfl (hb hby d3_1)
  refine Go.st st1 ?_
  show Go p e below s _ _ _ (T1.setTop (mkF m 4 #[.val (.ref ob), .val (.ref oc), .unset] [(.int (0 : Int32))]))
  refine Go.st (fun _ k' => XS.ifYes X1.here hx rfl (pc0 := 4) (pc' := 39) rfl (hb hby d3_4) rfl (XT.i0_eq_t (by decide)) (by decide) (by decide) k') ?_
  show Go p e below s _ _ _ (T1.setTop (mkF m 39 #[.val (.ref ob), .val (.ref oc), .unset] []))
  refine Go.st (fun _ k' => XS.iconst X1.here hx rfl (hb hby d3_39) k') ?_
  show Go p e below s _ _ _ (T1.setTop (mkF m 40 #[.val (.ref ob), .val (.ref oc), .unset] [(.int (0 : Int32))]))
  refine Go.retB X1 hx hlk (t := .boolean) Bd.returns (by simp) (hb hby d3_40) (by decide) (by decide) e1 ?_
  exact ⟨rfl, N0, rfl⟩
theorem ef_rm3_l (m : MethodId) (ob : Addr) (oc : Addr) : entryFrame m #[(.ref ob), (.ref oc)] 3 = mkF m 0 #[.val (.ref ob), .val (.ref oc), .unset] [] := by first | (simp [entryFrame, mkF, argsToLocals, Value.category]; done) | rfl
def Q3_l (Z : State) (ob : Addr) (oc : Addr) (h0 : Heap) (n0 : Nat) (v : Option Value) (h : Heap) (L : List Loc) : Prop := v = some (.int (0 : Int32)) ∧ Fr n0 L ∧ h = h0
set_option maxRecDepth 65536 in
set_option maxHeartbeats 40000000 in
theorem rm3_l (l : Launch) (Z : State) (a0 : Array Value) (hw : ∀ d ∈ tables_1, d.before a0 Z = true) (ws : List Jvm.Cond) (ob : Addr) (oc : Addr) (h0 : Heap) (n0 : Nat) (O0 : Old Z n0 h0) (E_c : Exa Z h0 oc "java/lang/Long") :
    MetFree l (⟨"com/example/exact_quorum/exactquorum/server/Election$Vote", "equals", "(Ljava/lang/Object;)Z"⟩ : MethodName) (head1 (Jvm.Cond.code (⟨"com/example/exact_quorum/exactquorum/server/Election$Vote", "equals", "(Ljava/lang/Object;)Z"⟩ : MethodName) prog_77_method_5_code 3 (some .boolean) :: ws) ({ frames := 0, cells := 0, slots := 0, locals := 0 } : Room)) (fun ay U => ay = #[(.ref ob), (.ref oc)] ∧ Z.Warmed39 U.vm ∧ U.heap = h0) (fun _ _ _ _ _ => True) (fun _ U o U' => ∃ v L, o = .returned v ∧ Q3_l Z ob oc h0 n0 v U'.heap L ∧ FrameEnd U o U' L ({ frames := 0, cells := 0, slots := 0, locals := 0 } : Room).cells ({ frames := 0, cells := 0, slots := 0, locals := 0 } : Room).slots) := by
  refine MetFree.of_bodySF (plainFor_of_name pn_com_example_exact_quorum_exactquorum_server_Election_Vote) hisR ?_
  intro p e s m args below meth c s₁ Bd hml0 hP hK
  obtain ⟨rfl, hZ, hh⟩ := hP
  have hx := Bd.exec
  have hby := Bd.bytes
  have hlk : meth.locks = false := BodyLoose.notSynchronized Bd
  have hml : c.maxLocals = 3 := hml0
  have hown : s.vm.findClass "com/example/exact_quorum/exactquorum/server/Election$Vote" = some m.cls := findClass_of_methodNamed Bd.named
  have hnm := (name_of_methodNamed Bd.named Bd.method).1
  have X0 : Stand p l e ({ frames := 0, cells := 0, slots := 0, locals := 0 } : Room) s m #[(.ref ob), (.ref oc)] below meth c s₁ [] 0 0 := Stand.of_body Bd
  have e0 : s₁.heap = h0 := by rw [← hh, Bd.state]; rfl
  have N0 := Fr.nil n0
  suffices hgo : Go p e below s 0 0 (Q3_l Z ob oc h0 n0) (s₁.setTop (mkF m 0 #[.val (.ref ob), .val (.ref oc), .unset] [])) by
    obtain ⟨t, o, h1, h2⟩ := hgo; exact ⟨t, o, castTop (ef_rm3_l m ob oc) h1, h2⟩
  show Go p e below s _ _ _ (s₁.setTop (mkF m 0 #[.val (.ref ob), .val (.ref oc), .unset] []))
  refine Go.st (fun _ k' => XS.aloadN X0.here hx rfl (hb hby d3_0) rfl rfl k') ?_
  show Go p e below s _ _ _ (s₁.setTop (mkF m 1 #[.val (.ref ob), .val (.ref oc), .unset] [(.ref oc)]))
  obtain ⟨T1, X1, e1, st1⟩ := instNo X0 hx hZ hown (wdx hw 18 rfl) e0 E_c (own_nsb (wdx hw 61 rfl) (wdx hw 1 rfl) (NS.step (wdx hw 61 rfl) (NS.step (wdx hw 28 rfl) (own_nsa (wdx hw 29 rfl) (wdx hw 1 rfl) (by decide)) (by decide)) (by decide)) (by decide)) (g := (mkF m 1 #[.val (.ref ob), .val (.ref oc), .unset] [(.ref oc)])) rfl rfl (hb hby d3_1)
  refine Go.st st1 ?_
  show Go p e below s _ _ _ (T1.setTop (mkF m 4 #[.val (.ref ob), .val (.ref oc), .unset] [(.int (0 : Int32))]))
  refine Go.st (fun _ k' => XS.ifYes X1.here hx rfl (pc0 := 4) (pc' := 39) rfl (hb hby d3_4) rfl (XT.i0_eq_t (by decide)) (by decide) (by decide) k') ?_
  show Go p e below s _ _ _ (T1.setTop (mkF m 39 #[.val (.ref ob), .val (.ref oc), .unset] []))
  refine Go.st (fun _ k' => XS.iconst X1.here hx rfl (hb hby d3_39) k') ?_
  show Go p e below s _ _ _ (T1.setTop (mkF m 40 #[.val (.ref ob), .val (.ref oc), .unset] [(.int (0 : Int32))]))
  refine Go.retB X1 hx hlk (t := .boolean) Bd.returns (by simp) (hb hby d3_40) (by decide) (by decide) e1 ?_
  exact ⟨rfl, N0, rfl⟩
theorem d3_7 : decode prog_77_method_5_code 7 = .ok (.aload_n 1, 1) := by decide +kernel
theorem d3_8 : decode prog_77_method_5_code 8 = .ok (.checkcast 8, 3) := by decide +kernel
theorem d3_11 : decode prog_77_method_5_code 11 = .ok (.astore_n 2, 1) := by decide +kernel
theorem d3_12 : decode prog_77_method_5_code 12 = .ok (.aload_n 0, 1) := by decide +kernel
theorem d3_13 : decode prog_77_method_5_code 13 = .ok (.getfield 7, 3) := by decide +kernel
theorem d3_16 : decode prog_77_method_5_code 16 = .ok (.aload_n 2, 1) := by decide +kernel
theorem d3_17 : decode prog_77_method_5_code 17 = .ok (.getfield 7, 3) := by decide +kernel
theorem d3_20 : decode prog_77_method_5_code 20 = .ok (.if_icmp .ne 19, 3) := by decide +kernel
theorem d3_23 : decode prog_77_method_5_code 23 = .ok (.aload_n 0, 1) := by decide +kernel
theorem d3_24 : decode prog_77_method_5_code 24 = .ok (.getfield 13, 3) := by decide +kernel
theorem d3_27 : decode prog_77_method_5_code 27 = .ok (.aload_n 2, 1) := by decide +kernel
theorem d3_28 : decode prog_77_method_5_code 28 = .ok (.getfield 13, 3) := by decide +kernel
theorem d3_31 : decode prog_77_method_5_code 31 = .ok (.lcmp, 1) := by decide +kernel
theorem d3_32 : decode prog_77_method_5_code 32 = .ok (.ifCond .ne 7, 3) := by decide +kernel
theorem d3_35 : decode prog_77_method_5_code 35 = .ok (.iconst 1, 1) := by decide +kernel
theorem d3_36 : decode prog_77_method_5_code 36 = .ok (.goto 4, 3) := by decide +kernel
theorem ef_rm3 (m : MethodId) (ob : Addr) (oc : Addr) : entryFrame m #[(.ref ob), (.ref oc)] 3 = mkF m 0 #[.val (.ref ob), .val (.ref oc), .unset] [] := by first | (simp [entryFrame, mkF, argsToLocals, Value.category]; done) | rfl
def Q3 (Z : State) (ob : Addr) (oc : Addr) (ul : Int32) (uz : Int64) (wl : Int32) (wz : Int64) (h0 : Heap) (n0 : Nat) (v : Option Value) (h : Heap) (L : List Loc) : Prop := v = some (.int (feq ul uz wl wz)) ∧ Fr n0 L ∧ h = h0
set_option maxRecDepth 65536 in
set_option maxHeartbeats 40000000 in
theorem rm3 (l : Launch) (Z : State) (a0 : Array Value) (hw : ∀ d ∈ tables_1, d.before a0 Z = true) (ws : List Jvm.Cond) (ob : Addr) (oc : Addr) (ul : Int32) (uz : Int64) (wl : Int32) (wz : Int64) (h0 : Heap) (n0 : Nat) (O0 : Old Z n0 h0) (E_c : Exa Z h0 oc "com/example/exact_quorum/exactquorum/server/Election$Vote") (Fa : Fld Z h0 ob "com/example/exact_quorum/exactquorum/server/Election$Vote" "leader" "I" (.int ul)) (Fb : Fld Z h0 ob "com/example/exact_quorum/exactquorum/server/Election$Vote" "zxid" "J" (.long uz)) (Fc : Fld Z h0 oc "com/example/exact_quorum/exactquorum/server/Election$Vote" "leader" "I" (.int wl)) (Fd : Fld Z h0 oc "com/example/exact_quorum/exactquorum/server/Election$Vote" "zxid" "J" (.long wz)) :
    MetFree l (⟨"com/example/exact_quorum/exactquorum/server/Election$Vote", "equals", "(Ljava/lang/Object;)Z"⟩ : MethodName) (head1 (Jvm.Cond.code (⟨"com/example/exact_quorum/exactquorum/server/Election$Vote", "equals", "(Ljava/lang/Object;)Z"⟩ : MethodName) prog_77_method_5_code 3 (some .boolean) :: ws) ({ frames := 0, cells := 0, slots := 0, locals := 0 } : Room)) (fun ay U => ay = #[(.ref ob), (.ref oc)] ∧ Z.Warmed39 U.vm ∧ U.heap = h0) (fun _ _ _ _ _ => True) (fun _ U o U' => ∃ v L, o = .returned v ∧ Q3 Z ob oc ul uz wl wz h0 n0 v U'.heap L ∧ FrameEnd U o U' L ({ frames := 0, cells := 0, slots := 0, locals := 0 } : Room).cells ({ frames := 0, cells := 0, slots := 0, locals := 0 } : Room).slots) := by
  refine MetFree.of_bodySF (plainFor_of_name pn_com_example_exact_quorum_exactquorum_server_Election_Vote) hisR ?_
  intro p e s m args below meth c s₁ Bd hml0 hP hK
  obtain ⟨rfl, hZ, hh⟩ := hP
  have hx := Bd.exec
  have hby := Bd.bytes
  have hlk : meth.locks = false := BodyLoose.notSynchronized Bd
  have hml : c.maxLocals = 3 := hml0
  have hown : s.vm.findClass "com/example/exact_quorum/exactquorum/server/Election$Vote" = some m.cls := findClass_of_methodNamed Bd.named
  have hnm := (name_of_methodNamed Bd.named Bd.method).1
  have X0 : Stand p l e ({ frames := 0, cells := 0, slots := 0, locals := 0 } : Room) s m #[(.ref ob), (.ref oc)] below meth c s₁ [] 0 0 := Stand.of_body Bd
  have e0 : s₁.heap = h0 := by rw [← hh, Bd.state]; rfl
  have N0 := Fr.nil n0
  suffices hgo : Go p e below s 0 0 (Q3 Z ob oc ul uz wl wz h0 n0) (s₁.setTop (mkF m 0 #[.val (.ref ob), .val (.ref oc), .unset] [])) by
    obtain ⟨t, o, h1, h2⟩ := hgo; exact ⟨t, o, castTop (ef_rm3 m ob oc) h1, h2⟩
  show Go p e below s _ _ _ (s₁.setTop (mkF m 0 #[.val (.ref ob), .val (.ref oc), .unset] []))
  refine Go.st (fun _ k' => XS.aloadN X0.here hx rfl (hb hby d3_0) rfl rfl k') ?_
  show Go p e below s _ _ _ (s₁.setTop (mkF m 1 #[.val (.ref ob), .val (.ref oc), .unset] [(.ref oc)]))
  obtain ⟨T1, X1, e1, st1⟩ := instY X0 hx hZ hown (wdx hw 18 rfl) e0 (Ins.self E_c) (g := (mkF m 1 #[.val (.ref ob), .val (.ref oc), .unset] [(.ref oc)])) rfl rfl (hb hby d3_1)
  refine Go.st st1 ?_
  show Go p e below s _ _ _ (T1.setTop (mkF m 4 #[.val (.ref ob), .val (.ref oc), .unset] [(.int (1 : Int32))]))
  refine Go.st (fun _ k' => XS.ifNo X1.here hx rfl (hb hby d3_4) rfl (XT.i0_eq_f (by decide)) k') ?_
  show Go p e below s _ _ _ (T1.setTop (mkF m 7 #[.val (.ref ob), .val (.ref oc), .unset] []))
  refine Go.st (fun _ k' => XS.aloadN X1.here hx rfl (hb hby d3_7) rfl rfl k') ?_
  show Go p e below s _ _ _ (T1.setTop (mkF m 8 #[.val (.ref ob), .val (.ref oc), .unset] [(.ref oc)]))
  obtain ⟨T2, X2, e2, st2⟩ := castY X1 hx hZ hown (wdx hw 18 rfl) e1 (Ins.self E_c) (g := (mkF m 8 #[.val (.ref ob), .val (.ref oc), .unset] [(.ref oc)])) rfl rfl (hb hby d3_8)
  refine Go.st st2 ?_
  show Go p e below s _ _ _ (T2.setTop (mkF m 11 #[.val (.ref ob), .val (.ref oc), .unset] [(.ref oc)]))
  refine Go.st (fun _ k' => XS.astoreN X2.here hx rfl (hb hby d3_11) rfl rfl (l' := #[.val (.ref ob), .val (.ref oc), .val (.ref oc)]) rfl k') ?_
  show Go p e below s _ _ _ (T2.setTop (mkF m 12 #[.val (.ref ob), .val (.ref oc), .val (.ref oc)] []))
  refine Go.st (fun _ k' => XS.aloadN X2.here hx rfl (hb hby d3_12) rfl rfl k') ?_
  show Go p e below s _ _ _ (T2.setTop (mkF m 13 #[.val (.ref ob), .val (.ref oc), .val (.ref oc)] [(.ref ob)]))
  obtain ⟨T3, X3, e3, st3⟩ := getF X2 hx hZ hown (host := "") (Or.inl (wdx hw 9 rfl)) Via.refl e2 Fa (g := (mkF m 13 #[.val (.ref ob), .val (.ref oc), .val (.ref oc)] [(.ref ob)])) rfl rfl (hb hby d3_13)
  refine Go.st st3 ?_
  show Go p e below s _ _ _ (T3.setTop (mkF m 16 #[.val (.ref ob), .val (.ref oc), .val (.ref oc)] [(.int ul)]))
  refine Go.st (fun _ k' => XS.aloadN X3.here hx rfl (hb hby d3_16) rfl rfl k') ?_
  show Go p e below s _ _ _ (T3.setTop (mkF m 17 #[.val (.ref ob), .val (.ref oc), .val (.ref oc)] [(.ref oc), (.int ul)]))
  obtain ⟨T4, X4, e4, st4⟩ := getF X3 hx hZ hown (host := "") (Or.inl (wdx hw 9 rfl)) Via.refl e3 Fc (g := (mkF m 17 #[.val (.ref ob), .val (.ref oc), .val (.ref oc)] [(.ref oc), (.int ul)])) rfl rfl (hb hby d3_17)
  refine Go.st st4 ?_
  show Go p e below s _ _ _ (T4.setTop (mkF m 20 #[.val (.ref ob), .val (.ref oc), .val (.ref oc)] [(.int wl), (.int ul)]))
  by_cases hc5 : ul = wl
  · refine Go.st (fun _ k' => XS.icmpNo X4.here hx rfl (hb hby d3_20) rfl (XT.ii_ne_f hc5) k') ?_
    show Go p e below s _ _ _ (T4.setTop (mkF m 23 #[.val (.ref ob), .val (.ref oc), .val (.ref oc)] []))
    refine Go.st (fun _ k' => XS.aloadN X4.here hx rfl (hb hby d3_23) rfl rfl k') ?_
    show Go p e below s _ _ _ (T4.setTop (mkF m 24 #[.val (.ref ob), .val (.ref oc), .val (.ref oc)] [(.ref ob)]))
    obtain ⟨T6, X6, e6, st6⟩ := getF X4 hx hZ hown (host := "") (Or.inl (wdx hw 11 rfl)) Via.refl e4 Fb (g := (mkF m 24 #[.val (.ref ob), .val (.ref oc), .val (.ref oc)] [(.ref ob)])) rfl rfl (hb hby d3_24)
    refine Go.st st6 ?_
    show Go p e below s _ _ _ (T6.setTop (mkF m 27 #[.val (.ref ob), .val (.ref oc), .val (.ref oc)] [(.long uz)]))
    refine Go.st (fun _ k' => XS.aloadN X6.here hx rfl (hb hby d3_27) rfl rfl k') ?_
    show Go p e below s _ _ _ (T6.setTop (mkF m 28 #[.val (.ref ob), .val (.ref oc), .val (.ref oc)] [(.ref oc), (.long uz)]))
    obtain ⟨T7, X7, e7, st7⟩ := getF X6 hx hZ hown (host := "") (Or.inl (wdx hw 11 rfl)) Via.refl e6 Fd (g := (mkF m 28 #[.val (.ref ob), .val (.ref oc), .val (.ref oc)] [(.ref oc), (.long uz)])) rfl rfl (hb hby d3_28)
    refine Go.st st7 ?_
    show Go p e below s _ _ _ (T7.setTop (mkF m 31 #[.val (.ref ob), .val (.ref oc), .val (.ref oc)] [(.long wz), (.long uz)]))
    refine Go.st (fun _ k' => XT.lcmp X7.here hx rfl (hb hby d3_31) rfl k') ?_
    show Go p e below s _ _ _ (T7.setTop (mkF m 32 #[.val (.ref ob), .val (.ref oc), .val (.ref oc)] [(.int (XT.cmpL uz wz))]))
    by_cases hc8 : uz = wz
    · refine Go.st (fun _ k' => XS.ifNo X7.here hx rfl (hb hby d3_32) rfl (XT.ll_ne_f hc8) k') ?_
      show Go p e below s _ _ _ (T7.setTop (mkF m 35 #[.val (.ref ob), .val (.ref oc), .val (.ref oc)] []))
      refine Go.st (fun _ k' => XS.iconst X7.here hx rfl (hb hby d3_35) k') ?_
      show Go p e below s _ _ _ (T7.setTop (mkF m 36 #[.val (.ref ob), .val (.ref oc), .val (.ref oc)] [(.int (1 : Int32))]))
      refine Go.st (fun _ k' => XS.goto X7.here hx rfl (pc0 := 36) (pc' := 40) rfl (hb hby d3_36) (by decide) (by decide) k') ?_
      show Go p e below s _ _ _ (T7.setTop (mkF m 40 #[.val (.ref ob), .val (.ref oc), .val (.ref oc)] [(.int (1 : Int32))]))
      refine Go.retB X7 hx hlk (t := .boolean) Bd.returns (by simp) (hb hby d3_40) (by decide) (by decide) e7 ?_
      exact ⟨(by simp [feq, nar, hc5, hc8]), N0, rfl⟩
    · refine Go.st (fun _ k' => XS.ifYes X7.here hx rfl (pc0 := 32) (pc' := 39) rfl (hb hby d3_32) rfl (XT.ll_ne_t hc8) (by decide) (by decide) k') ?_
      show Go p e below s _ _ _ (T7.setTop (mkF m 39 #[.val (.ref ob), .val (.ref oc), .val (.ref oc)] []))
      refine Go.st (fun _ k' => XS.iconst X7.here hx rfl (hb hby d3_39) k') ?_
      show Go p e below s _ _ _ (T7.setTop (mkF m 40 #[.val (.ref ob), .val (.ref oc), .val (.ref oc)] [(.int (0 : Int32))]))
      refine Go.retB X7 hx hlk (t := .boolean) Bd.returns (by simp) (hb hby d3_40) (by decide) (by decide) e7 ?_
      exact ⟨(by simp [feq, nar, hc5, hc8]), N0, rfl⟩
  · refine Go.st (fun _ k' => XS.icmpYes X4.here hx rfl (pc0 := 20) (pc' := 39) rfl (hb hby d3_20) rfl (XT.ii_ne_t hc5) (by decide) (by decide) k') ?_
    show Go p e below s _ _ _ (T4.setTop (mkF m 39 #[.val (.ref ob), .val (.ref oc), .val (.ref oc)] []))
    refine Go.st (fun _ k' => XS.iconst X4.here hx rfl (hb hby d3_39) k') ?_
    show Go p e below s _ _ _ (T4.setTop (mkF m 40 #[.val (.ref ob), .val (.ref oc), .val (.ref oc)] [(.int (0 : Int32))]))
    refine Go.retB X4 hx hlk (t := .boolean) Bd.returns (by simp) (hb hby d3_40) (by decide) (by decide) e4 ?_
    exact ⟨(by simp [feq, nar, hc5]), N0, rfl⟩
theorem pd__IJ_V : parseMethodDescriptor "(IJ)V" = some ⟨[.int, .long], none⟩ := by decide +kernel
theorem pd__Ljava_lang_Object__Z : parseMethodDescriptor "(Ljava/lang/Object;)Z" = some ⟨[(.object "java/lang/Object")], some .boolean⟩ := by decide +kernel
theorem pd__J_Ljava_lang_Long_ : parseMethodDescriptor "(J)Ljava/lang/Long;" = some ⟨[.long], some (.object "java/lang/Long")⟩ := by decide +kernel
theorem pd__I_Ljava_lang_Integer_ : parseMethodDescriptor "(I)Ljava/lang/Integer;" = some ⟨[.int], some (.object "java/lang/Integer")⟩ := by decide +kernel
theorem pn_com_example_exact_quorum_exactquorum_server_VoteEqualsPinLaw : plainName "com/example/exact_quorum/exactquorum/server/VoteEqualsPinLaw" = true := by first | (simp [plainName, overriddenIn]; done) | decide +kernel
theorem ef_rm0 (m : MethodId) (la : Int32) (za : Int64) (lb : Int32) (zb : Int64) (sel : Int32) : entryFrame m #[(.int la), (.long za), (.int lb), (.long zb), (.int sel)] maxLocals = mkF m 0 #[.val (.int la), .val (.long za), .second, .val (.int lb), .val (.long zb), .second, .val (.int sel), .unset, .unset, .unset, .unset, .unset, .unset, .unset, .unset, .unset, .unset, .unset, .unset] [] := by first | (simp [entryFrame, mkF, argsToLocals, Value.category, maxLocals]; done) | rfl
def Q0 (Z : State) (la : Int32) (za : Int64) (lb : Int32) (zb : Int64) (sel : Int32) (ca : Addr) (cb : Cell) (cc : Addr) (cd : Cell) (h0 : Heap) (n0 : Nat) (v : Option Value) (h : Heap) (L : List Loc) : Prop := v = some (.int (1 : Int32)) ∧ Fr n0 L ∧ True
set_option maxRecDepth 65536 in
set_option maxHeartbeats 40000000 in
theorem rm0 (l : Launch) (Z : State) (a0 : Array Value) (hw : ∀ d ∈ tables_1, d.before a0 Z = true) (ws : List Jvm.Cond) (la : Int32) (za : Int64) (lb : Int32) (zb : Int64) (sel : Int32) (ca : Addr) (cb : Cell) (cc : Addr) (cd : Cell) (h0 : Heap) (n0 : Nat) (O0 : Old Z n0 h0) (S_hi : Sta Z Z.heap "java/lang/Integer$IntegerCache" "high" "I" (.int (127 : Int32))) (S_ca : Sta Z Z.heap "java/lang/Integer$IntegerCache" "cache" "[Ljava/lang/Integer;" (.ref ca)) (Bx : Bxw Z ca cb "java/lang/Integer") (S_cl : Sta Z Z.heap "java/lang/Long$LongCache" "cache" "[Ljava/lang/Long;" (.ref cc)) (By : Bxw Z cc cd "java/lang/Long") :
    MetFree l x (head1 (Jvm.Cond.code x code maxLocals ret :: ws) room_1) (fun ay U => ay = #[(.int la), (.long za), (.int lb), (.long zb), (.int sel)] ∧ Z.Warmed39 U.vm ∧ U.heap = h0) (fun _ _ _ _ _ => True) (fun _ U o U' => ∃ v L, o = .returned v ∧ Q0 Z la za lb zb sel ca cb cc cd h0 n0 v U'.heap L ∧ FrameEnd U o U' L room_1.cells room_1.slots) := by
  refine MetFree.of_bodySF (plainFor_of_name pn_com_example_exact_quorum_exactquorum_server_VoteEqualsPinLaw) hisR ?_
  intro p e s m args below meth c s₁ Bd hml0 hP hK
  obtain ⟨rfl, hZ, hh⟩ := hP
  have hx := Bd.exec
  have hby := Bd.bytes
  have hlk : meth.locks = false := BodyLoose.notSynchronized Bd
  have hml : c.maxLocals = 19 := hml0
  have hown : s.vm.findClass "com/example/exact_quorum/exactquorum/server/VoteEqualsPinLaw" = some m.cls := findClass_of_methodNamed Bd.named
  have hnm := (name_of_methodNamed Bd.named Bd.method).1
  have X0 : Stand p l e room_1 s m #[(.int la), (.long za), (.int lb), (.long zb), (.int sel)] below meth c s₁ [] 0 0 := Stand.of_body Bd
  have e0 : s₁.heap = h0 := by rw [← hh, Bd.state]; rfl
  have N0 := Fr.nil n0
  suffices hgo : Go p e below s 16 128 (Q0 Z la za lb zb sel ca cb cc cd h0 n0) (s₁.setTop (mkF m 0 #[.val (.int la), .val (.long za), .second, .val (.int lb), .val (.long zb), .second, .val (.int sel), .unset, .unset, .unset, .unset, .unset, .unset, .unset, .unset, .unset, .unset, .unset, .unset] [])) by
    obtain ⟨t, o, h1, h2⟩ := hgo; exact ⟨t, o, castTop (ef_rm0 m la za lb zb sel) h1, h2⟩
  show Go p e below s _ _ _ (s₁.setTop (mkF m 0 #[.val (.int la), .val (.long za), .second, .val (.int lb), .val (.long zb), .second, .val (.int sel), .unset, .unset, .unset, .unset, .unset, .unset, .unset, .unset, .unset, .unset, .unset, .unset] []))
  have J1 : ∀ (mm : Int32), Go p e below s 16 128 (Q0 Z la za lb zb sel ca cb cc cd h0 n0) (s₁.setTop (mkF m 12 #[.val (.int la), .val (.long za), .second, .val (.int lb), .val (.long zb), .second, .val (.int sel), .unset, .unset, .unset, .unset, .unset, .unset, .unset, .unset, .unset, .unset, .unset, .unset] [(.int mm)])) := by
    intro mm
    show Go p e below s _ _ _ (s₁.setTop (mkF m 12 #[.val (.int la), .val (.long za), .second, .val (.int lb), .val (.long zb), .second, .val (.int sel), .unset, .unset, .unset, .unset, .unset, .unset, .unset, .unset, .unset, .unset, .unset, .unset] [(.int mm)]))
    refine Go.st (fun _ k' => XS.istore X0.here hx rfl (hb hby at_12) rfl (l' := #[.val (.int la), .val (.long za), .second, .val (.int lb), .val (.long zb), .second, .val (.int sel), .val (.int mm), .unset, .unset, .unset, .unset, .unset, .unset, .unset, .unset, .unset, .unset, .unset]) rfl k') ?_
    show Go p e below s _ _ _ (s₁.setTop (mkF m 14 #[.val (.int la), .val (.long za), .second, .val (.int lb), .val (.long zb), .second, .val (.int sel), .val (.int mm), .unset, .unset, .unset, .unset, .unset, .unset, .unset, .unset, .unset, .unset, .unset] []))
    have J2 : ∀ (yy : Int64), Go p e below s 16 128 (Q0 Z la za lb zb sel ca cb cc cd h0 n0) (s₁.setTop (mkF m 27 #[.val (.int la), .val (.long za), .second, .val (.int lb), .val (.long zb), .second, .val (.int sel), .val (.int mm), .unset, .unset, .unset, .unset, .unset, .unset, .unset, .unset, .unset, .unset, .unset] [(.long yy)])) := by
      intro yy
      show Go p e below s _ _ _ (s₁.setTop (mkF m 27 #[.val (.int la), .val (.long za), .second, .val (.int lb), .val (.long zb), .second, .val (.int sel), .val (.int mm), .unset, .unset, .unset, .unset, .unset, .unset, .unset, .unset, .unset, .unset, .unset] [(.long yy)]))
      refine Go.st (fun _ k' => XS.lstore X0.here hx rfl (hb hby at_27) rfl (l' := #[.val (.int la), .val (.long za), .second, .val (.int lb), .val (.long zb), .second, .val (.int sel), .val (.int mm), .val (.long yy), .second, .unset, .unset, .unset, .unset, .unset, .unset, .unset, .unset, .unset]) rfl k') ?_
      show Go p e below s _ _ _ (s₁.setTop (mkF m 29 #[.val (.int la), .val (.long za), .second, .val (.int lb), .val (.long zb), .second, .val (.int sel), .val (.int mm), .val (.long yy), .second, .unset, .unset, .unset, .unset, .unset, .unset, .unset, .unset, .unset] []))
      obtain ⟨T3, h3, X3, e3, E3, A3, D3, -, st3⟩ := newO X0 hx hZ hown (wdx hw 0 rfl) (wdx hw 1 rfl) (wdx hw 2 rfl) e0 (g := (mkF m 29 #[.val (.int la), .val (.long za), .second, .val (.int lb), .val (.long zb), .second, .val (.int sel), .val (.int mm), .val (.long yy), .second, .unset, .unset, .unset, .unset, .unset, .unset, .unset, .unset, .unset] [])) rfl (hb hby at_29) (by decide) (by decide)
      obtain ⟨b3, g3⟩ : ∃ z, z = h0.size := ⟨_, rfl⟩
      rw [← g3] at A3 D3 st3
      refine Go.st st3 ?_
      have g_b3 : n0 ≤ b3 := Nat.le_trans (own_le O0) (Nat.le_of_eq g3.symm)
      have O3 : Old Z n0 h3 := O0.ext E3
      have f4 : Fld Z h3 b3 "com/example/exact_quorum/exactquorum/server/Election$Vote" "leader" "I" (.int (0 : Int32)) := D3 (Or.inr (wdx hw 10 rfl)) (ty := .int) (by decide)
      have f5 : Fld Z h3 b3 "com/example/exact_quorum/exactquorum/server/Election$Vote" "zxid" "J" (.long (0 : Int64)) := D3 (Or.inr (wdx hw 12 rfl)) (ty := .long) (by decide)
      show Go p e below s _ _ _ (T3.setTop (mkF m 32 #[.val (.int la), .val (.long za), .second, .val (.int lb), .val (.long zb), .second, .val (.int sel), .val (.int mm), .val (.long yy), .second, .unset, .unset, .unset, .unset, .unset, .unset, .unset, .unset, .unset] [(.ref b3)]))
      refine Go.st (fun _ k' => XS.dup X3.here hx rfl (hb hby at_32) rfl rfl k') ?_
      show Go p e below s _ _ _ (T3.setTop (mkF m 33 #[.val (.int la), .val (.long za), .second, .val (.int lb), .val (.long zb), .second, .val (.int sel), .val (.int mm), .val (.long yy), .second, .unset, .unset, .unset, .unset, .unset, .unset, .unset, .unset, .unset] [(.ref b3), (.ref b3)]))
      refine Go.st (fun _ k' => XS.iloadN X3.here hx rfl (hb hby at_33) rfl k') ?_
      show Go p e below s _ _ _ (T3.setTop (mkF m 34 #[.val (.int la), .val (.long za), .second, .val (.int lb), .val (.long zb), .second, .val (.int sel), .val (.int mm), .val (.long yy), .second, .unset, .unset, .unset, .unset, .unset, .unset, .unset, .unset, .unset] [(.int la), (.ref b3), (.ref b3)]))
      refine Go.st (fun _ k' => XS.lloadN X3.here hx rfl (hb hby at_34) rfl k') ?_
      show Go p e below s _ _ _ (T3.setTop (mkF m 35 #[.val (.int la), .val (.long za), .second, .val (.int lb), .val (.long zb), .second, .val (.int sel), .val (.int mm), .val (.long yy), .second, .unset, .unset, .unset, .unset, .unset, .unset, .unset, .unset, .unset] [(.long za), (.int la), (.ref b3), (.ref b3)]))
      obtain ⟨_, _, ⟨T6, L6, k6, n6⟩, -, X6, ⟨Lc6, hQ6, l6, y6, z6⟩, st6⟩ := X3.specialBack hx (y := (⟨"com/example/exact_quorum/exactquorum/server/Election$Vote", "<init>", "(IJ)V"⟩ : MethodName)) rfl hown (mvT hZ (wdx hw 3 rfl)) (mvT hZ (wdx hw 4 rfl)) (mvT hZ (wdx hw 5 rfl)) (by decide) (backOf (W := 1) (rm1 l Z a0 hw [] b3 la za h3 n0 O3 A3 f4 f5 g_b3) hZ (wdx hw 5 rfl) (wdx hw 2 rfl) (by decide) (by decide)) (g := (mkF m 35 #[.val (.int la), .val (.long za), .second, .val (.int lb), .val (.long zb), .second, .val (.int sel), .val (.int mm), .val (.long yy), .second, .unset, .unset, .unset, .unset, .unset, .unset, .unset, .unset, .unset] [(.long za), (.int la), (.ref b3), (.ref b3)])) rfl (by rw [hml]; rfl) (Steps.refl _) (a := b3) (argsL := [(.int la), (.long za)]) (rest := [(.ref b3)]) (lenOf pd__IJ_V rfl) rfl (by show 2 * 0 + _ ≤ _; exact Nat.le_of_eq rfl) (hb hby at_35) (fun _ _ => ⟨rfl, e3, (by exact Nat.le_of_ble_eq_true rfl), (by exact Nat.le_of_ble_eq_true rfl)⟩)
      dsimp only [Pt.U, Pt.locs, Pt.cells, Pt.slots] at X6 l6 y6 z6 st6 hQ6
      subst l6 y6 z6
      obtain ⟨rfl, Nq6, Kq6, f7, f8⟩ := hQ6
      have N6 := Fr.app N0 Nq6
      refine Go.tr st6 ?_
      have f9 : Exa Z T6.heap b3 "com/example/exact_quorum/exactquorum/server/Election$Vote" := A3.keep Kq6
      have O6 : Old Z n0 T6.heap := O3.keep Kq6 (allS g_b3 all0)
      show Go p e below s _ _ _ (T6.setTop (mkF m 38 #[.val (.int la), .val (.long za), .second, .val (.int lb), .val (.long zb), .second, .val (.int sel), .val (.int mm), .val (.long yy), .second, .unset, .unset, .unset, .unset, .unset, .unset, .unset, .unset, .unset] [(.ref b3)]))
      refine Go.st (fun _ k' => XS.astore X6.here hx rfl (hb hby at_38) rfl rfl (l' := #[.val (.int la), .val (.long za), .second, .val (.int lb), .val (.long zb), .second, .val (.int sel), .val (.int mm), .val (.long yy), .second, .val (.ref b3), .unset, .unset, .unset, .unset, .unset, .unset, .unset, .unset]) rfl k') ?_
      show Go p e below s _ _ _ (T6.setTop (mkF m 40 #[.val (.int la), .val (.long za), .second, .val (.int lb), .val (.long zb), .second, .val (.int sel), .val (.int mm), .val (.long yy), .second, .val (.ref b3), .unset, .unset, .unset, .unset, .unset, .unset, .unset, .unset] []))
      obtain ⟨T10, h10, X10, e10, E10, A10, D10, -, st10⟩ := newO X6 hx hZ hown (wdx hw 0 rfl) (wdx hw 1 rfl) (wdx hw 2 rfl) rfl (g := (mkF m 40 #[.val (.int la), .val (.long za), .second, .val (.int lb), .val (.long zb), .second, .val (.int sel), .val (.int mm), .val (.long yy), .second, .val (.ref b3), .unset, .unset, .unset, .unset, .unset, .unset, .unset, .unset] [])) rfl (hb hby at_40) (by decide) (by decide)
      obtain ⟨b10, g10⟩ : ∃ z, z = T6.heap.size := ⟨_, rfl⟩
      rw [← g10] at A10 D10 st10
      refine Go.st st10 ?_
      have g_b10 : n0 ≤ b10 := Nat.le_trans (own_le O6) (Nat.le_of_eq g10.symm)
      have ne11 : b3 ≠ b10 := Nat.ne_of_lt (Nat.lt_of_lt_of_le f9.lt (Nat.le_of_eq g10.symm))
      have f12 : Exa Z h10 b3 "com/example/exact_quorum/exactquorum/server/Election$Vote" := f9.ext E10
      have f13 : Fld Z h10 b3 "com/example/exact_quorum/exactquorum/server/Election$Vote" "leader" "I" (.int la) := f7.ext E10
      have f14 : Fld Z h10 b3 "com/example/exact_quorum/exactquorum/server/Election$Vote" "zxid" "J" (.long za) := f8.ext E10
      have O10 : Old Z n0 h10 := O6.ext E10
      have f15 : Fld Z h10 b10 "com/example/exact_quorum/exactquorum/server/Election$Vote" "leader" "I" (.int (0 : Int32)) := D10 (Or.inr (wdx hw 10 rfl)) (ty := .int) (by decide)
      have f16 : Fld Z h10 b10 "com/example/exact_quorum/exactquorum/server/Election$Vote" "zxid" "J" (.long (0 : Int64)) := D10 (Or.inr (wdx hw 12 rfl)) (ty := .long) (by decide)
      show Go p e below s _ _ _ (T10.setTop (mkF m 43 #[.val (.int la), .val (.long za), .second, .val (.int lb), .val (.long zb), .second, .val (.int sel), .val (.int mm), .val (.long yy), .second, .val (.ref b3), .unset, .unset, .unset, .unset, .unset, .unset, .unset, .unset] [(.ref b10)]))
      refine Go.st (fun _ k' => XS.dup X10.here hx rfl (hb hby at_43) rfl rfl k') ?_
      show Go p e below s _ _ _ (T10.setTop (mkF m 44 #[.val (.int la), .val (.long za), .second, .val (.int lb), .val (.long zb), .second, .val (.int sel), .val (.int mm), .val (.long yy), .second, .val (.ref b3), .unset, .unset, .unset, .unset, .unset, .unset, .unset, .unset] [(.ref b10), (.ref b10)]))
      refine Go.st (fun _ k' => XS.iload X10.here hx rfl (hb hby at_44) rfl k') ?_
      show Go p e below s _ _ _ (T10.setTop (mkF m 46 #[.val (.int la), .val (.long za), .second, .val (.int lb), .val (.long zb), .second, .val (.int sel), .val (.int mm), .val (.long yy), .second, .val (.ref b3), .unset, .unset, .unset, .unset, .unset, .unset, .unset, .unset] [(.int mm), (.ref b10), (.ref b10)]))
      refine Go.st (fun _ k' => XS.lload X10.here hx rfl (hb hby at_46) rfl k') ?_
      show Go p e below s _ _ _ (T10.setTop (mkF m 48 #[.val (.int la), .val (.long za), .second, .val (.int lb), .val (.long zb), .second, .val (.int sel), .val (.int mm), .val (.long yy), .second, .val (.ref b3), .unset, .unset, .unset, .unset, .unset, .unset, .unset, .unset] [(.long yy), (.int mm), (.ref b10), (.ref b10)]))
      obtain ⟨_, _, ⟨T17, L17, k17, n17⟩, -, X17, ⟨Lc17, hQ17, l17, y17, z17⟩, st17⟩ := X10.specialBack hx (y := (⟨"com/example/exact_quorum/exactquorum/server/Election$Vote", "<init>", "(IJ)V"⟩ : MethodName)) rfl hown (mvT hZ (wdx hw 3 rfl)) (mvT hZ (wdx hw 4 rfl)) (mvT hZ (wdx hw 5 rfl)) (by decide) (backOf (W := 1) (rm1 l Z a0 hw [] b10 mm yy h10 n0 O10 A10 f15 f16 g_b10) hZ (wdx hw 5 rfl) (wdx hw 2 rfl) (by decide) (by decide)) (g := (mkF m 48 #[.val (.int la), .val (.long za), .second, .val (.int lb), .val (.long zb), .second, .val (.int sel), .val (.int mm), .val (.long yy), .second, .val (.ref b3), .unset, .unset, .unset, .unset, .unset, .unset, .unset, .unset] [(.long yy), (.int mm), (.ref b10), (.ref b10)])) rfl (by rw [hml]; rfl) (Steps.refl _) (a := b10) (argsL := [(.int mm), (.long yy)]) (rest := [(.ref b10)]) (lenOf pd__IJ_V rfl) rfl (by show 2 * 0 + _ ≤ _; exact Nat.le_of_eq rfl) (hb hby at_48) (fun _ _ => ⟨rfl, e10, (by exact Nat.le_of_ble_eq_true rfl), (by exact Nat.le_of_ble_eq_true rfl)⟩)
      dsimp only [Pt.U, Pt.locs, Pt.cells, Pt.slots] at X17 l17 y17 z17 st17 hQ17
      subst l17 y17 z17
      obtain ⟨rfl, Nq17, Kq17, f18, f19⟩ := hQ17
      have N17 := Fr.app N6 Nq17
      refine Go.tr st17 ?_
      have f20 : Exa Z T17.heap b3 "com/example/exact_quorum/exactquorum/server/Election$Vote" := f12.keep Kq17
      have f21 : Fld Z T17.heap b3 "com/example/exact_quorum/exactquorum/server/Election$Vote" "leader" "I" (.int la) := f13.keep Kq17 (ninS ne11 nin0)
      have f22 : Fld Z T17.heap b3 "com/example/exact_quorum/exactquorum/server/Election$Vote" "zxid" "J" (.long za) := f14.keep Kq17 (ninS ne11 nin0)
      have f23 : Exa Z T17.heap b10 "com/example/exact_quorum/exactquorum/server/Election$Vote" := A10.keep Kq17
      have O17 : Old Z n0 T17.heap := O10.keep Kq17 (allS g_b10 all0)
      show Go p e below s _ _ _ (T17.setTop (mkF m 51 #[.val (.int la), .val (.long za), .second, .val (.int lb), .val (.long zb), .second, .val (.int sel), .val (.int mm), .val (.long yy), .second, .val (.ref b3), .unset, .unset, .unset, .unset, .unset, .unset, .unset, .unset] [(.ref b10)]))
      refine Go.st (fun _ k' => XS.astore X17.here hx rfl (hb hby at_51) rfl rfl (l' := #[.val (.int la), .val (.long za), .second, .val (.int lb), .val (.long zb), .second, .val (.int sel), .val (.int mm), .val (.long yy), .second, .val (.ref b3), .val (.ref b10), .unset, .unset, .unset, .unset, .unset, .unset, .unset]) rfl k') ?_
      show Go p e below s _ _ _ (T17.setTop (mkF m 53 #[.val (.int la), .val (.long za), .second, .val (.int lb), .val (.long zb), .second, .val (.int sel), .val (.int mm), .val (.long yy), .second, .val (.ref b3), .val (.ref b10), .unset, .unset, .unset, .unset, .unset, .unset, .unset] []))
      have J24 : ∀ (xe : Int32) (he_xe : xe = (feq mm yy la za)), Go p e below s 16 128 (Q0 Z la za lb zb sel ca cb cc cd h0 n0) (T17.setTop (mkF m 71 #[.val (.int la), .val (.long za), .second, .val (.int lb), .val (.long zb), .second, .val (.int sel), .val (.int mm), .val (.long yy), .second, .val (.ref b3), .val (.ref b10), .unset, .unset, .unset, .unset, .unset, .unset, .unset] [(.int xe)])) := by
        intro xe he_xe
        subst he_xe
        show Go p e below s _ _ _ (T17.setTop (mkF m 71 #[.val (.int la), .val (.long za), .second, .val (.int lb), .val (.long zb), .second, .val (.int sel), .val (.int mm), .val (.long yy), .second, .val (.ref b3), .val (.ref b10), .unset, .unset, .unset, .unset, .unset, .unset, .unset] [(.int (feq mm yy la za))]))
        refine Go.st (fun _ k' => XS.istore X17.here hx rfl (hb hby at_71) rfl (l' := #[.val (.int la), .val (.long za), .second, .val (.int lb), .val (.long zb), .second, .val (.int sel), .val (.int mm), .val (.long yy), .second, .val (.ref b3), .val (.ref b10), .val (.int (feq mm yy la za)), .unset, .unset, .unset, .unset, .unset, .unset]) rfl k') ?_
        show Go p e below s _ _ _ (T17.setTop (mkF m 73 #[.val (.int la), .val (.long za), .second, .val (.int lb), .val (.long zb), .second, .val (.int sel), .val (.int mm), .val (.long yy), .second, .val (.ref b3), .val (.ref b10), .val (.int (feq mm yy la za)), .unset, .unset, .unset, .unset, .unset, .unset] []))
        refine Go.st (fun _ k' => XS.iload X17.here hx rfl (hb hby at_73) rfl k') ?_
        show Go p e below s _ _ _ (T17.setTop (mkF m 75 #[.val (.int la), .val (.long za), .second, .val (.int lb), .val (.long zb), .second, .val (.int sel), .val (.int mm), .val (.long yy), .second, .val (.ref b3), .val (.ref b10), .val (.int (feq mm yy la za)), .unset, .unset, .unset, .unset, .unset, .unset] [(.int sel)]))
        refine Go.st (fun _ k' => XS.iconst X17.here hx rfl (hb hby at_75) k') ?_
        show Go p e below s _ _ _ (T17.setTop (mkF m 76 #[.val (.int la), .val (.long za), .second, .val (.int lb), .val (.long zb), .second, .val (.int sel), .val (.int mm), .val (.long yy), .second, .val (.ref b3), .val (.ref b10), .val (.int (feq mm yy la za)), .unset, .unset, .unset, .unset, .unset, .unset] [(.int (2 : Int32)), (.int sel)]))
        refine Go.st (fun _ k' => XS.iushr X17.here hx rfl (hb hby at_76) rfl k') ?_
        show Go p e below s _ _ _ (T17.setTop (mkF m 77 #[.val (.int la), .val (.long za), .second, .val (.int lb), .val (.long zb), .second, .val (.int sel), .val (.int mm), .val (.long yy), .second, .val (.ref b3), .val (.ref b10), .val (.int (feq mm yy la za)), .unset, .unset, .unset, .unset, .unset, .unset] [(.int ((sel.toUInt32 >>> ((2 : Int32) &&& 31).toUInt32).toInt32))]))
        refine Go.st (fun _ k' => XS.iconst X17.here hx rfl (hb hby at_77) k') ?_
        show Go p e below s _ _ _ (T17.setTop (mkF m 78 #[.val (.int la), .val (.long za), .second, .val (.int lb), .val (.long zb), .second, .val (.int sel), .val (.int mm), .val (.long yy), .second, .val (.ref b3), .val (.ref b10), .val (.int (feq mm yy la za)), .unset, .unset, .unset, .unset, .unset, .unset] [(.int (3 : Int32)), (.int ((sel.toUInt32 >>> ((2 : Int32) &&& 31).toUInt32).toInt32))]))
        refine Go.st (fun _ k' => XS.iand X17.here hx rfl (hb hby at_78) rfl k') ?_
        show Go p e below s _ _ _ (T17.setTop (mkF m 79 #[.val (.int la), .val (.long za), .second, .val (.int lb), .val (.long zb), .second, .val (.int sel), .val (.int mm), .val (.long yy), .second, .val (.ref b3), .val (.ref b10), .val (.int (feq mm yy la za)), .unset, .unset, .unset, .unset, .unset, .unset] [(.int (((sel.toUInt32 >>> ((2 : Int32) &&& 31).toUInt32).toInt32) &&& (3 : Int32)))]))
        refine Go.st (fun _ k' => XS.istore X17.here hx rfl (hb hby at_79) rfl (l' := #[.val (.int la), .val (.long za), .second, .val (.int lb), .val (.long zb), .second, .val (.int sel), .val (.int mm), .val (.long yy), .second, .val (.ref b3), .val (.ref b10), .val (.int (feq mm yy la za)), .val (.int (((sel.toUInt32 >>> ((2 : Int32) &&& 31).toUInt32).toInt32) &&& (3 : Int32))), .unset, .unset, .unset, .unset, .unset]) rfl k') ?_
        show Go p e below s _ _ _ (T17.setTop (mkF m 81 #[.val (.int la), .val (.long za), .second, .val (.int lb), .val (.long zb), .second, .val (.int sel), .val (.int mm), .val (.long yy), .second, .val (.ref b3), .val (.ref b10), .val (.int (feq mm yy la za)), .val (.int (((sel.toUInt32 >>> ((2 : Int32) &&& 31).toUInt32).toInt32) &&& (3 : Int32))), .unset, .unset, .unset, .unset, .unset] []))
        refine Go.st (fun _ k' => XS.iload X17.here hx rfl (hb hby at_81) rfl k') ?_
        show Go p e below s _ _ _ (T17.setTop (mkF m 83 #[.val (.int la), .val (.long za), .second, .val (.int lb), .val (.long zb), .second, .val (.int sel), .val (.int mm), .val (.long yy), .second, .val (.ref b3), .val (.ref b10), .val (.int (feq mm yy la za)), .val (.int (((sel.toUInt32 >>> ((2 : Int32) &&& 31).toUInt32).toInt32) &&& (3 : Int32))), .unset, .unset, .unset, .unset, .unset] [(.int (((sel.toUInt32 >>> ((2 : Int32) &&& 31).toUInt32).toInt32) &&& (3 : Int32)))]))
        by_cases hc25 : (((sel.toUInt32 >>> ((2 : Int32) &&& 31).toUInt32).toInt32) &&& (3 : Int32)) = (0 : Int32)
        · refine Go.st (fun _ k' => XS.ifNo X17.here hx rfl (hb hby at_83) rfl (XT.i0_ne_f hc25) k') ?_
          show Go p e below s _ _ _ (T17.setTop (mkF m 86 #[.val (.int la), .val (.long za), .second, .val (.int lb), .val (.long zb), .second, .val (.int sel), .val (.int mm), .val (.long yy), .second, .val (.ref b3), .val (.ref b10), .val (.int (feq mm yy la za)), .val (.int (((sel.toUInt32 >>> ((2 : Int32) &&& 31).toUInt32).toInt32) &&& (3 : Int32))), .unset, .unset, .unset, .unset, .unset] []))
          refine Go.st (fun _ k' => XS.aconstNull X17.here hx rfl (hb hby at_86) k') ?_
          show Go p e below s _ _ _ (T17.setTop (mkF m 87 #[.val (.int la), .val (.long za), .second, .val (.int lb), .val (.long zb), .second, .val (.int sel), .val (.int mm), .val (.long yy), .second, .val (.ref b3), .val (.ref b10), .val (.int (feq mm yy la za)), .val (.int (((sel.toUInt32 >>> ((2 : Int32) &&& 31).toUInt32).toInt32) &&& (3 : Int32))), .unset, .unset, .unset, .unset, .unset] [.null]))
          refine Go.st (fun _ k' => XS.astore X17.here hx rfl (hb hby at_87) rfl rfl (l' := #[.val (.int la), .val (.long za), .second, .val (.int lb), .val (.long zb), .second, .val (.int sel), .val (.int mm), .val (.long yy), .second, .val (.ref b3), .val (.ref b10), .val (.int (feq mm yy la za)), .val (.int (((sel.toUInt32 >>> ((2 : Int32) &&& 31).toUInt32).toInt32) &&& (3 : Int32))), .val .null, .unset, .unset, .unset, .unset]) rfl k') ?_
          show Go p e below s _ _ _ (T17.setTop (mkF m 89 #[.val (.int la), .val (.long za), .second, .val (.int lb), .val (.long zb), .second, .val (.int sel), .val (.int mm), .val (.long yy), .second, .val (.ref b3), .val (.ref b10), .val (.int (feq mm yy la za)), .val (.int (((sel.toUInt32 >>> ((2 : Int32) &&& 31).toUInt32).toInt32) &&& (3 : Int32))), .val .null, .unset, .unset, .unset, .unset] []))
          refine Go.st (fun _ k' => XS.goto X17.here hx rfl (pc0 := 89) (pc' := 113) rfl (hb hby at_89) (by decide) (by decide) k') ?_
          show Go p e below s _ _ _ (T17.setTop (mkF m 113 #[.val (.int la), .val (.long za), .second, .val (.int lb), .val (.long zb), .second, .val (.int sel), .val (.int mm), .val (.long yy), .second, .val (.ref b3), .val (.ref b10), .val (.int (feq mm yy la za)), .val (.int (((sel.toUInt32 >>> ((2 : Int32) &&& 31).toUInt32).toInt32) &&& (3 : Int32))), .val .null, .unset, .unset, .unset, .unset] []))
          refine Go.st (fun _ k' => XS.aload X17.here hx rfl (hb hby at_113) rfl rfl k') ?_
          show Go p e below s _ _ _ (T17.setTop (mkF m 115 #[.val (.int la), .val (.long za), .second, .val (.int lb), .val (.long zb), .second, .val (.int sel), .val (.int mm), .val (.long yy), .second, .val (.ref b3), .val (.ref b10), .val (.int (feq mm yy la za)), .val (.int (((sel.toUInt32 >>> ((2 : Int32) &&& 31).toUInt32).toInt32) &&& (3 : Int32))), .val .null, .unset, .unset, .unset, .unset] [(.ref b3)]))
          refine Go.st (fun _ k' => XS.aload X17.here hx rfl (hb hby at_115) rfl rfl k') ?_
          show Go p e below s _ _ _ (T17.setTop (mkF m 117 #[.val (.int la), .val (.long za), .second, .val (.int lb), .val (.long zb), .second, .val (.int sel), .val (.int mm), .val (.long yy), .second, .val (.ref b3), .val (.ref b10), .val (.int (feq mm yy la za)), .val (.int (((sel.toUInt32 >>> ((2 : Int32) &&& 31).toUInt32).toInt32) &&& (3 : Int32))), .val .null, .unset, .unset, .unset, .unset] [(.ref b10), (.ref b3)]))
          obtain ⟨cq26, kq26, q26a, q26b, q26c⟩ := isOf hZ rfl f20
          obtain ⟨_, _, ⟨T26, L26, k26, n26⟩, -, X26, ⟨Lc26, hQ26, l26, y26, z26⟩, st26⟩ := X17.virtualBack hx (y := (⟨"com/example/exact_quorum/exactquorum/server/Election$Vote", "equals", "(Ljava/lang/Object;)Z"⟩ : MethodName)) (z := (⟨"com/example/exact_quorum/exactquorum/server/Election$Vote", "equals", "(Ljava/lang/Object;)Z"⟩ : MethodName)) hown (mvT hZ (wdx hw 13 rfl)) (mvT hZ (wdx hw 14 rfl)) (notFace_of_selects (args := #[]) (mvT hZ (wdx hw 16 rfl))) (mvT hZ (wdx hw 16 rfl)) (mvT hZ (wdx hw 15 rfl)) (by decide) (backOf (W := 0) (rm3 l Z a0 hw [] b3 b10 la za mm yy T17.heap n0 O17 f23 f21 f22 f18 f19) hZ (wdx hw 17 rfl) (wdx hw 2 rfl) (by decide) (by decide)) q26a q26c (g := (mkF m 117 #[.val (.int la), .val (.long za), .second, .val (.int lb), .val (.long zb), .second, .val (.int sel), .val (.int mm), .val (.long yy), .second, .val (.ref b3), .val (.ref b10), .val (.int (feq mm yy la za)), .val (.int (((sel.toUInt32 >>> ((2 : Int32) &&& 31).toUInt32).toInt32) &&& (3 : Int32))), .val .null, .unset, .unset, .unset, .unset] [(.ref b10), (.ref b3)])) rfl (by rw [hml]; rfl) (Steps.refl _) (argsL := [(.ref b10)]) (rest := []) (lenOf pd__Ljava_lang_Object__Z rfl) rfl (by show 2 * 0 + _ ≤ _; exact Nat.le_of_eq rfl) (hb hby at_117) (fun _ _ => ⟨rfl, rfl, (by exact Nat.le_of_ble_eq_true rfl), (by exact Nat.le_of_ble_eq_true rfl)⟩)
          dsimp only [Pt.U, Pt.locs, Pt.cells, Pt.slots] at X26 l26 y26 z26 st26 hQ26
          subst l26 y26 z26
          obtain ⟨rfl, Nq26, eq26⟩ := hQ26
          have N26 := Fr.app N17 Nq26
          refine Go.tr st26 ?_
          show Go p e below s _ _ _ (T26.setTop (mkF m 120 #[.val (.int la), .val (.long za), .second, .val (.int lb), .val (.long zb), .second, .val (.int sel), .val (.int mm), .val (.long yy), .second, .val (.ref b3), .val (.ref b10), .val (.int (feq mm yy la za)), .val (.int (((sel.toUInt32 >>> ((2 : Int32) &&& 31).toUInt32).toInt32) &&& (3 : Int32))), .val .null, .unset, .unset, .unset, .unset] [(.int (feq la za mm yy))]))
          refine Go.st (fun _ k' => XS.istore X26.here hx rfl (hb hby at_120) rfl (l' := #[.val (.int la), .val (.long za), .second, .val (.int lb), .val (.long zb), .second, .val (.int sel), .val (.int mm), .val (.long yy), .second, .val (.ref b3), .val (.ref b10), .val (.int (feq mm yy la za)), .val (.int (((sel.toUInt32 >>> ((2 : Int32) &&& 31).toUInt32).toInt32) &&& (3 : Int32))), .val .null, .val (.int (feq la za mm yy)), .unset, .unset, .unset]) rfl k') ?_
          show Go p e below s _ _ _ (T26.setTop (mkF m 122 #[.val (.int la), .val (.long za), .second, .val (.int lb), .val (.long zb), .second, .val (.int sel), .val (.int mm), .val (.long yy), .second, .val (.ref b3), .val (.ref b10), .val (.int (feq mm yy la za)), .val (.int (((sel.toUInt32 >>> ((2 : Int32) &&& 31).toUInt32).toInt32) &&& (3 : Int32))), .val .null, .val (.int (feq la za mm yy)), .unset, .unset, .unset] []))
          refine Go.st (fun _ k' => XS.aload X26.here hx rfl (hb hby at_122) rfl rfl k') ?_
          show Go p e below s _ _ _ (T26.setTop (mkF m 124 #[.val (.int la), .val (.long za), .second, .val (.int lb), .val (.long zb), .second, .val (.int sel), .val (.int mm), .val (.long yy), .second, .val (.ref b3), .val (.ref b10), .val (.int (feq mm yy la za)), .val (.int (((sel.toUInt32 >>> ((2 : Int32) &&& 31).toUInt32).toInt32) &&& (3 : Int32))), .val .null, .val (.int (feq la za mm yy)), .unset, .unset, .unset] [(.ref b10)]))
          refine Go.st (fun _ k' => XS.aload X26.here hx rfl (hb hby at_124) rfl rfl k') ?_
          show Go p e below s _ _ _ (T26.setTop (mkF m 126 #[.val (.int la), .val (.long za), .second, .val (.int lb), .val (.long zb), .second, .val (.int sel), .val (.int mm), .val (.long yy), .second, .val (.ref b3), .val (.ref b10), .val (.int (feq mm yy la za)), .val (.int (((sel.toUInt32 >>> ((2 : Int32) &&& 31).toUInt32).toInt32) &&& (3 : Int32))), .val .null, .val (.int (feq la za mm yy)), .unset, .unset, .unset] [(.ref b3), (.ref b10)]))
          obtain ⟨cq27, kq27, q27a, q27b, q27c⟩ := isOf hZ eq26 f23
          obtain ⟨_, _, ⟨T27, L27, k27, n27⟩, -, X27, ⟨Lc27, hQ27, l27, y27, z27⟩, st27⟩ := X26.virtualBack hx (y := (⟨"com/example/exact_quorum/exactquorum/server/Election$Vote", "equals", "(Ljava/lang/Object;)Z"⟩ : MethodName)) (z := (⟨"com/example/exact_quorum/exactquorum/server/Election$Vote", "equals", "(Ljava/lang/Object;)Z"⟩ : MethodName)) hown (mvT hZ (wdx hw 13 rfl)) (mvT hZ (wdx hw 14 rfl)) (notFace_of_selects (args := #[]) (mvT hZ (wdx hw 16 rfl))) (mvT hZ (wdx hw 16 rfl)) (mvT hZ (wdx hw 15 rfl)) (by decide) (backOf (W := 0) (rm3 l Z a0 hw [] b10 b3 mm yy la za T17.heap n0 O17 f20 f18 f19 f21 f22) hZ (wdx hw 17 rfl) (wdx hw 2 rfl) (by decide) (by decide)) q27a q27c (g := (mkF m 126 #[.val (.int la), .val (.long za), .second, .val (.int lb), .val (.long zb), .second, .val (.int sel), .val (.int mm), .val (.long yy), .second, .val (.ref b3), .val (.ref b10), .val (.int (feq mm yy la za)), .val (.int (((sel.toUInt32 >>> ((2 : Int32) &&& 31).toUInt32).toInt32) &&& (3 : Int32))), .val .null, .val (.int (feq la za mm yy)), .unset, .unset, .unset] [(.ref b3), (.ref b10)])) rfl (by rw [hml]; rfl) (Steps.refl _) (argsL := [(.ref b3)]) (rest := []) (lenOf pd__Ljava_lang_Object__Z rfl) rfl (by show 2 * 0 + _ ≤ _; exact Nat.le_of_eq rfl) (hb hby at_126) (fun _ _ => ⟨rfl, eq26, (by exact Nat.le_of_ble_eq_true rfl), (by exact Nat.le_of_ble_eq_true rfl)⟩)
          dsimp only [Pt.U, Pt.locs, Pt.cells, Pt.slots] at X27 l27 y27 z27 st27 hQ27
          subst l27 y27 z27
          obtain ⟨rfl, Nq27, eq27⟩ := hQ27
          have N27 := Fr.app N26 Nq27
          refine Go.tr st27 ?_
          show Go p e below s _ _ _ (T27.setTop (mkF m 129 #[.val (.int la), .val (.long za), .second, .val (.int lb), .val (.long zb), .second, .val (.int sel), .val (.int mm), .val (.long yy), .second, .val (.ref b3), .val (.ref b10), .val (.int (feq mm yy la za)), .val (.int (((sel.toUInt32 >>> ((2 : Int32) &&& 31).toUInt32).toInt32) &&& (3 : Int32))), .val .null, .val (.int (feq la za mm yy)), .unset, .unset, .unset] [(.int (feq mm yy la za))]))
          refine Go.st (fun _ k' => XS.istore X27.here hx rfl (hb hby at_129) rfl (l' := #[.val (.int la), .val (.long za), .second, .val (.int lb), .val (.long zb), .second, .val (.int sel), .val (.int mm), .val (.long yy), .second, .val (.ref b3), .val (.ref b10), .val (.int (feq mm yy la za)), .val (.int (((sel.toUInt32 >>> ((2 : Int32) &&& 31).toUInt32).toInt32) &&& (3 : Int32))), .val .null, .val (.int (feq la za mm yy)), .val (.int (feq mm yy la za)), .unset, .unset]) rfl k') ?_
          show Go p e below s _ _ _ (T27.setTop (mkF m 131 #[.val (.int la), .val (.long za), .second, .val (.int lb), .val (.long zb), .second, .val (.int sel), .val (.int mm), .val (.long yy), .second, .val (.ref b3), .val (.ref b10), .val (.int (feq mm yy la za)), .val (.int (((sel.toUInt32 >>> ((2 : Int32) &&& 31).toUInt32).toInt32) &&& (3 : Int32))), .val .null, .val (.int (feq la za mm yy)), .val (.int (feq mm yy la za)), .unset, .unset] []))
          refine Go.st (fun _ k' => XS.aload X27.here hx rfl (hb hby at_131) rfl rfl k') ?_
          show Go p e below s _ _ _ (T27.setTop (mkF m 133 #[.val (.int la), .val (.long za), .second, .val (.int lb), .val (.long zb), .second, .val (.int sel), .val (.int mm), .val (.long yy), .second, .val (.ref b3), .val (.ref b10), .val (.int (feq mm yy la za)), .val (.int (((sel.toUInt32 >>> ((2 : Int32) &&& 31).toUInt32).toInt32) &&& (3 : Int32))), .val .null, .val (.int (feq la za mm yy)), .val (.int (feq mm yy la za)), .unset, .unset] [(.ref b3)]))
          refine Go.st (fun _ k' => XS.aload X27.here hx rfl (hb hby at_133) rfl rfl k') ?_
          show Go p e below s _ _ _ (T27.setTop (mkF m 135 #[.val (.int la), .val (.long za), .second, .val (.int lb), .val (.long zb), .second, .val (.int sel), .val (.int mm), .val (.long yy), .second, .val (.ref b3), .val (.ref b10), .val (.int (feq mm yy la za)), .val (.int (((sel.toUInt32 >>> ((2 : Int32) &&& 31).toUInt32).toInt32) &&& (3 : Int32))), .val .null, .val (.int (feq la za mm yy)), .val (.int (feq mm yy la za)), .unset, .unset] [(.ref b3), (.ref b3)]))
          obtain ⟨cq28, kq28, q28a, q28b, q28c⟩ := isOf hZ eq27 f20
          obtain ⟨_, _, ⟨T28, L28, k28, n28⟩, -, X28, ⟨Lc28, hQ28, l28, y28, z28⟩, st28⟩ := X27.virtualBack hx (y := (⟨"com/example/exact_quorum/exactquorum/server/Election$Vote", "equals", "(Ljava/lang/Object;)Z"⟩ : MethodName)) (z := (⟨"com/example/exact_quorum/exactquorum/server/Election$Vote", "equals", "(Ljava/lang/Object;)Z"⟩ : MethodName)) hown (mvT hZ (wdx hw 13 rfl)) (mvT hZ (wdx hw 14 rfl)) (notFace_of_selects (args := #[]) (mvT hZ (wdx hw 16 rfl))) (mvT hZ (wdx hw 16 rfl)) (mvT hZ (wdx hw 15 rfl)) (by decide) (backOf (W := 0) (rm3 l Z a0 hw [] b3 b3 la za la za T17.heap n0 O17 f20 f21 f22 f21 f22) hZ (wdx hw 17 rfl) (wdx hw 2 rfl) (by decide) (by decide)) q28a q28c (g := (mkF m 135 #[.val (.int la), .val (.long za), .second, .val (.int lb), .val (.long zb), .second, .val (.int sel), .val (.int mm), .val (.long yy), .second, .val (.ref b3), .val (.ref b10), .val (.int (feq mm yy la za)), .val (.int (((sel.toUInt32 >>> ((2 : Int32) &&& 31).toUInt32).toInt32) &&& (3 : Int32))), .val .null, .val (.int (feq la za mm yy)), .val (.int (feq mm yy la za)), .unset, .unset] [(.ref b3), (.ref b3)])) rfl (by rw [hml]; rfl) (Steps.refl _) (argsL := [(.ref b3)]) (rest := []) (lenOf pd__Ljava_lang_Object__Z rfl) rfl (by show 2 * 0 + _ ≤ _; exact Nat.le_of_eq rfl) (hb hby at_135) (fun _ _ => ⟨rfl, eq27, (by exact Nat.le_of_ble_eq_true rfl), (by exact Nat.le_of_ble_eq_true rfl)⟩)
          dsimp only [Pt.U, Pt.locs, Pt.cells, Pt.slots] at X28 l28 y28 z28 st28 hQ28
          subst l28 y28 z28
          obtain ⟨rfl, Nq28, eq28⟩ := hQ28
          have N28 := Fr.app N27 Nq28
          refine Go.tr st28 ?_
          show Go p e below s _ _ _ (T28.setTop (mkF m 138 #[.val (.int la), .val (.long za), .second, .val (.int lb), .val (.long zb), .second, .val (.int sel), .val (.int mm), .val (.long yy), .second, .val (.ref b3), .val (.ref b10), .val (.int (feq mm yy la za)), .val (.int (((sel.toUInt32 >>> ((2 : Int32) &&& 31).toUInt32).toInt32) &&& (3 : Int32))), .val .null, .val (.int (feq la za mm yy)), .val (.int (feq mm yy la za)), .unset, .unset] [(.int (feq la za la za))]))
          refine Go.st (fun _ k' => XS.istore X28.here hx rfl (hb hby at_138) rfl (l' := #[.val (.int la), .val (.long za), .second, .val (.int lb), .val (.long zb), .second, .val (.int sel), .val (.int mm), .val (.long yy), .second, .val (.ref b3), .val (.ref b10), .val (.int (feq mm yy la za)), .val (.int (((sel.toUInt32 >>> ((2 : Int32) &&& 31).toUInt32).toInt32) &&& (3 : Int32))), .val .null, .val (.int (feq la za mm yy)), .val (.int (feq mm yy la za)), .val (.int (feq la za la za)), .unset]) rfl k') ?_
          show Go p e below s _ _ _ (T28.setTop (mkF m 140 #[.val (.int la), .val (.long za), .second, .val (.int lb), .val (.long zb), .second, .val (.int sel), .val (.int mm), .val (.long yy), .second, .val (.ref b3), .val (.ref b10), .val (.int (feq mm yy la za)), .val (.int (((sel.toUInt32 >>> ((2 : Int32) &&& 31).toUInt32).toInt32) &&& (3 : Int32))), .val .null, .val (.int (feq la za mm yy)), .val (.int (feq mm yy la za)), .val (.int (feq la za la za)), .unset] []))
          refine Go.st (fun _ k' => XS.aload X28.here hx rfl (hb hby at_140) rfl rfl k') ?_
          show Go p e below s _ _ _ (T28.setTop (mkF m 142 #[.val (.int la), .val (.long za), .second, .val (.int lb), .val (.long zb), .second, .val (.int sel), .val (.int mm), .val (.long yy), .second, .val (.ref b3), .val (.ref b10), .val (.int (feq mm yy la za)), .val (.int (((sel.toUInt32 >>> ((2 : Int32) &&& 31).toUInt32).toInt32) &&& (3 : Int32))), .val .null, .val (.int (feq la za mm yy)), .val (.int (feq mm yy la za)), .val (.int (feq la za la za)), .unset] [(.ref b3)]))
          refine Go.st (fun _ k' => XS.aload X28.here hx rfl (hb hby at_142) rfl rfl k') ?_
          show Go p e below s _ _ _ (T28.setTop (mkF m 144 #[.val (.int la), .val (.long za), .second, .val (.int lb), .val (.long zb), .second, .val (.int sel), .val (.int mm), .val (.long yy), .second, .val (.ref b3), .val (.ref b10), .val (.int (feq mm yy la za)), .val (.int (((sel.toUInt32 >>> ((2 : Int32) &&& 31).toUInt32).toInt32) &&& (3 : Int32))), .val .null, .val (.int (feq la za mm yy)), .val (.int (feq mm yy la za)), .val (.int (feq la za la za)), .unset] [.null, (.ref b3)]))
          obtain ⟨cq29, kq29, q29a, q29b, q29c⟩ := isOf hZ eq28 f20
          obtain ⟨_, _, ⟨T29, L29, k29, n29⟩, -, X29, ⟨Lc29, hQ29, l29, y29, z29⟩, st29⟩ := X28.virtualBack hx (y := (⟨"com/example/exact_quorum/exactquorum/server/Election$Vote", "equals", "(Ljava/lang/Object;)Z"⟩ : MethodName)) (z := (⟨"com/example/exact_quorum/exactquorum/server/Election$Vote", "equals", "(Ljava/lang/Object;)Z"⟩ : MethodName)) hown (mvT hZ (wdx hw 13 rfl)) (mvT hZ (wdx hw 14 rfl)) (notFace_of_selects (args := #[]) (mvT hZ (wdx hw 16 rfl))) (mvT hZ (wdx hw 16 rfl)) (mvT hZ (wdx hw 15 rfl)) (by decide) (backOf (W := 0) (rm3_n l Z a0 hw [] b3 T17.heap n0 O17 ) hZ (wdx hw 17 rfl) (wdx hw 2 rfl) (by decide) (by decide)) q29a q29c (g := (mkF m 144 #[.val (.int la), .val (.long za), .second, .val (.int lb), .val (.long zb), .second, .val (.int sel), .val (.int mm), .val (.long yy), .second, .val (.ref b3), .val (.ref b10), .val (.int (feq mm yy la za)), .val (.int (((sel.toUInt32 >>> ((2 : Int32) &&& 31).toUInt32).toInt32) &&& (3 : Int32))), .val .null, .val (.int (feq la za mm yy)), .val (.int (feq mm yy la za)), .val (.int (feq la za la za)), .unset] [.null, (.ref b3)])) rfl (by rw [hml]; rfl) (Steps.refl _) (argsL := [.null]) (rest := []) (lenOf pd__Ljava_lang_Object__Z rfl) rfl (by show 2 * 0 + _ ≤ _; exact Nat.le_of_eq rfl) (hb hby at_144) (fun _ _ => ⟨rfl, eq28, (by exact Nat.le_of_ble_eq_true rfl), (by exact Nat.le_of_ble_eq_true rfl)⟩)
          dsimp only [Pt.U, Pt.locs, Pt.cells, Pt.slots] at X29 l29 y29 z29 st29 hQ29
          subst l29 y29 z29
          obtain ⟨rfl, Nq29, eq29⟩ := hQ29
          have N29 := Fr.app N28 Nq29
          refine Go.tr st29 ?_
          show Go p e below s _ _ _ (T29.setTop (mkF m 147 #[.val (.int la), .val (.long za), .second, .val (.int lb), .val (.long zb), .second, .val (.int sel), .val (.int mm), .val (.long yy), .second, .val (.ref b3), .val (.ref b10), .val (.int (feq mm yy la za)), .val (.int (((sel.toUInt32 >>> ((2 : Int32) &&& 31).toUInt32).toInt32) &&& (3 : Int32))), .val .null, .val (.int (feq la za mm yy)), .val (.int (feq mm yy la za)), .val (.int (feq la za la za)), .unset] [(.int (0 : Int32))]))
          refine Go.st (fun _ k' => XS.istore X29.here hx rfl (hb hby at_147) rfl (l' := #[.val (.int la), .val (.long za), .second, .val (.int lb), .val (.long zb), .second, .val (.int sel), .val (.int mm), .val (.long yy), .second, .val (.ref b3), .val (.ref b10), .val (.int (feq mm yy la za)), .val (.int (((sel.toUInt32 >>> ((2 : Int32) &&& 31).toUInt32).toInt32) &&& (3 : Int32))), .val .null, .val (.int (feq la za mm yy)), .val (.int (feq mm yy la za)), .val (.int (feq la za la za)), .val (.int (0 : Int32))]) rfl k') ?_
          show Go p e below s _ _ _ (T29.setTop (mkF m 149 #[.val (.int la), .val (.long za), .second, .val (.int lb), .val (.long zb), .second, .val (.int sel), .val (.int mm), .val (.long yy), .second, .val (.ref b3), .val (.ref b10), .val (.int (feq mm yy la za)), .val (.int (((sel.toUInt32 >>> ((2 : Int32) &&& 31).toUInt32).toInt32) &&& (3 : Int32))), .val .null, .val (.int (feq la za mm yy)), .val (.int (feq mm yy la za)), .val (.int (feq la za la za)), .val (.int (0 : Int32))] []))
          refine Go.st (fun _ k' => XS.iload X29.here hx rfl (hb hby at_149) rfl k') ?_
          show Go p e below s _ _ _ (T29.setTop (mkF m 151 #[.val (.int la), .val (.long za), .second, .val (.int lb), .val (.long zb), .second, .val (.int sel), .val (.int mm), .val (.long yy), .second, .val (.ref b3), .val (.ref b10), .val (.int (feq mm yy la za)), .val (.int (((sel.toUInt32 >>> ((2 : Int32) &&& 31).toUInt32).toInt32) &&& (3 : Int32))), .val .null, .val (.int (feq la za mm yy)), .val (.int (feq mm yy la za)), .val (.int (feq la za la za)), .val (.int (0 : Int32))] [(.int (feq la za mm yy))]))
          refine Go.st (fun _ k' => XS.iload X29.here hx rfl (hb hby at_151) rfl k') ?_
          show Go p e below s _ _ _ (T29.setTop (mkF m 153 #[.val (.int la), .val (.long za), .second, .val (.int lb), .val (.long zb), .second, .val (.int sel), .val (.int mm), .val (.long yy), .second, .val (.ref b3), .val (.ref b10), .val (.int (feq mm yy la za)), .val (.int (((sel.toUInt32 >>> ((2 : Int32) &&& 31).toUInt32).toInt32) &&& (3 : Int32))), .val .null, .val (.int (feq la za mm yy)), .val (.int (feq mm yy la za)), .val (.int (feq la za la za)), .val (.int (0 : Int32))] [(.int (feq mm yy la za)), (.int (feq la za mm yy))]))
          refine Go.st (fun _ k' => XS.icmpNo X29.here hx rfl (hb hby at_153) rfl (XT.ii_ne_f (own_sym _ _ _ _)) k') ?_
          show Go p e below s _ _ _ (T29.setTop (mkF m 156 #[.val (.int la), .val (.long za), .second, .val (.int lb), .val (.long zb), .second, .val (.int sel), .val (.int mm), .val (.long yy), .second, .val (.ref b3), .val (.ref b10), .val (.int (feq mm yy la za)), .val (.int (((sel.toUInt32 >>> ((2 : Int32) &&& 31).toUInt32).toInt32) &&& (3 : Int32))), .val .null, .val (.int (feq la za mm yy)), .val (.int (feq mm yy la za)), .val (.int (feq la za la za)), .val (.int (0 : Int32))] []))
          refine Go.st (fun _ k' => XS.iload X29.here hx rfl (hb hby at_156) rfl k') ?_
          show Go p e below s _ _ _ (T29.setTop (mkF m 158 #[.val (.int la), .val (.long za), .second, .val (.int lb), .val (.long zb), .second, .val (.int sel), .val (.int mm), .val (.long yy), .second, .val (.ref b3), .val (.ref b10), .val (.int (feq mm yy la za)), .val (.int (((sel.toUInt32 >>> ((2 : Int32) &&& 31).toUInt32).toInt32) &&& (3 : Int32))), .val .null, .val (.int (feq la za mm yy)), .val (.int (feq mm yy la za)), .val (.int (feq la za la za)), .val (.int (0 : Int32))] [(.int (feq mm yy la za))]))
          refine Go.st (fun _ k' => XS.iload X29.here hx rfl (hb hby at_158) rfl k') ?_
          show Go p e below s _ _ _ (T29.setTop (mkF m 160 #[.val (.int la), .val (.long za), .second, .val (.int lb), .val (.long zb), .second, .val (.int sel), .val (.int mm), .val (.long yy), .second, .val (.ref b3), .val (.ref b10), .val (.int (feq mm yy la za)), .val (.int (((sel.toUInt32 >>> ((2 : Int32) &&& 31).toUInt32).toInt32) &&& (3 : Int32))), .val .null, .val (.int (feq la za mm yy)), .val (.int (feq mm yy la za)), .val (.int (feq la za la za)), .val (.int (0 : Int32))] [(.int (feq mm yy la za)), (.int (feq mm yy la za))]))
          refine Go.st (fun _ k' => XS.icmpNo X29.here hx rfl (hb hby at_160) rfl (XT.ii_ne_f rfl) k') ?_
          show Go p e below s _ _ _ (T29.setTop (mkF m 163 #[.val (.int la), .val (.long za), .second, .val (.int lb), .val (.long zb), .second, .val (.int sel), .val (.int mm), .val (.long yy), .second, .val (.ref b3), .val (.ref b10), .val (.int (feq mm yy la za)), .val (.int (((sel.toUInt32 >>> ((2 : Int32) &&& 31).toUInt32).toInt32) &&& (3 : Int32))), .val .null, .val (.int (feq la za mm yy)), .val (.int (feq mm yy la za)), .val (.int (feq la za la za)), .val (.int (0 : Int32))] []))
          refine Go.st (fun _ k' => XS.iload X29.here hx rfl (hb hby at_163) rfl k') ?_
          show Go p e below s _ _ _ (T29.setTop (mkF m 165 #[.val (.int la), .val (.long za), .second, .val (.int lb), .val (.long zb), .second, .val (.int sel), .val (.int mm), .val (.long yy), .second, .val (.ref b3), .val (.ref b10), .val (.int (feq mm yy la za)), .val (.int (((sel.toUInt32 >>> ((2 : Int32) &&& 31).toUInt32).toInt32) &&& (3 : Int32))), .val .null, .val (.int (feq la za mm yy)), .val (.int (feq mm yy la za)), .val (.int (feq la za la za)), .val (.int (0 : Int32))] [(.int (feq la za la za))]))
          refine Go.st (fun _ k' => XS.ifNo X29.here hx rfl (hb hby at_165) rfl (XT.i0_eq_f (own_refl _ _)) k') ?_
          show Go p e below s _ _ _ (T29.setTop (mkF m 168 #[.val (.int la), .val (.long za), .second, .val (.int lb), .val (.long zb), .second, .val (.int sel), .val (.int mm), .val (.long yy), .second, .val (.ref b3), .val (.ref b10), .val (.int (feq mm yy la za)), .val (.int (((sel.toUInt32 >>> ((2 : Int32) &&& 31).toUInt32).toInt32) &&& (3 : Int32))), .val .null, .val (.int (feq la za mm yy)), .val (.int (feq mm yy la za)), .val (.int (feq la za la za)), .val (.int (0 : Int32))] []))
          refine Go.st (fun _ k' => XS.iload X29.here hx rfl (hb hby at_168) rfl k') ?_
          show Go p e below s _ _ _ (T29.setTop (mkF m 170 #[.val (.int la), .val (.long za), .second, .val (.int lb), .val (.long zb), .second, .val (.int sel), .val (.int mm), .val (.long yy), .second, .val (.ref b3), .val (.ref b10), .val (.int (feq mm yy la za)), .val (.int (((sel.toUInt32 >>> ((2 : Int32) &&& 31).toUInt32).toInt32) &&& (3 : Int32))), .val .null, .val (.int (feq la za mm yy)), .val (.int (feq mm yy la za)), .val (.int (feq la za la za)), .val (.int (0 : Int32))] [(.int (0 : Int32))]))
          refine Go.st (fun _ k' => XS.ifNo X29.here hx rfl (hb hby at_170) rfl (XT.i0_ne_f (by decide)) k') ?_
          show Go p e below s _ _ _ (T29.setTop (mkF m 173 #[.val (.int la), .val (.long za), .second, .val (.int lb), .val (.long zb), .second, .val (.int sel), .val (.int mm), .val (.long yy), .second, .val (.ref b3), .val (.ref b10), .val (.int (feq mm yy la za)), .val (.int (((sel.toUInt32 >>> ((2 : Int32) &&& 31).toUInt32).toInt32) &&& (3 : Int32))), .val .null, .val (.int (feq la za mm yy)), .val (.int (feq mm yy la za)), .val (.int (feq la za la za)), .val (.int (0 : Int32))] []))
          refine Go.st (fun _ k' => XS.iconst X29.here hx rfl (hb hby at_173) k') ?_
          show Go p e below s _ _ _ (T29.setTop (mkF m 174 #[.val (.int la), .val (.long za), .second, .val (.int lb), .val (.long zb), .second, .val (.int sel), .val (.int mm), .val (.long yy), .second, .val (.ref b3), .val (.ref b10), .val (.int (feq mm yy la za)), .val (.int (((sel.toUInt32 >>> ((2 : Int32) &&& 31).toUInt32).toInt32) &&& (3 : Int32))), .val .null, .val (.int (feq la za mm yy)), .val (.int (feq mm yy la za)), .val (.int (feq la za la za)), .val (.int (0 : Int32))] [(.int (1 : Int32))]))
          refine Go.st (fun _ k' => XS.goto X29.here hx rfl (pc0 := 174) (pc' := 178) rfl (hb hby at_174) (by decide) (by decide) k') ?_
          show Go p e below s _ _ _ (T29.setTop (mkF m 178 #[.val (.int la), .val (.long za), .second, .val (.int lb), .val (.long zb), .second, .val (.int sel), .val (.int mm), .val (.long yy), .second, .val (.ref b3), .val (.ref b10), .val (.int (feq mm yy la za)), .val (.int (((sel.toUInt32 >>> ((2 : Int32) &&& 31).toUInt32).toInt32) &&& (3 : Int32))), .val .null, .val (.int (feq la za mm yy)), .val (.int (feq mm yy la za)), .val (.int (feq la za la za)), .val (.int (0 : Int32))] [(.int (1 : Int32))]))
          refine Go.retB X29 hx hlk (t := .boolean) Bd.returns (by simp) (hb hby at_178) (by decide) (by decide) eq29 ?_
          exact ⟨rfl, N29, trivial⟩
        · refine Go.st (fun _ k' => XS.ifYes X17.here hx rfl (pc0 := 83) (pc' := 92) rfl (hb hby at_83) rfl (XT.i0_ne_t hc25) (by decide) (by decide) k') ?_
          show Go p e below s _ _ _ (T17.setTop (mkF m 92 #[.val (.int la), .val (.long za), .second, .val (.int lb), .val (.long zb), .second, .val (.int sel), .val (.int mm), .val (.long yy), .second, .val (.ref b3), .val (.ref b10), .val (.int (feq mm yy la za)), .val (.int (((sel.toUInt32 >>> ((2 : Int32) &&& 31).toUInt32).toInt32) &&& (3 : Int32))), .unset, .unset, .unset, .unset, .unset] []))
          refine Go.st (fun _ k' => XS.iload X17.here hx rfl (hb hby at_92) rfl k') ?_
          show Go p e below s _ _ _ (T17.setTop (mkF m 94 #[.val (.int la), .val (.long za), .second, .val (.int lb), .val (.long zb), .second, .val (.int sel), .val (.int mm), .val (.long yy), .second, .val (.ref b3), .val (.ref b10), .val (.int (feq mm yy la za)), .val (.int (((sel.toUInt32 >>> ((2 : Int32) &&& 31).toUInt32).toInt32) &&& (3 : Int32))), .unset, .unset, .unset, .unset, .unset] [(.int (((sel.toUInt32 >>> ((2 : Int32) &&& 31).toUInt32).toInt32) &&& (3 : Int32)))]))
          refine Go.st (fun _ k' => XS.iconst X17.here hx rfl (hb hby at_94) k') ?_
          show Go p e below s _ _ _ (T17.setTop (mkF m 95 #[.val (.int la), .val (.long za), .second, .val (.int lb), .val (.long zb), .second, .val (.int sel), .val (.int mm), .val (.long yy), .second, .val (.ref b3), .val (.ref b10), .val (.int (feq mm yy la za)), .val (.int (((sel.toUInt32 >>> ((2 : Int32) &&& 31).toUInt32).toInt32) &&& (3 : Int32))), .unset, .unset, .unset, .unset, .unset] [(.int (1 : Int32)), (.int (((sel.toUInt32 >>> ((2 : Int32) &&& 31).toUInt32).toInt32) &&& (3 : Int32)))]))
          by_cases hc30 : (((sel.toUInt32 >>> ((2 : Int32) &&& 31).toUInt32).toInt32) &&& (3 : Int32)) = (1 : Int32)
          · refine Go.st (fun _ k' => XS.icmpNo X17.here hx rfl (hb hby at_95) rfl (XT.ii_ne_f hc30) k') ?_
            show Go p e below s _ _ _ (T17.setTop (mkF m 98 #[.val (.int la), .val (.long za), .second, .val (.int lb), .val (.long zb), .second, .val (.int sel), .val (.int mm), .val (.long yy), .second, .val (.ref b3), .val (.ref b10), .val (.int (feq mm yy la za)), .val (.int (((sel.toUInt32 >>> ((2 : Int32) &&& 31).toUInt32).toInt32) &&& (3 : Int32))), .unset, .unset, .unset, .unset, .unset] []))
            refine Go.st (fun _ k' => XS.lloadN X17.here hx rfl (hb hby at_98) rfl k') ?_
            show Go p e below s _ _ _ (T17.setTop (mkF m 99 #[.val (.int la), .val (.long za), .second, .val (.int lb), .val (.long zb), .second, .val (.int sel), .val (.int mm), .val (.long yy), .second, .val (.ref b3), .val (.ref b10), .val (.int (feq mm yy la za)), .val (.int (((sel.toUInt32 >>> ((2 : Int32) &&& 31).toUInt32).toInt32) &&& (3 : Int32))), .unset, .unset, .unset, .unset, .unset] [(.long za)]))
            obtain ⟨_, _, ⟨T31, L31, k31, n31⟩, -, X31, ⟨Lc31, hQ31, l31, y31, z31⟩, st31⟩ := Jvm.LawKit.callS X17 hx (y := (⟨"java/lang/Long", "valueOf", "(J)Ljava/lang/Long;"⟩ : MethodName)) hown (mvT hZ (wdx hw 45 rfl)) (mvT hZ (wdx hw 46 rfl)) (mvT hZ (wdx hw 47 rfl)) (mvT hZ (wdx hw 48 rfl)) (by decide) (backOf (W := 0) (rm7 l Z a0 hw [] za cc cd T17.heap n0 O17 S_cl By) hZ (wdx hw 48 rfl) (wdx hw 47 rfl) (by decide) (by decide)) (g := (mkF m 99 #[.val (.int la), .val (.long za), .second, .val (.int lb), .val (.long zb), .second, .val (.int sel), .val (.int mm), .val (.long yy), .second, .val (.ref b3), .val (.ref b10), .val (.int (feq mm yy la za)), .val (.int (((sel.toUInt32 >>> ((2 : Int32) &&& 31).toUInt32).toInt32) &&& (3 : Int32))), .unset, .unset, .unset, .unset, .unset] [(.long za)])) rfl (by rw [hml]; rfl) (argsL := [(.long za)]) (rest := []) (lenOf pd__J_Ljava_lang_Long_ rfl) rfl (by show 2 * 0 + _ ≤ _; exact Nat.le_of_eq rfl) (hb hby at_99) (fun _ _ => ⟨rfl, rfl, (by exact Nat.le_of_ble_eq_true rfl), (by exact Nat.le_of_ble_eq_true rfl)⟩)
            dsimp only [Pt.U, Pt.locs, Pt.cells, Pt.slots] at X31 l31 y31 z31 st31 hQ31
            subst l31 y31 z31
            obtain ⟨rr_31, rfl, Nq31, Kq31, f32⟩ := hQ31
            have N31 := Fr.app N17 Nq31
            refine Go.st st31 ?_
            have f33 : Exa Z T31.heap b3 "com/example/exact_quorum/exactquorum/server/Election$Vote" := f20.keep Kq31
            have f34 : Fld Z T31.heap b3 "com/example/exact_quorum/exactquorum/server/Election$Vote" "leader" "I" (.int la) := f21.keep Kq31 nin0
            have f35 : Fld Z T31.heap b3 "com/example/exact_quorum/exactquorum/server/Election$Vote" "zxid" "J" (.long za) := f22.keep Kq31 nin0
            have f36 : Exa Z T31.heap b10 "com/example/exact_quorum/exactquorum/server/Election$Vote" := f23.keep Kq31
            have f37 : Fld Z T31.heap b10 "com/example/exact_quorum/exactquorum/server/Election$Vote" "leader" "I" (.int mm) := f18.keep Kq31 nin0
            have f38 : Fld Z T31.heap b10 "com/example/exact_quorum/exactquorum/server/Election$Vote" "zxid" "J" (.long yy) := f19.keep Kq31 nin0
            have O31 : Old Z n0 T31.heap := O17.keep Kq31 all0
            show Go p e below s _ _ _ (T31.setTop (mkF m 102 #[.val (.int la), .val (.long za), .second, .val (.int lb), .val (.long zb), .second, .val (.int sel), .val (.int mm), .val (.long yy), .second, .val (.ref b3), .val (.ref b10), .val (.int (feq mm yy la za)), .val (.int (((sel.toUInt32 >>> ((2 : Int32) &&& 31).toUInt32).toInt32) &&& (3 : Int32))), .unset, .unset, .unset, .unset, .unset] [(.ref rr_31)]))
            refine Go.st (fun _ k' => XS.astore X31.here hx rfl (hb hby at_102) rfl rfl (l' := #[.val (.int la), .val (.long za), .second, .val (.int lb), .val (.long zb), .second, .val (.int sel), .val (.int mm), .val (.long yy), .second, .val (.ref b3), .val (.ref b10), .val (.int (feq mm yy la za)), .val (.int (((sel.toUInt32 >>> ((2 : Int32) &&& 31).toUInt32).toInt32) &&& (3 : Int32))), .val (.ref rr_31), .unset, .unset, .unset, .unset]) rfl k') ?_
            show Go p e below s _ _ _ (T31.setTop (mkF m 104 #[.val (.int la), .val (.long za), .second, .val (.int lb), .val (.long zb), .second, .val (.int sel), .val (.int mm), .val (.long yy), .second, .val (.ref b3), .val (.ref b10), .val (.int (feq mm yy la za)), .val (.int (((sel.toUInt32 >>> ((2 : Int32) &&& 31).toUInt32).toInt32) &&& (3 : Int32))), .val (.ref rr_31), .unset, .unset, .unset, .unset] []))
            refine Go.st (fun _ k' => XS.goto X31.here hx rfl (pc0 := 104) (pc' := 113) rfl (hb hby at_104) (by decide) (by decide) k') ?_
            show Go p e below s _ _ _ (T31.setTop (mkF m 113 #[.val (.int la), .val (.long za), .second, .val (.int lb), .val (.long zb), .second, .val (.int sel), .val (.int mm), .val (.long yy), .second, .val (.ref b3), .val (.ref b10), .val (.int (feq mm yy la za)), .val (.int (((sel.toUInt32 >>> ((2 : Int32) &&& 31).toUInt32).toInt32) &&& (3 : Int32))), .val (.ref rr_31), .unset, .unset, .unset, .unset] []))
            refine Go.st (fun _ k' => XS.aload X31.here hx rfl (hb hby at_113) rfl rfl k') ?_
            show Go p e below s _ _ _ (T31.setTop (mkF m 115 #[.val (.int la), .val (.long za), .second, .val (.int lb), .val (.long zb), .second, .val (.int sel), .val (.int mm), .val (.long yy), .second, .val (.ref b3), .val (.ref b10), .val (.int (feq mm yy la za)), .val (.int (((sel.toUInt32 >>> ((2 : Int32) &&& 31).toUInt32).toInt32) &&& (3 : Int32))), .val (.ref rr_31), .unset, .unset, .unset, .unset] [(.ref b3)]))
            refine Go.st (fun _ k' => XS.aload X31.here hx rfl (hb hby at_115) rfl rfl k') ?_
            show Go p e below s _ _ _ (T31.setTop (mkF m 117 #[.val (.int la), .val (.long za), .second, .val (.int lb), .val (.long zb), .second, .val (.int sel), .val (.int mm), .val (.long yy), .second, .val (.ref b3), .val (.ref b10), .val (.int (feq mm yy la za)), .val (.int (((sel.toUInt32 >>> ((2 : Int32) &&& 31).toUInt32).toInt32) &&& (3 : Int32))), .val (.ref rr_31), .unset, .unset, .unset, .unset] [(.ref b10), (.ref b3)]))
            obtain ⟨cq39, kq39, q39a, q39b, q39c⟩ := isOf hZ rfl f33
            obtain ⟨_, _, ⟨T39, L39, k39, n39⟩, -, X39, ⟨Lc39, hQ39, l39, y39, z39⟩, st39⟩ := X31.virtualBack hx (y := (⟨"com/example/exact_quorum/exactquorum/server/Election$Vote", "equals", "(Ljava/lang/Object;)Z"⟩ : MethodName)) (z := (⟨"com/example/exact_quorum/exactquorum/server/Election$Vote", "equals", "(Ljava/lang/Object;)Z"⟩ : MethodName)) hown (mvT hZ (wdx hw 13 rfl)) (mvT hZ (wdx hw 14 rfl)) (notFace_of_selects (args := #[]) (mvT hZ (wdx hw 16 rfl))) (mvT hZ (wdx hw 16 rfl)) (mvT hZ (wdx hw 15 rfl)) (by decide) (backOf (W := 0) (rm3 l Z a0 hw [] b3 b10 la za mm yy T31.heap n0 O31 f36 f34 f35 f37 f38) hZ (wdx hw 17 rfl) (wdx hw 2 rfl) (by decide) (by decide)) q39a q39c (g := (mkF m 117 #[.val (.int la), .val (.long za), .second, .val (.int lb), .val (.long zb), .second, .val (.int sel), .val (.int mm), .val (.long yy), .second, .val (.ref b3), .val (.ref b10), .val (.int (feq mm yy la za)), .val (.int (((sel.toUInt32 >>> ((2 : Int32) &&& 31).toUInt32).toInt32) &&& (3 : Int32))), .val (.ref rr_31), .unset, .unset, .unset, .unset] [(.ref b10), (.ref b3)])) rfl (by rw [hml]; rfl) (Steps.refl _) (argsL := [(.ref b10)]) (rest := []) (lenOf pd__Ljava_lang_Object__Z rfl) rfl (by show 2 * 0 + _ ≤ _; exact Nat.le_of_eq rfl) (hb hby at_117) (fun _ _ => ⟨rfl, rfl, (by exact Nat.le_of_ble_eq_true rfl), (by exact Nat.le_of_ble_eq_true rfl)⟩)
            dsimp only [Pt.U, Pt.locs, Pt.cells, Pt.slots] at X39 l39 y39 z39 st39 hQ39
            subst l39 y39 z39
            obtain ⟨rfl, Nq39, eq39⟩ := hQ39
            have N39 := Fr.app N31 Nq39
            refine Go.tr st39 ?_
            show Go p e below s _ _ _ (T39.setTop (mkF m 120 #[.val (.int la), .val (.long za), .second, .val (.int lb), .val (.long zb), .second, .val (.int sel), .val (.int mm), .val (.long yy), .second, .val (.ref b3), .val (.ref b10), .val (.int (feq mm yy la za)), .val (.int (((sel.toUInt32 >>> ((2 : Int32) &&& 31).toUInt32).toInt32) &&& (3 : Int32))), .val (.ref rr_31), .unset, .unset, .unset, .unset] [(.int (feq la za mm yy))]))
            refine Go.st (fun _ k' => XS.istore X39.here hx rfl (hb hby at_120) rfl (l' := #[.val (.int la), .val (.long za), .second, .val (.int lb), .val (.long zb), .second, .val (.int sel), .val (.int mm), .val (.long yy), .second, .val (.ref b3), .val (.ref b10), .val (.int (feq mm yy la za)), .val (.int (((sel.toUInt32 >>> ((2 : Int32) &&& 31).toUInt32).toInt32) &&& (3 : Int32))), .val (.ref rr_31), .val (.int (feq la za mm yy)), .unset, .unset, .unset]) rfl k') ?_
            show Go p e below s _ _ _ (T39.setTop (mkF m 122 #[.val (.int la), .val (.long za), .second, .val (.int lb), .val (.long zb), .second, .val (.int sel), .val (.int mm), .val (.long yy), .second, .val (.ref b3), .val (.ref b10), .val (.int (feq mm yy la za)), .val (.int (((sel.toUInt32 >>> ((2 : Int32) &&& 31).toUInt32).toInt32) &&& (3 : Int32))), .val (.ref rr_31), .val (.int (feq la za mm yy)), .unset, .unset, .unset] []))
            refine Go.st (fun _ k' => XS.aload X39.here hx rfl (hb hby at_122) rfl rfl k') ?_
            show Go p e below s _ _ _ (T39.setTop (mkF m 124 #[.val (.int la), .val (.long za), .second, .val (.int lb), .val (.long zb), .second, .val (.int sel), .val (.int mm), .val (.long yy), .second, .val (.ref b3), .val (.ref b10), .val (.int (feq mm yy la za)), .val (.int (((sel.toUInt32 >>> ((2 : Int32) &&& 31).toUInt32).toInt32) &&& (3 : Int32))), .val (.ref rr_31), .val (.int (feq la za mm yy)), .unset, .unset, .unset] [(.ref b10)]))
            refine Go.st (fun _ k' => XS.aload X39.here hx rfl (hb hby at_124) rfl rfl k') ?_
            show Go p e below s _ _ _ (T39.setTop (mkF m 126 #[.val (.int la), .val (.long za), .second, .val (.int lb), .val (.long zb), .second, .val (.int sel), .val (.int mm), .val (.long yy), .second, .val (.ref b3), .val (.ref b10), .val (.int (feq mm yy la za)), .val (.int (((sel.toUInt32 >>> ((2 : Int32) &&& 31).toUInt32).toInt32) &&& (3 : Int32))), .val (.ref rr_31), .val (.int (feq la za mm yy)), .unset, .unset, .unset] [(.ref b3), (.ref b10)]))
            obtain ⟨cq40, kq40, q40a, q40b, q40c⟩ := isOf hZ eq39 f36
            obtain ⟨_, _, ⟨T40, L40, k40, n40⟩, -, X40, ⟨Lc40, hQ40, l40, y40, z40⟩, st40⟩ := X39.virtualBack hx (y := (⟨"com/example/exact_quorum/exactquorum/server/Election$Vote", "equals", "(Ljava/lang/Object;)Z"⟩ : MethodName)) (z := (⟨"com/example/exact_quorum/exactquorum/server/Election$Vote", "equals", "(Ljava/lang/Object;)Z"⟩ : MethodName)) hown (mvT hZ (wdx hw 13 rfl)) (mvT hZ (wdx hw 14 rfl)) (notFace_of_selects (args := #[]) (mvT hZ (wdx hw 16 rfl))) (mvT hZ (wdx hw 16 rfl)) (mvT hZ (wdx hw 15 rfl)) (by decide) (backOf (W := 0) (rm3 l Z a0 hw [] b10 b3 mm yy la za T31.heap n0 O31 f33 f37 f38 f34 f35) hZ (wdx hw 17 rfl) (wdx hw 2 rfl) (by decide) (by decide)) q40a q40c (g := (mkF m 126 #[.val (.int la), .val (.long za), .second, .val (.int lb), .val (.long zb), .second, .val (.int sel), .val (.int mm), .val (.long yy), .second, .val (.ref b3), .val (.ref b10), .val (.int (feq mm yy la za)), .val (.int (((sel.toUInt32 >>> ((2 : Int32) &&& 31).toUInt32).toInt32) &&& (3 : Int32))), .val (.ref rr_31), .val (.int (feq la za mm yy)), .unset, .unset, .unset] [(.ref b3), (.ref b10)])) rfl (by rw [hml]; rfl) (Steps.refl _) (argsL := [(.ref b3)]) (rest := []) (lenOf pd__Ljava_lang_Object__Z rfl) rfl (by show 2 * 0 + _ ≤ _; exact Nat.le_of_eq rfl) (hb hby at_126) (fun _ _ => ⟨rfl, eq39, (by exact Nat.le_of_ble_eq_true rfl), (by exact Nat.le_of_ble_eq_true rfl)⟩)
            dsimp only [Pt.U, Pt.locs, Pt.cells, Pt.slots] at X40 l40 y40 z40 st40 hQ40
            subst l40 y40 z40
            obtain ⟨rfl, Nq40, eq40⟩ := hQ40
            have N40 := Fr.app N39 Nq40
            refine Go.tr st40 ?_
            show Go p e below s _ _ _ (T40.setTop (mkF m 129 #[.val (.int la), .val (.long za), .second, .val (.int lb), .val (.long zb), .second, .val (.int sel), .val (.int mm), .val (.long yy), .second, .val (.ref b3), .val (.ref b10), .val (.int (feq mm yy la za)), .val (.int (((sel.toUInt32 >>> ((2 : Int32) &&& 31).toUInt32).toInt32) &&& (3 : Int32))), .val (.ref rr_31), .val (.int (feq la za mm yy)), .unset, .unset, .unset] [(.int (feq mm yy la za))]))
            refine Go.st (fun _ k' => XS.istore X40.here hx rfl (hb hby at_129) rfl (l' := #[.val (.int la), .val (.long za), .second, .val (.int lb), .val (.long zb), .second, .val (.int sel), .val (.int mm), .val (.long yy), .second, .val (.ref b3), .val (.ref b10), .val (.int (feq mm yy la za)), .val (.int (((sel.toUInt32 >>> ((2 : Int32) &&& 31).toUInt32).toInt32) &&& (3 : Int32))), .val (.ref rr_31), .val (.int (feq la za mm yy)), .val (.int (feq mm yy la za)), .unset, .unset]) rfl k') ?_
            show Go p e below s _ _ _ (T40.setTop (mkF m 131 #[.val (.int la), .val (.long za), .second, .val (.int lb), .val (.long zb), .second, .val (.int sel), .val (.int mm), .val (.long yy), .second, .val (.ref b3), .val (.ref b10), .val (.int (feq mm yy la za)), .val (.int (((sel.toUInt32 >>> ((2 : Int32) &&& 31).toUInt32).toInt32) &&& (3 : Int32))), .val (.ref rr_31), .val (.int (feq la za mm yy)), .val (.int (feq mm yy la za)), .unset, .unset] []))
            refine Go.st (fun _ k' => XS.aload X40.here hx rfl (hb hby at_131) rfl rfl k') ?_
            show Go p e below s _ _ _ (T40.setTop (mkF m 133 #[.val (.int la), .val (.long za), .second, .val (.int lb), .val (.long zb), .second, .val (.int sel), .val (.int mm), .val (.long yy), .second, .val (.ref b3), .val (.ref b10), .val (.int (feq mm yy la za)), .val (.int (((sel.toUInt32 >>> ((2 : Int32) &&& 31).toUInt32).toInt32) &&& (3 : Int32))), .val (.ref rr_31), .val (.int (feq la za mm yy)), .val (.int (feq mm yy la za)), .unset, .unset] [(.ref b3)]))
            refine Go.st (fun _ k' => XS.aload X40.here hx rfl (hb hby at_133) rfl rfl k') ?_
            show Go p e below s _ _ _ (T40.setTop (mkF m 135 #[.val (.int la), .val (.long za), .second, .val (.int lb), .val (.long zb), .second, .val (.int sel), .val (.int mm), .val (.long yy), .second, .val (.ref b3), .val (.ref b10), .val (.int (feq mm yy la za)), .val (.int (((sel.toUInt32 >>> ((2 : Int32) &&& 31).toUInt32).toInt32) &&& (3 : Int32))), .val (.ref rr_31), .val (.int (feq la za mm yy)), .val (.int (feq mm yy la za)), .unset, .unset] [(.ref b3), (.ref b3)]))
            obtain ⟨cq41, kq41, q41a, q41b, q41c⟩ := isOf hZ eq40 f33
            obtain ⟨_, _, ⟨T41, L41, k41, n41⟩, -, X41, ⟨Lc41, hQ41, l41, y41, z41⟩, st41⟩ := X40.virtualBack hx (y := (⟨"com/example/exact_quorum/exactquorum/server/Election$Vote", "equals", "(Ljava/lang/Object;)Z"⟩ : MethodName)) (z := (⟨"com/example/exact_quorum/exactquorum/server/Election$Vote", "equals", "(Ljava/lang/Object;)Z"⟩ : MethodName)) hown (mvT hZ (wdx hw 13 rfl)) (mvT hZ (wdx hw 14 rfl)) (notFace_of_selects (args := #[]) (mvT hZ (wdx hw 16 rfl))) (mvT hZ (wdx hw 16 rfl)) (mvT hZ (wdx hw 15 rfl)) (by decide) (backOf (W := 0) (rm3 l Z a0 hw [] b3 b3 la za la za T31.heap n0 O31 f33 f34 f35 f34 f35) hZ (wdx hw 17 rfl) (wdx hw 2 rfl) (by decide) (by decide)) q41a q41c (g := (mkF m 135 #[.val (.int la), .val (.long za), .second, .val (.int lb), .val (.long zb), .second, .val (.int sel), .val (.int mm), .val (.long yy), .second, .val (.ref b3), .val (.ref b10), .val (.int (feq mm yy la za)), .val (.int (((sel.toUInt32 >>> ((2 : Int32) &&& 31).toUInt32).toInt32) &&& (3 : Int32))), .val (.ref rr_31), .val (.int (feq la za mm yy)), .val (.int (feq mm yy la za)), .unset, .unset] [(.ref b3), (.ref b3)])) rfl (by rw [hml]; rfl) (Steps.refl _) (argsL := [(.ref b3)]) (rest := []) (lenOf pd__Ljava_lang_Object__Z rfl) rfl (by show 2 * 0 + _ ≤ _; exact Nat.le_of_eq rfl) (hb hby at_135) (fun _ _ => ⟨rfl, eq40, (by exact Nat.le_of_ble_eq_true rfl), (by exact Nat.le_of_ble_eq_true rfl)⟩)
            dsimp only [Pt.U, Pt.locs, Pt.cells, Pt.slots] at X41 l41 y41 z41 st41 hQ41
            subst l41 y41 z41
            obtain ⟨rfl, Nq41, eq41⟩ := hQ41
            have N41 := Fr.app N40 Nq41
            refine Go.tr st41 ?_
            show Go p e below s _ _ _ (T41.setTop (mkF m 138 #[.val (.int la), .val (.long za), .second, .val (.int lb), .val (.long zb), .second, .val (.int sel), .val (.int mm), .val (.long yy), .second, .val (.ref b3), .val (.ref b10), .val (.int (feq mm yy la za)), .val (.int (((sel.toUInt32 >>> ((2 : Int32) &&& 31).toUInt32).toInt32) &&& (3 : Int32))), .val (.ref rr_31), .val (.int (feq la za mm yy)), .val (.int (feq mm yy la za)), .unset, .unset] [(.int (feq la za la za))]))
            refine Go.st (fun _ k' => XS.istore X41.here hx rfl (hb hby at_138) rfl (l' := #[.val (.int la), .val (.long za), .second, .val (.int lb), .val (.long zb), .second, .val (.int sel), .val (.int mm), .val (.long yy), .second, .val (.ref b3), .val (.ref b10), .val (.int (feq mm yy la za)), .val (.int (((sel.toUInt32 >>> ((2 : Int32) &&& 31).toUInt32).toInt32) &&& (3 : Int32))), .val (.ref rr_31), .val (.int (feq la za mm yy)), .val (.int (feq mm yy la za)), .val (.int (feq la za la za)), .unset]) rfl k') ?_
            show Go p e below s _ _ _ (T41.setTop (mkF m 140 #[.val (.int la), .val (.long za), .second, .val (.int lb), .val (.long zb), .second, .val (.int sel), .val (.int mm), .val (.long yy), .second, .val (.ref b3), .val (.ref b10), .val (.int (feq mm yy la za)), .val (.int (((sel.toUInt32 >>> ((2 : Int32) &&& 31).toUInt32).toInt32) &&& (3 : Int32))), .val (.ref rr_31), .val (.int (feq la za mm yy)), .val (.int (feq mm yy la za)), .val (.int (feq la za la za)), .unset] []))
            refine Go.st (fun _ k' => XS.aload X41.here hx rfl (hb hby at_140) rfl rfl k') ?_
            show Go p e below s _ _ _ (T41.setTop (mkF m 142 #[.val (.int la), .val (.long za), .second, .val (.int lb), .val (.long zb), .second, .val (.int sel), .val (.int mm), .val (.long yy), .second, .val (.ref b3), .val (.ref b10), .val (.int (feq mm yy la za)), .val (.int (((sel.toUInt32 >>> ((2 : Int32) &&& 31).toUInt32).toInt32) &&& (3 : Int32))), .val (.ref rr_31), .val (.int (feq la za mm yy)), .val (.int (feq mm yy la za)), .val (.int (feq la za la za)), .unset] [(.ref b3)]))
            refine Go.st (fun _ k' => XS.aload X41.here hx rfl (hb hby at_142) rfl rfl k') ?_
            show Go p e below s _ _ _ (T41.setTop (mkF m 144 #[.val (.int la), .val (.long za), .second, .val (.int lb), .val (.long zb), .second, .val (.int sel), .val (.int mm), .val (.long yy), .second, .val (.ref b3), .val (.ref b10), .val (.int (feq mm yy la za)), .val (.int (((sel.toUInt32 >>> ((2 : Int32) &&& 31).toUInt32).toInt32) &&& (3 : Int32))), .val (.ref rr_31), .val (.int (feq la za mm yy)), .val (.int (feq mm yy la za)), .val (.int (feq la za la za)), .unset] [(.ref rr_31), (.ref b3)]))
            obtain ⟨cq42, kq42, q42a, q42b, q42c⟩ := isOf hZ eq41 f33
            obtain ⟨_, _, ⟨T42, L42, k42, n42⟩, -, X42, ⟨Lc42, hQ42, l42, y42, z42⟩, st42⟩ := X41.virtualBack hx (y := (⟨"com/example/exact_quorum/exactquorum/server/Election$Vote", "equals", "(Ljava/lang/Object;)Z"⟩ : MethodName)) (z := (⟨"com/example/exact_quorum/exactquorum/server/Election$Vote", "equals", "(Ljava/lang/Object;)Z"⟩ : MethodName)) hown (mvT hZ (wdx hw 13 rfl)) (mvT hZ (wdx hw 14 rfl)) (notFace_of_selects (args := #[]) (mvT hZ (wdx hw 16 rfl))) (mvT hZ (wdx hw 16 rfl)) (mvT hZ (wdx hw 15 rfl)) (by decide) (backOf (W := 0) (rm3_l l Z a0 hw [] b3 rr_31 T31.heap n0 O31 f32) hZ (wdx hw 17 rfl) (wdx hw 2 rfl) (by decide) (by decide)) q42a q42c (g := (mkF m 144 #[.val (.int la), .val (.long za), .second, .val (.int lb), .val (.long zb), .second, .val (.int sel), .val (.int mm), .val (.long yy), .second, .val (.ref b3), .val (.ref b10), .val (.int (feq mm yy la za)), .val (.int (((sel.toUInt32 >>> ((2 : Int32) &&& 31).toUInt32).toInt32) &&& (3 : Int32))), .val (.ref rr_31), .val (.int (feq la za mm yy)), .val (.int (feq mm yy la za)), .val (.int (feq la za la za)), .unset] [(.ref rr_31), (.ref b3)])) rfl (by rw [hml]; rfl) (Steps.refl _) (argsL := [(.ref rr_31)]) (rest := []) (lenOf pd__Ljava_lang_Object__Z rfl) rfl (by show 2 * 0 + _ ≤ _; exact Nat.le_of_eq rfl) (hb hby at_144) (fun _ _ => ⟨rfl, eq41, (by exact Nat.le_of_ble_eq_true rfl), (by exact Nat.le_of_ble_eq_true rfl)⟩)
            dsimp only [Pt.U, Pt.locs, Pt.cells, Pt.slots] at X42 l42 y42 z42 st42 hQ42
            subst l42 y42 z42
            obtain ⟨rfl, Nq42, eq42⟩ := hQ42
            have N42 := Fr.app N41 Nq42
            refine Go.tr st42 ?_
            show Go p e below s _ _ _ (T42.setTop (mkF m 147 #[.val (.int la), .val (.long za), .second, .val (.int lb), .val (.long zb), .second, .val (.int sel), .val (.int mm), .val (.long yy), .second, .val (.ref b3), .val (.ref b10), .val (.int (feq mm yy la za)), .val (.int (((sel.toUInt32 >>> ((2 : Int32) &&& 31).toUInt32).toInt32) &&& (3 : Int32))), .val (.ref rr_31), .val (.int (feq la za mm yy)), .val (.int (feq mm yy la za)), .val (.int (feq la za la za)), .unset] [(.int (0 : Int32))]))
            refine Go.st (fun _ k' => XS.istore X42.here hx rfl (hb hby at_147) rfl (l' := #[.val (.int la), .val (.long za), .second, .val (.int lb), .val (.long zb), .second, .val (.int sel), .val (.int mm), .val (.long yy), .second, .val (.ref b3), .val (.ref b10), .val (.int (feq mm yy la za)), .val (.int (((sel.toUInt32 >>> ((2 : Int32) &&& 31).toUInt32).toInt32) &&& (3 : Int32))), .val (.ref rr_31), .val (.int (feq la za mm yy)), .val (.int (feq mm yy la za)), .val (.int (feq la za la za)), .val (.int (0 : Int32))]) rfl k') ?_
            show Go p e below s _ _ _ (T42.setTop (mkF m 149 #[.val (.int la), .val (.long za), .second, .val (.int lb), .val (.long zb), .second, .val (.int sel), .val (.int mm), .val (.long yy), .second, .val (.ref b3), .val (.ref b10), .val (.int (feq mm yy la za)), .val (.int (((sel.toUInt32 >>> ((2 : Int32) &&& 31).toUInt32).toInt32) &&& (3 : Int32))), .val (.ref rr_31), .val (.int (feq la za mm yy)), .val (.int (feq mm yy la za)), .val (.int (feq la za la za)), .val (.int (0 : Int32))] []))
            refine Go.st (fun _ k' => XS.iload X42.here hx rfl (hb hby at_149) rfl k') ?_
            show Go p e below s _ _ _ (T42.setTop (mkF m 151 #[.val (.int la), .val (.long za), .second, .val (.int lb), .val (.long zb), .second, .val (.int sel), .val (.int mm), .val (.long yy), .second, .val (.ref b3), .val (.ref b10), .val (.int (feq mm yy la za)), .val (.int (((sel.toUInt32 >>> ((2 : Int32) &&& 31).toUInt32).toInt32) &&& (3 : Int32))), .val (.ref rr_31), .val (.int (feq la za mm yy)), .val (.int (feq mm yy la za)), .val (.int (feq la za la za)), .val (.int (0 : Int32))] [(.int (feq la za mm yy))]))
            refine Go.st (fun _ k' => XS.iload X42.here hx rfl (hb hby at_151) rfl k') ?_
            show Go p e below s _ _ _ (T42.setTop (mkF m 153 #[.val (.int la), .val (.long za), .second, .val (.int lb), .val (.long zb), .second, .val (.int sel), .val (.int mm), .val (.long yy), .second, .val (.ref b3), .val (.ref b10), .val (.int (feq mm yy la za)), .val (.int (((sel.toUInt32 >>> ((2 : Int32) &&& 31).toUInt32).toInt32) &&& (3 : Int32))), .val (.ref rr_31), .val (.int (feq la za mm yy)), .val (.int (feq mm yy la za)), .val (.int (feq la za la za)), .val (.int (0 : Int32))] [(.int (feq mm yy la za)), (.int (feq la za mm yy))]))
            refine Go.st (fun _ k' => XS.icmpNo X42.here hx rfl (hb hby at_153) rfl (XT.ii_ne_f (own_sym _ _ _ _)) k') ?_
            show Go p e below s _ _ _ (T42.setTop (mkF m 156 #[.val (.int la), .val (.long za), .second, .val (.int lb), .val (.long zb), .second, .val (.int sel), .val (.int mm), .val (.long yy), .second, .val (.ref b3), .val (.ref b10), .val (.int (feq mm yy la za)), .val (.int (((sel.toUInt32 >>> ((2 : Int32) &&& 31).toUInt32).toInt32) &&& (3 : Int32))), .val (.ref rr_31), .val (.int (feq la za mm yy)), .val (.int (feq mm yy la za)), .val (.int (feq la za la za)), .val (.int (0 : Int32))] []))
            refine Go.st (fun _ k' => XS.iload X42.here hx rfl (hb hby at_156) rfl k') ?_
            show Go p e below s _ _ _ (T42.setTop (mkF m 158 #[.val (.int la), .val (.long za), .second, .val (.int lb), .val (.long zb), .second, .val (.int sel), .val (.int mm), .val (.long yy), .second, .val (.ref b3), .val (.ref b10), .val (.int (feq mm yy la za)), .val (.int (((sel.toUInt32 >>> ((2 : Int32) &&& 31).toUInt32).toInt32) &&& (3 : Int32))), .val (.ref rr_31), .val (.int (feq la za mm yy)), .val (.int (feq mm yy la za)), .val (.int (feq la za la za)), .val (.int (0 : Int32))] [(.int (feq mm yy la za))]))
            refine Go.st (fun _ k' => XS.iload X42.here hx rfl (hb hby at_158) rfl k') ?_
            show Go p e below s _ _ _ (T42.setTop (mkF m 160 #[.val (.int la), .val (.long za), .second, .val (.int lb), .val (.long zb), .second, .val (.int sel), .val (.int mm), .val (.long yy), .second, .val (.ref b3), .val (.ref b10), .val (.int (feq mm yy la za)), .val (.int (((sel.toUInt32 >>> ((2 : Int32) &&& 31).toUInt32).toInt32) &&& (3 : Int32))), .val (.ref rr_31), .val (.int (feq la za mm yy)), .val (.int (feq mm yy la za)), .val (.int (feq la za la za)), .val (.int (0 : Int32))] [(.int (feq mm yy la za)), (.int (feq mm yy la za))]))
            refine Go.st (fun _ k' => XS.icmpNo X42.here hx rfl (hb hby at_160) rfl (XT.ii_ne_f rfl) k') ?_
            show Go p e below s _ _ _ (T42.setTop (mkF m 163 #[.val (.int la), .val (.long za), .second, .val (.int lb), .val (.long zb), .second, .val (.int sel), .val (.int mm), .val (.long yy), .second, .val (.ref b3), .val (.ref b10), .val (.int (feq mm yy la za)), .val (.int (((sel.toUInt32 >>> ((2 : Int32) &&& 31).toUInt32).toInt32) &&& (3 : Int32))), .val (.ref rr_31), .val (.int (feq la za mm yy)), .val (.int (feq mm yy la za)), .val (.int (feq la za la za)), .val (.int (0 : Int32))] []))
            refine Go.st (fun _ k' => XS.iload X42.here hx rfl (hb hby at_163) rfl k') ?_
            show Go p e below s _ _ _ (T42.setTop (mkF m 165 #[.val (.int la), .val (.long za), .second, .val (.int lb), .val (.long zb), .second, .val (.int sel), .val (.int mm), .val (.long yy), .second, .val (.ref b3), .val (.ref b10), .val (.int (feq mm yy la za)), .val (.int (((sel.toUInt32 >>> ((2 : Int32) &&& 31).toUInt32).toInt32) &&& (3 : Int32))), .val (.ref rr_31), .val (.int (feq la za mm yy)), .val (.int (feq mm yy la za)), .val (.int (feq la za la za)), .val (.int (0 : Int32))] [(.int (feq la za la za))]))
            refine Go.st (fun _ k' => XS.ifNo X42.here hx rfl (hb hby at_165) rfl (XT.i0_eq_f (own_refl _ _)) k') ?_
            show Go p e below s _ _ _ (T42.setTop (mkF m 168 #[.val (.int la), .val (.long za), .second, .val (.int lb), .val (.long zb), .second, .val (.int sel), .val (.int mm), .val (.long yy), .second, .val (.ref b3), .val (.ref b10), .val (.int (feq mm yy la za)), .val (.int (((sel.toUInt32 >>> ((2 : Int32) &&& 31).toUInt32).toInt32) &&& (3 : Int32))), .val (.ref rr_31), .val (.int (feq la za mm yy)), .val (.int (feq mm yy la za)), .val (.int (feq la za la za)), .val (.int (0 : Int32))] []))
            refine Go.st (fun _ k' => XS.iload X42.here hx rfl (hb hby at_168) rfl k') ?_
            show Go p e below s _ _ _ (T42.setTop (mkF m 170 #[.val (.int la), .val (.long za), .second, .val (.int lb), .val (.long zb), .second, .val (.int sel), .val (.int mm), .val (.long yy), .second, .val (.ref b3), .val (.ref b10), .val (.int (feq mm yy la za)), .val (.int (((sel.toUInt32 >>> ((2 : Int32) &&& 31).toUInt32).toInt32) &&& (3 : Int32))), .val (.ref rr_31), .val (.int (feq la za mm yy)), .val (.int (feq mm yy la za)), .val (.int (feq la za la za)), .val (.int (0 : Int32))] [(.int (0 : Int32))]))
            refine Go.st (fun _ k' => XS.ifNo X42.here hx rfl (hb hby at_170) rfl (XT.i0_ne_f (by decide)) k') ?_
            show Go p e below s _ _ _ (T42.setTop (mkF m 173 #[.val (.int la), .val (.long za), .second, .val (.int lb), .val (.long zb), .second, .val (.int sel), .val (.int mm), .val (.long yy), .second, .val (.ref b3), .val (.ref b10), .val (.int (feq mm yy la za)), .val (.int (((sel.toUInt32 >>> ((2 : Int32) &&& 31).toUInt32).toInt32) &&& (3 : Int32))), .val (.ref rr_31), .val (.int (feq la za mm yy)), .val (.int (feq mm yy la za)), .val (.int (feq la za la za)), .val (.int (0 : Int32))] []))
            refine Go.st (fun _ k' => XS.iconst X42.here hx rfl (hb hby at_173) k') ?_
            show Go p e below s _ _ _ (T42.setTop (mkF m 174 #[.val (.int la), .val (.long za), .second, .val (.int lb), .val (.long zb), .second, .val (.int sel), .val (.int mm), .val (.long yy), .second, .val (.ref b3), .val (.ref b10), .val (.int (feq mm yy la za)), .val (.int (((sel.toUInt32 >>> ((2 : Int32) &&& 31).toUInt32).toInt32) &&& (3 : Int32))), .val (.ref rr_31), .val (.int (feq la za mm yy)), .val (.int (feq mm yy la za)), .val (.int (feq la za la za)), .val (.int (0 : Int32))] [(.int (1 : Int32))]))
            refine Go.st (fun _ k' => XS.goto X42.here hx rfl (pc0 := 174) (pc' := 178) rfl (hb hby at_174) (by decide) (by decide) k') ?_
            show Go p e below s _ _ _ (T42.setTop (mkF m 178 #[.val (.int la), .val (.long za), .second, .val (.int lb), .val (.long zb), .second, .val (.int sel), .val (.int mm), .val (.long yy), .second, .val (.ref b3), .val (.ref b10), .val (.int (feq mm yy la za)), .val (.int (((sel.toUInt32 >>> ((2 : Int32) &&& 31).toUInt32).toInt32) &&& (3 : Int32))), .val (.ref rr_31), .val (.int (feq la za mm yy)), .val (.int (feq mm yy la za)), .val (.int (feq la za la za)), .val (.int (0 : Int32))] [(.int (1 : Int32))]))
            refine Go.retB X42 hx hlk (t := .boolean) Bd.returns (by simp) (hb hby at_178) (by decide) (by decide) eq42 ?_
            exact ⟨rfl, N42, trivial⟩
          · refine Go.st (fun _ k' => XS.icmpYes X17.here hx rfl (pc0 := 95) (pc' := 107) rfl (hb hby at_95) rfl (XT.ii_ne_t hc30) (by decide) (by decide) k') ?_
            show Go p e below s _ _ _ (T17.setTop (mkF m 107 #[.val (.int la), .val (.long za), .second, .val (.int lb), .val (.long zb), .second, .val (.int sel), .val (.int mm), .val (.long yy), .second, .val (.ref b3), .val (.ref b10), .val (.int (feq mm yy la za)), .val (.int (((sel.toUInt32 >>> ((2 : Int32) &&& 31).toUInt32).toInt32) &&& (3 : Int32))), .unset, .unset, .unset, .unset, .unset] []))
            refine Go.st (fun _ k' => XS.iloadN X17.here hx rfl (hb hby at_107) rfl k') ?_
            show Go p e below s _ _ _ (T17.setTop (mkF m 108 #[.val (.int la), .val (.long za), .second, .val (.int lb), .val (.long zb), .second, .val (.int sel), .val (.int mm), .val (.long yy), .second, .val (.ref b3), .val (.ref b10), .val (.int (feq mm yy la za)), .val (.int (((sel.toUInt32 >>> ((2 : Int32) &&& 31).toUInt32).toInt32) &&& (3 : Int32))), .unset, .unset, .unset, .unset, .unset] [(.int la)]))
            obtain ⟨_, _, ⟨T43, L43, k43, n43⟩, -, X43, ⟨Lc43, hQ43, l43, y43, z43⟩, st43⟩ := Jvm.LawKit.callS X17 hx (y := (⟨"java/lang/Integer", "valueOf", "(I)Ljava/lang/Integer;"⟩ : MethodName)) hown (mvT hZ (wdx hw 20 rfl)) (mvT hZ (wdx hw 21 rfl)) (mvT hZ (wdx hw 22 rfl)) (mvT hZ (wdx hw 23 rfl)) (by decide) (backOf (W := 0) (rm4 l Z a0 hw [] la ca cb T17.heap n0 O17 S_hi S_ca Bx) hZ (wdx hw 23 rfl) (wdx hw 22 rfl) (by decide) (by decide)) (g := (mkF m 108 #[.val (.int la), .val (.long za), .second, .val (.int lb), .val (.long zb), .second, .val (.int sel), .val (.int mm), .val (.long yy), .second, .val (.ref b3), .val (.ref b10), .val (.int (feq mm yy la za)), .val (.int (((sel.toUInt32 >>> ((2 : Int32) &&& 31).toUInt32).toInt32) &&& (3 : Int32))), .unset, .unset, .unset, .unset, .unset] [(.int la)])) rfl (by rw [hml]; rfl) (argsL := [(.int la)]) (rest := []) (lenOf pd__I_Ljava_lang_Integer_ rfl) rfl (by show 2 * 0 + _ ≤ _; exact Nat.le_of_eq rfl) (hb hby at_108) (fun _ _ => ⟨rfl, rfl, (by exact Nat.le_of_ble_eq_true rfl), (by exact Nat.le_of_ble_eq_true rfl)⟩)
            dsimp only [Pt.U, Pt.locs, Pt.cells, Pt.slots] at X43 l43 y43 z43 st43 hQ43
            subst l43 y43 z43
            obtain ⟨rr_43, rfl, Nq43, Kq43, f44⟩ := hQ43
            have N43 := Fr.app N17 Nq43
            refine Go.st st43 ?_
            have f45 : Exa Z T43.heap b3 "com/example/exact_quorum/exactquorum/server/Election$Vote" := f20.keep Kq43
            have f46 : Fld Z T43.heap b3 "com/example/exact_quorum/exactquorum/server/Election$Vote" "leader" "I" (.int la) := f21.keep Kq43 nin0
            have f47 : Fld Z T43.heap b3 "com/example/exact_quorum/exactquorum/server/Election$Vote" "zxid" "J" (.long za) := f22.keep Kq43 nin0
            have f48 : Exa Z T43.heap b10 "com/example/exact_quorum/exactquorum/server/Election$Vote" := f23.keep Kq43
            have f49 : Fld Z T43.heap b10 "com/example/exact_quorum/exactquorum/server/Election$Vote" "leader" "I" (.int mm) := f18.keep Kq43 nin0
            have f50 : Fld Z T43.heap b10 "com/example/exact_quorum/exactquorum/server/Election$Vote" "zxid" "J" (.long yy) := f19.keep Kq43 nin0
            have O43 : Old Z n0 T43.heap := O17.keep Kq43 all0
            show Go p e below s _ _ _ (T43.setTop (mkF m 111 #[.val (.int la), .val (.long za), .second, .val (.int lb), .val (.long zb), .second, .val (.int sel), .val (.int mm), .val (.long yy), .second, .val (.ref b3), .val (.ref b10), .val (.int (feq mm yy la za)), .val (.int (((sel.toUInt32 >>> ((2 : Int32) &&& 31).toUInt32).toInt32) &&& (3 : Int32))), .unset, .unset, .unset, .unset, .unset] [(.ref rr_43)]))
            refine Go.st (fun _ k' => XS.astore X43.here hx rfl (hb hby at_111) rfl rfl (l' := #[.val (.int la), .val (.long za), .second, .val (.int lb), .val (.long zb), .second, .val (.int sel), .val (.int mm), .val (.long yy), .second, .val (.ref b3), .val (.ref b10), .val (.int (feq mm yy la za)), .val (.int (((sel.toUInt32 >>> ((2 : Int32) &&& 31).toUInt32).toInt32) &&& (3 : Int32))), .val (.ref rr_43), .unset, .unset, .unset, .unset]) rfl k') ?_
            show Go p e below s _ _ _ (T43.setTop (mkF m 113 #[.val (.int la), .val (.long za), .second, .val (.int lb), .val (.long zb), .second, .val (.int sel), .val (.int mm), .val (.long yy), .second, .val (.ref b3), .val (.ref b10), .val (.int (feq mm yy la za)), .val (.int (((sel.toUInt32 >>> ((2 : Int32) &&& 31).toUInt32).toInt32) &&& (3 : Int32))), .val (.ref rr_43), .unset, .unset, .unset, .unset] []))
            refine Go.st (fun _ k' => XS.aload X43.here hx rfl (hb hby at_113) rfl rfl k') ?_
            show Go p e below s _ _ _ (T43.setTop (mkF m 115 #[.val (.int la), .val (.long za), .second, .val (.int lb), .val (.long zb), .second, .val (.int sel), .val (.int mm), .val (.long yy), .second, .val (.ref b3), .val (.ref b10), .val (.int (feq mm yy la za)), .val (.int (((sel.toUInt32 >>> ((2 : Int32) &&& 31).toUInt32).toInt32) &&& (3 : Int32))), .val (.ref rr_43), .unset, .unset, .unset, .unset] [(.ref b3)]))
            refine Go.st (fun _ k' => XS.aload X43.here hx rfl (hb hby at_115) rfl rfl k') ?_
            show Go p e below s _ _ _ (T43.setTop (mkF m 117 #[.val (.int la), .val (.long za), .second, .val (.int lb), .val (.long zb), .second, .val (.int sel), .val (.int mm), .val (.long yy), .second, .val (.ref b3), .val (.ref b10), .val (.int (feq mm yy la za)), .val (.int (((sel.toUInt32 >>> ((2 : Int32) &&& 31).toUInt32).toInt32) &&& (3 : Int32))), .val (.ref rr_43), .unset, .unset, .unset, .unset] [(.ref b10), (.ref b3)]))
            obtain ⟨cq51, kq51, q51a, q51b, q51c⟩ := isOf hZ rfl f45
            obtain ⟨_, _, ⟨T51, L51, k51, n51⟩, -, X51, ⟨Lc51, hQ51, l51, y51, z51⟩, st51⟩ := X43.virtualBack hx (y := (⟨"com/example/exact_quorum/exactquorum/server/Election$Vote", "equals", "(Ljava/lang/Object;)Z"⟩ : MethodName)) (z := (⟨"com/example/exact_quorum/exactquorum/server/Election$Vote", "equals", "(Ljava/lang/Object;)Z"⟩ : MethodName)) hown (mvT hZ (wdx hw 13 rfl)) (mvT hZ (wdx hw 14 rfl)) (notFace_of_selects (args := #[]) (mvT hZ (wdx hw 16 rfl))) (mvT hZ (wdx hw 16 rfl)) (mvT hZ (wdx hw 15 rfl)) (by decide) (backOf (W := 0) (rm3 l Z a0 hw [] b3 b10 la za mm yy T43.heap n0 O43 f48 f46 f47 f49 f50) hZ (wdx hw 17 rfl) (wdx hw 2 rfl) (by decide) (by decide)) q51a q51c (g := (mkF m 117 #[.val (.int la), .val (.long za), .second, .val (.int lb), .val (.long zb), .second, .val (.int sel), .val (.int mm), .val (.long yy), .second, .val (.ref b3), .val (.ref b10), .val (.int (feq mm yy la za)), .val (.int (((sel.toUInt32 >>> ((2 : Int32) &&& 31).toUInt32).toInt32) &&& (3 : Int32))), .val (.ref rr_43), .unset, .unset, .unset, .unset] [(.ref b10), (.ref b3)])) rfl (by rw [hml]; rfl) (Steps.refl _) (argsL := [(.ref b10)]) (rest := []) (lenOf pd__Ljava_lang_Object__Z rfl) rfl (by show 2 * 0 + _ ≤ _; exact Nat.le_of_eq rfl) (hb hby at_117) (fun _ _ => ⟨rfl, rfl, (by exact Nat.le_of_ble_eq_true rfl), (by exact Nat.le_of_ble_eq_true rfl)⟩)
            dsimp only [Pt.U, Pt.locs, Pt.cells, Pt.slots] at X51 l51 y51 z51 st51 hQ51
            subst l51 y51 z51
            obtain ⟨rfl, Nq51, eq51⟩ := hQ51
            have N51 := Fr.app N43 Nq51
            refine Go.tr st51 ?_
            show Go p e below s _ _ _ (T51.setTop (mkF m 120 #[.val (.int la), .val (.long za), .second, .val (.int lb), .val (.long zb), .second, .val (.int sel), .val (.int mm), .val (.long yy), .second, .val (.ref b3), .val (.ref b10), .val (.int (feq mm yy la za)), .val (.int (((sel.toUInt32 >>> ((2 : Int32) &&& 31).toUInt32).toInt32) &&& (3 : Int32))), .val (.ref rr_43), .unset, .unset, .unset, .unset] [(.int (feq la za mm yy))]))
            refine Go.st (fun _ k' => XS.istore X51.here hx rfl (hb hby at_120) rfl (l' := #[.val (.int la), .val (.long za), .second, .val (.int lb), .val (.long zb), .second, .val (.int sel), .val (.int mm), .val (.long yy), .second, .val (.ref b3), .val (.ref b10), .val (.int (feq mm yy la za)), .val (.int (((sel.toUInt32 >>> ((2 : Int32) &&& 31).toUInt32).toInt32) &&& (3 : Int32))), .val (.ref rr_43), .val (.int (feq la za mm yy)), .unset, .unset, .unset]) rfl k') ?_
            show Go p e below s _ _ _ (T51.setTop (mkF m 122 #[.val (.int la), .val (.long za), .second, .val (.int lb), .val (.long zb), .second, .val (.int sel), .val (.int mm), .val (.long yy), .second, .val (.ref b3), .val (.ref b10), .val (.int (feq mm yy la za)), .val (.int (((sel.toUInt32 >>> ((2 : Int32) &&& 31).toUInt32).toInt32) &&& (3 : Int32))), .val (.ref rr_43), .val (.int (feq la za mm yy)), .unset, .unset, .unset] []))
            refine Go.st (fun _ k' => XS.aload X51.here hx rfl (hb hby at_122) rfl rfl k') ?_
            show Go p e below s _ _ _ (T51.setTop (mkF m 124 #[.val (.int la), .val (.long za), .second, .val (.int lb), .val (.long zb), .second, .val (.int sel), .val (.int mm), .val (.long yy), .second, .val (.ref b3), .val (.ref b10), .val (.int (feq mm yy la za)), .val (.int (((sel.toUInt32 >>> ((2 : Int32) &&& 31).toUInt32).toInt32) &&& (3 : Int32))), .val (.ref rr_43), .val (.int (feq la za mm yy)), .unset, .unset, .unset] [(.ref b10)]))
            refine Go.st (fun _ k' => XS.aload X51.here hx rfl (hb hby at_124) rfl rfl k') ?_
            show Go p e below s _ _ _ (T51.setTop (mkF m 126 #[.val (.int la), .val (.long za), .second, .val (.int lb), .val (.long zb), .second, .val (.int sel), .val (.int mm), .val (.long yy), .second, .val (.ref b3), .val (.ref b10), .val (.int (feq mm yy la za)), .val (.int (((sel.toUInt32 >>> ((2 : Int32) &&& 31).toUInt32).toInt32) &&& (3 : Int32))), .val (.ref rr_43), .val (.int (feq la za mm yy)), .unset, .unset, .unset] [(.ref b3), (.ref b10)]))
            obtain ⟨cq52, kq52, q52a, q52b, q52c⟩ := isOf hZ eq51 f48
            obtain ⟨_, _, ⟨T52, L52, k52, n52⟩, -, X52, ⟨Lc52, hQ52, l52, y52, z52⟩, st52⟩ := X51.virtualBack hx (y := (⟨"com/example/exact_quorum/exactquorum/server/Election$Vote", "equals", "(Ljava/lang/Object;)Z"⟩ : MethodName)) (z := (⟨"com/example/exact_quorum/exactquorum/server/Election$Vote", "equals", "(Ljava/lang/Object;)Z"⟩ : MethodName)) hown (mvT hZ (wdx hw 13 rfl)) (mvT hZ (wdx hw 14 rfl)) (notFace_of_selects (args := #[]) (mvT hZ (wdx hw 16 rfl))) (mvT hZ (wdx hw 16 rfl)) (mvT hZ (wdx hw 15 rfl)) (by decide) (backOf (W := 0) (rm3 l Z a0 hw [] b10 b3 mm yy la za T43.heap n0 O43 f45 f49 f50 f46 f47) hZ (wdx hw 17 rfl) (wdx hw 2 rfl) (by decide) (by decide)) q52a q52c (g := (mkF m 126 #[.val (.int la), .val (.long za), .second, .val (.int lb), .val (.long zb), .second, .val (.int sel), .val (.int mm), .val (.long yy), .second, .val (.ref b3), .val (.ref b10), .val (.int (feq mm yy la za)), .val (.int (((sel.toUInt32 >>> ((2 : Int32) &&& 31).toUInt32).toInt32) &&& (3 : Int32))), .val (.ref rr_43), .val (.int (feq la za mm yy)), .unset, .unset, .unset] [(.ref b3), (.ref b10)])) rfl (by rw [hml]; rfl) (Steps.refl _) (argsL := [(.ref b3)]) (rest := []) (lenOf pd__Ljava_lang_Object__Z rfl) rfl (by show 2 * 0 + _ ≤ _; exact Nat.le_of_eq rfl) (hb hby at_126) (fun _ _ => ⟨rfl, eq51, (by exact Nat.le_of_ble_eq_true rfl), (by exact Nat.le_of_ble_eq_true rfl)⟩)
            dsimp only [Pt.U, Pt.locs, Pt.cells, Pt.slots] at X52 l52 y52 z52 st52 hQ52
            subst l52 y52 z52
            obtain ⟨rfl, Nq52, eq52⟩ := hQ52
            have N52 := Fr.app N51 Nq52
            refine Go.tr st52 ?_
            show Go p e below s _ _ _ (T52.setTop (mkF m 129 #[.val (.int la), .val (.long za), .second, .val (.int lb), .val (.long zb), .second, .val (.int sel), .val (.int mm), .val (.long yy), .second, .val (.ref b3), .val (.ref b10), .val (.int (feq mm yy la za)), .val (.int (((sel.toUInt32 >>> ((2 : Int32) &&& 31).toUInt32).toInt32) &&& (3 : Int32))), .val (.ref rr_43), .val (.int (feq la za mm yy)), .unset, .unset, .unset] [(.int (feq mm yy la za))]))
            refine Go.st (fun _ k' => XS.istore X52.here hx rfl (hb hby at_129) rfl (l' := #[.val (.int la), .val (.long za), .second, .val (.int lb), .val (.long zb), .second, .val (.int sel), .val (.int mm), .val (.long yy), .second, .val (.ref b3), .val (.ref b10), .val (.int (feq mm yy la za)), .val (.int (((sel.toUInt32 >>> ((2 : Int32) &&& 31).toUInt32).toInt32) &&& (3 : Int32))), .val (.ref rr_43), .val (.int (feq la za mm yy)), .val (.int (feq mm yy la za)), .unset, .unset]) rfl k') ?_
            show Go p e below s _ _ _ (T52.setTop (mkF m 131 #[.val (.int la), .val (.long za), .second, .val (.int lb), .val (.long zb), .second, .val (.int sel), .val (.int mm), .val (.long yy), .second, .val (.ref b3), .val (.ref b10), .val (.int (feq mm yy la za)), .val (.int (((sel.toUInt32 >>> ((2 : Int32) &&& 31).toUInt32).toInt32) &&& (3 : Int32))), .val (.ref rr_43), .val (.int (feq la za mm yy)), .val (.int (feq mm yy la za)), .unset, .unset] []))
            refine Go.st (fun _ k' => XS.aload X52.here hx rfl (hb hby at_131) rfl rfl k') ?_
            show Go p e below s _ _ _ (T52.setTop (mkF m 133 #[.val (.int la), .val (.long za), .second, .val (.int lb), .val (.long zb), .second, .val (.int sel), .val (.int mm), .val (.long yy), .second, .val (.ref b3), .val (.ref b10), .val (.int (feq mm yy la za)), .val (.int (((sel.toUInt32 >>> ((2 : Int32) &&& 31).toUInt32).toInt32) &&& (3 : Int32))), .val (.ref rr_43), .val (.int (feq la za mm yy)), .val (.int (feq mm yy la za)), .unset, .unset] [(.ref b3)]))
            refine Go.st (fun _ k' => XS.aload X52.here hx rfl (hb hby at_133) rfl rfl k') ?_
            show Go p e below s _ _ _ (T52.setTop (mkF m 135 #[.val (.int la), .val (.long za), .second, .val (.int lb), .val (.long zb), .second, .val (.int sel), .val (.int mm), .val (.long yy), .second, .val (.ref b3), .val (.ref b10), .val (.int (feq mm yy la za)), .val (.int (((sel.toUInt32 >>> ((2 : Int32) &&& 31).toUInt32).toInt32) &&& (3 : Int32))), .val (.ref rr_43), .val (.int (feq la za mm yy)), .val (.int (feq mm yy la za)), .unset, .unset] [(.ref b3), (.ref b3)]))
            obtain ⟨cq53, kq53, q53a, q53b, q53c⟩ := isOf hZ eq52 f45
            obtain ⟨_, _, ⟨T53, L53, k53, n53⟩, -, X53, ⟨Lc53, hQ53, l53, y53, z53⟩, st53⟩ := X52.virtualBack hx (y := (⟨"com/example/exact_quorum/exactquorum/server/Election$Vote", "equals", "(Ljava/lang/Object;)Z"⟩ : MethodName)) (z := (⟨"com/example/exact_quorum/exactquorum/server/Election$Vote", "equals", "(Ljava/lang/Object;)Z"⟩ : MethodName)) hown (mvT hZ (wdx hw 13 rfl)) (mvT hZ (wdx hw 14 rfl)) (notFace_of_selects (args := #[]) (mvT hZ (wdx hw 16 rfl))) (mvT hZ (wdx hw 16 rfl)) (mvT hZ (wdx hw 15 rfl)) (by decide) (backOf (W := 0) (rm3 l Z a0 hw [] b3 b3 la za la za T43.heap n0 O43 f45 f46 f47 f46 f47) hZ (wdx hw 17 rfl) (wdx hw 2 rfl) (by decide) (by decide)) q53a q53c (g := (mkF m 135 #[.val (.int la), .val (.long za), .second, .val (.int lb), .val (.long zb), .second, .val (.int sel), .val (.int mm), .val (.long yy), .second, .val (.ref b3), .val (.ref b10), .val (.int (feq mm yy la za)), .val (.int (((sel.toUInt32 >>> ((2 : Int32) &&& 31).toUInt32).toInt32) &&& (3 : Int32))), .val (.ref rr_43), .val (.int (feq la za mm yy)), .val (.int (feq mm yy la za)), .unset, .unset] [(.ref b3), (.ref b3)])) rfl (by rw [hml]; rfl) (Steps.refl _) (argsL := [(.ref b3)]) (rest := []) (lenOf pd__Ljava_lang_Object__Z rfl) rfl (by show 2 * 0 + _ ≤ _; exact Nat.le_of_eq rfl) (hb hby at_135) (fun _ _ => ⟨rfl, eq52, (by exact Nat.le_of_ble_eq_true rfl), (by exact Nat.le_of_ble_eq_true rfl)⟩)
            dsimp only [Pt.U, Pt.locs, Pt.cells, Pt.slots] at X53 l53 y53 z53 st53 hQ53
            subst l53 y53 z53
            obtain ⟨rfl, Nq53, eq53⟩ := hQ53
            have N53 := Fr.app N52 Nq53
            refine Go.tr st53 ?_
            show Go p e below s _ _ _ (T53.setTop (mkF m 138 #[.val (.int la), .val (.long za), .second, .val (.int lb), .val (.long zb), .second, .val (.int sel), .val (.int mm), .val (.long yy), .second, .val (.ref b3), .val (.ref b10), .val (.int (feq mm yy la za)), .val (.int (((sel.toUInt32 >>> ((2 : Int32) &&& 31).toUInt32).toInt32) &&& (3 : Int32))), .val (.ref rr_43), .val (.int (feq la za mm yy)), .val (.int (feq mm yy la za)), .unset, .unset] [(.int (feq la za la za))]))
            refine Go.st (fun _ k' => XS.istore X53.here hx rfl (hb hby at_138) rfl (l' := #[.val (.int la), .val (.long za), .second, .val (.int lb), .val (.long zb), .second, .val (.int sel), .val (.int mm), .val (.long yy), .second, .val (.ref b3), .val (.ref b10), .val (.int (feq mm yy la za)), .val (.int (((sel.toUInt32 >>> ((2 : Int32) &&& 31).toUInt32).toInt32) &&& (3 : Int32))), .val (.ref rr_43), .val (.int (feq la za mm yy)), .val (.int (feq mm yy la za)), .val (.int (feq la za la za)), .unset]) rfl k') ?_
            show Go p e below s _ _ _ (T53.setTop (mkF m 140 #[.val (.int la), .val (.long za), .second, .val (.int lb), .val (.long zb), .second, .val (.int sel), .val (.int mm), .val (.long yy), .second, .val (.ref b3), .val (.ref b10), .val (.int (feq mm yy la za)), .val (.int (((sel.toUInt32 >>> ((2 : Int32) &&& 31).toUInt32).toInt32) &&& (3 : Int32))), .val (.ref rr_43), .val (.int (feq la za mm yy)), .val (.int (feq mm yy la za)), .val (.int (feq la za la za)), .unset] []))
            refine Go.st (fun _ k' => XS.aload X53.here hx rfl (hb hby at_140) rfl rfl k') ?_
            show Go p e below s _ _ _ (T53.setTop (mkF m 142 #[.val (.int la), .val (.long za), .second, .val (.int lb), .val (.long zb), .second, .val (.int sel), .val (.int mm), .val (.long yy), .second, .val (.ref b3), .val (.ref b10), .val (.int (feq mm yy la za)), .val (.int (((sel.toUInt32 >>> ((2 : Int32) &&& 31).toUInt32).toInt32) &&& (3 : Int32))), .val (.ref rr_43), .val (.int (feq la za mm yy)), .val (.int (feq mm yy la za)), .val (.int (feq la za la za)), .unset] [(.ref b3)]))
            refine Go.st (fun _ k' => XS.aload X53.here hx rfl (hb hby at_142) rfl rfl k') ?_
            show Go p e below s _ _ _ (T53.setTop (mkF m 144 #[.val (.int la), .val (.long za), .second, .val (.int lb), .val (.long zb), .second, .val (.int sel), .val (.int mm), .val (.long yy), .second, .val (.ref b3), .val (.ref b10), .val (.int (feq mm yy la za)), .val (.int (((sel.toUInt32 >>> ((2 : Int32) &&& 31).toUInt32).toInt32) &&& (3 : Int32))), .val (.ref rr_43), .val (.int (feq la za mm yy)), .val (.int (feq mm yy la za)), .val (.int (feq la za la za)), .unset] [(.ref rr_43), (.ref b3)]))
            obtain ⟨cq54, kq54, q54a, q54b, q54c⟩ := isOf hZ eq53 f45
            obtain ⟨_, _, ⟨T54, L54, k54, n54⟩, -, X54, ⟨Lc54, hQ54, l54, y54, z54⟩, st54⟩ := X53.virtualBack hx (y := (⟨"com/example/exact_quorum/exactquorum/server/Election$Vote", "equals", "(Ljava/lang/Object;)Z"⟩ : MethodName)) (z := (⟨"com/example/exact_quorum/exactquorum/server/Election$Vote", "equals", "(Ljava/lang/Object;)Z"⟩ : MethodName)) hown (mvT hZ (wdx hw 13 rfl)) (mvT hZ (wdx hw 14 rfl)) (notFace_of_selects (args := #[]) (mvT hZ (wdx hw 16 rfl))) (mvT hZ (wdx hw 16 rfl)) (mvT hZ (wdx hw 15 rfl)) (by decide) (backOf (W := 0) (rm3_i l Z a0 hw [] b3 rr_43 T43.heap n0 O43 f44) hZ (wdx hw 17 rfl) (wdx hw 2 rfl) (by decide) (by decide)) q54a q54c (g := (mkF m 144 #[.val (.int la), .val (.long za), .second, .val (.int lb), .val (.long zb), .second, .val (.int sel), .val (.int mm), .val (.long yy), .second, .val (.ref b3), .val (.ref b10), .val (.int (feq mm yy la za)), .val (.int (((sel.toUInt32 >>> ((2 : Int32) &&& 31).toUInt32).toInt32) &&& (3 : Int32))), .val (.ref rr_43), .val (.int (feq la za mm yy)), .val (.int (feq mm yy la za)), .val (.int (feq la za la za)), .unset] [(.ref rr_43), (.ref b3)])) rfl (by rw [hml]; rfl) (Steps.refl _) (argsL := [(.ref rr_43)]) (rest := []) (lenOf pd__Ljava_lang_Object__Z rfl) rfl (by show 2 * 0 + _ ≤ _; exact Nat.le_of_eq rfl) (hb hby at_144) (fun _ _ => ⟨rfl, eq53, (by exact Nat.le_of_ble_eq_true rfl), (by exact Nat.le_of_ble_eq_true rfl)⟩)
            dsimp only [Pt.U, Pt.locs, Pt.cells, Pt.slots] at X54 l54 y54 z54 st54 hQ54
            subst l54 y54 z54
            obtain ⟨rfl, Nq54, eq54⟩ := hQ54
            have N54 := Fr.app N53 Nq54
            refine Go.tr st54 ?_
            show Go p e below s _ _ _ (T54.setTop (mkF m 147 #[.val (.int la), .val (.long za), .second, .val (.int lb), .val (.long zb), .second, .val (.int sel), .val (.int mm), .val (.long yy), .second, .val (.ref b3), .val (.ref b10), .val (.int (feq mm yy la za)), .val (.int (((sel.toUInt32 >>> ((2 : Int32) &&& 31).toUInt32).toInt32) &&& (3 : Int32))), .val (.ref rr_43), .val (.int (feq la za mm yy)), .val (.int (feq mm yy la za)), .val (.int (feq la za la za)), .unset] [(.int (0 : Int32))]))
            refine Go.st (fun _ k' => XS.istore X54.here hx rfl (hb hby at_147) rfl (l' := #[.val (.int la), .val (.long za), .second, .val (.int lb), .val (.long zb), .second, .val (.int sel), .val (.int mm), .val (.long yy), .second, .val (.ref b3), .val (.ref b10), .val (.int (feq mm yy la za)), .val (.int (((sel.toUInt32 >>> ((2 : Int32) &&& 31).toUInt32).toInt32) &&& (3 : Int32))), .val (.ref rr_43), .val (.int (feq la za mm yy)), .val (.int (feq mm yy la za)), .val (.int (feq la za la za)), .val (.int (0 : Int32))]) rfl k') ?_
            show Go p e below s _ _ _ (T54.setTop (mkF m 149 #[.val (.int la), .val (.long za), .second, .val (.int lb), .val (.long zb), .second, .val (.int sel), .val (.int mm), .val (.long yy), .second, .val (.ref b3), .val (.ref b10), .val (.int (feq mm yy la za)), .val (.int (((sel.toUInt32 >>> ((2 : Int32) &&& 31).toUInt32).toInt32) &&& (3 : Int32))), .val (.ref rr_43), .val (.int (feq la za mm yy)), .val (.int (feq mm yy la za)), .val (.int (feq la za la za)), .val (.int (0 : Int32))] []))
            refine Go.st (fun _ k' => XS.iload X54.here hx rfl (hb hby at_149) rfl k') ?_
            show Go p e below s _ _ _ (T54.setTop (mkF m 151 #[.val (.int la), .val (.long za), .second, .val (.int lb), .val (.long zb), .second, .val (.int sel), .val (.int mm), .val (.long yy), .second, .val (.ref b3), .val (.ref b10), .val (.int (feq mm yy la za)), .val (.int (((sel.toUInt32 >>> ((2 : Int32) &&& 31).toUInt32).toInt32) &&& (3 : Int32))), .val (.ref rr_43), .val (.int (feq la za mm yy)), .val (.int (feq mm yy la za)), .val (.int (feq la za la za)), .val (.int (0 : Int32))] [(.int (feq la za mm yy))]))
            refine Go.st (fun _ k' => XS.iload X54.here hx rfl (hb hby at_151) rfl k') ?_
            show Go p e below s _ _ _ (T54.setTop (mkF m 153 #[.val (.int la), .val (.long za), .second, .val (.int lb), .val (.long zb), .second, .val (.int sel), .val (.int mm), .val (.long yy), .second, .val (.ref b3), .val (.ref b10), .val (.int (feq mm yy la za)), .val (.int (((sel.toUInt32 >>> ((2 : Int32) &&& 31).toUInt32).toInt32) &&& (3 : Int32))), .val (.ref rr_43), .val (.int (feq la za mm yy)), .val (.int (feq mm yy la za)), .val (.int (feq la za la za)), .val (.int (0 : Int32))] [(.int (feq mm yy la za)), (.int (feq la za mm yy))]))
            refine Go.st (fun _ k' => XS.icmpNo X54.here hx rfl (hb hby at_153) rfl (XT.ii_ne_f (own_sym _ _ _ _)) k') ?_
            show Go p e below s _ _ _ (T54.setTop (mkF m 156 #[.val (.int la), .val (.long za), .second, .val (.int lb), .val (.long zb), .second, .val (.int sel), .val (.int mm), .val (.long yy), .second, .val (.ref b3), .val (.ref b10), .val (.int (feq mm yy la za)), .val (.int (((sel.toUInt32 >>> ((2 : Int32) &&& 31).toUInt32).toInt32) &&& (3 : Int32))), .val (.ref rr_43), .val (.int (feq la za mm yy)), .val (.int (feq mm yy la za)), .val (.int (feq la za la za)), .val (.int (0 : Int32))] []))
            refine Go.st (fun _ k' => XS.iload X54.here hx rfl (hb hby at_156) rfl k') ?_
            show Go p e below s _ _ _ (T54.setTop (mkF m 158 #[.val (.int la), .val (.long za), .second, .val (.int lb), .val (.long zb), .second, .val (.int sel), .val (.int mm), .val (.long yy), .second, .val (.ref b3), .val (.ref b10), .val (.int (feq mm yy la za)), .val (.int (((sel.toUInt32 >>> ((2 : Int32) &&& 31).toUInt32).toInt32) &&& (3 : Int32))), .val (.ref rr_43), .val (.int (feq la za mm yy)), .val (.int (feq mm yy la za)), .val (.int (feq la za la za)), .val (.int (0 : Int32))] [(.int (feq mm yy la za))]))
            refine Go.st (fun _ k' => XS.iload X54.here hx rfl (hb hby at_158) rfl k') ?_
            show Go p e below s _ _ _ (T54.setTop (mkF m 160 #[.val (.int la), .val (.long za), .second, .val (.int lb), .val (.long zb), .second, .val (.int sel), .val (.int mm), .val (.long yy), .second, .val (.ref b3), .val (.ref b10), .val (.int (feq mm yy la za)), .val (.int (((sel.toUInt32 >>> ((2 : Int32) &&& 31).toUInt32).toInt32) &&& (3 : Int32))), .val (.ref rr_43), .val (.int (feq la za mm yy)), .val (.int (feq mm yy la za)), .val (.int (feq la za la za)), .val (.int (0 : Int32))] [(.int (feq mm yy la za)), (.int (feq mm yy la za))]))
            refine Go.st (fun _ k' => XS.icmpNo X54.here hx rfl (hb hby at_160) rfl (XT.ii_ne_f rfl) k') ?_
            show Go p e below s _ _ _ (T54.setTop (mkF m 163 #[.val (.int la), .val (.long za), .second, .val (.int lb), .val (.long zb), .second, .val (.int sel), .val (.int mm), .val (.long yy), .second, .val (.ref b3), .val (.ref b10), .val (.int (feq mm yy la za)), .val (.int (((sel.toUInt32 >>> ((2 : Int32) &&& 31).toUInt32).toInt32) &&& (3 : Int32))), .val (.ref rr_43), .val (.int (feq la za mm yy)), .val (.int (feq mm yy la za)), .val (.int (feq la za la za)), .val (.int (0 : Int32))] []))
            refine Go.st (fun _ k' => XS.iload X54.here hx rfl (hb hby at_163) rfl k') ?_
            show Go p e below s _ _ _ (T54.setTop (mkF m 165 #[.val (.int la), .val (.long za), .second, .val (.int lb), .val (.long zb), .second, .val (.int sel), .val (.int mm), .val (.long yy), .second, .val (.ref b3), .val (.ref b10), .val (.int (feq mm yy la za)), .val (.int (((sel.toUInt32 >>> ((2 : Int32) &&& 31).toUInt32).toInt32) &&& (3 : Int32))), .val (.ref rr_43), .val (.int (feq la za mm yy)), .val (.int (feq mm yy la za)), .val (.int (feq la za la za)), .val (.int (0 : Int32))] [(.int (feq la za la za))]))
            refine Go.st (fun _ k' => XS.ifNo X54.here hx rfl (hb hby at_165) rfl (XT.i0_eq_f (own_refl _ _)) k') ?_
            show Go p e below s _ _ _ (T54.setTop (mkF m 168 #[.val (.int la), .val (.long za), .second, .val (.int lb), .val (.long zb), .second, .val (.int sel), .val (.int mm), .val (.long yy), .second, .val (.ref b3), .val (.ref b10), .val (.int (feq mm yy la za)), .val (.int (((sel.toUInt32 >>> ((2 : Int32) &&& 31).toUInt32).toInt32) &&& (3 : Int32))), .val (.ref rr_43), .val (.int (feq la za mm yy)), .val (.int (feq mm yy la za)), .val (.int (feq la za la za)), .val (.int (0 : Int32))] []))
            refine Go.st (fun _ k' => XS.iload X54.here hx rfl (hb hby at_168) rfl k') ?_
            show Go p e below s _ _ _ (T54.setTop (mkF m 170 #[.val (.int la), .val (.long za), .second, .val (.int lb), .val (.long zb), .second, .val (.int sel), .val (.int mm), .val (.long yy), .second, .val (.ref b3), .val (.ref b10), .val (.int (feq mm yy la za)), .val (.int (((sel.toUInt32 >>> ((2 : Int32) &&& 31).toUInt32).toInt32) &&& (3 : Int32))), .val (.ref rr_43), .val (.int (feq la za mm yy)), .val (.int (feq mm yy la za)), .val (.int (feq la za la za)), .val (.int (0 : Int32))] [(.int (0 : Int32))]))
            refine Go.st (fun _ k' => XS.ifNo X54.here hx rfl (hb hby at_170) rfl (XT.i0_ne_f (by decide)) k') ?_
            show Go p e below s _ _ _ (T54.setTop (mkF m 173 #[.val (.int la), .val (.long za), .second, .val (.int lb), .val (.long zb), .second, .val (.int sel), .val (.int mm), .val (.long yy), .second, .val (.ref b3), .val (.ref b10), .val (.int (feq mm yy la za)), .val (.int (((sel.toUInt32 >>> ((2 : Int32) &&& 31).toUInt32).toInt32) &&& (3 : Int32))), .val (.ref rr_43), .val (.int (feq la za mm yy)), .val (.int (feq mm yy la za)), .val (.int (feq la za la za)), .val (.int (0 : Int32))] []))
            refine Go.st (fun _ k' => XS.iconst X54.here hx rfl (hb hby at_173) k') ?_
            show Go p e below s _ _ _ (T54.setTop (mkF m 174 #[.val (.int la), .val (.long za), .second, .val (.int lb), .val (.long zb), .second, .val (.int sel), .val (.int mm), .val (.long yy), .second, .val (.ref b3), .val (.ref b10), .val (.int (feq mm yy la za)), .val (.int (((sel.toUInt32 >>> ((2 : Int32) &&& 31).toUInt32).toInt32) &&& (3 : Int32))), .val (.ref rr_43), .val (.int (feq la za mm yy)), .val (.int (feq mm yy la za)), .val (.int (feq la za la za)), .val (.int (0 : Int32))] [(.int (1 : Int32))]))
            refine Go.st (fun _ k' => XS.goto X54.here hx rfl (pc0 := 174) (pc' := 178) rfl (hb hby at_174) (by decide) (by decide) k') ?_
            show Go p e below s _ _ _ (T54.setTop (mkF m 178 #[.val (.int la), .val (.long za), .second, .val (.int lb), .val (.long zb), .second, .val (.int sel), .val (.int mm), .val (.long yy), .second, .val (.ref b3), .val (.ref b10), .val (.int (feq mm yy la za)), .val (.int (((sel.toUInt32 >>> ((2 : Int32) &&& 31).toUInt32).toInt32) &&& (3 : Int32))), .val (.ref rr_43), .val (.int (feq la za mm yy)), .val (.int (feq mm yy la za)), .val (.int (feq la za la za)), .val (.int (0 : Int32))] [(.int (1 : Int32))]))
            refine Go.retB X54 hx hlk (t := .boolean) Bd.returns (by simp) (hb hby at_178) (by decide) (by decide) eq54 ?_
            exact ⟨rfl, N54, trivial⟩
      refine Go.st (fun _ k' => XS.iload X17.here hx rfl (hb hby at_53) rfl k') ?_
      show Go p e below s _ _ _ (T17.setTop (mkF m 55 #[.val (.int la), .val (.long za), .second, .val (.int lb), .val (.long zb), .second, .val (.int sel), .val (.int mm), .val (.long yy), .second, .val (.ref b3), .val (.ref b10), .unset, .unset, .unset, .unset, .unset, .unset, .unset] [(.int mm)]))
      refine Go.st (fun _ k' => XS.iloadN X17.here hx rfl (hb hby at_55) rfl k') ?_
      show Go p e below s _ _ _ (T17.setTop (mkF m 56 #[.val (.int la), .val (.long za), .second, .val (.int lb), .val (.long zb), .second, .val (.int sel), .val (.int mm), .val (.long yy), .second, .val (.ref b3), .val (.ref b10), .unset, .unset, .unset, .unset, .unset, .unset, .unset] [(.int la), (.int mm)]))
      by_cases hc55 : mm = la
      · refine Go.st (fun _ k' => XS.icmpNo X17.here hx rfl (hb hby at_56) rfl (XT.ii_ne_f hc55) k') ?_
        show Go p e below s _ _ _ (T17.setTop (mkF m 59 #[.val (.int la), .val (.long za), .second, .val (.int lb), .val (.long zb), .second, .val (.int sel), .val (.int mm), .val (.long yy), .second, .val (.ref b3), .val (.ref b10), .unset, .unset, .unset, .unset, .unset, .unset, .unset] []))
        refine Go.st (fun _ k' => XS.lload X17.here hx rfl (hb hby at_59) rfl k') ?_
        show Go p e below s _ _ _ (T17.setTop (mkF m 61 #[.val (.int la), .val (.long za), .second, .val (.int lb), .val (.long zb), .second, .val (.int sel), .val (.int mm), .val (.long yy), .second, .val (.ref b3), .val (.ref b10), .unset, .unset, .unset, .unset, .unset, .unset, .unset] [(.long yy)]))
        refine Go.st (fun _ k' => XS.lloadN X17.here hx rfl (hb hby at_61) rfl k') ?_
        show Go p e below s _ _ _ (T17.setTop (mkF m 62 #[.val (.int la), .val (.long za), .second, .val (.int lb), .val (.long zb), .second, .val (.int sel), .val (.int mm), .val (.long yy), .second, .val (.ref b3), .val (.ref b10), .unset, .unset, .unset, .unset, .unset, .unset, .unset] [(.long za), (.long yy)]))
        refine Go.st (fun _ k' => XT.lcmp X17.here hx rfl (hb hby at_62) rfl k') ?_
        show Go p e below s _ _ _ (T17.setTop (mkF m 63 #[.val (.int la), .val (.long za), .second, .val (.int lb), .val (.long zb), .second, .val (.int sel), .val (.int mm), .val (.long yy), .second, .val (.ref b3), .val (.ref b10), .unset, .unset, .unset, .unset, .unset, .unset, .unset] [(.int (XT.cmpL yy za))]))
        by_cases hc56 : yy = za
        · refine Go.st (fun _ k' => XS.ifNo X17.here hx rfl (hb hby at_63) rfl (XT.ll_ne_f hc56) k') ?_
          show Go p e below s _ _ _ (T17.setTop (mkF m 66 #[.val (.int la), .val (.long za), .second, .val (.int lb), .val (.long zb), .second, .val (.int sel), .val (.int mm), .val (.long yy), .second, .val (.ref b3), .val (.ref b10), .unset, .unset, .unset, .unset, .unset, .unset, .unset] []))
          refine Go.st (fun _ k' => XS.iconst X17.here hx rfl (hb hby at_66) k') ?_
          show Go p e below s _ _ _ (T17.setTop (mkF m 67 #[.val (.int la), .val (.long za), .second, .val (.int lb), .val (.long zb), .second, .val (.int sel), .val (.int mm), .val (.long yy), .second, .val (.ref b3), .val (.ref b10), .unset, .unset, .unset, .unset, .unset, .unset, .unset] [(.int (1 : Int32))]))
          refine Go.st (fun _ k' => XS.goto X17.here hx rfl (pc0 := 67) (pc' := 71) rfl (hb hby at_67) (by decide) (by decide) k') ?_
          show Go p e below s _ _ _ (T17.setTop (mkF m 71 #[.val (.int la), .val (.long za), .second, .val (.int lb), .val (.long zb), .second, .val (.int sel), .val (.int mm), .val (.long yy), .second, .val (.ref b3), .val (.ref b10), .unset, .unset, .unset, .unset, .unset, .unset, .unset] [(.int (1 : Int32))]))
          exact J24 (1 : Int32) (by simp [feq, hc55, hc56])
        · refine Go.st (fun _ k' => XS.ifYes X17.here hx rfl (pc0 := 63) (pc' := 70) rfl (hb hby at_63) rfl (XT.ll_ne_t hc56) (by decide) (by decide) k') ?_
          show Go p e below s _ _ _ (T17.setTop (mkF m 70 #[.val (.int la), .val (.long za), .second, .val (.int lb), .val (.long zb), .second, .val (.int sel), .val (.int mm), .val (.long yy), .second, .val (.ref b3), .val (.ref b10), .unset, .unset, .unset, .unset, .unset, .unset, .unset] []))
          refine Go.st (fun _ k' => XS.iconst X17.here hx rfl (hb hby at_70) k') ?_
          show Go p e below s _ _ _ (T17.setTop (mkF m 71 #[.val (.int la), .val (.long za), .second, .val (.int lb), .val (.long zb), .second, .val (.int sel), .val (.int mm), .val (.long yy), .second, .val (.ref b3), .val (.ref b10), .unset, .unset, .unset, .unset, .unset, .unset, .unset] [(.int (0 : Int32))]))
          exact J24 (0 : Int32) (by simp [feq, hc55, hc56])
      · refine Go.st (fun _ k' => XS.icmpYes X17.here hx rfl (pc0 := 56) (pc' := 70) rfl (hb hby at_56) rfl (XT.ii_ne_t hc55) (by decide) (by decide) k') ?_
        show Go p e below s _ _ _ (T17.setTop (mkF m 70 #[.val (.int la), .val (.long za), .second, .val (.int lb), .val (.long zb), .second, .val (.int sel), .val (.int mm), .val (.long yy), .second, .val (.ref b3), .val (.ref b10), .unset, .unset, .unset, .unset, .unset, .unset, .unset] []))
        refine Go.st (fun _ k' => XS.iconst X17.here hx rfl (hb hby at_70) k') ?_
        show Go p e below s _ _ _ (T17.setTop (mkF m 71 #[.val (.int la), .val (.long za), .second, .val (.int lb), .val (.long zb), .second, .val (.int sel), .val (.int mm), .val (.long yy), .second, .val (.ref b3), .val (.ref b10), .unset, .unset, .unset, .unset, .unset, .unset, .unset] [(.int (0 : Int32))]))
        exact J24 (0 : Int32) (by simp [feq, hc55])
    refine Go.st (fun _ k' => XS.iload X0.here hx rfl (hb hby at_14) rfl k') ?_
    show Go p e below s _ _ _ (s₁.setTop (mkF m 16 #[.val (.int la), .val (.long za), .second, .val (.int lb), .val (.long zb), .second, .val (.int sel), .val (.int mm), .unset, .unset, .unset, .unset, .unset, .unset, .unset, .unset, .unset, .unset, .unset] [(.int sel)]))
    refine Go.st (fun _ k' => XS.iconst X0.here hx rfl (hb hby at_16) k') ?_
    show Go p e below s _ _ _ (s₁.setTop (mkF m 17 #[.val (.int la), .val (.long za), .second, .val (.int lb), .val (.long zb), .second, .val (.int sel), .val (.int mm), .unset, .unset, .unset, .unset, .unset, .unset, .unset, .unset, .unset, .unset, .unset] [(.int (2 : Int32)), (.int sel)]))
    refine Go.st (fun _ k' => XS.iand X0.here hx rfl (hb hby at_17) rfl k') ?_
    show Go p e below s _ _ _ (s₁.setTop (mkF m 18 #[.val (.int la), .val (.long za), .second, .val (.int lb), .val (.long zb), .second, .val (.int sel), .val (.int mm), .unset, .unset, .unset, .unset, .unset, .unset, .unset, .unset, .unset, .unset, .unset] [(.int (sel &&& (2 : Int32)))]))
    by_cases hc57 : (sel &&& (2 : Int32)) = (0 : Int32)
    · refine Go.st (fun _ k' => XS.ifYes X0.here hx rfl (pc0 := 18) (pc' := 25) rfl (hb hby at_18) rfl (XT.i0_eq_t hc57) (by decide) (by decide) k') ?_
      show Go p e below s _ _ _ (s₁.setTop (mkF m 25 #[.val (.int la), .val (.long za), .second, .val (.int lb), .val (.long zb), .second, .val (.int sel), .val (.int mm), .unset, .unset, .unset, .unset, .unset, .unset, .unset, .unset, .unset, .unset, .unset] []))
      refine Go.st (fun _ k' => XS.lload X0.here hx rfl (hb hby at_25) rfl k') ?_
      show Go p e below s _ _ _ (s₁.setTop (mkF m 27 #[.val (.int la), .val (.long za), .second, .val (.int lb), .val (.long zb), .second, .val (.int sel), .val (.int mm), .unset, .unset, .unset, .unset, .unset, .unset, .unset, .unset, .unset, .unset, .unset] [(.long zb)]))
      exact J2 zb
    · refine Go.st (fun _ k' => XS.ifNo X0.here hx rfl (hb hby at_18) rfl (XT.i0_eq_f hc57) k') ?_
      show Go p e below s _ _ _ (s₁.setTop (mkF m 21 #[.val (.int la), .val (.long za), .second, .val (.int lb), .val (.long zb), .second, .val (.int sel), .val (.int mm), .unset, .unset, .unset, .unset, .unset, .unset, .unset, .unset, .unset, .unset, .unset] []))
      refine Go.st (fun _ k' => XS.lloadN X0.here hx rfl (hb hby at_21) rfl k') ?_
      show Go p e below s _ _ _ (s₁.setTop (mkF m 22 #[.val (.int la), .val (.long za), .second, .val (.int lb), .val (.long zb), .second, .val (.int sel), .val (.int mm), .unset, .unset, .unset, .unset, .unset, .unset, .unset, .unset, .unset, .unset, .unset] [(.long za)]))
      refine Go.st (fun _ k' => XS.goto X0.here hx rfl (pc0 := 22) (pc' := 27) rfl (hb hby at_22) (by decide) (by decide) k') ?_
      show Go p e below s _ _ _ (s₁.setTop (mkF m 27 #[.val (.int la), .val (.long za), .second, .val (.int lb), .val (.long zb), .second, .val (.int sel), .val (.int mm), .unset, .unset, .unset, .unset, .unset, .unset, .unset, .unset, .unset, .unset, .unset] [(.long za)]))
      exact J2 za
  refine Go.st (fun _ k' => XS.iload X0.here hx rfl (hb hby at_0) rfl k') ?_
  show Go p e below s _ _ _ (s₁.setTop (mkF m 2 #[.val (.int la), .val (.long za), .second, .val (.int lb), .val (.long zb), .second, .val (.int sel), .unset, .unset, .unset, .unset, .unset, .unset, .unset, .unset, .unset, .unset, .unset, .unset] [(.int sel)]))
  refine Go.st (fun _ k' => XS.iconst X0.here hx rfl (hb hby at_2) k') ?_
  show Go p e below s _ _ _ (s₁.setTop (mkF m 3 #[.val (.int la), .val (.long za), .second, .val (.int lb), .val (.long zb), .second, .val (.int sel), .unset, .unset, .unset, .unset, .unset, .unset, .unset, .unset, .unset, .unset, .unset, .unset] [(.int (1 : Int32)), (.int sel)]))
  refine Go.st (fun _ k' => XS.iand X0.here hx rfl (hb hby at_3) rfl k') ?_
  show Go p e below s _ _ _ (s₁.setTop (mkF m 4 #[.val (.int la), .val (.long za), .second, .val (.int lb), .val (.long zb), .second, .val (.int sel), .unset, .unset, .unset, .unset, .unset, .unset, .unset, .unset, .unset, .unset, .unset, .unset] [(.int (sel &&& (1 : Int32)))]))
  by_cases hc58 : (sel &&& (1 : Int32)) = (0 : Int32)
  · refine Go.st (fun _ k' => XS.ifYes X0.here hx rfl (pc0 := 4) (pc' := 11) rfl (hb hby at_4) rfl (XT.i0_eq_t hc58) (by decide) (by decide) k') ?_
    show Go p e below s _ _ _ (s₁.setTop (mkF m 11 #[.val (.int la), .val (.long za), .second, .val (.int lb), .val (.long zb), .second, .val (.int sel), .unset, .unset, .unset, .unset, .unset, .unset, .unset, .unset, .unset, .unset, .unset, .unset] []))
    refine Go.st (fun _ k' => XS.iloadN X0.here hx rfl (hb hby at_11) rfl k') ?_
    show Go p e below s _ _ _ (s₁.setTop (mkF m 12 #[.val (.int la), .val (.long za), .second, .val (.int lb), .val (.long zb), .second, .val (.int sel), .unset, .unset, .unset, .unset, .unset, .unset, .unset, .unset, .unset, .unset, .unset, .unset] [(.int lb)]))
    exact J1 lb
  · refine Go.st (fun _ k' => XS.ifNo X0.here hx rfl (hb hby at_4) rfl (XT.i0_eq_f hc58) k') ?_
    show Go p e below s _ _ _ (s₁.setTop (mkF m 7 #[.val (.int la), .val (.long za), .second, .val (.int lb), .val (.long zb), .second, .val (.int sel), .unset, .unset, .unset, .unset, .unset, .unset, .unset, .unset, .unset, .unset, .unset, .unset] []))
    refine Go.st (fun _ k' => XS.iloadN X0.here hx rfl (hb hby at_7) rfl k') ?_
    show Go p e below s _ _ _ (s₁.setTop (mkF m 8 #[.val (.int la), .val (.long za), .second, .val (.int lb), .val (.long zb), .second, .val (.int sel), .unset, .unset, .unset, .unset, .unset, .unset, .unset, .unset, .unset, .unset, .unset, .unset] [(.int la)]))
    refine Go.st (fun _ k' => XS.goto X0.here hx rfl (pc0 := 8) (pc' := 12) rfl (hb hby at_8) (by decide) (by decide) k') ?_
    show Go p e below s _ _ _ (s₁.setTop (mkF m 12 #[.val (.int la), .val (.long za), .second, .val (.int lb), .val (.long zb), .second, .val (.int sel), .unset, .unset, .unset, .unset, .unset, .unset, .unset, .unset, .unset, .unset, .unset, .unset] [(.int la)]))
    exact J1 la
set_option maxRecDepth 65536 in
set_option maxHeartbeats 40000000 in
theorem comes_1 {Post : Tables → Env → Array Value → State → Outcome → State → Prop} (hpost : ∀ tb e args s v u, (limb_1_1.after args s (.returned v) u = true ∧ limb_1_2.after args s (.returned v) u = true ∧ True) → FrameEnd s (.returned v) u (Jvm.fieldLocs frame_1_writes args s ++ Jvm.arrayLocs frame_1_arrays args s ++ Jvm.staticLocs frame_1_statics s) 16 128 → Post tb e args s (.returned v) u) :
    ArmFor flags0 classFile x code maxLocals ret World_1 tables_1 room_1 Calls_1 rest_1 Pre_1 Post := by
  intro l hfl _ _ p e ha hc hk s m args below hf hA hF happ hP
  obtain ⟨hcalls, hrest, hpre⟩ := hP
  obtain ⟨-, -, -, hnamed, -, -, -, hat⟩ := (Spec.applies_iff hf).mp happ
  obtain ⟨hg, hn⟩ := and_e (Cond.before_iff.mp (show (Jvm.Cond.and given_1 narrow_1).before args s = true from hpre))
  obtain ⟨hcnt, hg0⟩ := and_e hg
  obtain ⟨ha0, hg1⟩ := and_e hg0
  obtain ⟨ha1, hg2⟩ := and_e hg1
  obtain ⟨ha2, hg3⟩ := and_e hg2
  obtain ⟨ha3, hg4⟩ := and_e hg3
  have ha4 := hg4
  obtain ⟨w0, w1, w2, w3, w4, rfl⟩ : ∃ w0 w1 w2 w3 w4 : Value, args = #[w0, w1, w2, w3, w4] := by
    have hs : args.size = 5 := by simpa [Cond.value, given_1] using hcnt
    obtain ⟨L⟩ := args
    match L, hs with
    | [w0, w1, w2, w3, w4], _ => exact ⟨w0, w1, w2, w3, w4, rfl⟩
  have hw := fun d (hd : d ∈ tables_1) => atoms_spec (ws := Jvm.Cond.code x code maxLocals ret :: tables_1) hat d (List.mem_cons_of_mem _ hd)
  have hfit : Fit s := fun {y c} hc i hi => by
    obtain ⟨ha, rfl⟩ := Array.getElem?_eq_some_iff.mp hc
    have q := List.all_eq_true.mp ((Array.all_eq_true_iff_forall_mem.mp hF) _ (Array.getElem_mem ha)) i (List.mem_range.mpr hi)
    simpa [Array.getElem?_eq_getElem hi] using q
  obtain ⟨hsets, hown0⟩ := atoms_of _ (rest_1_c_eq ▸ (show rest_1_c.before _ s = true from hrest))
  have hr0 := Cond.before_iff.mp hown0
  obtain ⟨i0, ei0⟩ := is_v ha0
  obtain rfl : w0 = (.int i0) := Option.some.inj ei0
  obtain ⟨i1, ei1⟩ := isL_v ha1
  obtain rfl : w1 = (.long i1) := Option.some.inj ei1
  obtain ⟨i2, ei2⟩ := is_v ha2
  obtain rfl : w2 = (.int i2) := Option.some.inj ei2
  obtain ⟨i3, ei3⟩ := isL_v ha3
  obtain rfl : w3 = (.long i3) := Option.some.inj ei3
  obtain ⟨i4, ei4⟩ := is_v ha4
  obtain rfl : w4 = (.int i4) := Option.some.inj ei4
  have S_hi := own_st (Cond.before_iff.mp (hsets _ (List.mem_of_getElem? (i := 3) rfl))) (hsets _ (List.mem_of_getElem? (i := 1) rfl))
  obtain ⟨ca, ev_ca⟩ := arr_v (Cond.before_iff.mp (hsets _ (List.mem_of_getElem? (i := 4) rfl)))
  obtain ⟨cb, Ar_ca⟩ := Arr.start ev_ca (Cond.before_iff.mp (hsets _ (List.mem_of_getElem? (i := 4) rfl)))
  have S_ca : Sta s s.heap "java/lang/Integer$IntegerCache" "cache" "[Ljava/lang/Integer;" (.ref ca) := Sta.start ev_ca (Or.inr ⟨(wdx hw 25 rfl), (hsets _ (List.mem_of_getElem? (i := 2) rfl))⟩)
  have Bx := own_bx (fun idx => (show _ = _ from ev_ca)) Ar_ca (Cond.before_iff.mp (hsets _ (List.mem_of_getElem? (i := 6) rfl))) (Cond.before_iff.mp (hsets _ (List.mem_of_getElem? (i := 7) rfl)))
  obtain ⟨cc, ev_cc⟩ := arr_v (Cond.before_iff.mp (hsets _ (List.mem_of_getElem? (i := 10) rfl)))
  obtain ⟨cd, Ar_cc⟩ := Arr.start ev_cc (Cond.before_iff.mp (hsets _ (List.mem_of_getElem? (i := 10) rfl)))
  have S_cc : Sta s s.heap "java/lang/Long$LongCache" "cache" "[Ljava/lang/Long;" (.ref cc) := Sta.start ev_cc (Or.inl (hsets _ (List.mem_of_getElem? (i := 9) rfl)))
  have By := own_bx (fun idx => (show _ = _ from ev_cc)) Ar_cc (Cond.before_iff.mp (hsets _ (List.mem_of_getElem? (i := 12) rfl))) (Cond.before_iff.mp (hsets _ (List.mem_of_getElem? (i := 13) rfl)))
  obtain ⟨n, o, h1, h2, h3, _, L, rfl, ⟨rfl, N, -⟩, hq⟩ := rm0 l s _ hw tables_1 i0 i1 i2 i3 i4 ca cb cc cd s.heap s.heap.size (Old.start s) S_hi S_ca Bx S_cc By p e ha hc hk s m _ below hf ((Spec.applies_iff_loose hf).mp happ).1 ⟨rfl, State.Warmed39.refl s, rfl⟩ trivial
  refine ⟨n, _, h1, h2, h3, hpost _ _ _ _ _ _ ⟨Cond.after_iff.mpr rfl, Cond.after_iff.mpr (eq_i res_at (Term.int_eval (1)) rfl), trivial⟩ ⟨hq.1, hq.2.1, (hq.2.2.sift fun y hy => Or.inr (N y hy)).mono (by decide) (by decide)⟩⟩
theorem main_1_1 : Claimed_1_1 := comes_1 fun _ _ _ _ _ _ h hF => ⟨h.1, hF⟩
theorem main_1_2 : Claimed_1_2 := comes_1 fun _ _ _ _ _ _ h hF => ⟨h.2.1, hF⟩
end Jvm.Pilot.@@N@@
namespace Jvm.Pilot.@@N@@
open Jvm Jvm.ClassFile Sem Op Lib Jvm.Free Jvm.Stand Jvm.Pilot.@@N@@.Jvm.D
/-! MADE BY PROGRAM (witnessworld.py) out of the Statement's table words and the real class files: 19 classes; the members and pool entries that the words name. The judged class is class 1, her method 1. -/
namespace start1
open Jvm.ClassFile
def u (s : String) : CpInfo := .utf8 (stringToUtf16 s)
/-- a pool by its gaps: so many unusable entries, then the entry; so many at the end -/
def gap : Nat → List CpInfo → List CpInfo
  | 0, r => r
  | n + 1, r => .unusable :: gap n r
def poolList (es : List (Nat × CpInfo)) (last : Nat) : List CpInfo := es.foldr (fun e r => gap e.1 (e.2 :: r)) (gap last [])
def pool (es : List (Nat × CpInfo)) (last : Nat) : Array CpInfo := ⟨poolList es last⟩
def fileOf (pool : Array CpInfo) (this : Nat) (attrs : Array Attribute := #[]) (ms : Array MethodInfo := #[]) (fl : Nat := 33) (sup : Nat := 0) (ifs : Array Nat := #[]) (fds : Array FieldInfo := #[]) : ClassFile where
  minorVersion := 0
  majorVersion := 65
  constantPool := pool
  accessFlags := fl
  thisClass := this
  superClass := sup
  interfaces := ifs
  fields := fds
  methods := ms
  attributes := attrs
def plain (name : String) (sup : Option ClassId) : Class where
  name := name
  kind := .ordinary
  loader := none
  accessFlags := 33
  super := sup
  interfaces := #[]
  cf := none
  fields := #[]
  methods := #[]
  instanceTypes := #[]
  staticTypes := #[]
  resolved := #[]
  callSites := []
  init := .initialized
  statics := none
  mirror := none

def pool0 : Array CpInfo := pool [(5, u "<init>"), (0, u "()V"), (1, .class_ 10), (1, u "java/lang/Object")] 113

def k0c0 : Code := { maxStack := 0, maxLocals := 1, code := object_method_1_code, exceptionTable := #[], attributes := #[] }
def k0m0 : Method := { name := "<init>", desc := "()V", sig := { parameters := [], returnType := none }, accessFlags := 1, code := some k0c0 }
/-- java/lang/Object -/
def k0 : Class := { plain "java/lang/Object" none with
  accessFlags := 33
  interfaces := #[]
  cf := some (fileOf pool0 8 #[] #[{ accessFlags := 1, nameIndex := 5, descriptorIndex := 6, attributes := #[] }] 33 0 #[] #[])
  fields := #[]
  methods := #[k0m0]
  instanceTypes := #[]
  staticTypes := #[]
  resolved := Array.replicate 124 none
  statics := none }

def pool1 : Array CpInfo := pool [(2, .class_ 4), (1, u "java/lang/Object"), (0, u "<init>"), (0, u "()V"), (0, .class_ 8), (0, u "com/example/exact_quorum/exactquorum/server/Election$Vote"), (0, .methodref 7 10), (0, .nameAndType 5 11), (0, u "(IJ)V"), (0, .methodref 13 14), (0, .class_ 15), (0, .nameAndType 16 17), (0, u "java/lang/Long"), (0, u "valueOf"), (0, u "(J)Ljava/lang/Long;"), (0, .methodref 19 20), (0, .class_ 21), (0, .nameAndType 16 22), (0, u "java/lang/Integer"), (0, u "(I)Ljava/lang/Integer;"), (0, .methodref 7 24), (0, .nameAndType 25 26), (0, u "equals"), (0, u "(Ljava/lang/Object;)Z"), (0, .class_ 28), (0, u "com/example/exact_quorum/exactquorum/server/VoteEqualsPinLaw"), (2, u "law"), (0, u "(IJIJI)Z")] 7

def k1m0 : Method := { name := "<init>", desc := "()V", sig := { parameters := [], returnType := none }, accessFlags := 1, code := none }
def k1c1 : Code := { maxStack := 5, maxLocals := 19, code := code, exceptionTable := #[], attributes := #[] }
def k1m1 : Method := { name := "law", desc := "(IJIJI)Z", sig := { parameters := [.int, .long, .int, .long, .int], returnType := some .boolean }, accessFlags := 9, code := some k1c1 }
/-- com/example/exact_quorum/exactquorum/server/VoteEqualsPinLaw -/
def k1 : Class := { plain "com/example/exact_quorum/exactquorum/server/VoteEqualsPinLaw" (some 0) with
  accessFlags := 49
  interfaces := #[]
  cf := some (fileOf pool1 27 #[] #[{ accessFlags := 1, nameIndex := 5, descriptorIndex := 6, attributes := #[] }, { accessFlags := 9, nameIndex := 31, descriptorIndex := 32, attributes := #[] }] 49 2 #[] #[])
  fields := #[]
  methods := #[k1m0, k1m1]
  instanceTypes := #[]
  staticTypes := #[]
  resolved := Array.replicate 40 none
  statics := none }

def pool2 : Array CpInfo := pool [(1, .methodref 2 3), (0, .class_ 4), (0, .nameAndType 5 6), (0, u "java/lang/Object"), (0, u "<init>"), (0, u "()V"), (0, .fieldref 8 9), (0, .class_ 10), (0, .nameAndType 11 12), (0, u "com/example/exact_quorum/exactquorum/server/Election$Vote"), (0, u "leader"), (0, u "I"), (0, .fieldref 8 14), (0, .nameAndType 15 16), (0, u "zxid"), (0, u "J"), (19, u "(IJ)V"), (7, u "equals"), (0, u "(Ljava/lang/Object;)Z"), (5, .class_ 52), (0, u "com/example/exact_quorum/exactquorum/server/Election")] 16

def k2c0 : Code := { maxStack := 3, maxLocals := 4, code := prog_77_method_1_code, exceptionTable := #[], attributes := #[] }
def k2m0 : Method := { name := "<init>", desc := "(IJ)V", sig := { parameters := [.int, .long], returnType := none }, accessFlags := 0, code := some k2c0 }
def k2c1 : Code := { maxStack := 4, maxLocals := 3, code := prog_77_method_5_code, exceptionTable := #[], attributes := #[] }
def k2m1 : Method := { name := "equals", desc := "(Ljava/lang/Object;)Z", sig := { parameters := [(.object "java/lang/Object")], returnType := some .boolean }, accessFlags := 1, code := some k2c1 }
/-- com/example/exact_quorum/exactquorum/server/Election$Vote -/
def k2 : Class := { plain "com/example/exact_quorum/exactquorum/server/Election$Vote" (some 0) with
  accessFlags := 48
  interfaces := #[]
  cf := some (fileOf pool2 8 #[.nestHost 51] #[{ accessFlags := 0, nameIndex := 5, descriptorIndex := 36, attributes := #[] }, { accessFlags := 1, nameIndex := 44, descriptorIndex := 45, attributes := #[] }] 48 2 #[] #[{ accessFlags := 18, nameIndex := 11, descriptorIndex := 12, attributes := #[] }, { accessFlags := 18, nameIndex := 15, descriptorIndex := 16, attributes := #[] }])
  fields := #[{ name := "leader", type := .int, accessFlags := 18, slot := 0, constantValue := 0 }, { name := "zxid", type := .long, accessFlags := 18, slot := 1, constantValue := 0 }]
  methods := #[k2m0, k2m1]
  instanceTypes := #[.int, .long]
  staticTypes := #[]
  resolved := Array.replicate 69 none
  statics := none }

def pool3 : Array CpInfo := pool [(1, .class_ 2), (0, u "java/io/Serializable"), (0, .class_ 4), (0, u "java/lang/Object")] 2

/-- java/io/Serializable -/
def k3 : Class := { plain "java/io/Serializable" (some 0) with
  accessFlags := 1537
  interfaces := #[]
  cf := some (fileOf pool3 1 #[] #[] 1537 3 #[] #[])
  fields := #[]
  methods := #[]
  instanceTypes := #[]
  staticTypes := #[]
  resolved := Array.replicate 7 none
  statics := none }

def pool4 : Array CpInfo := pool [(1, .methodref 2 3), (0, .class_ 4), (0, .nameAndType 5 6), (0, u "java/lang/Object"), (0, u "<init>"), (0, u "()V"), (1, .class_ 10), (1, u "java/lang/Number"), (2, .class_ 14), (0, u "java/io/Serializable"), (0, u "serialVersionUID"), (0, u "J")] 20

def k4c0 : Code := { maxStack := 1, maxLocals := 1, code := jdk_18_method_1_code, exceptionTable := #[], attributes := #[] }
def k4m0 : Method := { name := "<init>", desc := "()V", sig := { parameters := [], returnType := none }, accessFlags := 1, code := some k4c0 }
/-- java/lang/Number -/
def k4 : Class := { plain "java/lang/Number" (some 0) with
  accessFlags := 1057
  interfaces := #[3]
  cf := some (fileOf pool4 8 #[] #[{ accessFlags := 1, nameIndex := 5, descriptorIndex := 6, attributes := #[] }] 1057 2 #[13] #[{ accessFlags := 26, nameIndex := 15, descriptorIndex := 16, attributes := #[] }])
  fields := #[{ name := "serialVersionUID", type := .long, accessFlags := 26, slot := 0, constantValue := 0 }]
  methods := #[k4m0]
  instanceTypes := #[]
  staticTypes := #[.long]
  resolved := Array.replicate 37 none
  statics := none }

def pool5 : Array CpInfo := pool [(1, .class_ 2), (0, u "java/lang/Comparable"), (0, .class_ 4), (0, u "java/lang/Object")] 7

/-- java/lang/Comparable -/
def k5 : Class := { plain "java/lang/Comparable" (some 0) with
  accessFlags := 1537
  interfaces := #[]
  cf := some (fileOf pool5 1 #[] #[] 1537 3 #[] #[])
  fields := #[]
  methods := #[]
  instanceTypes := #[]
  staticTypes := #[]
  resolved := Array.replicate 12 none
  statics := none }

def pool6 : Array CpInfo := pool [(1, .class_ 2), (0, u "java/lang/constant/Constable"), (0, .class_ 4), (0, u "java/lang/Object")] 6

/-- java/lang/constant/Constable -/
def k6 : Class := { plain "java/lang/constant/Constable" (some 0) with
  accessFlags := 1537
  interfaces := #[]
  cf := some (fileOf pool6 1 #[] #[] 1537 3 #[] #[])
  fields := #[]
  methods := #[]
  instanceTypes := #[]
  staticTypes := #[]
  resolved := Array.replicate 11 none
  statics := none }

def pool7 : Array CpInfo := pool [(1, .class_ 2), (0, u "java/lang/constant/ConstantDesc"), (0, .class_ 4), (0, u "java/lang/Object")] 32

/-- java/lang/constant/ConstantDesc -/
def k7 : Class := { plain "java/lang/constant/ConstantDesc" (some 0) with
  accessFlags := 1537
  interfaces := #[]
  cf := some (fileOf pool7 1 #[] #[] 1537 3 #[] #[])
  fields := #[]
  methods := #[]
  instanceTypes := #[]
  staticTypes := #[]
  resolved := Array.replicate 37 none
  statics := none }

def pool8 : Array CpInfo := pool [(1, .class_ 2), (0, u "java/lang/Integer"), (16, u "digits"), (0, u "[C"), (46, u "<init>"), (17, u "DigitOnes"), (0, u "[B"), (2, u "DigitTens"), (10, .nameAndType 67 101), (0, u "()V"), (85, u "valueOf"), (0, u "(I)Ljava/lang/Integer;"), (0, .class_ 190), (0, u "java/lang/Integer$IntegerCache"), (0, .fieldref 189 192), (0, .nameAndType 193 194), (0, u "high"), (0, u "I"), (0, .fieldref 189 196), (0, .nameAndType 197 198), (0, u "cache"), (0, u "[Ljava/lang/Integer;"), (0, .methodref 1 200), (0, .nameAndType 67 201), (0, u "(I)V"), (0, .methodref 203 100), (0, .class_ 204), (0, u "java/lang/Number"), (0, .fieldref 1 206), (0, .nameAndType 207 194), (0, u "value"), (94, u "TYPE"), (0, u "Ljava/lang/Class;"), (0, .class_ 305), (0, u "java/lang/Comparable"), (0, .class_ 307), (0, u "java/lang/constant/Constable"), (0, .class_ 309), (0, u "java/lang/constant/ConstantDesc"), (0, u "MIN_VALUE"), (1, u "MAX_VALUE"), (3, u "SIZE"), (1, u "BYTES"), (1, u "serialVersionUID"), (0, u "J")] 131

def k8c0 : Code := { maxStack := 3, maxLocals := 1, code := jdk_33_method_22_code, exceptionTable := #[], attributes := #[] }
def k8m0 : Method := { name := "valueOf", desc := "(I)Ljava/lang/Integer;", sig := { parameters := [.int], returnType := some (.object "java/lang/Integer") }, accessFlags := 9, code := some k8c0 }
def k8c1 : Code := { maxStack := 2, maxLocals := 2, code := jdk_33_method_23_code, exceptionTable := #[], attributes := #[] }
def k8m1 : Method := { name := "<init>", desc := "(I)V", sig := { parameters := [.int], returnType := none }, accessFlags := 1, code := some k8c1 }
/-- java/lang/Integer -/
def k8 : Class := { plain "java/lang/Integer" (some 4) with
  accessFlags := 49
  interfaces := #[5, 6, 7]
  cf := some (fileOf pool8 1 #[.nestMembers #[189]] #[{ accessFlags := 9, nameIndex := 187, descriptorIndex := 188, attributes := #[] }, { accessFlags := 1, nameIndex := 67, descriptorIndex := 201, attributes := #[] }] 49 203 #[304, 306, 308] #[{ accessFlags := 25, nameIndex := 310, descriptorIndex := 194, attributes := #[] }, { accessFlags := 25, nameIndex := 312, descriptorIndex := 194, attributes := #[] }, { accessFlags := 25, nameIndex := 302, descriptorIndex := 303, attributes := #[] }, { accessFlags := 24, nameIndex := 19, descriptorIndex := 20, attributes := #[] }, { accessFlags := 24, nameIndex := 89, descriptorIndex := 86, attributes := #[] }, { accessFlags := 24, nameIndex := 85, descriptorIndex := 86, attributes := #[] }, { accessFlags := 18, nameIndex := 207, descriptorIndex := 194, attributes := #[] }, { accessFlags := 25, nameIndex := 316, descriptorIndex := 194, attributes := #[] }, { accessFlags := 25, nameIndex := 318, descriptorIndex := 194, attributes := #[] }, { accessFlags := 26, nameIndex := 320, descriptorIndex := 321, attributes := #[] }])
  fields := #[{ name := "MIN_VALUE", type := .int, accessFlags := 25, slot := 0, constantValue := 0 }, { name := "MAX_VALUE", type := .int, accessFlags := 25, slot := 1, constantValue := 0 }, { name := "TYPE", type := (.object "java/lang/Class"), accessFlags := 25, slot := 2, constantValue := 0 }, { name := "digits", type := (.array .char), accessFlags := 24, slot := 3, constantValue := 0 }, { name := "DigitTens", type := (.array .byte), accessFlags := 24, slot := 4, constantValue := 0 }, { name := "DigitOnes", type := (.array .byte), accessFlags := 24, slot := 5, constantValue := 0 }, { name := "value", type := .int, accessFlags := 18, slot := 0, constantValue := 0 }, { name := "SIZE", type := .int, accessFlags := 25, slot := 6, constantValue := 0 }, { name := "BYTES", type := .int, accessFlags := 25, slot := 7, constantValue := 0 }, { name := "serialVersionUID", type := .long, accessFlags := 26, slot := 8, constantValue := 0 }]
  methods := #[k8m0, k8m1]
  instanceTypes := #[.int]
  staticTypes := #[.int, .int, (.object "java/lang/Class"), (.array .char), (.array .byte), (.array .byte), .int, .int, .long]
  resolved := Array.replicate 453 none
  statics := none }

def pool9 : Array CpInfo := pool [(2, .class_ 4), (1, u "java/lang/Object"), (0, u "<init>"), (0, u "()V"), (0, .class_ 8), (0, u "java/lang/Integer"), (7, .class_ 18), (1, u "java/lang/Integer$IntegerCache"), (0, u "$assertionsDisabled"), (0, u "Z"), (26, u "high"), (0, u "I"), (8, u "archivedCache"), (0, u "[Ljava/lang/Integer;"), (12, u "cache"), (0, u "low")] 27

def k9m0 : Method := { name := "<init>", desc := "()V", sig := { parameters := [], returnType := none }, accessFlags := 2, code := none }
/-- java/lang/Integer$IntegerCache -/
def k9 : Class := { plain "java/lang/Integer$IntegerCache" (some 0) with
  accessFlags := 48
  interfaces := #[]
  cf := some (fileOf pool9 16 #[.nestHost 7] #[{ accessFlags := 2, nameIndex := 5, descriptorIndex := 6, attributes := #[] }] 48 2 #[] #[{ accessFlags := 24, nameIndex := 72, descriptorIndex := 48, attributes := #[] }, { accessFlags := 24, nameIndex := 47, descriptorIndex := 48, attributes := #[] }, { accessFlags := 24, nameIndex := 71, descriptorIndex := 58, attributes := #[] }, { accessFlags := 8, nameIndex := 57, descriptorIndex := 58, attributes := #[] }, { accessFlags := 4120, nameIndex := 19, descriptorIndex := 20, attributes := #[] }])
  fields := #[{ name := "low", type := .int, accessFlags := 24, slot := 0, constantValue := 0 }, { name := "high", type := .int, accessFlags := 24, slot := 1, constantValue := 0 }, { name := "cache", type := (.array (.object "java/lang/Integer")), accessFlags := 24, slot := 2, constantValue := 0 }, { name := "archivedCache", type := (.array (.object "java/lang/Integer")), accessFlags := 8, slot := 3, constantValue := 0 }, { name := "$assertionsDisabled", type := .boolean, accessFlags := 4120, slot := 4, constantValue := 0 }]
  methods := #[k9m0]
  instanceTypes := #[]
  staticTypes := #[.int, .int, (.array (.object "java/lang/Integer")), (.array (.object "java/lang/Integer")), .boolean]
  resolved := Array.replicate 100 none
  statics := some 0 }

def pool10 : Array CpInfo := pool [(1, .class_ 2), (0, u "java/lang/Long"), (55, .nameAndType 59 60), (0, u "<init>"), (0, u "()V"), (24, u "valueOf"), (143, u "(J)Ljava/lang/Long;"), (0, .long 18446744073709551488), (1, .long 127), (1, .fieldref 235 236), (0, .class_ 237), (0, .nameAndType 238 239), (0, u "java/lang/Long$LongCache"), (0, u "cache"), (0, u "[Ljava/lang/Long;"), (0, .methodref 1 241), (0, .nameAndType 59 242), (0, u "(J)V"), (27, .methodref 271 58), (0, .class_ 272), (0, u "java/lang/Number"), (0, .fieldref 1 274), (0, .nameAndType 275 276), (0, u "value"), (0, u "J"), (84, u "TYPE"), (0, u "Ljava/lang/Class;"), (0, .class_ 364), (0, u "java/lang/Comparable"), (0, .class_ 366), (0, u "java/lang/constant/Constable"), (0, .class_ 368), (0, u "java/lang/constant/ConstantDesc"), (0, u "MIN_VALUE"), (1, u "MAX_VALUE"), (4, u "SIZE"), (0, u "I"), (1, u "BYTES"), (1, u "serialVersionUID")] 142

def k10c0 : Code := { maxStack := 4, maxLocals := 3, code := jdk_35_method_24_code, exceptionTable := #[], attributes := #[] }
def k10m0 : Method := { name := "valueOf", desc := "(J)Ljava/lang/Long;", sig := { parameters := [.long], returnType := some (.object "java/lang/Long") }, accessFlags := 9, code := some k10c0 }
def k10c1 : Code := { maxStack := 3, maxLocals := 3, code := jdk_35_method_26_code, exceptionTable := #[], attributes := #[] }
def k10m1 : Method := { name := "<init>", desc := "(J)V", sig := { parameters := [.long], returnType := none }, accessFlags := 1, code := some k10c1 }
/-- java/lang/Long -/
def k10 : Class := { plain "java/lang/Long" (some 4) with
  accessFlags := 49
  interfaces := #[5, 6, 7]
  cf := some (fileOf pool10 1 #[.nestMembers #[235]] #[{ accessFlags := 9, nameIndex := 85, descriptorIndex := 229, attributes := #[] }, { accessFlags := 1, nameIndex := 59, descriptorIndex := 242, attributes := #[] }] 49 271 #[363, 365, 367] #[{ accessFlags := 25, nameIndex := 369, descriptorIndex := 276, attributes := #[] }, { accessFlags := 25, nameIndex := 371, descriptorIndex := 276, attributes := #[] }, { accessFlags := 25, nameIndex := 361, descriptorIndex := 362, attributes := #[] }, { accessFlags := 18, nameIndex := 275, descriptorIndex := 276, attributes := #[] }, { accessFlags := 25, nameIndex := 376, descriptorIndex := 377, attributes := #[] }, { accessFlags := 25, nameIndex := 379, descriptorIndex := 377, attributes := #[] }, { accessFlags := 26, nameIndex := 381, descriptorIndex := 276, attributes := #[] }])
  fields := #[{ name := "MIN_VALUE", type := .long, accessFlags := 25, slot := 0, constantValue := 0 }, { name := "MAX_VALUE", type := .long, accessFlags := 25, slot := 1, constantValue := 0 }, { name := "TYPE", type := (.object "java/lang/Class"), accessFlags := 25, slot := 2, constantValue := 0 }, { name := "value", type := .long, accessFlags := 18, slot := 0, constantValue := 0 }, { name := "SIZE", type := .int, accessFlags := 25, slot := 3, constantValue := 0 }, { name := "BYTES", type := .int, accessFlags := 25, slot := 4, constantValue := 0 }, { name := "serialVersionUID", type := .long, accessFlags := 26, slot := 5, constantValue := 0 }]
  methods := #[k10m0, k10m1]
  instanceTypes := #[.long]
  staticTypes := #[.long, .long, (.object "java/lang/Class"), .int, .int, .long]
  resolved := Array.replicate 524 none
  statics := none }

def pool11 : Array CpInfo := pool [(2, .class_ 4), (1, u "java/lang/Object"), (0, u "<init>"), (0, u "()V"), (0, .class_ 8), (0, u "java/lang/Long"), (7, .class_ 18), (1, u "java/lang/Long$LongCache"), (0, u "$assertionsDisabled"), (0, u "Z"), (8, u "archivedCache"), (0, u "[Ljava/lang/Long;"), (7, u "cache")] 24

def k11m0 : Method := { name := "<init>", desc := "()V", sig := { parameters := [], returnType := none }, accessFlags := 2, code := none }
/-- java/lang/Long$LongCache -/
def k11 : Class := { plain "java/lang/Long$LongCache" (some 0) with
  accessFlags := 48
  interfaces := #[]
  cf := some (fileOf pool11 16 #[.nestHost 7] #[{ accessFlags := 2, nameIndex := 5, descriptorIndex := 6, attributes := #[] }] 48 2 #[] #[{ accessFlags := 24, nameIndex := 38, descriptorIndex := 30, attributes := #[] }, { accessFlags := 8, nameIndex := 29, descriptorIndex := 30, attributes := #[] }, { accessFlags := 4120, nameIndex := 19, descriptorIndex := 20, attributes := #[] }])
  fields := #[{ name := "cache", type := (.array (.object "java/lang/Long")), accessFlags := 24, slot := 0, constantValue := 0 }, { name := "archivedCache", type := (.array (.object "java/lang/Long")), accessFlags := 8, slot := 1, constantValue := 0 }, { name := "$assertionsDisabled", type := .boolean, accessFlags := 4120, slot := 2, constantValue := 0 }]
  methods := #[k11m0]
  instanceTypes := #[]
  staticTypes := #[(.array (.object "java/lang/Long")), (.array (.object "java/lang/Long")), .boolean]
  resolved := Array.replicate 63 none
  statics := some 1 }

def pool12 : Array CpInfo := pool [(1, u "java/lang/Cloneable"), (0, .class_ 1), (0, u "java/lang/Object"), (0, .class_ 3)] 3

/-- java/lang/Cloneable -/
def k12 : Class := { plain "java/lang/Cloneable" (some 0) with
  accessFlags := 1537
  interfaces := #[]
  cf := some (fileOf pool12 2 #[] #[] 1537 4 #[] #[])
  fields := #[]
  methods := #[]
  instanceTypes := #[]
  staticTypes := #[]
  resolved := Array.replicate 8 none
  statics := none }

/-- the primitive byte -/
def k13 : Class := { plain "byte" none with kind := .primitive 'B', accessFlags := 0x411 }
/-- [B -/
def k14 : Class := { plain "[B" (some 0) with kind := .array 13 .byte, interfaces := #[12, 3], accessFlags := 1041 }

/-- the primitive int -/
def k15 : Class := { plain "int" none with kind := .primitive 'I', accessFlags := 0x411 }
/-- [I -/
def k16 : Class := { plain "[I" (some 0) with kind := .array 15 .int, interfaces := #[12, 3], accessFlags := 1041 }

/-- [Ljava/lang/Integer; -/
def k17 : Class := { plain "[Ljava/lang/Integer;" (some 0) with kind := .array 8 (.object "java/lang/Integer"), interfaces := #[12, 3], accessFlags := 1041 }

/-- [Ljava/lang/Long; -/
def k18 : Class := { plain "[Ljava/lang/Long;" (some 0) with kind := .array 10 (.object "java/lang/Long"), interfaces := #[12, 3], accessFlags := 1041 }

def heap : Heap := #[{ cls := 9, slots := #[.int 0, .int 127, .ref 2, .null, .int 0], vm := .statics 9 },
  { cls := 11, slots := #[.ref 3, .null, .int 0], vm := .statics 11 },
  { cls := 17, slots := #[.ref 4, .ref 5, .ref 6, .ref 7, .ref 8, .ref 9, .ref 10, .ref 11, .ref 12, .ref 13, .ref 14, .ref 15, .ref 16, .ref 17, .ref 18, .ref 19, .ref 20, .ref 21, .ref 22, .ref 23, .ref 24, .ref 25, .ref 26, .ref 27, .ref 28, .ref 29, .ref 30, .ref 31, .ref 32, .ref 33, .ref 34, .ref 35, .ref 36, .ref 37, .ref 38, .ref 39, .ref 40, .ref 41, .ref 42, .ref 43, .ref 44, .ref 45, .ref 46, .ref 47, .ref 48, .ref 49, .ref 50, .ref 51, .ref 52, .ref 53, .ref 54, .ref 55, .ref 56, .ref 57, .ref 58, .ref 59, .ref 60, .ref 61, .ref 62, .ref 63, .ref 64, .ref 65, .ref 66, .ref 67, .ref 68, .ref 69, .ref 70, .ref 71, .ref 72, .ref 73, .ref 74, .ref 75, .ref 76, .ref 77, .ref 78, .ref 79, .ref 80, .ref 81, .ref 82, .ref 83, .ref 84, .ref 85, .ref 86, .ref 87, .ref 88, .ref 89, .ref 90, .ref 91, .ref 92, .ref 93, .ref 94, .ref 95, .ref 96, .ref 97, .ref 98, .ref 99, .ref 100, .ref 101, .ref 102, .ref 103, .ref 104, .ref 105, .ref 106, .ref 107, .ref 108, .ref 109, .ref 110, .ref 111, .ref 112, .ref 113, .ref 114, .ref 115, .ref 116, .ref 117, .ref 118, .ref 119, .ref 120, .ref 121, .ref 122, .ref 123, .ref 124, .ref 125, .ref 126, .ref 127, .ref 128, .ref 129, .ref 130, .ref 131, .ref 132, .ref 133, .ref 134, .ref 135, .ref 136, .ref 137, .ref 138, .ref 139, .ref 140, .ref 141, .ref 142, .ref 143, .ref 144, .ref 145, .ref 146, .ref 147, .ref 148, .ref 149, .ref 150, .ref 151, .ref 152, .ref 153, .ref 154, .ref 155, .ref 156, .ref 157, .ref 158, .ref 159, .ref 160, .ref 161, .ref 162, .ref 163, .ref 164, .ref 165, .ref 166, .ref 167, .ref 168, .ref 169, .ref 170, .ref 171, .ref 172, .ref 173, .ref 174, .ref 175, .ref 176, .ref 177, .ref 178, .ref 179, .ref 180, .ref 181, .ref 182, .ref 183, .ref 184, .ref 185, .ref 186, .ref 187, .ref 188, .ref 189, .ref 190, .ref 191, .ref 192, .ref 193, .ref 194, .ref 195, .ref 196, .ref 197, .ref 198, .ref 199, .ref 200, .ref 201, .ref 202, .ref 203, .ref 204, .ref 205, .ref 206, .ref 207, .ref 208, .ref 209, .ref 210, .ref 211, .ref 212, .ref 213, .ref 214, .ref 215, .ref 216, .ref 217, .ref 218, .ref 219, .ref 220, .ref 221, .ref 222, .ref 223, .ref 224, .ref 225, .ref 226, .ref 227, .ref 228, .ref 229, .ref 230, .ref 231, .ref 232, .ref 233, .ref 234, .ref 235, .ref 236, .ref 237, .ref 238, .ref 239, .ref 240, .ref 241, .ref 242, .ref 243, .ref 244, .ref 245, .ref 246, .ref 247, .ref 248, .ref 249, .ref 250, .ref 251, .ref 252, .ref 253, .ref 254, .ref 255, .ref 256, .ref 257, .ref 258, .ref 259], vm := .none },
  { cls := 18, slots := #[.ref 260, .ref 261, .ref 262, .ref 263, .ref 264, .ref 265, .ref 266, .ref 267, .ref 268, .ref 269, .ref 270, .ref 271, .ref 272, .ref 273, .ref 274, .ref 275, .ref 276, .ref 277, .ref 278, .ref 279, .ref 280, .ref 281, .ref 282, .ref 283, .ref 284, .ref 285, .ref 286, .ref 287, .ref 288, .ref 289, .ref 290, .ref 291, .ref 292, .ref 293, .ref 294, .ref 295, .ref 296, .ref 297, .ref 298, .ref 299, .ref 300, .ref 301, .ref 302, .ref 303, .ref 304, .ref 305, .ref 306, .ref 307, .ref 308, .ref 309, .ref 310, .ref 311, .ref 312, .ref 313, .ref 314, .ref 315, .ref 316, .ref 317, .ref 318, .ref 319, .ref 320, .ref 321, .ref 322, .ref 323, .ref 324, .ref 325, .ref 326, .ref 327, .ref 328, .ref 329, .ref 330, .ref 331, .ref 332, .ref 333, .ref 334, .ref 335, .ref 336, .ref 337, .ref 338, .ref 339, .ref 340, .ref 341, .ref 342, .ref 343, .ref 344, .ref 345, .ref 346, .ref 347, .ref 348, .ref 349, .ref 350, .ref 351, .ref 352, .ref 353, .ref 354, .ref 355, .ref 356, .ref 357, .ref 358, .ref 359, .ref 360, .ref 361, .ref 362, .ref 363, .ref 364, .ref 365, .ref 366, .ref 367, .ref 368, .ref 369, .ref 370, .ref 371, .ref 372, .ref 373, .ref 374, .ref 375, .ref 376, .ref 377, .ref 378, .ref 379, .ref 380, .ref 381, .ref 382, .ref 383, .ref 384, .ref 385, .ref 386, .ref 387, .ref 388, .ref 389, .ref 390, .ref 391, .ref 392, .ref 393, .ref 394, .ref 395, .ref 396, .ref 397, .ref 398, .ref 399, .ref 400, .ref 401, .ref 402, .ref 403, .ref 404, .ref 405, .ref 406, .ref 407, .ref 408, .ref 409, .ref 410, .ref 411, .ref 412, .ref 413, .ref 414, .ref 415, .ref 416, .ref 417, .ref 418, .ref 419, .ref 420, .ref 421, .ref 422, .ref 423, .ref 424, .ref 425, .ref 426, .ref 427, .ref 428, .ref 429, .ref 430, .ref 431, .ref 432, .ref 433, .ref 434, .ref 435, .ref 436, .ref 437, .ref 438, .ref 439, .ref 440, .ref 441, .ref 442, .ref 443, .ref 444, .ref 445, .ref 446, .ref 447, .ref 448, .ref 449, .ref 450, .ref 451, .ref 452, .ref 453, .ref 454, .ref 455, .ref 456, .ref 457, .ref 458, .ref 459, .ref 460, .ref 461, .ref 462, .ref 463, .ref 464, .ref 465, .ref 466, .ref 467, .ref 468, .ref 469, .ref 470, .ref 471, .ref 472, .ref 473, .ref 474, .ref 475, .ref 476, .ref 477, .ref 478, .ref 479, .ref 480, .ref 481, .ref 482, .ref 483, .ref 484, .ref 485, .ref 486, .ref 487, .ref 488, .ref 489, .ref 490, .ref 491, .ref 492, .ref 493, .ref 494, .ref 495, .ref 496, .ref 497, .ref 498, .ref 499, .ref 500, .ref 501, .ref 502, .ref 503, .ref 504, .ref 505, .ref 506, .ref 507, .ref 508, .ref 509, .ref 510, .ref 511, .ref 512, .ref 513, .ref 514, .ref 515], vm := .none },
  { cls := 8, slots := #[.int (-128)], vm := .none },
  { cls := 8, slots := #[.int (-127)], vm := .none },
  { cls := 8, slots := #[.int (-126)], vm := .none },
  { cls := 8, slots := #[.int (-125)], vm := .none },
  { cls := 8, slots := #[.int (-124)], vm := .none },
  { cls := 8, slots := #[.int (-123)], vm := .none },
  { cls := 8, slots := #[.int (-122)], vm := .none },
  { cls := 8, slots := #[.int (-121)], vm := .none },
  { cls := 8, slots := #[.int (-120)], vm := .none },
  { cls := 8, slots := #[.int (-119)], vm := .none },
  { cls := 8, slots := #[.int (-118)], vm := .none },
  { cls := 8, slots := #[.int (-117)], vm := .none },
  { cls := 8, slots := #[.int (-116)], vm := .none },
  { cls := 8, slots := #[.int (-115)], vm := .none },
  { cls := 8, slots := #[.int (-114)], vm := .none },
  { cls := 8, slots := #[.int (-113)], vm := .none },
  { cls := 8, slots := #[.int (-112)], vm := .none },
  { cls := 8, slots := #[.int (-111)], vm := .none },
  { cls := 8, slots := #[.int (-110)], vm := .none },
  { cls := 8, slots := #[.int (-109)], vm := .none },
  { cls := 8, slots := #[.int (-108)], vm := .none },
  { cls := 8, slots := #[.int (-107)], vm := .none },
  { cls := 8, slots := #[.int (-106)], vm := .none },
  { cls := 8, slots := #[.int (-105)], vm := .none },
  { cls := 8, slots := #[.int (-104)], vm := .none },
  { cls := 8, slots := #[.int (-103)], vm := .none },
  { cls := 8, slots := #[.int (-102)], vm := .none },
  { cls := 8, slots := #[.int (-101)], vm := .none },
  { cls := 8, slots := #[.int (-100)], vm := .none },
  { cls := 8, slots := #[.int (-99)], vm := .none },
  { cls := 8, slots := #[.int (-98)], vm := .none },
  { cls := 8, slots := #[.int (-97)], vm := .none },
  { cls := 8, slots := #[.int (-96)], vm := .none },
  { cls := 8, slots := #[.int (-95)], vm := .none },
  { cls := 8, slots := #[.int (-94)], vm := .none },
  { cls := 8, slots := #[.int (-93)], vm := .none },
  { cls := 8, slots := #[.int (-92)], vm := .none },
  { cls := 8, slots := #[.int (-91)], vm := .none },
  { cls := 8, slots := #[.int (-90)], vm := .none },
  { cls := 8, slots := #[.int (-89)], vm := .none },
  { cls := 8, slots := #[.int (-88)], vm := .none },
  { cls := 8, slots := #[.int (-87)], vm := .none },
  { cls := 8, slots := #[.int (-86)], vm := .none },
  { cls := 8, slots := #[.int (-85)], vm := .none },
  { cls := 8, slots := #[.int (-84)], vm := .none },
  { cls := 8, slots := #[.int (-83)], vm := .none },
  { cls := 8, slots := #[.int (-82)], vm := .none },
  { cls := 8, slots := #[.int (-81)], vm := .none },
  { cls := 8, slots := #[.int (-80)], vm := .none },
  { cls := 8, slots := #[.int (-79)], vm := .none },
  { cls := 8, slots := #[.int (-78)], vm := .none },
  { cls := 8, slots := #[.int (-77)], vm := .none },
  { cls := 8, slots := #[.int (-76)], vm := .none },
  { cls := 8, slots := #[.int (-75)], vm := .none },
  { cls := 8, slots := #[.int (-74)], vm := .none },
  { cls := 8, slots := #[.int (-73)], vm := .none },
  { cls := 8, slots := #[.int (-72)], vm := .none },
  { cls := 8, slots := #[.int (-71)], vm := .none },
  { cls := 8, slots := #[.int (-70)], vm := .none },
  { cls := 8, slots := #[.int (-69)], vm := .none },
  { cls := 8, slots := #[.int (-68)], vm := .none },
  { cls := 8, slots := #[.int (-67)], vm := .none },
  { cls := 8, slots := #[.int (-66)], vm := .none },
  { cls := 8, slots := #[.int (-65)], vm := .none },
  { cls := 8, slots := #[.int (-64)], vm := .none },
  { cls := 8, slots := #[.int (-63)], vm := .none },
  { cls := 8, slots := #[.int (-62)], vm := .none },
  { cls := 8, slots := #[.int (-61)], vm := .none },
  { cls := 8, slots := #[.int (-60)], vm := .none },
  { cls := 8, slots := #[.int (-59)], vm := .none },
  { cls := 8, slots := #[.int (-58)], vm := .none },
  { cls := 8, slots := #[.int (-57)], vm := .none },
  { cls := 8, slots := #[.int (-56)], vm := .none },
  { cls := 8, slots := #[.int (-55)], vm := .none },
  { cls := 8, slots := #[.int (-54)], vm := .none },
  { cls := 8, slots := #[.int (-53)], vm := .none },
  { cls := 8, slots := #[.int (-52)], vm := .none },
  { cls := 8, slots := #[.int (-51)], vm := .none },
  { cls := 8, slots := #[.int (-50)], vm := .none },
  { cls := 8, slots := #[.int (-49)], vm := .none },
  { cls := 8, slots := #[.int (-48)], vm := .none },
  { cls := 8, slots := #[.int (-47)], vm := .none },
  { cls := 8, slots := #[.int (-46)], vm := .none },
  { cls := 8, slots := #[.int (-45)], vm := .none },
  { cls := 8, slots := #[.int (-44)], vm := .none },
  { cls := 8, slots := #[.int (-43)], vm := .none },
  { cls := 8, slots := #[.int (-42)], vm := .none },
  { cls := 8, slots := #[.int (-41)], vm := .none },
  { cls := 8, slots := #[.int (-40)], vm := .none },
  { cls := 8, slots := #[.int (-39)], vm := .none },
  { cls := 8, slots := #[.int (-38)], vm := .none },
  { cls := 8, slots := #[.int (-37)], vm := .none },
  { cls := 8, slots := #[.int (-36)], vm := .none },
  { cls := 8, slots := #[.int (-35)], vm := .none },
  { cls := 8, slots := #[.int (-34)], vm := .none },
  { cls := 8, slots := #[.int (-33)], vm := .none },
  { cls := 8, slots := #[.int (-32)], vm := .none },
  { cls := 8, slots := #[.int (-31)], vm := .none },
  { cls := 8, slots := #[.int (-30)], vm := .none },
  { cls := 8, slots := #[.int (-29)], vm := .none },
  { cls := 8, slots := #[.int (-28)], vm := .none },
  { cls := 8, slots := #[.int (-27)], vm := .none },
  { cls := 8, slots := #[.int (-26)], vm := .none },
  { cls := 8, slots := #[.int (-25)], vm := .none },
  { cls := 8, slots := #[.int (-24)], vm := .none },
  { cls := 8, slots := #[.int (-23)], vm := .none },
  { cls := 8, slots := #[.int (-22)], vm := .none },
  { cls := 8, slots := #[.int (-21)], vm := .none },
  { cls := 8, slots := #[.int (-20)], vm := .none },
  { cls := 8, slots := #[.int (-19)], vm := .none },
  { cls := 8, slots := #[.int (-18)], vm := .none },
  { cls := 8, slots := #[.int (-17)], vm := .none },
  { cls := 8, slots := #[.int (-16)], vm := .none },
  { cls := 8, slots := #[.int (-15)], vm := .none },
  { cls := 8, slots := #[.int (-14)], vm := .none },
  { cls := 8, slots := #[.int (-13)], vm := .none },
  { cls := 8, slots := #[.int (-12)], vm := .none },
  { cls := 8, slots := #[.int (-11)], vm := .none },
  { cls := 8, slots := #[.int (-10)], vm := .none },
  { cls := 8, slots := #[.int (-9)], vm := .none },
  { cls := 8, slots := #[.int (-8)], vm := .none },
  { cls := 8, slots := #[.int (-7)], vm := .none },
  { cls := 8, slots := #[.int (-6)], vm := .none },
  { cls := 8, slots := #[.int (-5)], vm := .none },
  { cls := 8, slots := #[.int (-4)], vm := .none },
  { cls := 8, slots := #[.int (-3)], vm := .none },
  { cls := 8, slots := #[.int (-2)], vm := .none },
  { cls := 8, slots := #[.int (-1)], vm := .none },
  { cls := 8, slots := #[.int 0], vm := .none },
  { cls := 8, slots := #[.int 1], vm := .none },
  { cls := 8, slots := #[.int 2], vm := .none },
  { cls := 8, slots := #[.int 3], vm := .none },
  { cls := 8, slots := #[.int 4], vm := .none },
  { cls := 8, slots := #[.int 5], vm := .none },
  { cls := 8, slots := #[.int 6], vm := .none },
  { cls := 8, slots := #[.int 7], vm := .none },
  { cls := 8, slots := #[.int 8], vm := .none },
  { cls := 8, slots := #[.int 9], vm := .none },
  { cls := 8, slots := #[.int 10], vm := .none },
  { cls := 8, slots := #[.int 11], vm := .none },
  { cls := 8, slots := #[.int 12], vm := .none },
  { cls := 8, slots := #[.int 13], vm := .none },
  { cls := 8, slots := #[.int 14], vm := .none },
  { cls := 8, slots := #[.int 15], vm := .none },
  { cls := 8, slots := #[.int 16], vm := .none },
  { cls := 8, slots := #[.int 17], vm := .none },
  { cls := 8, slots := #[.int 18], vm := .none },
  { cls := 8, slots := #[.int 19], vm := .none },
  { cls := 8, slots := #[.int 20], vm := .none },
  { cls := 8, slots := #[.int 21], vm := .none },
  { cls := 8, slots := #[.int 22], vm := .none },
  { cls := 8, slots := #[.int 23], vm := .none },
  { cls := 8, slots := #[.int 24], vm := .none },
  { cls := 8, slots := #[.int 25], vm := .none },
  { cls := 8, slots := #[.int 26], vm := .none },
  { cls := 8, slots := #[.int 27], vm := .none },
  { cls := 8, slots := #[.int 28], vm := .none },
  { cls := 8, slots := #[.int 29], vm := .none },
  { cls := 8, slots := #[.int 30], vm := .none },
  { cls := 8, slots := #[.int 31], vm := .none },
  { cls := 8, slots := #[.int 32], vm := .none },
  { cls := 8, slots := #[.int 33], vm := .none },
  { cls := 8, slots := #[.int 34], vm := .none },
  { cls := 8, slots := #[.int 35], vm := .none },
  { cls := 8, slots := #[.int 36], vm := .none },
  { cls := 8, slots := #[.int 37], vm := .none },
  { cls := 8, slots := #[.int 38], vm := .none },
  { cls := 8, slots := #[.int 39], vm := .none },
  { cls := 8, slots := #[.int 40], vm := .none },
  { cls := 8, slots := #[.int 41], vm := .none },
  { cls := 8, slots := #[.int 42], vm := .none },
  { cls := 8, slots := #[.int 43], vm := .none },
  { cls := 8, slots := #[.int 44], vm := .none },
  { cls := 8, slots := #[.int 45], vm := .none },
  { cls := 8, slots := #[.int 46], vm := .none },
  { cls := 8, slots := #[.int 47], vm := .none },
  { cls := 8, slots := #[.int 48], vm := .none },
  { cls := 8, slots := #[.int 49], vm := .none },
  { cls := 8, slots := #[.int 50], vm := .none },
  { cls := 8, slots := #[.int 51], vm := .none },
  { cls := 8, slots := #[.int 52], vm := .none },
  { cls := 8, slots := #[.int 53], vm := .none },
  { cls := 8, slots := #[.int 54], vm := .none },
  { cls := 8, slots := #[.int 55], vm := .none },
  { cls := 8, slots := #[.int 56], vm := .none },
  { cls := 8, slots := #[.int 57], vm := .none },
  { cls := 8, slots := #[.int 58], vm := .none },
  { cls := 8, slots := #[.int 59], vm := .none },
  { cls := 8, slots := #[.int 60], vm := .none },
  { cls := 8, slots := #[.int 61], vm := .none },
  { cls := 8, slots := #[.int 62], vm := .none },
  { cls := 8, slots := #[.int 63], vm := .none },
  { cls := 8, slots := #[.int 64], vm := .none },
  { cls := 8, slots := #[.int 65], vm := .none },
  { cls := 8, slots := #[.int 66], vm := .none },
  { cls := 8, slots := #[.int 67], vm := .none },
  { cls := 8, slots := #[.int 68], vm := .none },
  { cls := 8, slots := #[.int 69], vm := .none },
  { cls := 8, slots := #[.int 70], vm := .none },
  { cls := 8, slots := #[.int 71], vm := .none },
  { cls := 8, slots := #[.int 72], vm := .none },
  { cls := 8, slots := #[.int 73], vm := .none },
  { cls := 8, slots := #[.int 74], vm := .none },
  { cls := 8, slots := #[.int 75], vm := .none },
  { cls := 8, slots := #[.int 76], vm := .none },
  { cls := 8, slots := #[.int 77], vm := .none },
  { cls := 8, slots := #[.int 78], vm := .none },
  { cls := 8, slots := #[.int 79], vm := .none },
  { cls := 8, slots := #[.int 80], vm := .none },
  { cls := 8, slots := #[.int 81], vm := .none },
  { cls := 8, slots := #[.int 82], vm := .none },
  { cls := 8, slots := #[.int 83], vm := .none },
  { cls := 8, slots := #[.int 84], vm := .none },
  { cls := 8, slots := #[.int 85], vm := .none },
  { cls := 8, slots := #[.int 86], vm := .none },
  { cls := 8, slots := #[.int 87], vm := .none },
  { cls := 8, slots := #[.int 88], vm := .none },
  { cls := 8, slots := #[.int 89], vm := .none },
  { cls := 8, slots := #[.int 90], vm := .none },
  { cls := 8, slots := #[.int 91], vm := .none },
  { cls := 8, slots := #[.int 92], vm := .none },
  { cls := 8, slots := #[.int 93], vm := .none },
  { cls := 8, slots := #[.int 94], vm := .none },
  { cls := 8, slots := #[.int 95], vm := .none },
  { cls := 8, slots := #[.int 96], vm := .none },
  { cls := 8, slots := #[.int 97], vm := .none },
  { cls := 8, slots := #[.int 98], vm := .none },
  { cls := 8, slots := #[.int 99], vm := .none },
  { cls := 8, slots := #[.int 100], vm := .none },
  { cls := 8, slots := #[.int 101], vm := .none },
  { cls := 8, slots := #[.int 102], vm := .none },
  { cls := 8, slots := #[.int 103], vm := .none },
  { cls := 8, slots := #[.int 104], vm := .none },
  { cls := 8, slots := #[.int 105], vm := .none },
  { cls := 8, slots := #[.int 106], vm := .none },
  { cls := 8, slots := #[.int 107], vm := .none },
  { cls := 8, slots := #[.int 108], vm := .none },
  { cls := 8, slots := #[.int 109], vm := .none },
  { cls := 8, slots := #[.int 110], vm := .none },
  { cls := 8, slots := #[.int 111], vm := .none },
  { cls := 8, slots := #[.int 112], vm := .none },
  { cls := 8, slots := #[.int 113], vm := .none },
  { cls := 8, slots := #[.int 114], vm := .none },
  { cls := 8, slots := #[.int 115], vm := .none },
  { cls := 8, slots := #[.int 116], vm := .none },
  { cls := 8, slots := #[.int 117], vm := .none },
  { cls := 8, slots := #[.int 118], vm := .none },
  { cls := 8, slots := #[.int 119], vm := .none },
  { cls := 8, slots := #[.int 120], vm := .none },
  { cls := 8, slots := #[.int 121], vm := .none },
  { cls := 8, slots := #[.int 122], vm := .none },
  { cls := 8, slots := #[.int 123], vm := .none },
  { cls := 8, slots := #[.int 124], vm := .none },
  { cls := 8, slots := #[.int 125], vm := .none },
  { cls := 8, slots := #[.int 126], vm := .none },
  { cls := 8, slots := #[.int 127], vm := .none },
  { cls := 10, slots := #[.long (-128)], vm := .none },
  { cls := 10, slots := #[.long (-127)], vm := .none },
  { cls := 10, slots := #[.long (-126)], vm := .none },
  { cls := 10, slots := #[.long (-125)], vm := .none },
  { cls := 10, slots := #[.long (-124)], vm := .none },
  { cls := 10, slots := #[.long (-123)], vm := .none },
  { cls := 10, slots := #[.long (-122)], vm := .none },
  { cls := 10, slots := #[.long (-121)], vm := .none },
  { cls := 10, slots := #[.long (-120)], vm := .none },
  { cls := 10, slots := #[.long (-119)], vm := .none },
  { cls := 10, slots := #[.long (-118)], vm := .none },
  { cls := 10, slots := #[.long (-117)], vm := .none },
  { cls := 10, slots := #[.long (-116)], vm := .none },
  { cls := 10, slots := #[.long (-115)], vm := .none },
  { cls := 10, slots := #[.long (-114)], vm := .none },
  { cls := 10, slots := #[.long (-113)], vm := .none },
  { cls := 10, slots := #[.long (-112)], vm := .none },
  { cls := 10, slots := #[.long (-111)], vm := .none },
  { cls := 10, slots := #[.long (-110)], vm := .none },
  { cls := 10, slots := #[.long (-109)], vm := .none },
  { cls := 10, slots := #[.long (-108)], vm := .none },
  { cls := 10, slots := #[.long (-107)], vm := .none },
  { cls := 10, slots := #[.long (-106)], vm := .none },
  { cls := 10, slots := #[.long (-105)], vm := .none },
  { cls := 10, slots := #[.long (-104)], vm := .none },
  { cls := 10, slots := #[.long (-103)], vm := .none },
  { cls := 10, slots := #[.long (-102)], vm := .none },
  { cls := 10, slots := #[.long (-101)], vm := .none },
  { cls := 10, slots := #[.long (-100)], vm := .none },
  { cls := 10, slots := #[.long (-99)], vm := .none },
  { cls := 10, slots := #[.long (-98)], vm := .none },
  { cls := 10, slots := #[.long (-97)], vm := .none },
  { cls := 10, slots := #[.long (-96)], vm := .none },
  { cls := 10, slots := #[.long (-95)], vm := .none },
  { cls := 10, slots := #[.long (-94)], vm := .none },
  { cls := 10, slots := #[.long (-93)], vm := .none },
  { cls := 10, slots := #[.long (-92)], vm := .none },
  { cls := 10, slots := #[.long (-91)], vm := .none },
  { cls := 10, slots := #[.long (-90)], vm := .none },
  { cls := 10, slots := #[.long (-89)], vm := .none },
  { cls := 10, slots := #[.long (-88)], vm := .none },
  { cls := 10, slots := #[.long (-87)], vm := .none },
  { cls := 10, slots := #[.long (-86)], vm := .none },
  { cls := 10, slots := #[.long (-85)], vm := .none },
  { cls := 10, slots := #[.long (-84)], vm := .none },
  { cls := 10, slots := #[.long (-83)], vm := .none },
  { cls := 10, slots := #[.long (-82)], vm := .none },
  { cls := 10, slots := #[.long (-81)], vm := .none },
  { cls := 10, slots := #[.long (-80)], vm := .none },
  { cls := 10, slots := #[.long (-79)], vm := .none },
  { cls := 10, slots := #[.long (-78)], vm := .none },
  { cls := 10, slots := #[.long (-77)], vm := .none },
  { cls := 10, slots := #[.long (-76)], vm := .none },
  { cls := 10, slots := #[.long (-75)], vm := .none },
  { cls := 10, slots := #[.long (-74)], vm := .none },
  { cls := 10, slots := #[.long (-73)], vm := .none },
  { cls := 10, slots := #[.long (-72)], vm := .none },
  { cls := 10, slots := #[.long (-71)], vm := .none },
  { cls := 10, slots := #[.long (-70)], vm := .none },
  { cls := 10, slots := #[.long (-69)], vm := .none },
  { cls := 10, slots := #[.long (-68)], vm := .none },
  { cls := 10, slots := #[.long (-67)], vm := .none },
  { cls := 10, slots := #[.long (-66)], vm := .none },
  { cls := 10, slots := #[.long (-65)], vm := .none },
  { cls := 10, slots := #[.long (-64)], vm := .none },
  { cls := 10, slots := #[.long (-63)], vm := .none },
  { cls := 10, slots := #[.long (-62)], vm := .none },
  { cls := 10, slots := #[.long (-61)], vm := .none },
  { cls := 10, slots := #[.long (-60)], vm := .none },
  { cls := 10, slots := #[.long (-59)], vm := .none },
  { cls := 10, slots := #[.long (-58)], vm := .none },
  { cls := 10, slots := #[.long (-57)], vm := .none },
  { cls := 10, slots := #[.long (-56)], vm := .none },
  { cls := 10, slots := #[.long (-55)], vm := .none },
  { cls := 10, slots := #[.long (-54)], vm := .none },
  { cls := 10, slots := #[.long (-53)], vm := .none },
  { cls := 10, slots := #[.long (-52)], vm := .none },
  { cls := 10, slots := #[.long (-51)], vm := .none },
  { cls := 10, slots := #[.long (-50)], vm := .none },
  { cls := 10, slots := #[.long (-49)], vm := .none },
  { cls := 10, slots := #[.long (-48)], vm := .none },
  { cls := 10, slots := #[.long (-47)], vm := .none },
  { cls := 10, slots := #[.long (-46)], vm := .none },
  { cls := 10, slots := #[.long (-45)], vm := .none },
  { cls := 10, slots := #[.long (-44)], vm := .none },
  { cls := 10, slots := #[.long (-43)], vm := .none },
  { cls := 10, slots := #[.long (-42)], vm := .none },
  { cls := 10, slots := #[.long (-41)], vm := .none },
  { cls := 10, slots := #[.long (-40)], vm := .none },
  { cls := 10, slots := #[.long (-39)], vm := .none },
  { cls := 10, slots := #[.long (-38)], vm := .none },
  { cls := 10, slots := #[.long (-37)], vm := .none },
  { cls := 10, slots := #[.long (-36)], vm := .none },
  { cls := 10, slots := #[.long (-35)], vm := .none },
  { cls := 10, slots := #[.long (-34)], vm := .none },
  { cls := 10, slots := #[.long (-33)], vm := .none },
  { cls := 10, slots := #[.long (-32)], vm := .none },
  { cls := 10, slots := #[.long (-31)], vm := .none },
  { cls := 10, slots := #[.long (-30)], vm := .none },
  { cls := 10, slots := #[.long (-29)], vm := .none },
  { cls := 10, slots := #[.long (-28)], vm := .none },
  { cls := 10, slots := #[.long (-27)], vm := .none },
  { cls := 10, slots := #[.long (-26)], vm := .none },
  { cls := 10, slots := #[.long (-25)], vm := .none },
  { cls := 10, slots := #[.long (-24)], vm := .none },
  { cls := 10, slots := #[.long (-23)], vm := .none },
  { cls := 10, slots := #[.long (-22)], vm := .none },
  { cls := 10, slots := #[.long (-21)], vm := .none },
  { cls := 10, slots := #[.long (-20)], vm := .none },
  { cls := 10, slots := #[.long (-19)], vm := .none },
  { cls := 10, slots := #[.long (-18)], vm := .none },
  { cls := 10, slots := #[.long (-17)], vm := .none },
  { cls := 10, slots := #[.long (-16)], vm := .none },
  { cls := 10, slots := #[.long (-15)], vm := .none },
  { cls := 10, slots := #[.long (-14)], vm := .none },
  { cls := 10, slots := #[.long (-13)], vm := .none },
  { cls := 10, slots := #[.long (-12)], vm := .none },
  { cls := 10, slots := #[.long (-11)], vm := .none },
  { cls := 10, slots := #[.long (-10)], vm := .none },
  { cls := 10, slots := #[.long (-9)], vm := .none },
  { cls := 10, slots := #[.long (-8)], vm := .none },
  { cls := 10, slots := #[.long (-7)], vm := .none },
  { cls := 10, slots := #[.long (-6)], vm := .none },
  { cls := 10, slots := #[.long (-5)], vm := .none },
  { cls := 10, slots := #[.long (-4)], vm := .none },
  { cls := 10, slots := #[.long (-3)], vm := .none },
  { cls := 10, slots := #[.long (-2)], vm := .none },
  { cls := 10, slots := #[.long (-1)], vm := .none },
  { cls := 10, slots := #[.long 0], vm := .none },
  { cls := 10, slots := #[.long 1], vm := .none },
  { cls := 10, slots := #[.long 2], vm := .none },
  { cls := 10, slots := #[.long 3], vm := .none },
  { cls := 10, slots := #[.long 4], vm := .none },
  { cls := 10, slots := #[.long 5], vm := .none },
  { cls := 10, slots := #[.long 6], vm := .none },
  { cls := 10, slots := #[.long 7], vm := .none },
  { cls := 10, slots := #[.long 8], vm := .none },
  { cls := 10, slots := #[.long 9], vm := .none },
  { cls := 10, slots := #[.long 10], vm := .none },
  { cls := 10, slots := #[.long 11], vm := .none },
  { cls := 10, slots := #[.long 12], vm := .none },
  { cls := 10, slots := #[.long 13], vm := .none },
  { cls := 10, slots := #[.long 14], vm := .none },
  { cls := 10, slots := #[.long 15], vm := .none },
  { cls := 10, slots := #[.long 16], vm := .none },
  { cls := 10, slots := #[.long 17], vm := .none },
  { cls := 10, slots := #[.long 18], vm := .none },
  { cls := 10, slots := #[.long 19], vm := .none },
  { cls := 10, slots := #[.long 20], vm := .none },
  { cls := 10, slots := #[.long 21], vm := .none },
  { cls := 10, slots := #[.long 22], vm := .none },
  { cls := 10, slots := #[.long 23], vm := .none },
  { cls := 10, slots := #[.long 24], vm := .none },
  { cls := 10, slots := #[.long 25], vm := .none },
  { cls := 10, slots := #[.long 26], vm := .none },
  { cls := 10, slots := #[.long 27], vm := .none },
  { cls := 10, slots := #[.long 28], vm := .none },
  { cls := 10, slots := #[.long 29], vm := .none },
  { cls := 10, slots := #[.long 30], vm := .none },
  { cls := 10, slots := #[.long 31], vm := .none },
  { cls := 10, slots := #[.long 32], vm := .none },
  { cls := 10, slots := #[.long 33], vm := .none },
  { cls := 10, slots := #[.long 34], vm := .none },
  { cls := 10, slots := #[.long 35], vm := .none },
  { cls := 10, slots := #[.long 36], vm := .none },
  { cls := 10, slots := #[.long 37], vm := .none },
  { cls := 10, slots := #[.long 38], vm := .none },
  { cls := 10, slots := #[.long 39], vm := .none },
  { cls := 10, slots := #[.long 40], vm := .none },
  { cls := 10, slots := #[.long 41], vm := .none },
  { cls := 10, slots := #[.long 42], vm := .none },
  { cls := 10, slots := #[.long 43], vm := .none },
  { cls := 10, slots := #[.long 44], vm := .none },
  { cls := 10, slots := #[.long 45], vm := .none },
  { cls := 10, slots := #[.long 46], vm := .none },
  { cls := 10, slots := #[.long 47], vm := .none },
  { cls := 10, slots := #[.long 48], vm := .none },
  { cls := 10, slots := #[.long 49], vm := .none },
  { cls := 10, slots := #[.long 50], vm := .none },
  { cls := 10, slots := #[.long 51], vm := .none },
  { cls := 10, slots := #[.long 52], vm := .none },
  { cls := 10, slots := #[.long 53], vm := .none },
  { cls := 10, slots := #[.long 54], vm := .none },
  { cls := 10, slots := #[.long 55], vm := .none },
  { cls := 10, slots := #[.long 56], vm := .none },
  { cls := 10, slots := #[.long 57], vm := .none },
  { cls := 10, slots := #[.long 58], vm := .none },
  { cls := 10, slots := #[.long 59], vm := .none },
  { cls := 10, slots := #[.long 60], vm := .none },
  { cls := 10, slots := #[.long 61], vm := .none },
  { cls := 10, slots := #[.long 62], vm := .none },
  { cls := 10, slots := #[.long 63], vm := .none },
  { cls := 10, slots := #[.long 64], vm := .none },
  { cls := 10, slots := #[.long 65], vm := .none },
  { cls := 10, slots := #[.long 66], vm := .none },
  { cls := 10, slots := #[.long 67], vm := .none },
  { cls := 10, slots := #[.long 68], vm := .none },
  { cls := 10, slots := #[.long 69], vm := .none },
  { cls := 10, slots := #[.long 70], vm := .none },
  { cls := 10, slots := #[.long 71], vm := .none },
  { cls := 10, slots := #[.long 72], vm := .none },
  { cls := 10, slots := #[.long 73], vm := .none },
  { cls := 10, slots := #[.long 74], vm := .none },
  { cls := 10, slots := #[.long 75], vm := .none },
  { cls := 10, slots := #[.long 76], vm := .none },
  { cls := 10, slots := #[.long 77], vm := .none },
  { cls := 10, slots := #[.long 78], vm := .none },
  { cls := 10, slots := #[.long 79], vm := .none },
  { cls := 10, slots := #[.long 80], vm := .none },
  { cls := 10, slots := #[.long 81], vm := .none },
  { cls := 10, slots := #[.long 82], vm := .none },
  { cls := 10, slots := #[.long 83], vm := .none },
  { cls := 10, slots := #[.long 84], vm := .none },
  { cls := 10, slots := #[.long 85], vm := .none },
  { cls := 10, slots := #[.long 86], vm := .none },
  { cls := 10, slots := #[.long 87], vm := .none },
  { cls := 10, slots := #[.long 88], vm := .none },
  { cls := 10, slots := #[.long 89], vm := .none },
  { cls := 10, slots := #[.long 90], vm := .none },
  { cls := 10, slots := #[.long 91], vm := .none },
  { cls := 10, slots := #[.long 92], vm := .none },
  { cls := 10, slots := #[.long 93], vm := .none },
  { cls := 10, slots := #[.long 94], vm := .none },
  { cls := 10, slots := #[.long 95], vm := .none },
  { cls := 10, slots := #[.long 96], vm := .none },
  { cls := 10, slots := #[.long 97], vm := .none },
  { cls := 10, slots := #[.long 98], vm := .none },
  { cls := 10, slots := #[.long 99], vm := .none },
  { cls := 10, slots := #[.long 100], vm := .none },
  { cls := 10, slots := #[.long 101], vm := .none },
  { cls := 10, slots := #[.long 102], vm := .none },
  { cls := 10, slots := #[.long 103], vm := .none },
  { cls := 10, slots := #[.long 104], vm := .none },
  { cls := 10, slots := #[.long 105], vm := .none },
  { cls := 10, slots := #[.long 106], vm := .none },
  { cls := 10, slots := #[.long 107], vm := .none },
  { cls := 10, slots := #[.long 108], vm := .none },
  { cls := 10, slots := #[.long 109], vm := .none },
  { cls := 10, slots := #[.long 110], vm := .none },
  { cls := 10, slots := #[.long 111], vm := .none },
  { cls := 10, slots := #[.long 112], vm := .none },
  { cls := 10, slots := #[.long 113], vm := .none },
  { cls := 10, slots := #[.long 114], vm := .none },
  { cls := 10, slots := #[.long 115], vm := .none },
  { cls := 10, slots := #[.long 116], vm := .none },
  { cls := 10, slots := #[.long 117], vm := .none },
  { cls := 10, slots := #[.long 118], vm := .none },
  { cls := 10, slots := #[.long 119], vm := .none },
  { cls := 10, slots := #[.long 120], vm := .none },
  { cls := 10, slots := #[.long 121], vm := .none },
  { cls := 10, slots := #[.long 122], vm := .none },
  { cls := 10, slots := #[.long 123], vm := .none },
  { cls := 10, slots := #[.long 124], vm := .none },
  { cls := 10, slots := #[.long 125], vm := .none },
  { cls := 10, slots := #[.long 126], vm := .none },
  { cls := 10, slots := #[.long 127], vm := .none }]
def classes : Array Class := #[k0, k1, k2, k3, k4, k5, k6, k7, k8, k9, k10, k11, k12, k13, k14, k15, k16, k17, k18]
def interned : List (Array UInt16 × Addr) := []
def slotsUsed : Nat := 1032
def theMethod : MethodId := ⟨1, 1⟩
def args0 : Array Value := #[.int 5, .long 5, .int 5, .long 5, .int 5]
def aboutOver (below : List Frame) : State where
  vm := { classes := classes, interned := interned.toArray }
  heap := heap
  slotsUsed := slotsUsed
  threads := #[{ frames := .invoking theMethod args0 :: below }]
def below0 : List Frame := [.native { method := ⟨0, 0⟩, args := #[] }]
def about1 : State := aboutOver below0
def p0 : Program := .bare "" "" ""
def e0 : Env := launch0.env 0 0 0
theorem w_frames : about1.frames = Frame.invoking theMethod args0 :: below0 := rfl
set_option maxRecDepth 65536 in
theorem w_args : argsFit about1.vm theMethod args0 = true := by decide +kernel
set_option maxRecDepth 65536 in
theorem w_heap : heapFits about1 = true := by decide +kernel
set_option maxRecDepth 65536 in
theorem w_runnable : about1.curStatus? = some .runnable := by decide +kernel
set_option maxRecDepth 65536 in
theorem w_alone : about1.alone = true := by decide +kernel
set_option maxRecDepth 65536 in
theorem w_named : about1.methodNamed? x = some theMethod := by decide +kernel
set_option maxRecDepth 65536 in
theorem w_hears : about1.hears theMethod below0 = true := by decide +kernel
set_option maxRecDepth 65536 in
theorem w_ripe : about1.ripe theMethod args0 below0 = true := by decide +kernel
theorem w_running : about1.status = .running := rfl
set_option maxRecDepth 65536 in
theorem w_room : about1.hasRoom e0.platform room_1 = true :=
  launch0.hasRoom_least _ room_1 (by decide +kernel) (by decide +kernel) (by decide +kernel) (by decide +kernel) (by decide +kernel) (by decide +kernel)
theorem allAtoms_all (ts : List Jvm.Cond) (a : Array Jvm.Value) (st : Jvm.State) : (allAtoms ts).before a st = ts.all (fun c => c.before a st) := by
  induction ts with
  | nil => rfl
  | cons c t ih =>
    show (Jvm.Cond.and c (allAtoms t)).before a st = _
    rw [Jvm.Cond.before_and, ih, List.all_cons]
def words1 : List Jvm.Cond := Jvm.Cond.code x code maxLocals ret :: tables_1
/-- a 'code' word, met by the world's own term for the bytes: nothing is compared byte by byte -/
theorem code_word {y : MethodName} {bytes : ByteArray} {mx : Nat} {rt : Option FieldType} {a : Array Value} {s : State} {m : MethodId} {meth : Method} {c : Code} (h1 : s.methodNamed? y = some m) (h2 : s.vm.method? m = some meth) (h3 : meth.code = some c) (h4 : c.code = bytes)
    (h5 : (c.maxLocals == mx && c.exceptionTable.isEmpty && decide (c.maxStack ≤ mostOperands) && decide (meth.sig.returnType = rt) && !meth.locks && decide (parseMethodDescriptor y.desc = some meth.sig)) = true) : (Jvm.Cond.code y bytes mx rt).before a s = true := by
  simp only [Bool.and_eq_true, beq_iff_eq, Bool.not_eq_true', decide_eq_true_eq] at h5
  obtain ⟨⟨⟨⟨⟨g1, g2⟩, g3⟩, g4⟩, g5⟩, g6⟩ := h5
  simp [Cond.before, Cond.holds, Cond.value, h1, h2, h3, h4, g1, g2, g3, g4, g5, g6]
def isCode : Jvm.Cond → Bool
  | .code _ _ _ _ => true
  | _ => false
theorem all_split {L : List Jvm.Cond} {P : Jvm.Cond → Bool} (h1 : L.all (fun c => isCode c || P c) = true) (h2 : ∀ c ∈ L.filter isCode, P c = true) : L.all P = true := by
  refine List.all_eq_true.mpr fun c hc => ?_
  have h := List.all_eq_true.mp h1 c hc
  rcases Bool.eq_false_or_eq_true (isCode c) with hi | hi
  · exact h2 c (List.mem_filter.mpr ⟨hc, hi⟩)
  · simpa [hi] using h
set_option maxRecDepth 65536 in
theorem w_c0 : (Jvm.Cond.code x code maxLocals ret).before args0 about1 = true := code_word (m := ⟨1, 1⟩) (meth := k1m1) (c := k1c1) (by decide +kernel) rfl rfl rfl (by decide +kernel)
set_option maxRecDepth 65536 in
theorem w_c1 : (Jvm.Cond.code ({ cls := "com/example/exact_quorum/exactquorum/server/Election$Vote", name := "<init>", desc := "(IJ)V" } : Jvm.MethodName) prog_77_method_1_code (4 : Nat) (Option.none : Option Jvm.ClassFile.FieldType)).before args0 about1 = true := code_word (m := ⟨2, 0⟩) (meth := k2m0) (c := k2c0) (by decide +kernel) rfl rfl rfl (by decide +kernel)
set_option maxRecDepth 65536 in
theorem w_c2 : (Jvm.Cond.code ({ cls := "java/lang/Object", name := "<init>", desc := "()V" } : Jvm.MethodName) object_method_1_code (1 : Nat) (Option.none : Option Jvm.ClassFile.FieldType)).before args0 about1 = true := code_word (m := ⟨0, 0⟩) (meth := k0m0) (c := k0c0) (by decide +kernel) rfl rfl rfl (by decide +kernel)
set_option maxRecDepth 65536 in
theorem w_c3 : (Jvm.Cond.code ({ cls := "com/example/exact_quorum/exactquorum/server/Election$Vote", name := "equals", desc := "(Ljava/lang/Object;)Z" } : Jvm.MethodName) prog_77_method_5_code (3 : Nat) (Option.some Jvm.ClassFile.FieldType.boolean)).before args0 about1 = true := code_word (m := ⟨2, 1⟩) (meth := k2m1) (c := k2c1) (by decide +kernel) rfl rfl rfl (by decide +kernel)
set_option maxRecDepth 65536 in
theorem w_c4 : (Jvm.Cond.code ({ cls := "java/lang/Integer", name := "valueOf", desc := "(I)Ljava/lang/Integer;" } : Jvm.MethodName) jdk_33_method_22_code (1 : Nat) (Option.some (Jvm.ClassFile.FieldType.object "java/lang/Integer"))).before args0 about1 = true := code_word (m := ⟨8, 0⟩) (meth := k8m0) (c := k8c0) (by decide +kernel) rfl rfl rfl (by decide +kernel)
set_option maxRecDepth 65536 in
theorem w_c5 : (Jvm.Cond.code ({ cls := "java/lang/Integer", name := "<init>", desc := "(I)V" } : Jvm.MethodName) jdk_33_method_23_code (2 : Nat) (Option.none : Option Jvm.ClassFile.FieldType)).before args0 about1 = true := code_word (m := ⟨8, 1⟩) (meth := k8m1) (c := k8c1) (by decide +kernel) rfl rfl rfl (by decide +kernel)
set_option maxRecDepth 65536 in
theorem w_c6 : (Jvm.Cond.code ({ cls := "java/lang/Number", name := "<init>", desc := "()V" } : Jvm.MethodName) jdk_18_method_1_code (1 : Nat) (Option.none : Option Jvm.ClassFile.FieldType)).before args0 about1 = true := code_word (m := ⟨4, 0⟩) (meth := k4m0) (c := k4c0) (by decide +kernel) rfl rfl rfl (by decide +kernel)
set_option maxRecDepth 65536 in
theorem w_c7 : (Jvm.Cond.code ({ cls := "java/lang/Long", name := "valueOf", desc := "(J)Ljava/lang/Long;" } : Jvm.MethodName) jdk_35_method_24_code (3 : Nat) (Option.some (Jvm.ClassFile.FieldType.object "java/lang/Long"))).before args0 about1 = true := code_word (m := ⟨10, 0⟩) (meth := k10m0) (c := k10c0) (by decide +kernel) rfl rfl rfl (by decide +kernel)
set_option maxRecDepth 65536 in
theorem w_c8 : (Jvm.Cond.code ({ cls := "java/lang/Long", name := "<init>", desc := "(J)V" } : Jvm.MethodName) jdk_35_method_26_code (3 : Nat) (Option.none : Option Jvm.ClassFile.FieldType)).before args0 about1 = true := code_word (m := ⟨10, 1⟩) (meth := k10m1) (c := k10c1) (by decide +kernel) rfl rfl rfl (by decide +kernel)
def codes1 : List Jvm.Cond := [Jvm.Cond.code x code maxLocals ret, Jvm.Cond.code ({ cls := "com/example/exact_quorum/exactquorum/server/Election$Vote", name := "<init>", desc := "(IJ)V" } : Jvm.MethodName) prog_77_method_1_code (4 : Nat) (Option.none : Option Jvm.ClassFile.FieldType), Jvm.Cond.code ({ cls := "java/lang/Object", name := "<init>", desc := "()V" } : Jvm.MethodName) object_method_1_code (1 : Nat) (Option.none : Option Jvm.ClassFile.FieldType), Jvm.Cond.code ({ cls := "com/example/exact_quorum/exactquorum/server/Election$Vote", name := "equals", desc := "(Ljava/lang/Object;)Z" } : Jvm.MethodName) prog_77_method_5_code (3 : Nat) (Option.some Jvm.ClassFile.FieldType.boolean), Jvm.Cond.code ({ cls := "java/lang/Integer", name := "valueOf", desc := "(I)Ljava/lang/Integer;" } : Jvm.MethodName) jdk_33_method_22_code (1 : Nat) (Option.some (Jvm.ClassFile.FieldType.object "java/lang/Integer")), Jvm.Cond.code ({ cls := "java/lang/Integer", name := "<init>", desc := "(I)V" } : Jvm.MethodName) jdk_33_method_23_code (2 : Nat) (Option.none : Option Jvm.ClassFile.FieldType), Jvm.Cond.code ({ cls := "java/lang/Number", name := "<init>", desc := "()V" } : Jvm.MethodName) jdk_18_method_1_code (1 : Nat) (Option.none : Option Jvm.ClassFile.FieldType), Jvm.Cond.code ({ cls := "java/lang/Long", name := "valueOf", desc := "(J)Ljava/lang/Long;" } : Jvm.MethodName) jdk_35_method_24_code (3 : Nat) (Option.some (Jvm.ClassFile.FieldType.object "java/lang/Long")), Jvm.Cond.code ({ cls := "java/lang/Long", name := "<init>", desc := "(J)V" } : Jvm.MethodName) jdk_35_method_26_code (3 : Nat) (Option.none : Option Jvm.ClassFile.FieldType)]
set_option maxRecDepth 65536 in
theorem codes_eq : words1.filter isCode = codes1 := rfl
theorem w_codes : ∀ c ∈ words1.filter isCode, c.before args0 about1 = true := by
  rw [codes_eq]
  intro c hc
  simp only [codes1, List.mem_cons, List.not_mem_nil, or_false] at hc
  rcases hc with rfl | rfl | rfl | rfl | rfl | rfl | rfl | rfl | rfl
  · exact w_c0
  · exact w_c1
  · exact w_c2
  · exact w_c3
  · exact w_c4
  · exact w_c5
  · exact w_c6
  · exact w_c7
  · exact w_c8
set_option maxRecDepth 65536 in
theorem w_t1 : (words1.take 24).all (fun c => isCode c || c.before args0 about1) = true := by decide +kernel
set_option maxRecDepth 65536 in
theorem w_t2 : ((words1.drop 24).take 24).all (fun c => isCode c || c.before args0 about1) = true := by decide +kernel
set_option maxRecDepth 65536 in
theorem w_t3 : ((words1.drop 24).drop 24).all (fun c => isCode c || c.before args0 about1) = true := by decide +kernel
theorem w_tables : (allAtoms (Jvm.Cond.code x code maxLocals ret :: tables_1)).before args0 about1 = true := by
  rw [allAtoms_all]
  show words1.all (fun c => c.before args0 about1) = true
  refine all_split ?_ w_codes
  rw [← List.take_append_drop 24 words1, List.all_append, w_t1, ← List.take_append_drop 24 (words1.drop 24), List.all_append, w_t2, w_t3]
  rfl
set_option maxRecDepth 65536 in
theorem w_rest : rest_1_c.before args0 about1 = true := by decide +kernel
set_option maxRecDepth 65536 in
theorem w_case : (Jvm.Cond.and given_1 narrow_1).before args0 about1 = true := by decide +kernel
theorem w_applies : (headSpec (Jvm.Cond.code x code maxLocals ret :: tables_1) room_1).applies x e0.platform about1 = true :=
  (Spec.applies_iff w_frames).mpr ⟨w_running, w_runnable, w_alone, w_named, w_hears, w_ripe, w_room, w_tables⟩
theorem atStart : AtStart classFile x code maxLocals ret World_1 tables_1 room_1 Calls_1 rest_1 Pre_1 launch0 p0 e0 about1 theMethod args0 below0 :=
  ⟨lists_1, trivial, launch0.admits_env _ _ _, launch0.least_env, fairChoices_fair.cas, fairChoices_fair.clock, w_frames, w_args, w_heap, w_applies, trivial, w_rest, w_case⟩
end start1
theorem witness_1 : WitnessClaimed_1 := ⟨start1.p0, start1.e0, start1.about1, start1.theMethod, start1.args0, start1.below0, start1.atStart⟩
end Jvm.Pilot.@@N@@
