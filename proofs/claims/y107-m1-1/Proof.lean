import JvmDerived
import JvmDerived.Pilot.@@N@@Statement
import JvmDerived.Pilot.@@N@@Code
set_option linter.unusedVariables false
set_option linter.unusedSimpArgs false
namespace Jvm.Pilot.@@N@@
open Jvm Jvm.ClassFile Sem Op Lib Jvm.Free Jvm.Stand Jvm.LawKit Jvm.RoadKit Bundle Jvm.Pilot.@@N@@.Jvm.D
theorem wdx {a0 : Array Value} {Z : State} (hw : ∀ d ∈ tables_1, d.before a0 Z = true) (i : Nat) {d : Jvm.Cond} (h : tables_1[i]? = some d) : d.before a0 Z = true := hw d (List.mem_of_getElem? h)
/-! the walk in one predicate: from S the run comes to an end at which Q holds -/
def Go (p : Program) (e : Env) (below : List Frame) (s : State) (rc rs : Nat) (Q : Option Value → Heap → List Loc → Prop) (S : State) : Prop :=
  ∃ t o, Steps p.tables e below S t ∧ t.status = .running ∧ Ended t below o ∧ ∃ v L, o = .returned v ∧ Q v t.heap L ∧ FrameEnd s o t L rc rs
section Pre
variable {p : Program} {l : Launch} {e : Env} {R : Room} {s : State} {m : MethodId} {args : Array Value} {below : List Frame} {meth : Method} {c : Code} {T : State} {locs : List Loc} {cells slots rc rs : Nat} {Q : Option Value → Heap → List Loc → Prop} {S S' : State} {h : Heap} {Z : State} {n0 : Nat}
theorem Go.st (k : ∀ t, Steps p.tables e below S' t → Steps p.tables e below S t) (g : Go p e below s rc rs Q S') : Go p e below s rc rs Q S := by
  obtain ⟨t, o, h, r⟩ := g; exact ⟨t, o, k t h, r⟩
theorem Go.tr (k : Steps p.tables e below S S') (g : Go p e below s rc rs Q S') : Go p e below s rc rs Q S := by
  obtain ⟨t, o, h, r⟩ := g; exact ⟨t, o, k.trans h, r⟩
theorem Go.ret (X : Stand p l e R s m args below meth c T locs cells slots) (hx : p.tables.exec = Jvm.exec) (hlk : meth.locks = false) {pc : Nat} {Ls : Array Slot} {w : Value} {t : FieldType} {i : Instr} {rest : List Value} (hret : meth.sig.returnType = some t) (hn : narrow t w = w)
    (hi : (i = .ireturn ∧ (t = .int ∨ t = .boolean ∨ t = .byte ∨ t = .char ∨ t = .short) ∧ ∃ z, w = .int z) ∨ (i = .lreturn ∧ t = .long ∧ ∃ z, w = .long z) ∨ (i = .dreturn ∧ t = .double ∧ ∃ z, w = .double z) ∨ (i = .freturn ∧ t = .float ∧ ∃ z, w = .float z) ∨ (i = .areturn ∧ t.isReference = true ∧ w.isRef = true))
    (hd : decode c.code pc = .ok (i, 1)) (hc : cells ≤ rc) (hs : slots ≤ rs) (hh : T.heap = h) (hq : Q (some w) h locs) : Go p e below s rc rs Q (T.setTop (mkF m pc Ls (w :: rest))) := by
  obtain ⟨fs, hr, hrun, hended, hW, hsame⟩ := X.leave (v := some w) (fun h => by rw [hret] at h; cases h) hlk
  subst hh
  exact ⟨_, _, retOut X hx hret hn hi hd hr, hrun, hended, _, _, rfl, hq, ⟨_, rfl⟩, hW, hsame.mono hc hs⟩
theorem Go.retB (X : Stand p l e R s m args below meth c T locs cells slots) (hx : p.tables.exec = Jvm.exec) (hlk : meth.locks = false) {pc : Nat} {Ls : Array Slot} {z : Int32} {t : FieldType} {rest : List Value} (hret : meth.sig.returnType = some t) (ht : t = .boolean ∨ t = .byte ∨ t = .char ∨ t = .short)
    (hd : decode c.code pc = .ok (.ireturn, 1)) (hc : cells ≤ rc) (hs : slots ≤ rs) (hh : T.heap = h) (hq : Q (some (.int (nar t z))) h locs) : Go p e below s rc rs Q (T.setTop (mkF m pc Ls (.int z :: rest))) := by
  obtain ⟨fs, hr, hrun, hended, hW, hsame⟩ := X.leave (v := some (.int (nar t z))) (fun h => by rw [hret] at h; cases h) hlk
  subst hh
  exact ⟨_, _, retN X hx hret ht hd hr, hrun, hended, _, _, rfl, hq, ⟨_, rfl⟩, hW, hsame.mono hc hs⟩
theorem Go.retV (X : Stand p l e R s m args below meth c T locs cells slots) (hx : p.tables.exec = Jvm.exec) (hlk : meth.locks = false) {pc : Nat} {Ls : Array Slot} (hret : meth.sig.returnType = none)
    (hd : decode c.code pc = .ok (.return_, 1)) (hc : cells ≤ rc) (hs : slots ≤ rs) (hh : T.heap = h) (hq : Q none h locs) : Go p e below s rc rs Q (T.setTop (mkF m pc Ls [])) := by
  obtain ⟨fs, hr, hrun, hended, hW, hsame⟩ := X.leave (v := none) (fun _ => rfl) hlk
  subst hh
  exact ⟨_, _, X.returnOut hx hret hd hr, hrun, hended, _, _, rfl, hq, ⟨_, rfl⟩, hW, hsame.mono hc hs⟩
theorem own_le (O : Old Z n0 h) : n0 ≤ h.size := O.1 ▸ O.2.1
theorem own_nb (b : Bool) : nar .boolean (if b then 1 else 0) = if b then 1 else 0 := by cases b <;> rfl
end Pre
def ush (y : Int32) : Int32 := (y.toUInt32 >>> ((16 : Int32) &&& 31).toUInt32).toInt32
def fmix (hv : Int32) : Int32 := (hv * (-1640531527 : Int32)) ^^^ ush (hv * (-1640531527 : Int32))
def fun_ (y : Int32) : Int32 := (y ^^^ ush y) * (340573321 : Int32)
theorem own_ush (y : Int32) : (ush y).toBitVec = y.toBitVec >>> 16 := by
  show (y.toUInt32 >>> ((16 : Int32) &&& 31).toUInt32).toBitVec = _
  rw [UInt32.toBitVec_shiftRight]
  rfl
theorem own_inv (hv : Int32) : fun_ (fmix hv) = hv := by
  unfold fun_ fmix
  generalize hy : hv * (-1640531527 : Int32) = y
  have e : (y ^^^ ush y) ^^^ ush (y ^^^ ush y) = y := by
    apply Int32.toBitVec_inj.mp
    rw [Int32.toBitVec_xor, own_ush, Int32.toBitVec_xor, own_ush]
    generalize y.toBitVec = b
    apply BitVec.eq_of_getLsbD_eq
    intro i hi
    have h32 : b.getLsbD (16 + (16 + i)) = false := BitVec.getLsbD_of_ge _ _ (by omega)
    simp [BitVec.getLsbD_xor, BitVec.getLsbD_ushiftRight, h32]
  rw [e, ← hy, Int32.mul_assoc]
  have e2 : (-1640531527 : Int32) * (340573321 : Int32) = 1 := by decide
  rw [e2, Int32.mul_one]
theorem own_top (z : Int32) : (z &&& (2147483647 : Int32)) = z ∨ ((z &&& (2147483647 : Int32)) ||| (-2147483648 : Int32)) = z := by
  cases hb : z.toBitVec.getLsbD 31
  · left
    apply Int32.toBitVec_inj.mp
    rw [Int32.toBitVec_and]
    apply BitVec.eq_of_getLsbD_eq
    intro i hi
    have hm : (2147483647 : Int32).toBitVec.getLsbD i = decide (i < 31) := by
      have : (2147483647 : Int32).toBitVec = BitVec.ofNat 32 (2 ^ 31 - 1) := by decide
      rw [this, BitVec.getLsbD_ofNat, Nat.testBit_two_pow_sub_one]; simp [hi]
    rw [BitVec.getLsbD_and, hm]
    by_cases q : i < 31
    · simp [q]
    · have : i = 31 := by omega
      subst this; rw [hb]; rfl
  · right
    apply Int32.toBitVec_inj.mp
    rw [Int32.toBitVec_or, Int32.toBitVec_and]
    apply BitVec.eq_of_getLsbD_eq
    intro i hi
    have hm : (2147483647 : Int32).toBitVec.getLsbD i = decide (i < 31) := by
      have : (2147483647 : Int32).toBitVec = BitVec.ofNat 32 (2 ^ 31 - 1) := by decide
      rw [this, BitVec.getLsbD_ofNat, Nat.testBit_two_pow_sub_one]; simp [hi]
    have hn : (-2147483648 : Int32).toBitVec.getLsbD i = decide (i = 31) := by
      have : (-2147483648 : Int32).toBitVec = BitVec.twoPow 32 31 := by decide
      rw [this, BitVec.getLsbD_twoPow]; simp; omega
    rw [BitVec.getLsbD_or, BitVec.getLsbD_and, hm, hn]
    by_cases q : i < 31
    · simp [q]; omega
    · have : i = 31 := by omega
      subst this; simp [hb]
theorem own_last (z hv : Int32) (hz : fun_ z = hv) (h1 : ¬ fun_ (z &&& (2147483647 : Int32)) = hv) : fun_ ((z &&& (2147483647 : Int32)) ||| (-2147483648 : Int32)) = hv := by
  rcases own_top z with q | q
  · rw [q] at h1; exact absurd hz h1
  · rw [q]; exact hz
theorem own_full (z : Int32) : ¬ (z &&& (2147483647 : Int32)) < 0 := by
  have := (c_andS z 2147483647).2.2 (by decide)
  rw [Int32.lt_iff_toInt_lt]; show ¬ _ < (0 : Int); omega
theorem own_mask (z k : Int32) : ((z &&& k) &&& (k ^^^ (-1 : Int32))) = 0 := by
  apply Int32.toBitVec_inj.mp
  rw [Int32.toBitVec_and, Int32.toBitVec_and, Int32.toBitVec_xor]
  have e : (-1 : Int32).toBitVec = BitVec.allOnes 32 := by decide
  rw [e]
  apply BitVec.eq_of_getLsbD_eq
  intro i hi
  have z0 : (0 : Int32).toBitVec = 0#32 := by decide
  rw [BitVec.getLsbD_and, BitVec.getLsbD_and, BitVec.getLsbD_xor, BitVec.getLsbD_allOnes, decide_eq_true hi, z0, BitVec.getLsbD_zero]
  cases z.toBitVec.getLsbD i <;> cases k.toBitVec.getLsbD i <;> rfl
theorem own_sub (z k : Int32) (hk : k &&& (2147483647 : Int32) = k) : (z &&& k) = ((z &&& (2147483647 : Int32)) &&& k) := by
  rw [Int32.and_assoc, Int32.and_comm (2147483647 : Int32) k, hk]
theorem own_r32 (y : Int32) (h0 : 0 ≤ y.toInt) (h1 : y.toInt < 32) : ∃ i : Fin 32, y = Int32.ofInt i.1 := by
  refine ⟨⟨y.toInt.toNat, by omega⟩, ?_⟩
  show y = Int32.ofInt (y.toInt.toNat : Int)
  rw [Int.toNat_of_nonneg h0, Int32.ofInt_toInt]
theorem own_k31 (kk : Int32) : ((((1 : Int32) <<< ((kk &&& (31 : Int32)) &&& 31)) - (1 : Int32))) &&& (2147483647 : Int32) = (((1 : Int32) <<< ((kk &&& (31 : Int32)) &&& 31)) - (1 : Int32)) := by
  have e1 : (kk &&& (31 : Int32)) &&& 31 = kk &&& 31 := by rw [Int32.and_assoc]; rfl
  rw [e1]
  have b0 : 0 ≤ (kk &&& (31 : Int32)).toInt := (c_andS kk 31).2.2 (by decide)
  have b1 : (kk &&& (31 : Int32)).toInt < 32 := by
    have := c_mask kk 31 5 (by decide) (by decide)
    omega
  obtain ⟨i, hi⟩ := own_r32 _ b0 b1
  rw [hi]
  clear hi b0 b1 e1
  revert i
  decide
theorem d1_0 : decode prog_45_method_4_code 0 = .ok (.iload_n 0, 1) := by decide +kernel
theorem d1_1 : decode prog_45_method_4_code 1 = .ok (.ldc 90, 2) := by decide +kernel
theorem d1_3 : decode prog_45_method_4_code 3 = .ok (.imul, 1) := by decide +kernel
theorem d1_4 : decode prog_45_method_4_code 4 = .ok (.istore_n 2, 1) := by decide +kernel
theorem d1_5 : decode prog_45_method_4_code 5 = .ok (.iload_n 2, 1) := by decide +kernel
theorem d1_6 : decode prog_45_method_4_code 6 = .ok (.iload_n 2, 1) := by decide +kernel
theorem d1_7 : decode prog_45_method_4_code 7 = .ok (.bipush 16, 2) := by decide +kernel
theorem d1_9 : decode prog_45_method_4_code 9 = .ok (.iushr, 1) := by decide +kernel
theorem d1_10 : decode prog_45_method_4_code 10 = .ok (.ixor, 1) := by decide +kernel
theorem d1_11 : decode prog_45_method_4_code 11 = .ok (.iload_n 1, 1) := by decide +kernel
theorem d1_12 : decode prog_45_method_4_code 12 = .ok (.iand, 1) := by decide +kernel
theorem d1_13 : decode prog_45_method_4_code 13 = .ok (.ireturn, 1) := by decide +kernel
theorem pn_com_example_indenture_indenture_model_TextNumbers : plainName "com/example/indenture/indenture/model/TextNumbers" = true := by first | (simp [plainName, overriddenIn]; done) | decide +kernel
theorem ef_rm1 (m : MethodId) (hv : Int32) (mk : Int32) : entryFrame m #[(.int hv), (.int mk)] 3 = mkF m 0 #[.val (.int hv), .val (.int mk), .unset] [] := by first | (simp [entryFrame, mkF, argsToLocals, Value.category]; done) | rfl
def Q1 (Z : State) (hv : Int32) (mk : Int32) (h0 : Heap) (n0 : Nat) (v : Option Value) (h : Heap) (L : List Loc) : Prop := v = some (.int (fmix hv &&& mk)) ∧ Fr n0 L ∧ h = h0
set_option maxRecDepth 65536 in
set_option maxHeartbeats 40000000 in
theorem rm1 (l : Launch) (Z : State) (a0 : Array Value) (hw : ∀ d ∈ tables_1, d.before a0 Z = true) (ws : List Jvm.Cond) (hv : Int32) (mk : Int32) (h0 : Heap) (n0 : Nat) (O0 : Old Z n0 h0) :
    MetFree l (⟨"com/example/indenture/indenture/model/TextNumbers", "firstPlace", "(II)I"⟩ : MethodName) (head1 (Jvm.Cond.code (⟨"com/example/indenture/indenture/model/TextNumbers", "firstPlace", "(II)I"⟩ : MethodName) prog_45_method_4_code 3 (some .int) :: ws) ({ frames := 0, cells := 0, slots := 0, locals := 0 } : Room)) (fun ay U => ay = #[(.int hv), (.int mk)] ∧ Z.Warmed39 U.vm ∧ U.heap = h0) (fun _ _ _ _ _ => True) (fun _ U o U' => ∃ v L, o = .returned v ∧ Q1 Z hv mk h0 n0 v U'.heap L ∧ FrameEnd U o U' L ({ frames := 0, cells := 0, slots := 0, locals := 0 } : Room).cells ({ frames := 0, cells := 0, slots := 0, locals := 0 } : Room).slots) := by
  refine MetFree.of_bodySF (plainFor_of_name pn_com_example_indenture_indenture_model_TextNumbers) hisR ?_
  intro p e s m args below meth c s₁ Bd hml0 hP hK
  obtain ⟨rfl, hZ, hh⟩ := hP
  have hx := Bd.exec
  have hby := Bd.bytes
  have hlk : meth.locks = false := BodyLoose.notSynchronized Bd
  have hml : c.maxLocals = 3 := hml0
  have hown : s.vm.findClass "com/example/indenture/indenture/model/TextNumbers" = some m.cls := findClass_of_methodNamed Bd.named
  have hnm := (name_of_methodNamed Bd.named Bd.method).1
  have X0 : Stand p l e ({ frames := 0, cells := 0, slots := 0, locals := 0 } : Room) s m #[(.int hv), (.int mk)] below meth c s₁ [] 0 0 := Stand.of_body Bd
  have e0 : s₁.heap = h0 := by rw [← hh, Bd.state]; rfl
  have N0 := Fr.nil n0
  suffices hgo : Go p e below s 0 0 (Q1 Z hv mk h0 n0) (s₁.setTop (mkF m 0 #[.val (.int hv), .val (.int mk), .unset] [])) by
    obtain ⟨t, o, h1, h2⟩ := hgo; exact ⟨t, o, castTop (ef_rm1 m hv mk) h1, h2⟩
  show Go p e below s _ _ _ (s₁.setTop (mkF m 0 #[.val (.int hv), .val (.int mk), .unset] []))
  refine Go.st (fun _ k' => XS.iloadN X0.here hx rfl (hb hby d1_0) rfl k') ?_
  show Go p e below s _ _ _ (s₁.setTop (mkF m 1 #[.val (.int hv), .val (.int mk), .unset] [(.int hv)]))
  refine Go.st (fun _ k' => X0.ldcI hx hown (mvT hZ (wdx hw 4 rfl)) rfl (hb hby d1_1) k') ?_
  show Go p e below s _ _ _ (s₁.setTop (mkF m 3 #[.val (.int hv), .val (.int mk), .unset] [(.int (-1640531527 : Int32)), (.int hv)]))
  refine Go.st (fun _ k' => XS.imul X0.here hx rfl (hb hby d1_3) rfl k') ?_
  show Go p e below s _ _ _ (s₁.setTop (mkF m 4 #[.val (.int hv), .val (.int mk), .unset] [(.int (hv * (-1640531527 : Int32)))]))
  refine Go.st (fun _ k' => XS.istoreN X0.here hx rfl (hb hby d1_4) rfl (l' := #[.val (.int hv), .val (.int mk), .val (.int (hv * (-1640531527 : Int32)))]) rfl k') ?_
  show Go p e below s _ _ _ (s₁.setTop (mkF m 5 #[.val (.int hv), .val (.int mk), .val (.int (hv * (-1640531527 : Int32)))] []))
  refine Go.st (fun _ k' => XS.iloadN X0.here hx rfl (hb hby d1_5) rfl k') ?_
  show Go p e below s _ _ _ (s₁.setTop (mkF m 6 #[.val (.int hv), .val (.int mk), .val (.int (hv * (-1640531527 : Int32)))] [(.int (hv * (-1640531527 : Int32)))]))
  refine Go.st (fun _ k' => XS.iloadN X0.here hx rfl (hb hby d1_6) rfl k') ?_
  show Go p e below s _ _ _ (s₁.setTop (mkF m 7 #[.val (.int hv), .val (.int mk), .val (.int (hv * (-1640531527 : Int32)))] [(.int (hv * (-1640531527 : Int32))), (.int (hv * (-1640531527 : Int32)))]))
  refine Go.st (fun _ k' => XS.bipush X0.here hx rfl (hb hby d1_7) k') ?_
  show Go p e below s _ _ _ (s₁.setTop (mkF m 9 #[.val (.int hv), .val (.int mk), .val (.int (hv * (-1640531527 : Int32)))] [(.int (16 : Int32)), (.int (hv * (-1640531527 : Int32))), (.int (hv * (-1640531527 : Int32)))]))
  refine Go.st (fun _ k' => XS.iushr X0.here hx rfl (hb hby d1_9) rfl k') ?_
  show Go p e below s _ _ _ (s₁.setTop (mkF m 10 #[.val (.int hv), .val (.int mk), .val (.int (hv * (-1640531527 : Int32)))] [(.int (((hv * (-1640531527 : Int32)).toUInt32 >>> ((16 : Int32) &&& 31).toUInt32).toInt32)), (.int (hv * (-1640531527 : Int32)))]))
  refine Go.st (fun _ k' => XS.ixor X0.here hx rfl (hb hby d1_10) rfl k') ?_
  show Go p e below s _ _ _ (s₁.setTop (mkF m 11 #[.val (.int hv), .val (.int mk), .val (.int (hv * (-1640531527 : Int32)))] [(.int ((hv * (-1640531527 : Int32)) ^^^ (((hv * (-1640531527 : Int32)).toUInt32 >>> ((16 : Int32) &&& 31).toUInt32).toInt32)))]))
  refine Go.st (fun _ k' => XS.iloadN X0.here hx rfl (hb hby d1_11) rfl k') ?_
  show Go p e below s _ _ _ (s₁.setTop (mkF m 12 #[.val (.int hv), .val (.int mk), .val (.int (hv * (-1640531527 : Int32)))] [(.int mk), (.int ((hv * (-1640531527 : Int32)) ^^^ (((hv * (-1640531527 : Int32)).toUInt32 >>> ((16 : Int32) &&& 31).toUInt32).toInt32)))]))
  refine Go.st (fun _ k' => XS.iand X0.here hx rfl (hb hby d1_12) rfl k') ?_
  show Go p e below s _ _ _ (s₁.setTop (mkF m 13 #[.val (.int hv), .val (.int mk), .val (.int (hv * (-1640531527 : Int32)))] [(.int (((hv * (-1640531527 : Int32)) ^^^ (((hv * (-1640531527 : Int32)).toUInt32 >>> ((16 : Int32) &&& 31).toUInt32).toInt32)) &&& mk))]))
  refine Go.ret X0 hx hlk (t := .int) Bd.returns rfl (Or.inl ⟨rfl, Or.inl rfl, _, rfl⟩) (hb hby d1_13) (by decide) (by decide) e0 ?_
  exact ⟨rfl, N0, rfl⟩
theorem d2_0 : decode method_2_code 0 = .ok (.iload_n 0, 1) := by decide +kernel
theorem d2_1 : decode method_2_code 1 = .ok (.iload_n 0, 1) := by decide +kernel
theorem d2_2 : decode method_2_code 2 = .ok (.bipush 16, 2) := by decide +kernel
theorem d2_4 : decode method_2_code 4 = .ok (.iushr, 1) := by decide +kernel
theorem d2_5 : decode method_2_code 5 = .ok (.ixor, 1) := by decide +kernel
theorem d2_6 : decode method_2_code 6 = .ok (.istore_n 1, 1) := by decide +kernel
theorem d2_7 : decode method_2_code 7 = .ok (.iload_n 1, 1) := by decide +kernel
theorem d2_8 : decode method_2_code 8 = .ok (.ldc 9, 2) := by decide +kernel
theorem d2_10 : decode method_2_code 10 = .ok (.imul, 1) := by decide +kernel
theorem d2_11 : decode method_2_code 11 = .ok (.ireturn, 1) := by decide +kernel
theorem pn_com_example_indenture_indenture_model_TextNumbersFirstPlacePinLaw : plainName "com/example/indenture/indenture/model/TextNumbersFirstPlacePinLaw" = true := by first | (simp [plainName, overriddenIn]; done) | decide +kernel
theorem ef_rm2 (m : MethodId) (yv : Int32) : entryFrame m #[(.int yv)] 2 = mkF m 0 #[.val (.int yv), .unset] [] := by first | (simp [entryFrame, mkF, argsToLocals, Value.category]; done) | rfl
def Q2 (Z : State) (yv : Int32) (h0 : Heap) (n0 : Nat) (v : Option Value) (h : Heap) (L : List Loc) : Prop := v = some (.int (fun_ yv)) ∧ Fr n0 L ∧ h = h0
set_option maxRecDepth 65536 in
set_option maxHeartbeats 40000000 in
theorem rm2 (l : Launch) (Z : State) (a0 : Array Value) (hw : ∀ d ∈ tables_1, d.before a0 Z = true) (ws : List Jvm.Cond) (yv : Int32) (h0 : Heap) (n0 : Nat) (O0 : Old Z n0 h0) :
    MetFree l (⟨"com/example/indenture/indenture/model/TextNumbersFirstPlacePinLaw", "unmix", "(I)I"⟩ : MethodName) (head1 (Jvm.Cond.code (⟨"com/example/indenture/indenture/model/TextNumbersFirstPlacePinLaw", "unmix", "(I)I"⟩ : MethodName) method_2_code 2 (some .int) :: ws) ({ frames := 0, cells := 0, slots := 0, locals := 0 } : Room)) (fun ay U => ay = #[(.int yv)] ∧ Z.Warmed39 U.vm ∧ U.heap = h0) (fun _ _ _ _ _ => True) (fun _ U o U' => ∃ v L, o = .returned v ∧ Q2 Z yv h0 n0 v U'.heap L ∧ FrameEnd U o U' L ({ frames := 0, cells := 0, slots := 0, locals := 0 } : Room).cells ({ frames := 0, cells := 0, slots := 0, locals := 0 } : Room).slots) := by
  refine MetFree.of_bodySF (plainFor_of_name pn_com_example_indenture_indenture_model_TextNumbersFirstPlacePinLaw) hisR ?_
  intro p e s m args below meth c s₁ Bd hml0 hP hK
  obtain ⟨rfl, hZ, hh⟩ := hP
  have hx := Bd.exec
  have hby := Bd.bytes
  have hlk : meth.locks = false := BodyLoose.notSynchronized Bd
  have hml : c.maxLocals = 2 := hml0
  have hown : s.vm.findClass "com/example/indenture/indenture/model/TextNumbersFirstPlacePinLaw" = some m.cls := findClass_of_methodNamed Bd.named
  have hnm := (name_of_methodNamed Bd.named Bd.method).1
  have X0 : Stand p l e ({ frames := 0, cells := 0, slots := 0, locals := 0 } : Room) s m #[(.int yv)] below meth c s₁ [] 0 0 := Stand.of_body Bd
  have e0 : s₁.heap = h0 := by rw [← hh, Bd.state]; rfl
  have N0 := Fr.nil n0
  suffices hgo : Go p e below s 0 0 (Q2 Z yv h0 n0) (s₁.setTop (mkF m 0 #[.val (.int yv), .unset] [])) by
    obtain ⟨t, o, h1, h2⟩ := hgo; exact ⟨t, o, castTop (ef_rm2 m yv) h1, h2⟩
  show Go p e below s _ _ _ (s₁.setTop (mkF m 0 #[.val (.int yv), .unset] []))
  refine Go.st (fun _ k' => XS.iloadN X0.here hx rfl (hb hby d2_0) rfl k') ?_
  show Go p e below s _ _ _ (s₁.setTop (mkF m 1 #[.val (.int yv), .unset] [(.int yv)]))
  refine Go.st (fun _ k' => XS.iloadN X0.here hx rfl (hb hby d2_1) rfl k') ?_
  show Go p e below s _ _ _ (s₁.setTop (mkF m 2 #[.val (.int yv), .unset] [(.int yv), (.int yv)]))
  refine Go.st (fun _ k' => XS.bipush X0.here hx rfl (hb hby d2_2) k') ?_
  show Go p e below s _ _ _ (s₁.setTop (mkF m 4 #[.val (.int yv), .unset] [(.int (16 : Int32)), (.int yv), (.int yv)]))
  refine Go.st (fun _ k' => XS.iushr X0.here hx rfl (hb hby d2_4) rfl k') ?_
  show Go p e below s _ _ _ (s₁.setTop (mkF m 5 #[.val (.int yv), .unset] [(.int ((yv.toUInt32 >>> ((16 : Int32) &&& 31).toUInt32).toInt32)), (.int yv)]))
  refine Go.st (fun _ k' => XS.ixor X0.here hx rfl (hb hby d2_5) rfl k') ?_
  show Go p e below s _ _ _ (s₁.setTop (mkF m 6 #[.val (.int yv), .unset] [(.int (yv ^^^ ((yv.toUInt32 >>> ((16 : Int32) &&& 31).toUInt32).toInt32)))]))
  refine Go.st (fun _ k' => XS.istoreN X0.here hx rfl (hb hby d2_6) rfl (l' := #[.val (.int yv), .val (.int (yv ^^^ ((yv.toUInt32 >>> ((16 : Int32) &&& 31).toUInt32).toInt32)))]) rfl k') ?_
  show Go p e below s _ _ _ (s₁.setTop (mkF m 7 #[.val (.int yv), .val (.int (yv ^^^ ((yv.toUInt32 >>> ((16 : Int32) &&& 31).toUInt32).toInt32)))] []))
  refine Go.st (fun _ k' => XS.iloadN X0.here hx rfl (hb hby d2_7) rfl k') ?_
  show Go p e below s _ _ _ (s₁.setTop (mkF m 8 #[.val (.int yv), .val (.int (yv ^^^ ((yv.toUInt32 >>> ((16 : Int32) &&& 31).toUInt32).toInt32)))] [(.int (yv ^^^ ((yv.toUInt32 >>> ((16 : Int32) &&& 31).toUInt32).toInt32)))]))
  refine Go.st (fun _ k' => X0.ldcI hx hown (mvT hZ (wdx hw 10 rfl)) rfl (hb hby d2_8) k') ?_
  show Go p e below s _ _ _ (s₁.setTop (mkF m 10 #[.val (.int yv), .val (.int (yv ^^^ ((yv.toUInt32 >>> ((16 : Int32) &&& 31).toUInt32).toInt32)))] [(.int (340573321 : Int32)), (.int (yv ^^^ ((yv.toUInt32 >>> ((16 : Int32) &&& 31).toUInt32).toInt32)))]))
  refine Go.st (fun _ k' => XS.imul X0.here hx rfl (hb hby d2_10) rfl k') ?_
  show Go p e below s _ _ _ (s₁.setTop (mkF m 11 #[.val (.int yv), .val (.int (yv ^^^ ((yv.toUInt32 >>> ((16 : Int32) &&& 31).toUInt32).toInt32)))] [(.int ((yv ^^^ ((yv.toUInt32 >>> ((16 : Int32) &&& 31).toUInt32).toInt32)) * (340573321 : Int32)))]))
  refine Go.ret X0 hx hlk (t := .int) Bd.returns rfl (Or.inl ⟨rfl, Or.inl rfl, _, rfl⟩) (hb hby d2_11) (by decide) (by decide) e0 ?_
  exact ⟨rfl, N0, rfl⟩
theorem pd__II_I : parseMethodDescriptor "(II)I" = some ⟨[.int, .int], some .int⟩ := by decide +kernel
theorem pd__I_I : parseMethodDescriptor "(I)I" = some ⟨[.int], some .int⟩ := by decide +kernel
theorem ef_rm0 (m : MethodId) (hv : Int32) (kk : Int32) : entryFrame m #[(.int hv), (.int kk)] maxLocals = mkF m 0 #[.val (.int hv), .val (.int kk), .unset, .unset, .unset, .unset, .unset, .unset] [] := by first | (simp [entryFrame, mkF, argsToLocals, Value.category, maxLocals]; done) | rfl
def Q0 (Z : State) (hv : Int32) (kk : Int32) (h0 : Heap) (n0 : Nat) (v : Option Value) (h : Heap) (L : List Loc) : Prop := v = some (.int (1 : Int32)) ∧ Fr n0 L ∧ True
set_option maxRecDepth 65536 in
set_option maxHeartbeats 40000000 in
theorem rm0 (l : Launch) (Z : State) (a0 : Array Value) (hw : ∀ d ∈ tables_1, d.before a0 Z = true) (ws : List Jvm.Cond) (hv : Int32) (kk : Int32) (h0 : Heap) (n0 : Nat) (O0 : Old Z n0 h0) :
    MetFree l x (head1 (Jvm.Cond.code x code maxLocals ret :: ws) room_1) (fun ay U => ay = #[(.int hv), (.int kk)] ∧ Z.Warmed39 U.vm ∧ U.heap = h0) (fun _ _ _ _ _ => True) (fun _ U o U' => ∃ v L, o = .returned v ∧ Q0 Z hv kk h0 n0 v U'.heap L ∧ FrameEnd U o U' L room_1.cells room_1.slots) := by
  refine MetFree.of_bodySF (plainFor_of_name pn_com_example_indenture_indenture_model_TextNumbersFirstPlacePinLaw) hisR ?_
  intro p e s m args below meth c s₁ Bd hml0 hP hK
  obtain ⟨rfl, hZ, hh⟩ := hP
  have hx := Bd.exec
  have hby := Bd.bytes
  have hlk : meth.locks = false := BodyLoose.notSynchronized Bd
  have hml : c.maxLocals = 8 := hml0
  have hown : s.vm.findClass "com/example/indenture/indenture/model/TextNumbersFirstPlacePinLaw" = some m.cls := findClass_of_methodNamed Bd.named
  have hnm := (name_of_methodNamed Bd.named Bd.method).1
  have X0 : Stand p l e room_1 s m #[(.int hv), (.int kk)] below meth c s₁ [] 0 0 := Stand.of_body Bd
  have e0 : s₁.heap = h0 := by rw [← hh, Bd.state]; rfl
  have N0 := Fr.nil n0
  suffices hgo : Go p e below s 0 0 (Q0 Z hv kk h0 n0) (s₁.setTop (mkF m 0 #[.val (.int hv), .val (.int kk), .unset, .unset, .unset, .unset, .unset, .unset] [])) by
    obtain ⟨t, o, h1, h2⟩ := hgo; exact ⟨t, o, castTop (ef_rm0 m hv kk) h1, h2⟩
  show Go p e below s _ _ _ (s₁.setTop (mkF m 0 #[.val (.int hv), .val (.int kk), .unset, .unset, .unset, .unset, .unset, .unset] []))
  refine Go.st (fun _ k' => XS.iloadN X0.here hx rfl (hb hby at_0) rfl k') ?_
  show Go p e below s _ _ _ (s₁.setTop (mkF m 1 #[.val (.int hv), .val (.int kk), .unset, .unset, .unset, .unset, .unset, .unset] [(.int kk)]))
  refine Go.st (fun _ k' => XS.bipush X0.here hx rfl (hb hby at_1) k') ?_
  show Go p e below s _ _ _ (s₁.setTop (mkF m 3 #[.val (.int hv), .val (.int kk), .unset, .unset, .unset, .unset, .unset, .unset] [(.int (31 : Int32)), (.int kk)]))
  refine Go.st (fun _ k' => XS.iand X0.here hx rfl (hb hby at_3) rfl k') ?_
  show Go p e below s _ _ _ (s₁.setTop (mkF m 4 #[.val (.int hv), .val (.int kk), .unset, .unset, .unset, .unset, .unset, .unset] [(.int (kk &&& (31 : Int32)))]))
  refine Go.st (fun _ k' => XS.istoreN X0.here hx rfl (hb hby at_4) rfl (l' := #[.val (.int hv), .val (.int kk), .val (.int (kk &&& (31 : Int32))), .unset, .unset, .unset, .unset, .unset]) rfl k') ?_
  show Go p e below s _ _ _ (s₁.setTop (mkF m 5 #[.val (.int hv), .val (.int kk), .val (.int (kk &&& (31 : Int32))), .unset, .unset, .unset, .unset, .unset] []))
  refine Go.st (fun _ k' => XS.iconst X0.here hx rfl (hb hby at_5) k') ?_
  show Go p e below s _ _ _ (s₁.setTop (mkF m 6 #[.val (.int hv), .val (.int kk), .val (.int (kk &&& (31 : Int32))), .unset, .unset, .unset, .unset, .unset] [(.int (1 : Int32))]))
  refine Go.st (fun _ k' => XS.iloadN X0.here hx rfl (hb hby at_6) rfl k') ?_
  show Go p e below s _ _ _ (s₁.setTop (mkF m 7 #[.val (.int hv), .val (.int kk), .val (.int (kk &&& (31 : Int32))), .unset, .unset, .unset, .unset, .unset] [(.int (kk &&& (31 : Int32))), (.int (1 : Int32))]))
  refine Go.st (fun _ k' => XS.ishl X0.here hx rfl (hb hby at_7) rfl k') ?_
  show Go p e below s _ _ _ (s₁.setTop (mkF m 8 #[.val (.int hv), .val (.int kk), .val (.int (kk &&& (31 : Int32))), .unset, .unset, .unset, .unset, .unset] [(.int ((1 : Int32) <<< ((kk &&& (31 : Int32)) &&& 31)))]))
  refine Go.st (fun _ k' => XS.iconst X0.here hx rfl (hb hby at_8) k') ?_
  show Go p e below s _ _ _ (s₁.setTop (mkF m 9 #[.val (.int hv), .val (.int kk), .val (.int (kk &&& (31 : Int32))), .unset, .unset, .unset, .unset, .unset] [(.int (1 : Int32)), (.int ((1 : Int32) <<< ((kk &&& (31 : Int32)) &&& 31)))]))
  refine Go.st (fun _ k' => XS.isub X0.here hx rfl (hb hby at_9) rfl k') ?_
  show Go p e below s _ _ _ (s₁.setTop (mkF m 10 #[.val (.int hv), .val (.int kk), .val (.int (kk &&& (31 : Int32))), .unset, .unset, .unset, .unset, .unset] [(.int (((1 : Int32) <<< ((kk &&& (31 : Int32)) &&& 31)) - (1 : Int32)))]))
  refine Go.st (fun _ k' => XS.istoreN X0.here hx rfl (hb hby at_10) rfl (l' := #[.val (.int hv), .val (.int kk), .val (.int (kk &&& (31 : Int32))), .val (.int (((1 : Int32) <<< ((kk &&& (31 : Int32)) &&& 31)) - (1 : Int32))), .unset, .unset, .unset, .unset]) rfl k') ?_
  show Go p e below s _ _ _ (s₁.setTop (mkF m 11 #[.val (.int hv), .val (.int kk), .val (.int (kk &&& (31 : Int32))), .val (.int (((1 : Int32) <<< ((kk &&& (31 : Int32)) &&& 31)) - (1 : Int32))), .unset, .unset, .unset, .unset] []))
  refine Go.st (fun _ k' => XS.iloadN X0.here hx rfl (hb hby at_11) rfl k') ?_
  show Go p e below s _ _ _ (s₁.setTop (mkF m 12 #[.val (.int hv), .val (.int kk), .val (.int (kk &&& (31 : Int32))), .val (.int (((1 : Int32) <<< ((kk &&& (31 : Int32)) &&& 31)) - (1 : Int32))), .unset, .unset, .unset, .unset] [(.int hv)]))
  refine Go.st (fun _ k' => XS.iloadN X0.here hx rfl (hb hby at_12) rfl k') ?_
  show Go p e below s _ _ _ (s₁.setTop (mkF m 13 #[.val (.int hv), .val (.int kk), .val (.int (kk &&& (31 : Int32))), .val (.int (((1 : Int32) <<< ((kk &&& (31 : Int32)) &&& 31)) - (1 : Int32))), .unset, .unset, .unset, .unset] [(.int (((1 : Int32) <<< ((kk &&& (31 : Int32)) &&& 31)) - (1 : Int32))), (.int hv)]))
  obtain ⟨_, _, ⟨T1, L1, k1, n1⟩, -, X1, ⟨Lc1, hQ1, l1, y1, z1⟩, st1⟩ := Jvm.LawKit.callS X0 hx (y := (⟨"com/example/indenture/indenture/model/TextNumbers", "firstPlace", "(II)I"⟩ : MethodName)) hown (mvT hZ (wdx hw 0 rfl)) (mvT hZ (wdx hw 1 rfl)) (mvT hZ (wdx hw 2 rfl)) (mvT hZ (wdx hw 3 rfl)) (by decide) (backOf (W := 0) (rm1 l Z a0 hw [] hv (((1 : Int32) <<< ((kk &&& (31 : Int32)) &&& 31)) - (1 : Int32)) h0 n0 O0 ) hZ (wdx hw 3 rfl) (wdx hw 2 rfl) (by decide) (by decide)) (g := (mkF m 13 #[.val (.int hv), .val (.int kk), .val (.int (kk &&& (31 : Int32))), .val (.int (((1 : Int32) <<< ((kk &&& (31 : Int32)) &&& 31)) - (1 : Int32))), .unset, .unset, .unset, .unset] [(.int (((1 : Int32) <<< ((kk &&& (31 : Int32)) &&& 31)) - (1 : Int32))), (.int hv)])) rfl (by rw [hml]; rfl) (argsL := [(.int hv), (.int (((1 : Int32) <<< ((kk &&& (31 : Int32)) &&& 31)) - (1 : Int32)))]) (rest := []) (lenOf pd__II_I rfl) rfl (by show 2 * 0 + _ ≤ _; exact Nat.le_of_eq rfl) (hb hby at_13) (fun _ _ => ⟨rfl, e0, (by exact Nat.le_of_ble_eq_true rfl), (by exact Nat.le_of_ble_eq_true rfl)⟩)
  dsimp only [Pt.U, Pt.locs, Pt.cells, Pt.slots] at X1 l1 y1 z1 st1 hQ1
  subst l1 y1 z1
  obtain ⟨rfl, Nq1, eq1⟩ := hQ1
  have N1 := Fr.app N0 Nq1
  refine Go.st st1 ?_
  show Go p e below s _ _ _ (T1.setTop (mkF m 16 #[.val (.int hv), .val (.int kk), .val (.int (kk &&& (31 : Int32))), .val (.int (((1 : Int32) <<< ((kk &&& (31 : Int32)) &&& 31)) - (1 : Int32))), .unset, .unset, .unset, .unset] [(.int (fmix hv &&& (((1 : Int32) <<< ((kk &&& (31 : Int32)) &&& 31)) - (1 : Int32))))]))
  refine Go.st (fun _ k' => XS.istore X1.here hx rfl (hb hby at_16) rfl (l' := #[.val (.int hv), .val (.int kk), .val (.int (kk &&& (31 : Int32))), .val (.int (((1 : Int32) <<< ((kk &&& (31 : Int32)) &&& 31)) - (1 : Int32))), .val (.int (fmix hv &&& (((1 : Int32) <<< ((kk &&& (31 : Int32)) &&& 31)) - (1 : Int32)))), .unset, .unset, .unset]) rfl k') ?_
  show Go p e below s _ _ _ (T1.setTop (mkF m 18 #[.val (.int hv), .val (.int kk), .val (.int (kk &&& (31 : Int32))), .val (.int (((1 : Int32) <<< ((kk &&& (31 : Int32)) &&& 31)) - (1 : Int32))), .val (.int (fmix hv &&& (((1 : Int32) <<< ((kk &&& (31 : Int32)) &&& 31)) - (1 : Int32)))), .unset, .unset, .unset] []))
  refine Go.st (fun _ k' => XS.iloadN X1.here hx rfl (hb hby at_18) rfl k') ?_
  show Go p e below s _ _ _ (T1.setTop (mkF m 19 #[.val (.int hv), .val (.int kk), .val (.int (kk &&& (31 : Int32))), .val (.int (((1 : Int32) <<< ((kk &&& (31 : Int32)) &&& 31)) - (1 : Int32))), .val (.int (fmix hv &&& (((1 : Int32) <<< ((kk &&& (31 : Int32)) &&& 31)) - (1 : Int32)))), .unset, .unset, .unset] [(.int hv)]))
  refine Go.st (fun _ k' => X1.ldcI hx hown (mvT hZ (wdx hw 5 rfl)) rfl (hb hby at_19) k') ?_
  show Go p e below s _ _ _ (T1.setTop (mkF m 21 #[.val (.int hv), .val (.int kk), .val (.int (kk &&& (31 : Int32))), .val (.int (((1 : Int32) <<< ((kk &&& (31 : Int32)) &&& 31)) - (1 : Int32))), .val (.int (fmix hv &&& (((1 : Int32) <<< ((kk &&& (31 : Int32)) &&& 31)) - (1 : Int32)))), .unset, .unset, .unset] [(.int (2147483647 : Int32)), (.int hv)]))
  obtain ⟨_, _, ⟨T2, L2, k2, n2⟩, -, X2, ⟨Lc2, hQ2, l2, y2, z2⟩, st2⟩ := Jvm.LawKit.callS X1 hx (y := (⟨"com/example/indenture/indenture/model/TextNumbers", "firstPlace", "(II)I"⟩ : MethodName)) hown (mvT hZ (wdx hw 0 rfl)) (mvT hZ (wdx hw 1 rfl)) (mvT hZ (wdx hw 2 rfl)) (mvT hZ (wdx hw 3 rfl)) (by decide) (backOf (W := 0) (rm1 l Z a0 hw [] hv (2147483647 : Int32) h0 n0 O0 ) hZ (wdx hw 3 rfl) (wdx hw 2 rfl) (by decide) (by decide)) (g := (mkF m 21 #[.val (.int hv), .val (.int kk), .val (.int (kk &&& (31 : Int32))), .val (.int (((1 : Int32) <<< ((kk &&& (31 : Int32)) &&& 31)) - (1 : Int32))), .val (.int (fmix hv &&& (((1 : Int32) <<< ((kk &&& (31 : Int32)) &&& 31)) - (1 : Int32)))), .unset, .unset, .unset] [(.int (2147483647 : Int32)), (.int hv)])) rfl (by rw [hml]; rfl) (argsL := [(.int hv), (.int (2147483647 : Int32))]) (rest := []) (lenOf pd__II_I rfl) rfl (by show 2 * 0 + _ ≤ _; exact Nat.le_of_eq rfl) (hb hby at_21) (fun _ _ => ⟨rfl, eq1, (by exact Nat.le_of_ble_eq_true rfl), (by exact Nat.le_of_ble_eq_true rfl)⟩)
  dsimp only [Pt.U, Pt.locs, Pt.cells, Pt.slots] at X2 l2 y2 z2 st2 hQ2
  subst l2 y2 z2
  obtain ⟨rfl, Nq2, eq2⟩ := hQ2
  have N2 := Fr.app N1 Nq2
  refine Go.st st2 ?_
  show Go p e below s _ _ _ (T2.setTop (mkF m 24 #[.val (.int hv), .val (.int kk), .val (.int (kk &&& (31 : Int32))), .val (.int (((1 : Int32) <<< ((kk &&& (31 : Int32)) &&& 31)) - (1 : Int32))), .val (.int (fmix hv &&& (((1 : Int32) <<< ((kk &&& (31 : Int32)) &&& 31)) - (1 : Int32)))), .unset, .unset, .unset] [(.int (fmix hv &&& (2147483647 : Int32)))]))
  refine Go.st (fun _ k' => XS.istore X2.here hx rfl (hb hby at_24) rfl (l' := #[.val (.int hv), .val (.int kk), .val (.int (kk &&& (31 : Int32))), .val (.int (((1 : Int32) <<< ((kk &&& (31 : Int32)) &&& 31)) - (1 : Int32))), .val (.int (fmix hv &&& (((1 : Int32) <<< ((kk &&& (31 : Int32)) &&& 31)) - (1 : Int32)))), .val (.int (fmix hv &&& (2147483647 : Int32))), .unset, .unset]) rfl k') ?_
  show Go p e below s _ _ _ (T2.setTop (mkF m 26 #[.val (.int hv), .val (.int kk), .val (.int (kk &&& (31 : Int32))), .val (.int (((1 : Int32) <<< ((kk &&& (31 : Int32)) &&& 31)) - (1 : Int32))), .val (.int (fmix hv &&& (((1 : Int32) <<< ((kk &&& (31 : Int32)) &&& 31)) - (1 : Int32)))), .val (.int (fmix hv &&& (2147483647 : Int32))), .unset, .unset] []))
  refine Go.st (fun _ k' => XS.iload X2.here hx rfl (hb hby at_26) rfl k') ?_
  show Go p e below s _ _ _ (T2.setTop (mkF m 28 #[.val (.int hv), .val (.int kk), .val (.int (kk &&& (31 : Int32))), .val (.int (((1 : Int32) <<< ((kk &&& (31 : Int32)) &&& 31)) - (1 : Int32))), .val (.int (fmix hv &&& (((1 : Int32) <<< ((kk &&& (31 : Int32)) &&& 31)) - (1 : Int32)))), .val (.int (fmix hv &&& (2147483647 : Int32))), .unset, .unset] [(.int (fmix hv &&& (((1 : Int32) <<< ((kk &&& (31 : Int32)) &&& 31)) - (1 : Int32))))]))
  refine Go.st (fun _ k' => XS.iloadN X2.here hx rfl (hb hby at_28) rfl k') ?_
  show Go p e below s _ _ _ (T2.setTop (mkF m 29 #[.val (.int hv), .val (.int kk), .val (.int (kk &&& (31 : Int32))), .val (.int (((1 : Int32) <<< ((kk &&& (31 : Int32)) &&& 31)) - (1 : Int32))), .val (.int (fmix hv &&& (((1 : Int32) <<< ((kk &&& (31 : Int32)) &&& 31)) - (1 : Int32)))), .val (.int (fmix hv &&& (2147483647 : Int32))), .unset, .unset] [(.int (((1 : Int32) <<< ((kk &&& (31 : Int32)) &&& 31)) - (1 : Int32))), (.int (fmix hv &&& (((1 : Int32) <<< ((kk &&& (31 : Int32)) &&& 31)) - (1 : Int32))))]))
  refine Go.st (fun _ k' => XS.iconst X2.here hx rfl (hb hby at_29) k') ?_
  show Go p e below s _ _ _ (T2.setTop (mkF m 30 #[.val (.int hv), .val (.int kk), .val (.int (kk &&& (31 : Int32))), .val (.int (((1 : Int32) <<< ((kk &&& (31 : Int32)) &&& 31)) - (1 : Int32))), .val (.int (fmix hv &&& (((1 : Int32) <<< ((kk &&& (31 : Int32)) &&& 31)) - (1 : Int32)))), .val (.int (fmix hv &&& (2147483647 : Int32))), .unset, .unset] [(.int (-1 : Int32)), (.int (((1 : Int32) <<< ((kk &&& (31 : Int32)) &&& 31)) - (1 : Int32))), (.int (fmix hv &&& (((1 : Int32) <<< ((kk &&& (31 : Int32)) &&& 31)) - (1 : Int32))))]))
  refine Go.st (fun _ k' => XS.ixor X2.here hx rfl (hb hby at_30) rfl k') ?_
  show Go p e below s _ _ _ (T2.setTop (mkF m 31 #[.val (.int hv), .val (.int kk), .val (.int (kk &&& (31 : Int32))), .val (.int (((1 : Int32) <<< ((kk &&& (31 : Int32)) &&& 31)) - (1 : Int32))), .val (.int (fmix hv &&& (((1 : Int32) <<< ((kk &&& (31 : Int32)) &&& 31)) - (1 : Int32)))), .val (.int (fmix hv &&& (2147483647 : Int32))), .unset, .unset] [(.int ((((1 : Int32) <<< ((kk &&& (31 : Int32)) &&& 31)) - (1 : Int32)) ^^^ (-1 : Int32))), (.int (fmix hv &&& (((1 : Int32) <<< ((kk &&& (31 : Int32)) &&& 31)) - (1 : Int32))))]))
  refine Go.st (fun _ k' => XS.iand X2.here hx rfl (hb hby at_31) rfl k') ?_
  show Go p e below s _ _ _ (T2.setTop (mkF m 32 #[.val (.int hv), .val (.int kk), .val (.int (kk &&& (31 : Int32))), .val (.int (((1 : Int32) <<< ((kk &&& (31 : Int32)) &&& 31)) - (1 : Int32))), .val (.int (fmix hv &&& (((1 : Int32) <<< ((kk &&& (31 : Int32)) &&& 31)) - (1 : Int32)))), .val (.int (fmix hv &&& (2147483647 : Int32))), .unset, .unset] [(.int ((fmix hv &&& (((1 : Int32) <<< ((kk &&& (31 : Int32)) &&& 31)) - (1 : Int32))) &&& ((((1 : Int32) <<< ((kk &&& (31 : Int32)) &&& 31)) - (1 : Int32)) ^^^ (-1 : Int32))))]))
  refine Go.st (fun _ k' => XS.ifYes X2.here hx rfl (pc0 := 32) (pc' := 37) rfl (hb hby at_32) rfl (XT.i0_eq_t (own_mask _ _)) (by decide) (by decide) k') ?_
  show Go p e below s _ _ _ (T2.setTop (mkF m 37 #[.val (.int hv), .val (.int kk), .val (.int (kk &&& (31 : Int32))), .val (.int (((1 : Int32) <<< ((kk &&& (31 : Int32)) &&& 31)) - (1 : Int32))), .val (.int (fmix hv &&& (((1 : Int32) <<< ((kk &&& (31 : Int32)) &&& 31)) - (1 : Int32)))), .val (.int (fmix hv &&& (2147483647 : Int32))), .unset, .unset] []))
  refine Go.st (fun _ k' => XS.iload X2.here hx rfl (hb hby at_37) rfl k') ?_
  show Go p e below s _ _ _ (T2.setTop (mkF m 39 #[.val (.int hv), .val (.int kk), .val (.int (kk &&& (31 : Int32))), .val (.int (((1 : Int32) <<< ((kk &&& (31 : Int32)) &&& 31)) - (1 : Int32))), .val (.int (fmix hv &&& (((1 : Int32) <<< ((kk &&& (31 : Int32)) &&& 31)) - (1 : Int32)))), .val (.int (fmix hv &&& (2147483647 : Int32))), .unset, .unset] [(.int (fmix hv &&& (2147483647 : Int32)))]))
  refine Go.st (fun _ k' => XS.ifYes X2.here hx rfl (pc0 := 39) (pc' := 44) rfl (hb hby at_39) rfl (XT.i0_ge_t (own_full _)) (by decide) (by decide) k') ?_
  show Go p e below s _ _ _ (T2.setTop (mkF m 44 #[.val (.int hv), .val (.int kk), .val (.int (kk &&& (31 : Int32))), .val (.int (((1 : Int32) <<< ((kk &&& (31 : Int32)) &&& 31)) - (1 : Int32))), .val (.int (fmix hv &&& (((1 : Int32) <<< ((kk &&& (31 : Int32)) &&& 31)) - (1 : Int32)))), .val (.int (fmix hv &&& (2147483647 : Int32))), .unset, .unset] []))
  refine Go.st (fun _ k' => XS.iload X2.here hx rfl (hb hby at_44) rfl k') ?_
  show Go p e below s _ _ _ (T2.setTop (mkF m 46 #[.val (.int hv), .val (.int kk), .val (.int (kk &&& (31 : Int32))), .val (.int (((1 : Int32) <<< ((kk &&& (31 : Int32)) &&& 31)) - (1 : Int32))), .val (.int (fmix hv &&& (((1 : Int32) <<< ((kk &&& (31 : Int32)) &&& 31)) - (1 : Int32)))), .val (.int (fmix hv &&& (2147483647 : Int32))), .unset, .unset] [(.int (fmix hv &&& (((1 : Int32) <<< ((kk &&& (31 : Int32)) &&& 31)) - (1 : Int32))))]))
  refine Go.st (fun _ k' => XS.iload X2.here hx rfl (hb hby at_46) rfl k') ?_
  show Go p e below s _ _ _ (T2.setTop (mkF m 48 #[.val (.int hv), .val (.int kk), .val (.int (kk &&& (31 : Int32))), .val (.int (((1 : Int32) <<< ((kk &&& (31 : Int32)) &&& 31)) - (1 : Int32))), .val (.int (fmix hv &&& (((1 : Int32) <<< ((kk &&& (31 : Int32)) &&& 31)) - (1 : Int32)))), .val (.int (fmix hv &&& (2147483647 : Int32))), .unset, .unset] [(.int (fmix hv &&& (2147483647 : Int32))), (.int (fmix hv &&& (((1 : Int32) <<< ((kk &&& (31 : Int32)) &&& 31)) - (1 : Int32))))]))
  refine Go.st (fun _ k' => XS.iloadN X2.here hx rfl (hb hby at_48) rfl k') ?_
  show Go p e below s _ _ _ (T2.setTop (mkF m 49 #[.val (.int hv), .val (.int kk), .val (.int (kk &&& (31 : Int32))), .val (.int (((1 : Int32) <<< ((kk &&& (31 : Int32)) &&& 31)) - (1 : Int32))), .val (.int (fmix hv &&& (((1 : Int32) <<< ((kk &&& (31 : Int32)) &&& 31)) - (1 : Int32)))), .val (.int (fmix hv &&& (2147483647 : Int32))), .unset, .unset] [(.int (((1 : Int32) <<< ((kk &&& (31 : Int32)) &&& 31)) - (1 : Int32))), (.int (fmix hv &&& (2147483647 : Int32))), (.int (fmix hv &&& (((1 : Int32) <<< ((kk &&& (31 : Int32)) &&& 31)) - (1 : Int32))))]))
  refine Go.st (fun _ k' => XS.iand X2.here hx rfl (hb hby at_49) rfl k') ?_
  show Go p e below s _ _ _ (T2.setTop (mkF m 50 #[.val (.int hv), .val (.int kk), .val (.int (kk &&& (31 : Int32))), .val (.int (((1 : Int32) <<< ((kk &&& (31 : Int32)) &&& 31)) - (1 : Int32))), .val (.int (fmix hv &&& (((1 : Int32) <<< ((kk &&& (31 : Int32)) &&& 31)) - (1 : Int32)))), .val (.int (fmix hv &&& (2147483647 : Int32))), .unset, .unset] [(.int ((fmix hv &&& (2147483647 : Int32)) &&& (((1 : Int32) <<< ((kk &&& (31 : Int32)) &&& 31)) - (1 : Int32)))), (.int (fmix hv &&& (((1 : Int32) <<< ((kk &&& (31 : Int32)) &&& 31)) - (1 : Int32))))]))
  refine Go.st (fun _ k' => XS.icmpYes X2.here hx rfl (pc0 := 50) (pc' := 55) rfl (hb hby at_50) rfl (XT.ii_eq_t (own_sub _ _ (own_k31 kk))) (by decide) (by decide) k') ?_
  show Go p e below s _ _ _ (T2.setTop (mkF m 55 #[.val (.int hv), .val (.int kk), .val (.int (kk &&& (31 : Int32))), .val (.int (((1 : Int32) <<< ((kk &&& (31 : Int32)) &&& 31)) - (1 : Int32))), .val (.int (fmix hv &&& (((1 : Int32) <<< ((kk &&& (31 : Int32)) &&& 31)) - (1 : Int32)))), .val (.int (fmix hv &&& (2147483647 : Int32))), .unset, .unset] []))
  refine Go.st (fun _ k' => XS.iload X2.here hx rfl (hb hby at_55) rfl k') ?_
  show Go p e below s _ _ _ (T2.setTop (mkF m 57 #[.val (.int hv), .val (.int kk), .val (.int (kk &&& (31 : Int32))), .val (.int (((1 : Int32) <<< ((kk &&& (31 : Int32)) &&& 31)) - (1 : Int32))), .val (.int (fmix hv &&& (((1 : Int32) <<< ((kk &&& (31 : Int32)) &&& 31)) - (1 : Int32)))), .val (.int (fmix hv &&& (2147483647 : Int32))), .unset, .unset] [(.int (fmix hv &&& (2147483647 : Int32)))]))
  obtain ⟨_, _, ⟨T3, L3, k3, n3⟩, -, X3, ⟨Lc3, hQ3, l3, y3, z3⟩, st3⟩ := Jvm.LawKit.callS X2 hx (y := (⟨"com/example/indenture/indenture/model/TextNumbersFirstPlacePinLaw", "unmix", "(I)I"⟩ : MethodName)) hown (mvT hZ (wdx hw 6 rfl)) (mvT hZ (wdx hw 7 rfl)) (mvT hZ (wdx hw 8 rfl)) (mvT hZ (wdx hw 9 rfl)) (by decide) (backOf (W := 0) (rm2 l Z a0 hw [] (fmix hv &&& (2147483647 : Int32)) h0 n0 O0 ) hZ (wdx hw 9 rfl) (wdx hw 8 rfl) (by decide) (by decide)) (g := (mkF m 57 #[.val (.int hv), .val (.int kk), .val (.int (kk &&& (31 : Int32))), .val (.int (((1 : Int32) <<< ((kk &&& (31 : Int32)) &&& 31)) - (1 : Int32))), .val (.int (fmix hv &&& (((1 : Int32) <<< ((kk &&& (31 : Int32)) &&& 31)) - (1 : Int32)))), .val (.int (fmix hv &&& (2147483647 : Int32))), .unset, .unset] [(.int (fmix hv &&& (2147483647 : Int32)))])) rfl (by rw [hml]; rfl) (argsL := [(.int (fmix hv &&& (2147483647 : Int32)))]) (rest := []) (lenOf pd__I_I rfl) rfl (by show 2 * 0 + _ ≤ _; exact Nat.le_of_eq rfl) (hb hby at_57) (fun _ _ => ⟨rfl, eq2, (by exact Nat.le_of_ble_eq_true rfl), (by exact Nat.le_of_ble_eq_true rfl)⟩)
  dsimp only [Pt.U, Pt.locs, Pt.cells, Pt.slots] at X3 l3 y3 z3 st3 hQ3
  subst l3 y3 z3
  obtain ⟨rfl, Nq3, eq3⟩ := hQ3
  have N3 := Fr.app N2 Nq3
  refine Go.st st3 ?_
  show Go p e below s _ _ _ (T3.setTop (mkF m 60 #[.val (.int hv), .val (.int kk), .val (.int (kk &&& (31 : Int32))), .val (.int (((1 : Int32) <<< ((kk &&& (31 : Int32)) &&& 31)) - (1 : Int32))), .val (.int (fmix hv &&& (((1 : Int32) <<< ((kk &&& (31 : Int32)) &&& 31)) - (1 : Int32)))), .val (.int (fmix hv &&& (2147483647 : Int32))), .unset, .unset] [(.int (fun_ (fmix hv &&& (2147483647 : Int32))))]))
  refine Go.st (fun _ k' => XS.istore X3.here hx rfl (hb hby at_60) rfl (l' := #[.val (.int hv), .val (.int kk), .val (.int (kk &&& (31 : Int32))), .val (.int (((1 : Int32) <<< ((kk &&& (31 : Int32)) &&& 31)) - (1 : Int32))), .val (.int (fmix hv &&& (((1 : Int32) <<< ((kk &&& (31 : Int32)) &&& 31)) - (1 : Int32)))), .val (.int (fmix hv &&& (2147483647 : Int32))), .val (.int (fun_ (fmix hv &&& (2147483647 : Int32)))), .unset]) rfl k') ?_
  show Go p e below s _ _ _ (T3.setTop (mkF m 62 #[.val (.int hv), .val (.int kk), .val (.int (kk &&& (31 : Int32))), .val (.int (((1 : Int32) <<< ((kk &&& (31 : Int32)) &&& 31)) - (1 : Int32))), .val (.int (fmix hv &&& (((1 : Int32) <<< ((kk &&& (31 : Int32)) &&& 31)) - (1 : Int32)))), .val (.int (fmix hv &&& (2147483647 : Int32))), .val (.int (fun_ (fmix hv &&& (2147483647 : Int32)))), .unset] []))
  refine Go.st (fun _ k' => XS.iload X3.here hx rfl (hb hby at_62) rfl k') ?_
  show Go p e below s _ _ _ (T3.setTop (mkF m 64 #[.val (.int hv), .val (.int kk), .val (.int (kk &&& (31 : Int32))), .val (.int (((1 : Int32) <<< ((kk &&& (31 : Int32)) &&& 31)) - (1 : Int32))), .val (.int (fmix hv &&& (((1 : Int32) <<< ((kk &&& (31 : Int32)) &&& 31)) - (1 : Int32)))), .val (.int (fmix hv &&& (2147483647 : Int32))), .val (.int (fun_ (fmix hv &&& (2147483647 : Int32)))), .unset] [(.int (fmix hv &&& (2147483647 : Int32)))]))
  refine Go.st (fun _ k' => X3.ldcI hx hown (mvT hZ (wdx hw 11 rfl)) rfl (hb hby at_64) k') ?_
  show Go p e below s _ _ _ (T3.setTop (mkF m 66 #[.val (.int hv), .val (.int kk), .val (.int (kk &&& (31 : Int32))), .val (.int (((1 : Int32) <<< ((kk &&& (31 : Int32)) &&& 31)) - (1 : Int32))), .val (.int (fmix hv &&& (((1 : Int32) <<< ((kk &&& (31 : Int32)) &&& 31)) - (1 : Int32)))), .val (.int (fmix hv &&& (2147483647 : Int32))), .val (.int (fun_ (fmix hv &&& (2147483647 : Int32)))), .unset] [(.int (-2147483648 : Int32)), (.int (fmix hv &&& (2147483647 : Int32)))]))
  refine Go.st (fun _ k' => XS.ior X3.here hx rfl (hb hby at_66) rfl k') ?_
  show Go p e below s _ _ _ (T3.setTop (mkF m 67 #[.val (.int hv), .val (.int kk), .val (.int (kk &&& (31 : Int32))), .val (.int (((1 : Int32) <<< ((kk &&& (31 : Int32)) &&& 31)) - (1 : Int32))), .val (.int (fmix hv &&& (((1 : Int32) <<< ((kk &&& (31 : Int32)) &&& 31)) - (1 : Int32)))), .val (.int (fmix hv &&& (2147483647 : Int32))), .val (.int (fun_ (fmix hv &&& (2147483647 : Int32)))), .unset] [(.int ((fmix hv &&& (2147483647 : Int32)) ||| (-2147483648 : Int32)))]))
  obtain ⟨_, _, ⟨T4, L4, k4, n4⟩, -, X4, ⟨Lc4, hQ4, l4, y4, z4⟩, st4⟩ := Jvm.LawKit.callS X3 hx (y := (⟨"com/example/indenture/indenture/model/TextNumbersFirstPlacePinLaw", "unmix", "(I)I"⟩ : MethodName)) hown (mvT hZ (wdx hw 6 rfl)) (mvT hZ (wdx hw 7 rfl)) (mvT hZ (wdx hw 8 rfl)) (mvT hZ (wdx hw 9 rfl)) (by decide) (backOf (W := 0) (rm2 l Z a0 hw [] ((fmix hv &&& (2147483647 : Int32)) ||| (-2147483648 : Int32)) h0 n0 O0 ) hZ (wdx hw 9 rfl) (wdx hw 8 rfl) (by decide) (by decide)) (g := (mkF m 67 #[.val (.int hv), .val (.int kk), .val (.int (kk &&& (31 : Int32))), .val (.int (((1 : Int32) <<< ((kk &&& (31 : Int32)) &&& 31)) - (1 : Int32))), .val (.int (fmix hv &&& (((1 : Int32) <<< ((kk &&& (31 : Int32)) &&& 31)) - (1 : Int32)))), .val (.int (fmix hv &&& (2147483647 : Int32))), .val (.int (fun_ (fmix hv &&& (2147483647 : Int32)))), .unset] [(.int ((fmix hv &&& (2147483647 : Int32)) ||| (-2147483648 : Int32)))])) rfl (by rw [hml]; rfl) (argsL := [(.int ((fmix hv &&& (2147483647 : Int32)) ||| (-2147483648 : Int32)))]) (rest := []) (lenOf pd__I_I rfl) rfl (by show 2 * 0 + _ ≤ _; exact Nat.le_of_eq rfl) (hb hby at_67) (fun _ _ => ⟨rfl, eq3, (by exact Nat.le_of_ble_eq_true rfl), (by exact Nat.le_of_ble_eq_true rfl)⟩)
  dsimp only [Pt.U, Pt.locs, Pt.cells, Pt.slots] at X4 l4 y4 z4 st4 hQ4
  subst l4 y4 z4
  obtain ⟨rfl, Nq4, eq4⟩ := hQ4
  have N4 := Fr.app N3 Nq4
  refine Go.st st4 ?_
  show Go p e below s _ _ _ (T4.setTop (mkF m 70 #[.val (.int hv), .val (.int kk), .val (.int (kk &&& (31 : Int32))), .val (.int (((1 : Int32) <<< ((kk &&& (31 : Int32)) &&& 31)) - (1 : Int32))), .val (.int (fmix hv &&& (((1 : Int32) <<< ((kk &&& (31 : Int32)) &&& 31)) - (1 : Int32)))), .val (.int (fmix hv &&& (2147483647 : Int32))), .val (.int (fun_ (fmix hv &&& (2147483647 : Int32)))), .unset] [(.int (fun_ ((fmix hv &&& (2147483647 : Int32)) ||| (-2147483648 : Int32))))]))
  refine Go.st (fun _ k' => XS.istore X4.here hx rfl (hb hby at_70) rfl (l' := #[.val (.int hv), .val (.int kk), .val (.int (kk &&& (31 : Int32))), .val (.int (((1 : Int32) <<< ((kk &&& (31 : Int32)) &&& 31)) - (1 : Int32))), .val (.int (fmix hv &&& (((1 : Int32) <<< ((kk &&& (31 : Int32)) &&& 31)) - (1 : Int32)))), .val (.int (fmix hv &&& (2147483647 : Int32))), .val (.int (fun_ (fmix hv &&& (2147483647 : Int32)))), .val (.int (fun_ ((fmix hv &&& (2147483647 : Int32)) ||| (-2147483648 : Int32))))]) rfl k') ?_
  show Go p e below s _ _ _ (T4.setTop (mkF m 72 #[.val (.int hv), .val (.int kk), .val (.int (kk &&& (31 : Int32))), .val (.int (((1 : Int32) <<< ((kk &&& (31 : Int32)) &&& 31)) - (1 : Int32))), .val (.int (fmix hv &&& (((1 : Int32) <<< ((kk &&& (31 : Int32)) &&& 31)) - (1 : Int32)))), .val (.int (fmix hv &&& (2147483647 : Int32))), .val (.int (fun_ (fmix hv &&& (2147483647 : Int32)))), .val (.int (fun_ ((fmix hv &&& (2147483647 : Int32)) ||| (-2147483648 : Int32))))] []))
  refine Go.st (fun _ k' => XS.iload X4.here hx rfl (hb hby at_72) rfl k') ?_
  show Go p e below s _ _ _ (T4.setTop (mkF m 74 #[.val (.int hv), .val (.int kk), .val (.int (kk &&& (31 : Int32))), .val (.int (((1 : Int32) <<< ((kk &&& (31 : Int32)) &&& 31)) - (1 : Int32))), .val (.int (fmix hv &&& (((1 : Int32) <<< ((kk &&& (31 : Int32)) &&& 31)) - (1 : Int32)))), .val (.int (fmix hv &&& (2147483647 : Int32))), .val (.int (fun_ (fmix hv &&& (2147483647 : Int32)))), .val (.int (fun_ ((fmix hv &&& (2147483647 : Int32)) ||| (-2147483648 : Int32))))] [(.int (fun_ (fmix hv &&& (2147483647 : Int32))))]))
  refine Go.st (fun _ k' => XS.iloadN X4.here hx rfl (hb hby at_74) rfl k') ?_
  show Go p e below s _ _ _ (T4.setTop (mkF m 75 #[.val (.int hv), .val (.int kk), .val (.int (kk &&& (31 : Int32))), .val (.int (((1 : Int32) <<< ((kk &&& (31 : Int32)) &&& 31)) - (1 : Int32))), .val (.int (fmix hv &&& (((1 : Int32) <<< ((kk &&& (31 : Int32)) &&& 31)) - (1 : Int32)))), .val (.int (fmix hv &&& (2147483647 : Int32))), .val (.int (fun_ (fmix hv &&& (2147483647 : Int32)))), .val (.int (fun_ ((fmix hv &&& (2147483647 : Int32)) ||| (-2147483648 : Int32))))] [(.int hv), (.int (fun_ (fmix hv &&& (2147483647 : Int32))))]))
  by_cases hc5 : (fun_ (fmix hv &&& (2147483647 : Int32))) = hv
  · refine Go.st (fun _ k' => XS.icmpYes X4.here hx rfl (pc0 := 75) (pc' := 84) rfl (hb hby at_75) rfl (XT.ii_eq_t hc5) (by decide) (by decide) k') ?_
    show Go p e below s _ _ _ (T4.setTop (mkF m 84 #[.val (.int hv), .val (.int kk), .val (.int (kk &&& (31 : Int32))), .val (.int (((1 : Int32) <<< ((kk &&& (31 : Int32)) &&& 31)) - (1 : Int32))), .val (.int (fmix hv &&& (((1 : Int32) <<< ((kk &&& (31 : Int32)) &&& 31)) - (1 : Int32)))), .val (.int (fmix hv &&& (2147483647 : Int32))), .val (.int (fun_ (fmix hv &&& (2147483647 : Int32)))), .val (.int (fun_ ((fmix hv &&& (2147483647 : Int32)) ||| (-2147483648 : Int32))))] []))
    refine Go.st (fun _ k' => XS.iconst X4.here hx rfl (hb hby at_84) k') ?_
    show Go p e below s _ _ _ (T4.setTop (mkF m 85 #[.val (.int hv), .val (.int kk), .val (.int (kk &&& (31 : Int32))), .val (.int (((1 : Int32) <<< ((kk &&& (31 : Int32)) &&& 31)) - (1 : Int32))), .val (.int (fmix hv &&& (((1 : Int32) <<< ((kk &&& (31 : Int32)) &&& 31)) - (1 : Int32)))), .val (.int (fmix hv &&& (2147483647 : Int32))), .val (.int (fun_ (fmix hv &&& (2147483647 : Int32)))), .val (.int (fun_ ((fmix hv &&& (2147483647 : Int32)) ||| (-2147483648 : Int32))))] [(.int (1 : Int32))]))
    refine Go.st (fun _ k' => XS.goto X4.here hx rfl (pc0 := 85) (pc' := 89) rfl (hb hby at_85) (by decide) (by decide) k') ?_
    show Go p e below s _ _ _ (T4.setTop (mkF m 89 #[.val (.int hv), .val (.int kk), .val (.int (kk &&& (31 : Int32))), .val (.int (((1 : Int32) <<< ((kk &&& (31 : Int32)) &&& 31)) - (1 : Int32))), .val (.int (fmix hv &&& (((1 : Int32) <<< ((kk &&& (31 : Int32)) &&& 31)) - (1 : Int32)))), .val (.int (fmix hv &&& (2147483647 : Int32))), .val (.int (fun_ (fmix hv &&& (2147483647 : Int32)))), .val (.int (fun_ ((fmix hv &&& (2147483647 : Int32)) ||| (-2147483648 : Int32))))] [(.int (1 : Int32))]))
    refine Go.retB X4 hx hlk (t := .boolean) Bd.returns (by simp) (hb hby at_89) (by decide) (by decide) eq4 ?_
    exact ⟨rfl, N4, trivial⟩
  · refine Go.st (fun _ k' => XS.icmpNo X4.here hx rfl (hb hby at_75) rfl (XT.ii_eq_f hc5) k') ?_
    show Go p e below s _ _ _ (T4.setTop (mkF m 78 #[.val (.int hv), .val (.int kk), .val (.int (kk &&& (31 : Int32))), .val (.int (((1 : Int32) <<< ((kk &&& (31 : Int32)) &&& 31)) - (1 : Int32))), .val (.int (fmix hv &&& (((1 : Int32) <<< ((kk &&& (31 : Int32)) &&& 31)) - (1 : Int32)))), .val (.int (fmix hv &&& (2147483647 : Int32))), .val (.int (fun_ (fmix hv &&& (2147483647 : Int32)))), .val (.int (fun_ ((fmix hv &&& (2147483647 : Int32)) ||| (-2147483648 : Int32))))] []))
    refine Go.st (fun _ k' => XS.iload X4.here hx rfl (hb hby at_78) rfl k') ?_
    show Go p e below s _ _ _ (T4.setTop (mkF m 80 #[.val (.int hv), .val (.int kk), .val (.int (kk &&& (31 : Int32))), .val (.int (((1 : Int32) <<< ((kk &&& (31 : Int32)) &&& 31)) - (1 : Int32))), .val (.int (fmix hv &&& (((1 : Int32) <<< ((kk &&& (31 : Int32)) &&& 31)) - (1 : Int32)))), .val (.int (fmix hv &&& (2147483647 : Int32))), .val (.int (fun_ (fmix hv &&& (2147483647 : Int32)))), .val (.int (fun_ ((fmix hv &&& (2147483647 : Int32)) ||| (-2147483648 : Int32))))] [(.int (fun_ ((fmix hv &&& (2147483647 : Int32)) ||| (-2147483648 : Int32))))]))
    refine Go.st (fun _ k' => XS.iloadN X4.here hx rfl (hb hby at_80) rfl k') ?_
    show Go p e below s _ _ _ (T4.setTop (mkF m 81 #[.val (.int hv), .val (.int kk), .val (.int (kk &&& (31 : Int32))), .val (.int (((1 : Int32) <<< ((kk &&& (31 : Int32)) &&& 31)) - (1 : Int32))), .val (.int (fmix hv &&& (((1 : Int32) <<< ((kk &&& (31 : Int32)) &&& 31)) - (1 : Int32)))), .val (.int (fmix hv &&& (2147483647 : Int32))), .val (.int (fun_ (fmix hv &&& (2147483647 : Int32)))), .val (.int (fun_ ((fmix hv &&& (2147483647 : Int32)) ||| (-2147483648 : Int32))))] [(.int hv), (.int (fun_ ((fmix hv &&& (2147483647 : Int32)) ||| (-2147483648 : Int32))))]))
    refine Go.st (fun _ k' => XS.icmpNo X4.here hx rfl (hb hby at_81) rfl (XT.ii_ne_f (own_last _ _ (own_inv hv) hc5)) k') ?_
    show Go p e below s _ _ _ (T4.setTop (mkF m 84 #[.val (.int hv), .val (.int kk), .val (.int (kk &&& (31 : Int32))), .val (.int (((1 : Int32) <<< ((kk &&& (31 : Int32)) &&& 31)) - (1 : Int32))), .val (.int (fmix hv &&& (((1 : Int32) <<< ((kk &&& (31 : Int32)) &&& 31)) - (1 : Int32)))), .val (.int (fmix hv &&& (2147483647 : Int32))), .val (.int (fun_ (fmix hv &&& (2147483647 : Int32)))), .val (.int (fun_ ((fmix hv &&& (2147483647 : Int32)) ||| (-2147483648 : Int32))))] []))
    refine Go.st (fun _ k' => XS.iconst X4.here hx rfl (hb hby at_84) k') ?_
    show Go p e below s _ _ _ (T4.setTop (mkF m 85 #[.val (.int hv), .val (.int kk), .val (.int (kk &&& (31 : Int32))), .val (.int (((1 : Int32) <<< ((kk &&& (31 : Int32)) &&& 31)) - (1 : Int32))), .val (.int (fmix hv &&& (((1 : Int32) <<< ((kk &&& (31 : Int32)) &&& 31)) - (1 : Int32)))), .val (.int (fmix hv &&& (2147483647 : Int32))), .val (.int (fun_ (fmix hv &&& (2147483647 : Int32)))), .val (.int (fun_ ((fmix hv &&& (2147483647 : Int32)) ||| (-2147483648 : Int32))))] [(.int (1 : Int32))]))
    refine Go.st (fun _ k' => XS.goto X4.here hx rfl (pc0 := 85) (pc' := 89) rfl (hb hby at_85) (by decide) (by decide) k') ?_
    show Go p e below s _ _ _ (T4.setTop (mkF m 89 #[.val (.int hv), .val (.int kk), .val (.int (kk &&& (31 : Int32))), .val (.int (((1 : Int32) <<< ((kk &&& (31 : Int32)) &&& 31)) - (1 : Int32))), .val (.int (fmix hv &&& (((1 : Int32) <<< ((kk &&& (31 : Int32)) &&& 31)) - (1 : Int32)))), .val (.int (fmix hv &&& (2147483647 : Int32))), .val (.int (fun_ (fmix hv &&& (2147483647 : Int32)))), .val (.int (fun_ ((fmix hv &&& (2147483647 : Int32)) ||| (-2147483648 : Int32))))] [(.int (1 : Int32))]))
    refine Go.retB X4 hx hlk (t := .boolean) Bd.returns (by simp) (hb hby at_89) (by decide) (by decide) eq4 ?_
    exact ⟨rfl, N4, trivial⟩
set_option maxRecDepth 65536 in
set_option maxHeartbeats 40000000 in
theorem comes_1 {Post : Tables → Env → Array Value → State → Outcome → State → Prop} (hpost : ∀ tb e args s v u, (limb_1_1.after args s (.returned v) u = true ∧ limb_1_2.after args s (.returned v) u = true ∧ True) → FrameEnd s (.returned v) u (Jvm.fieldLocs frame_1_writes args s ++ Jvm.arrayLocs frame_1_arrays args s ++ Jvm.staticLocs frame_1_statics s) 0 0 → Post tb e args s (.returned v) u) :
    ArmFor flags0 classFile x code maxLocals ret World_1 tables_1 room_1 Calls_1 rest_1 Pre_1 Post := by
  intro l hfl _ _ p e ha hc hk s m args below hf hA hF happ hP
  obtain ⟨hcalls, hrest, hpre⟩ := hP
  obtain ⟨-, -, -, hnamed, -, -, -, hat⟩ := (Spec.applies_iff hf).mp happ
  obtain ⟨hg, hn⟩ := and_e (Cond.before_iff.mp (show (Jvm.Cond.and given_1 narrow_1).before args s = true from hpre))
  obtain ⟨hcnt, hg0⟩ := and_e hg
  obtain ⟨ha0, hg1⟩ := and_e hg0
  have ha1 := hg1
  obtain ⟨w0, w1, rfl⟩ : ∃ w0 w1 : Value, args = #[w0, w1] := by
    have hs : args.size = 2 := by simpa [Cond.value, given_1] using hcnt
    obtain ⟨L⟩ := args
    match L, hs with
    | [w0, w1], _ => exact ⟨w0, w1, rfl⟩
  have hw := fun d (hd : d ∈ tables_1) => atoms_spec (ws := Jvm.Cond.code x code maxLocals ret :: tables_1) hat d (List.mem_cons_of_mem _ hd)
  have hfit : Fit s := fun {y c} hc i hi => by
    obtain ⟨ha, rfl⟩ := Array.getElem?_eq_some_iff.mp hc
    have q := List.all_eq_true.mp ((Array.all_eq_true_iff_forall_mem.mp hF) _ (Array.getElem_mem ha)) i (List.mem_range.mpr hi)
    simpa [Array.getElem?_eq_getElem hi] using q
  obtain ⟨i0, ei0⟩ := is_v ha0
  obtain rfl : w0 = (.int i0) := Option.some.inj ei0
  obtain ⟨i1, ei1⟩ := is_v ha1
  obtain rfl : w1 = (.int i1) := Option.some.inj ei1
  obtain ⟨n, o, h1, h2, h3, _, L, rfl, ⟨rfl, N, -⟩, hq⟩ := rm0 l s _ hw tables_1 i0 i1 s.heap s.heap.size (Old.start s)  p e ha hc hk s m _ below hf ((Spec.applies_iff_loose hf).mp happ).1 ⟨rfl, State.Warmed39.refl s, rfl⟩ trivial
  refine ⟨n, _, h1, h2, h3, hpost _ _ _ _ _ _ ⟨Cond.after_iff.mpr rfl, Cond.after_iff.mpr (eq_i res_at (Term.int_eval (1)) rfl), trivial⟩ ⟨hq.1, hq.2.1, (hq.2.2.sift fun y hy => Or.inr (N y hy)).mono (by decide) (by decide)⟩⟩
theorem main_1_1 : Claimed_1_1 := comes_1 fun _ _ _ _ _ _ h hF => ⟨h.1, hF⟩
theorem main_1_2 : Claimed_1_2 := comes_1 fun _ _ _ _ _ _ h hF => ⟨h.2.1, hF⟩
end Jvm.Pilot.@@N@@
namespace Jvm.Pilot.@@N@@
open Jvm Jvm.ClassFile Sem Op Lib Jvm.Free Jvm.Stand Jvm.Pilot.@@N@@.Jvm.D
/-! MADE BY PROGRAM (witnessworld.py) out of the Statement's table words and the real class files: 9 classes; the members and pool entries that the words name. The judged class is class 1, her method 2. -/
namespace start1
open Jvm.ClassFile
def u (s : String) : CpInfo := .utf8 (stringToUtf16 s)
/-- a pool by its gaps: so many unusable entries, then the entry; so many at the end -/
def gap : Nat → List CpInfo → List CpInfo
  | 0, r => r
  | n + 1, r => .unusable :: gap n r
def poolList (es : List (Nat × CpInfo)) (last : Nat) : List CpInfo := es.foldr (fun e r => gap e.1 (e.2 :: r)) (gap last [])
def pool (es : List (Nat × CpInfo)) (last : Nat) : Array CpInfo := ⟨poolList es last⟩
def fileOf (pool : Array CpInfo) (this : Nat) (attrs : Array Attribute := #[]) (ms : Array MethodInfo := #[]) (fl : Nat := 33) (sup : Nat := 0) (ifs : Array Nat := #[]) (fds : Array FieldInfo := #[]) : ClassFile where
  minorVersion := 0
  majorVersion := 65
  constantPool := pool
  accessFlags := fl
  thisClass := this
  superClass := sup
  interfaces := ifs
  fields := fds
  methods := ms
  attributes := attrs
def plain (name : String) (sup : Option ClassId) : Class where
  name := name
  kind := .ordinary
  loader := none
  accessFlags := 33
  super := sup
  interfaces := #[]
  cf := none
  fields := #[]
  methods := #[]
  instanceTypes := #[]
  staticTypes := #[]
  resolved := #[]
  callSites := []
  init := .initialized
  statics := none
  mirror := none

def pool0 : Array CpInfo := pool [(5, u "<init>"), (0, u "()V"), (1, .class_ 10), (1, u "java/lang/Object")] 113

def k0m0 : Method := { name := "<init>", desc := "()V", sig := { parameters := [], returnType := none }, accessFlags := 1, code := none }
/-- java/lang/Object -/
def k0 : Class := { plain "java/lang/Object" none with
  accessFlags := 33
  interfaces := #[]
  cf := some (fileOf pool0 8 #[] #[{ accessFlags := 1, nameIndex := 5, descriptorIndex := 6, attributes := #[] }] 33 0 #[] #[])
  fields := #[]
  methods := #[k0m0]
  instanceTypes := #[]
  staticTypes := #[]
  resolved := Array.replicate 124 none
  statics := none }

def pool1 : Array CpInfo := pool [(2, .class_ 4), (1, u "java/lang/Object"), (0, u "<init>"), (0, u "()V"), (0, .class_ 8), (0, u "com/example/indenture/indenture/model/TextNumbersFirstPlacePinLaw"), (0, .integer 340573321), (0, .methodref 11 12), (0, .class_ 13), (0, .nameAndType 14 15), (0, u "com/example/indenture/indenture/model/TextNumbers"), (0, u "firstPlace"), (0, u "(II)I"), (0, .integer 2147483647), (0, .methodref 7 18), (0, .nameAndType 19 20), (0, u "unmix"), (0, u "(I)I"), (2, .integer 2147483648), (0, u "INVERSE"), (0, u "I"), (3, u "law"), (0, u "(II)Z")] 3

def k1m0 : Method := { name := "<init>", desc := "()V", sig := { parameters := [], returnType := none }, accessFlags := 1, code := none }
def k1c1 : Code := { maxStack := 3, maxLocals := 2, code := method_2_code, exceptionTable := #[], attributes := #[] }
def k1m1 : Method := { name := "unmix", desc := "(I)I", sig := { parameters := [.int], returnType := some .int }, accessFlags := 10, code := some k1c1 }
def k1c2 : Code := { maxStack := 3, maxLocals := 8, code := code, exceptionTable := #[], attributes := #[] }
def k1m2 : Method := { name := "law", desc := "(II)Z", sig := { parameters := [.int, .int], returnType := some .boolean }, accessFlags := 9, code := some k1c2 }
/-- com/example/indenture/indenture/model/TextNumbersFirstPlacePinLaw -/
def k1 : Class := { plain "com/example/indenture/indenture/model/TextNumbersFirstPlacePinLaw" (some 0) with
  accessFlags := 49
  interfaces := #[]
  cf := some (fileOf pool1 7 #[] #[{ accessFlags := 1, nameIndex := 5, descriptorIndex := 6, attributes := #[] }, { accessFlags := 10, nameIndex := 19, descriptorIndex := 20, attributes := #[] }, { accessFlags := 9, nameIndex := 29, descriptorIndex := 30, attributes := #[] }] 49 2 #[] #[{ accessFlags := 26, nameIndex := 24, descriptorIndex := 25, attributes := #[] }])
  fields := #[{ name := "INVERSE", type := .int, accessFlags := 26, slot := 0, constantValue := 0 }]
  methods := #[k1m0, k1m1, k1m2]
  instanceTypes := #[]
  staticTypes := #[.int]
  resolved := Array.replicate 34 none
  statics := none }

def pool2 : Array CpInfo := pool [(2, .class_ 4), (1, u "java/lang/Object"), (0, u "<init>"), (0, u "()V"), (1, .class_ 10), (1, u "com/example/indenture/indenture/model/TextNumbers"), (0, u "bytes"), (0, u "[B"), (2, u "starts"), (0, u "[I"), (2, u "numbers"), (2, u "table"), (0, u "[J"), (35, u "size"), (0, u "I"), (8, u "bytesUsed"), (5, u "(II)I"), (14, .integer 2654435769), (2, u "firstPlace"), (4, u "FREE"), (0, u "J")] 29

def k2m0 : Method := { name := "<init>", desc := "()V", sig := { parameters := [], returnType := none }, accessFlags := 0, code := none }
def k2c1 : Code := { maxStack := 3, maxLocals := 3, code := prog_45_method_4_code, exceptionTable := #[], attributes := #[] }
def k2m1 : Method := { name := "firstPlace", desc := "(II)I", sig := { parameters := [.int, .int], returnType := some .int }, accessFlags := 8, code := some k2c1 }
/-- com/example/indenture/indenture/model/TextNumbers -/
def k2 : Class := { plain "com/example/indenture/indenture/model/TextNumbers" (some 0) with
  accessFlags := 48
  interfaces := #[]
  cf := some (fileOf pool2 8 #[] #[{ accessFlags := 0, nameIndex := 5, descriptorIndex := 6, attributes := #[] }, { accessFlags := 8, nameIndex := 93, descriptorIndex := 75, attributes := #[] }] 48 2 #[] #[{ accessFlags := 26, nameIndex := 98, descriptorIndex := 99, attributes := #[] }, { accessFlags := 2, nameIndex := 11, descriptorIndex := 12, attributes := #[] }, { accessFlags := 2, nameIndex := 69, descriptorIndex := 60, attributes := #[] }, { accessFlags := 2, nameIndex := 15, descriptorIndex := 16, attributes := #[] }, { accessFlags := 2, nameIndex := 19, descriptorIndex := 16, attributes := #[] }, { accessFlags := 2, nameIndex := 59, descriptorIndex := 60, attributes := #[] }, { accessFlags := 2, nameIndex := 22, descriptorIndex := 23, attributes := #[] }])
  fields := #[{ name := "FREE", type := .long, accessFlags := 26, slot := 0, constantValue := 0 }, { name := "bytes", type := (.array .byte), accessFlags := 2, slot := 0, constantValue := 0 }, { name := "bytesUsed", type := .int, accessFlags := 2, slot := 1, constantValue := 0 }, { name := "starts", type := (.array .int), accessFlags := 2, slot := 2, constantValue := 0 }, { name := "numbers", type := (.array .int), accessFlags := 2, slot := 3, constantValue := 0 }, { name := "size", type := .int, accessFlags := 2, slot := 4, constantValue := 0 }, { name := "table", type := (.array .long), accessFlags := 2, slot := 5, constantValue := 0 }]
  methods := #[k2m0, k2m1]
  instanceTypes := #[(.array .byte), .int, (.array .int), (.array .int), .int, (.array .long)]
  staticTypes := #[.long]
  resolved := Array.replicate 129 none
  statics := none }

def pool3 : Array CpInfo := pool [(1, u "java/lang/Cloneable"), (0, .class_ 1), (0, u "java/lang/Object"), (0, .class_ 3)] 3

/-- java/lang/Cloneable -/
def k3 : Class := { plain "java/lang/Cloneable" (some 0) with
  accessFlags := 1537
  interfaces := #[]
  cf := some (fileOf pool3 2 #[] #[] 1537 4 #[] #[])
  fields := #[]
  methods := #[]
  instanceTypes := #[]
  staticTypes := #[]
  resolved := Array.replicate 8 none
  statics := none }

def pool4 : Array CpInfo := pool [(1, u "java/io/Serializable"), (0, .class_ 1), (0, u "java/lang/Object"), (0, .class_ 3)] 3

/-- java/io/Serializable -/
def k4 : Class := { plain "java/io/Serializable" (some 0) with
  accessFlags := 1537
  interfaces := #[]
  cf := some (fileOf pool4 2 #[] #[] 1537 4 #[] #[])
  fields := #[]
  methods := #[]
  instanceTypes := #[]
  staticTypes := #[]
  resolved := Array.replicate 8 none
  statics := none }

/-- the primitive byte -/
def k5 : Class := { plain "byte" none with kind := .primitive 'B', accessFlags := 0x411 }
/-- [B -/
def k6 : Class := { plain "[B" (some 0) with kind := .array 5 .byte, interfaces := #[3, 4], accessFlags := 1041 }

/-- the primitive int -/
def k7 : Class := { plain "int" none with kind := .primitive 'I', accessFlags := 0x411 }
/-- [I -/
def k8 : Class := { plain "[I" (some 0) with kind := .array 7 .int, interfaces := #[3, 4], accessFlags := 1041 }

def heap : Heap := #[]
def classes : Array Class := #[k0, k1, k2, k3, k4, k5, k6, k7, k8]
def interned : List (Array UInt16 × Addr) := []
def slotsUsed : Nat := 0
def theMethod : MethodId := ⟨1, 2⟩
def args0 : Array Value := #[.int 5, .int 5]
def aboutOver (below : List Frame) : State where
  vm := { classes := classes, interned := interned.toArray }
  heap := heap
  slotsUsed := slotsUsed
  threads := #[{ frames := .invoking theMethod args0 :: below }]
def below0 : List Frame := [.native { method := ⟨0, 0⟩, args := #[] }]
def about1 : State := aboutOver below0
def p0 : Program := .bare "" "" ""
def e0 : Env := launch0.env 0 0 0
theorem w_frames : about1.frames = Frame.invoking theMethod args0 :: below0 := rfl
set_option maxRecDepth 65536 in
theorem w_args : argsFit about1.vm theMethod args0 = true := by decide +kernel
set_option maxRecDepth 65536 in
theorem w_heap : heapFits about1 = true := by decide +kernel
set_option maxRecDepth 65536 in
theorem w_runnable : about1.curStatus? = some .runnable := by decide +kernel
set_option maxRecDepth 65536 in
theorem w_alone : about1.alone = true := by decide +kernel
set_option maxRecDepth 65536 in
theorem w_named : about1.methodNamed? x = some theMethod := by decide +kernel
set_option maxRecDepth 65536 in
theorem w_hears : about1.hears theMethod below0 = true := by decide +kernel
set_option maxRecDepth 65536 in
theorem w_ripe : about1.ripe theMethod args0 below0 = true := by decide +kernel
theorem w_running : about1.status = .running := rfl
set_option maxRecDepth 65536 in
theorem w_room : about1.hasRoom e0.platform room_1 = true :=
  launch0.hasRoom_least _ room_1 (by decide +kernel) (by decide +kernel) (by decide +kernel) (by decide +kernel) (by decide +kernel) (by decide +kernel)
theorem allAtoms_all (ts : List Jvm.Cond) (a : Array Jvm.Value) (st : Jvm.State) : (allAtoms ts).before a st = ts.all (fun c => c.before a st) := by
  induction ts with
  | nil => rfl
  | cons c t ih =>
    show (Jvm.Cond.and c (allAtoms t)).before a st = _
    rw [Jvm.Cond.before_and, ih, List.all_cons]
def words1 : List Jvm.Cond := Jvm.Cond.code x code maxLocals ret :: tables_1
/-- a 'code' word, met by the world's own term for the bytes: nothing is compared byte by byte -/
theorem code_word {y : MethodName} {bytes : ByteArray} {mx : Nat} {rt : Option FieldType} {a : Array Value} {s : State} {m : MethodId} {meth : Method} {c : Code} (h1 : s.methodNamed? y = some m) (h2 : s.vm.method? m = some meth) (h3 : meth.code = some c) (h4 : c.code = bytes)
    (h5 : (c.maxLocals == mx && c.exceptionTable.isEmpty && decide (c.maxStack ≤ mostOperands) && decide (meth.sig.returnType = rt) && !meth.locks && decide (parseMethodDescriptor y.desc = some meth.sig)) = true) : (Jvm.Cond.code y bytes mx rt).before a s = true := by
  simp only [Bool.and_eq_true, beq_iff_eq, Bool.not_eq_true', decide_eq_true_eq] at h5
  obtain ⟨⟨⟨⟨⟨g1, g2⟩, g3⟩, g4⟩, g5⟩, g6⟩ := h5
  simp [Cond.before, Cond.holds, Cond.value, h1, h2, h3, h4, g1, g2, g3, g4, g5, g6]
def isCode : Jvm.Cond → Bool
  | .code _ _ _ _ => true
  | _ => false
theorem all_split {L : List Jvm.Cond} {P : Jvm.Cond → Bool} (h1 : L.all (fun c => isCode c || P c) = true) (h2 : ∀ c ∈ L.filter isCode, P c = true) : L.all P = true := by
  refine List.all_eq_true.mpr fun c hc => ?_
  have h := List.all_eq_true.mp h1 c hc
  rcases Bool.eq_false_or_eq_true (isCode c) with hi | hi
  · exact h2 c (List.mem_filter.mpr ⟨hc, hi⟩)
  · simpa [hi] using h
set_option maxRecDepth 65536 in
theorem w_c0 : (Jvm.Cond.code x code maxLocals ret).before args0 about1 = true := code_word (m := ⟨1, 2⟩) (meth := k1m2) (c := k1c2) (by decide +kernel) rfl rfl rfl (by decide +kernel)
set_option maxRecDepth 65536 in
theorem w_c1 : (Jvm.Cond.code ({ cls := "com/example/indenture/indenture/model/TextNumbers", name := "firstPlace", desc := "(II)I" } : Jvm.MethodName) prog_45_method_4_code (3 : Nat) (Option.some Jvm.ClassFile.FieldType.int)).before args0 about1 = true := code_word (m := ⟨2, 1⟩) (meth := k2m1) (c := k2c1) (by decide +kernel) rfl rfl rfl (by decide +kernel)
set_option maxRecDepth 65536 in
theorem w_c2 : (Jvm.Cond.code ({ cls := "com/example/indenture/indenture/model/TextNumbersFirstPlacePinLaw", name := "unmix", desc := "(I)I" } : Jvm.MethodName) method_2_code (2 : Nat) (Option.some Jvm.ClassFile.FieldType.int)).before args0 about1 = true := code_word (m := ⟨1, 1⟩) (meth := k1m1) (c := k1c1) (by decide +kernel) rfl rfl rfl (by decide +kernel)
def codes1 : List Jvm.Cond := [Jvm.Cond.code x code maxLocals ret, Jvm.Cond.code ({ cls := "com/example/indenture/indenture/model/TextNumbers", name := "firstPlace", desc := "(II)I" } : Jvm.MethodName) prog_45_method_4_code (3 : Nat) (Option.some Jvm.ClassFile.FieldType.int), Jvm.Cond.code ({ cls := "com/example/indenture/indenture/model/TextNumbersFirstPlacePinLaw", name := "unmix", desc := "(I)I" } : Jvm.MethodName) method_2_code (2 : Nat) (Option.some Jvm.ClassFile.FieldType.int)]
set_option maxRecDepth 65536 in
theorem codes_eq : words1.filter isCode = codes1 := rfl
theorem w_codes : ∀ c ∈ words1.filter isCode, c.before args0 about1 = true := by
  rw [codes_eq]
  intro c hc
  simp only [codes1, List.mem_cons, List.not_mem_nil, or_false] at hc
  rcases hc with rfl | rfl | rfl
  · exact w_c0
  · exact w_c1
  · exact w_c2
set_option maxRecDepth 65536 in
theorem w_t1 : words1.all (fun c => isCode c || c.before args0 about1) = true := by decide +kernel
theorem w_tables : (allAtoms (Jvm.Cond.code x code maxLocals ret :: tables_1)).before args0 about1 = true := by
  rw [allAtoms_all]
  show words1.all (fun c => c.before args0 about1) = true
  refine all_split ?_ w_codes
  rw [w_t1]
set_option maxRecDepth 65536 in
theorem w_case : (Jvm.Cond.and given_1 narrow_1).before args0 about1 = true := by decide +kernel
theorem w_applies : (headSpec (Jvm.Cond.code x code maxLocals ret :: tables_1) room_1).applies x e0.platform about1 = true :=
  (Spec.applies_iff w_frames).mpr ⟨w_running, w_runnable, w_alone, w_named, w_hears, w_ripe, w_room, w_tables⟩
theorem atStart : AtStart classFile x code maxLocals ret World_1 tables_1 room_1 Calls_1 rest_1 Pre_1 launch0 p0 e0 about1 theMethod args0 below0 :=
  ⟨lists_1, trivial, launch0.admits_env _ _ _, launch0.least_env, fairChoices_fair.cas, fairChoices_fair.clock, w_frames, w_args, w_heap, w_applies, trivial, trivial, w_case⟩
end start1
theorem witness_1 : WitnessClaimed_1 := ⟨start1.p0, start1.e0, start1.about1, start1.theMethod, start1.args0, start1.below0, start1.atStart⟩
end Jvm.Pilot.@@N@@
