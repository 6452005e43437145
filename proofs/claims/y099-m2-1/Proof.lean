import JvmDerived
import JvmDerived.Pilot.@@N@@Statement
import JvmDerived.Pilot.@@N@@Code
set_option linter.unusedVariables false
set_option linter.unusedSimpArgs false
namespace Jvm.Pilot.@@N@@
open Jvm Jvm.ClassFile Sem Op Lib Jvm.Free Jvm.Stand Jvm.LawKit Jvm.RoadKit Bundle Jvm.Pilot.@@N@@.Jvm.D
theorem wdx {a0 : Array Value} {Z : State} (hw : ∀ d ∈ tables_1, d.before a0 Z = true) (i : Nat) {d : Jvm.Cond} (h : tables_1[i]? = some d) : d.before a0 Z = true := hw d (List.mem_of_getElem? h)
/-! the walk in one predicate: from S the run comes to an end at which Q holds -/
def Go (p : Program) (e : Env) (below : List Frame) (s : State) (rc rs : Nat) (Q : Option Value → Heap → List Loc → Prop) (S : State) : Prop :=
  ∃ t o, Steps p.tables e below S t ∧ t.status = .running ∧ Ended t below o ∧ ∃ v L, o = .returned v ∧ Q v t.heap L ∧ FrameEnd s o t L rc rs
section Pre
variable {p : Program} {l : Launch} {e : Env} {R : Room} {s : State} {m : MethodId} {args : Array Value} {below : List Frame} {meth : Method} {c : Code} {T : State} {locs : List Loc} {cells slots rc rs : Nat} {Q : Option Value → Heap → List Loc → Prop} {S S' : State} {h : Heap} {Z : State} {n0 : Nat}
theorem Go.st (k : ∀ t, Steps p.tables e below S' t → Steps p.tables e below S t) (g : Go p e below s rc rs Q S') : Go p e below s rc rs Q S := by
  obtain ⟨t, o, h, r⟩ := g; exact ⟨t, o, k t h, r⟩
theorem Go.tr (k : Steps p.tables e below S S') (g : Go p e below s rc rs Q S') : Go p e below s rc rs Q S := by
  obtain ⟨t, o, h, r⟩ := g; exact ⟨t, o, k.trans h, r⟩
theorem Go.ret (X : Stand p l e R s m args below meth c T locs cells slots) (hx : p.tables.exec = Jvm.exec) (hlk : meth.locks = false) {pc : Nat} {Ls : Array Slot} {w : Value} {t : FieldType} {i : Instr} {rest : List Value} (hret : meth.sig.returnType = some t) (hn : narrow t w = w)
    (hi : (i = .ireturn ∧ (t = .int ∨ t = .boolean ∨ t = .byte ∨ t = .char ∨ t = .short) ∧ ∃ z, w = .int z) ∨ (i = .lreturn ∧ t = .long ∧ ∃ z, w = .long z) ∨ (i = .dreturn ∧ t = .double ∧ ∃ z, w = .double z) ∨ (i = .freturn ∧ t = .float ∧ ∃ z, w = .float z) ∨ (i = .areturn ∧ t.isReference = true ∧ w.isRef = true))
    (hd : decode c.code pc = .ok (i, 1)) (hc : cells ≤ rc) (hs : slots ≤ rs) (hh : T.heap = h) (hq : Q (some w) h locs) : Go p e below s rc rs Q (T.setTop (mkF m pc Ls (w :: rest))) := by
  obtain ⟨fs, hr, hrun, hended, hW, hsame⟩ := X.leave (v := some w) (fun h => by rw [hret] at h; cases h) hlk
  subst hh
  exact ⟨_, _, retOut X hx hret hn hi hd hr, hrun, hended, _, _, rfl, hq, ⟨_, rfl⟩, hW, hsame.mono hc hs⟩
theorem Go.retB (X : Stand p l e R s m args below meth c T locs cells slots) (hx : p.tables.exec = Jvm.exec) (hlk : meth.locks = false) {pc : Nat} {Ls : Array Slot} {z : Int32} {t : FieldType} {rest : List Value} (hret : meth.sig.returnType = some t) (ht : t = .boolean ∨ t = .byte ∨ t = .char ∨ t = .short)
    (hd : decode c.code pc = .ok (.ireturn, 1)) (hc : cells ≤ rc) (hs : slots ≤ rs) (hh : T.heap = h) (hq : Q (some (.int (nar t z))) h locs) : Go p e below s rc rs Q (T.setTop (mkF m pc Ls (.int z :: rest))) := by
  obtain ⟨fs, hr, hrun, hended, hW, hsame⟩ := X.leave (v := some (.int (nar t z))) (fun h => by rw [hret] at h; cases h) hlk
  subst hh
  exact ⟨_, _, retN X hx hret ht hd hr, hrun, hended, _, _, rfl, hq, ⟨_, rfl⟩, hW, hsame.mono hc hs⟩
theorem Go.retV (X : Stand p l e R s m args below meth c T locs cells slots) (hx : p.tables.exec = Jvm.exec) (hlk : meth.locks = false) {pc : Nat} {Ls : Array Slot} (hret : meth.sig.returnType = none)
    (hd : decode c.code pc = .ok (.return_, 1)) (hc : cells ≤ rc) (hs : slots ≤ rs) (hh : T.heap = h) (hq : Q none h locs) : Go p e below s rc rs Q (T.setTop (mkF m pc Ls [])) := by
  obtain ⟨fs, hr, hrun, hended, hW, hsame⟩ := X.leave (v := none) (fun _ => rfl) hlk
  subst hh
  exact ⟨_, _, X.returnOut hx hret hd hr, hrun, hended, _, _, rfl, hq, ⟨_, rfl⟩, hW, hsame.mono hc hs⟩
theorem own_le (O : Old Z n0 h) : n0 ≤ h.size := O.1 ▸ O.2.1
theorem own_nb (b : Bool) : nar .boolean (if b then 1 else 0) = if b then 1 else 0 := by cases b <;> rfl
end Pre
def fwei (w : Int64) (k : Int32) : Int32 := if w < k.toInt64 then 0 else if k.toInt64 * (4294967295 : Int64) < w then 0 else 1
def fav (hh he de pc : Int32) : Int32 := if hh = 0 then (if 0 < pc then 1 else 0) else if (he.toInt64 + de.toInt64) * (100 : Int64) < pc.toInt64 * hh.toInt64 then 1 else 0
theorem own_i0 : (0 : Int32).toInt = 0 := rfl
theorem own_b (u : Int32) : 0 ≤ (u &&& (2147483647 : Int32)).toInt := (c_andS u 2147483647).2.2 (by decide)
theorem own_nz (hh : Int32) (hb : 0 ≤ hh.toInt) : (hh.toInt64 + (1 : Int64)) ≠ 0 := fun q => by
  have h1 := c_ladd hh.toInt64 1
  rw [q, c_i2l] at h1
  have := hh.toInt_lt
  have e0 : (0 : Int64).toInt = 0 := rfl
  have e1 : (1 : Int64).toInt = 1 := rfl
  omega
theorem own_he (a hh : Int32) (hb : 0 ≤ hh.toInt) (z : Int32) (hz : z = ((a.toInt64 &&& (2147483647 : Int64)) - ((a.toInt64 &&& (2147483647 : Int64)) / (hh.toInt64 + (1 : Int64))) * (hh.toInt64 + (1 : Int64))).toInt32) : 0 ≤ z.toInt ∧ z.toInt ≤ hh.toInt := by
  have h1 := c_ladd hh.toInt64 1
  rw [c_i2l] at h1
  have h2 := hh.toInt_lt
  have e1 : (1 : Int64).toInt = 1 := rfl
  have h3 := (hh.toInt64 + (1 : Int64)).toInt_lt
  have h4 := (hh.toInt64 + (1 : Int64)).le_toInt
  have h5 : (hh.toInt64 + (1 : Int64)).toInt = hh.toInt + 1 := by omega
  have h6 : 0 ≤ (a.toInt64 &&& (2147483647 : Int64)).toInt := (c_andSL a.toInt64 2147483647).2.2 (by decide)
  have h7 := (c_lrem (a.toInt64 &&& (2147483647 : Int64)) (hh.toInt64 + 1) (hh.toInt + 1) h5).1 h6
  have h8 := c_l2i ((a.toInt64 &&& (2147483647 : Int64)) - ((a.toInt64 &&& (2147483647 : Int64)) / (hh.toInt64 + (1 : Int64))) * (hh.toInt64 + (1 : Int64)))
  rw [← hz, h7] at h8
  have h9 := z.toInt_lt; have h10 := z.le_toInt
  have h11 : 0 ≤ (a.toInt64 &&& (2147483647 : Int64)).toInt % (hh.toInt + 1) := Int.emod_nonneg _ (by omega)
  have h12 : (a.toInt64 &&& (2147483647 : Int64)).toInt % (hh.toInt + 1) < hh.toInt + 1 := Int.emod_lt_of_pos _ (by omega)
  generalize (a.toInt64 &&& (2147483647 : Int64)).toInt % (hh.toInt + 1) = r at *
  omega
theorem own_d1 (hh he : Int32) (hb : 0 ≤ he.toInt ∧ he.toInt ≤ hh.toInt) : ((hh.toInt64 - he.toInt64) + (1 : Int64)).toInt = hh.toInt - he.toInt + 1 := by
  have h1 := c_ladd (hh.toInt64 - he.toInt64) 1
  have h0 := c_lsub hh.toInt64 he.toInt64
  rw [c_i2l, c_i2l] at h0
  have h2 := hh.toInt_lt
  have e1 : (1 : Int64).toInt = 1 := rfl
  have h3 := ((hh.toInt64 - he.toInt64) + (1 : Int64)).toInt_lt
  have h4 := ((hh.toInt64 - he.toInt64) + (1 : Int64)).le_toInt
  have h5 := (hh.toInt64 - he.toInt64).toInt_lt
  have h6 := (hh.toInt64 - he.toInt64).le_toInt
  omega
theorem own_nz2 (hh he : Int32) (hb : 0 ≤ he.toInt ∧ he.toInt ≤ hh.toInt) : ((hh.toInt64 - he.toInt64) + (1 : Int64)) ≠ 0 := fun q => by
  have h1 := own_d1 hh he hb
  rw [q] at h1
  have e0 : (0 : Int64).toInt = 0 := rfl
  omega
theorem own_de (a hh he : Int32) (hb : 0 ≤ he.toInt ∧ he.toInt ≤ hh.toInt) (z : Int32) (hz : z = ((a.toInt64 &&& (2147483647 : Int64)) - ((a.toInt64 &&& (2147483647 : Int64)) / ((hh.toInt64 - he.toInt64) + (1 : Int64))) * ((hh.toInt64 - he.toInt64) + (1 : Int64))).toInt32) : 0 ≤ z.toInt ∧ he.toInt + z.toInt ≤ hh.toInt := by
  have h5 := own_d1 hh he hb
  have h6 : 0 ≤ (a.toInt64 &&& (2147483647 : Int64)).toInt := (c_andSL a.toInt64 2147483647).2.2 (by decide)
  have h7 := (c_lrem (a.toInt64 &&& (2147483647 : Int64)) ((hh.toInt64 - he.toInt64) + (1 : Int64)) (hh.toInt - he.toInt + 1) h5).1 h6
  have h8 := c_l2i ((a.toInt64 &&& (2147483647 : Int64)) - ((a.toInt64 &&& (2147483647 : Int64)) / ((hh.toInt64 - he.toInt64) + (1 : Int64))) * ((hh.toInt64 - he.toInt64) + (1 : Int64)))
  rw [← hz, h7] at h8
  have h2 := hh.toInt_lt
  have h9 := z.toInt_lt; have h10 := z.le_toInt
  have h11 : 0 ≤ (a.toInt64 &&& (2147483647 : Int64)).toInt % (hh.toInt - he.toInt + 1) := Int.emod_nonneg _ (by omega)
  have h12 : (a.toInt64 &&& (2147483647 : Int64)).toInt % (hh.toInt - he.toInt + 1) < hh.toInt - he.toInt + 1 := Int.emod_lt_of_pos _ (by omega)
  generalize (a.toInt64 &&& (2147483647 : Int64)).toInt % (hh.toInt - he.toInt + 1) = r at *
  omega
theorem own_kk (w : Int32) (z : Int64) (hz : z = (1 : Int64) + (w &&& (3 : Int32)).toInt64) : 1 ≤ z.toInt ∧ z.toInt ≤ 4 := by
  have h1 := c_ladd 1 (w &&& (3 : Int32)).toInt64
  rw [← hz, c_i2l] at h1
  have h2 := c_mask w 3 2 (by decide) (by decide)
  have e1 : (1 : Int64).toInt = 1 := rfl
  have h3 := z.toInt_lt; have h4 := z.le_toInt
  omega
theorem own_ml (a : Int32) (b : Int64) (B : Int) (ha : 0 ≤ a.toInt) (h1 : 0 ≤ b.toInt) (h2 : b.toInt ≤ B) (hB : B ≤ 4294967296) : (a.toInt64 * b).toInt = a.toInt * b.toInt := by
  have h := c_lmul a.toInt64 b
  rw [c_i2l] at h
  have h3 := a.toInt_lt
  have h4 := (a.toInt64 * b).toInt_lt; have h5 := (a.toInt64 * b).le_toInt
  have h6 : 0 ≤ a.toInt * b.toInt := Int.mul_nonneg ha h1
  have h7 : a.toInt * b.toInt ≤ 2147483647 * 4294967296 := Int.mul_le_mul (by omega) (by omega) h1 (by omega)
  omega
theorem own_w1 (hh : Int32) (kk : Int64) (hb : 0 ≤ hh.toInt) (hk : 1 ≤ kk.toInt ∧ kk.toInt ≤ 4) : ¬ fwei (hh.toInt64 * kk) hh = 0 := by
  have e := own_ml hh kk 4 hb (by omega) (by omega) (by omega)
  have e2 := own_ml hh 4294967295 4294967295 hb (by decide) (by decide) (by decide)
  have e3 : (4294967295 : Int64).toInt = 4294967295 := rfl
  have g1 : ¬ hh.toInt64 * kk < hh.toInt64 := by
    rw [Int64.lt_iff_toInt_lt, e, c_i2l]
    have := Int.mul_le_mul_of_nonneg_left hk.1 hb
    omega
  have g2 : ¬ hh.toInt64 * (4294967295 : Int64) < hh.toInt64 * kk := by
    rw [Int64.lt_iff_toInt_lt, e, e2, e3]
    have := Int.mul_le_mul_of_nonneg_left (show kk.toInt ≤ 4294967295 by omega) hb
    omega
  simp [fwei, g1, g2]
theorem own_w2 (he : Int32) (hb : 0 ≤ he.toInt) : ¬ fwei he.toInt64 he = 0 := by
  have e2 := own_ml he 4294967295 4294967295 hb (by decide) (by decide) (by decide)
  have e3 : (4294967295 : Int64).toInt = 4294967295 := rfl
  have g1 : ¬ he.toInt64 < he.toInt64 := by rw [Int64.lt_iff_toInt_lt]; omega
  have g2 : ¬ he.toInt64 * (4294967295 : Int64) < he.toInt64 := by
    rw [Int64.lt_iff_toInt_lt, e2, e3, c_i2l]
    have := Int.mul_le_mul_of_nonneg_left (show (1 : Int) ≤ 4294967295 by omega) hb
    omega
  simp [fwei, g1, g2]
theorem own_ad (he de : Int32) (h1 : 0 ≤ he.toInt) (h2 : 0 ≤ de.toInt) : (he.toInt64 + de.toInt64).toInt = he.toInt + de.toInt := by
  have h := c_ladd he.toInt64 de.toInt64
  rw [c_i2l, c_i2l] at h
  have h3 := he.toInt_lt; have h4 := de.toInt_lt
  have h5 := (he.toInt64 + de.toInt64).toInt_lt; have h6 := (he.toInt64 + de.toInt64).le_toInt
  omega
theorem own_s1 (hh he de : Int32) (h1 : 0 ≤ he.toInt) (h2 : 0 ≤ de.toInt ∧ he.toInt + de.toInt ≤ hh.toInt) : ¬ hh.toInt64 < he.toInt64 + de.toInt64 := by
  rw [Int64.lt_iff_toInt_lt, own_ad he de h1 h2.1, c_i2l]; omega
theorem own_s2 (hh he de : Int32) (kk : Int64) (hb : 0 ≤ hh.toInt) (h1 : 0 ≤ he.toInt) (h2 : 0 ≤ de.toInt ∧ he.toInt + de.toInt ≤ hh.toInt) (hk : 1 ≤ kk.toInt ∧ kk.toInt ≤ 4) : ¬ hh.toInt64 * kk < he.toInt64 + de.toInt64 := by
  rw [Int64.lt_iff_toInt_lt, own_ad he de h1 h2.1, own_ml hh kk 4 hb (by omega) (by omega) (by omega)]
  have := Int.mul_le_mul_of_nonneg_left hk.1 hb
  omega
theorem own_neg (a : Int32) (h : 0 ≤ a.toInt) : ¬ a < 0 := by rw [Int32.lt_iff_toInt_lt, own_i0]; omega
theorem own_hn (hh : Int32) (h : ¬ hh = 0) : hh.toInt64 ≠ 0 := fun q => h (by
  apply Int32.toInt_inj.mp
  rw [← c_i2l, q]; rfl)
theorem own_fl (hh he de pc : Int32) (hb : 0 ≤ hh.toInt) (hn : ¬ hh = 0) (h1 : 0 ≤ he.toInt) (h2 : 0 ≤ de.toInt ∧ he.toInt + de.toInt ≤ hh.toInt) :
    ((he.toInt64 + de.toInt64) * (100 : Int64)) / hh.toInt64 < pc.toInt64 ↔ (he.toInt64 + de.toInt64) * (100 : Int64) < pc.toInt64 * hh.toInt64 := by
  have hp : hh.toInt ≠ 0 := fun q => hn (Int32.toInt_inj.mp q)
  have e0 := own_ad he de h1 h2.1
  have e1 := c_lmul (he.toInt64 + de.toInt64) 100
  rw [e0] at e1
  have e2 : (100 : Int64).toInt = 100 := rfl
  rw [e2] at e1
  have h3 := hh.toInt_lt
  have h4 := ((he.toInt64 + de.toInt64) * (100 : Int64)).toInt_lt; have h5 := ((he.toInt64 + de.toInt64) * (100 : Int64)).le_toInt
  have e3 : ((he.toInt64 + de.toInt64) * (100 : Int64)).toInt = (he.toInt + de.toInt) * 100 := by omega
  have hm1 : hh.toInt64 ≠ -1 := fun q => by
    have : hh.toInt64.toInt = (-1 : Int64).toInt := by rw [q]
    rw [c_i2l, show (-1 : Int64).toInt = -1 from rfl] at this; omega
  have e4 := (c_ldiv ((he.toInt64 + de.toInt64) * (100 : Int64)) hh.toInt64 hh.toInt (c_i2l hh) hm1).1 (by rw [e3]; omega)
  have e5 := c_lmul pc.toInt64 hh.toInt64
  rw [c_i2l, c_i2l] at e5
  have h6 := pc.toInt_lt; have h7 := pc.le_toInt
  have h8 := (pc.toInt64 * hh.toInt64).toInt_lt; have h9 := (pc.toInt64 * hh.toInt64).le_toInt
  have m1 : pc.toInt * hh.toInt ≤ 2147483648 * 2147483648 := by
    by_cases q : 0 ≤ pc.toInt
    · exact Int.mul_le_mul (by omega) (by omega) hb (by omega)
    · have := Int.mul_nonneg (show 0 ≤ -pc.toInt by omega) hb
      rw [Int.neg_mul] at this; omega
  have m2 : -(2147483648 * 2147483648) ≤ pc.toInt * hh.toInt := by
    by_cases q : 0 ≤ pc.toInt
    · have := Int.mul_nonneg q hb; omega
    · have := Int.mul_le_mul (show -pc.toInt ≤ 2147483648 by omega) (show hh.toInt ≤ 2147483648 by omega) hb (by omega)
      rw [Int.neg_mul] at this; omega
  have e6 : (pc.toInt64 * hh.toInt64).toInt = pc.toInt * hh.toInt := by omega
  rw [Int64.lt_iff_toInt_lt, Int64.lt_iff_toInt_lt, e4, e3, e6, c_i2l]
  exact Int.ediv_lt_iff_lt_mul (by omega)
theorem d3_0 : decode prog_30_method_4_code 0 = .ok (.lload_n 0, 1) := by decide +kernel
theorem d3_1 : decode prog_30_method_4_code 1 = .ok (.iload_n 2, 1) := by decide +kernel
theorem d3_2 : decode prog_30_method_4_code 2 = .ok (.i2l, 1) := by decide +kernel
theorem d3_3 : decode prog_30_method_4_code 3 = .ok (.lcmp, 1) := by decide +kernel
theorem d3_4 : decode prog_30_method_4_code 4 = .ok (.ifCond .lt 18, 3) := by decide +kernel
theorem d3_22 : decode prog_30_method_4_code 22 = .ok (.iconst 0, 1) := by decide +kernel
theorem d3_23 : decode prog_30_method_4_code 23 = .ok (.ireturn, 1) := by decide +kernel
theorem d3_7 : decode prog_30_method_4_code 7 = .ok (.lload_n 0, 1) := by decide +kernel
theorem d3_8 : decode prog_30_method_4_code 8 = .ok (.iload_n 2, 1) := by decide +kernel
theorem d3_9 : decode prog_30_method_4_code 9 = .ok (.i2l, 1) := by decide +kernel
theorem d3_10 : decode prog_30_method_4_code 10 = .ok (.ldc2_w 56, 3) := by decide +kernel
theorem d3_13 : decode prog_30_method_4_code 13 = .ok (.lmul, 1) := by decide +kernel
theorem d3_14 : decode prog_30_method_4_code 14 = .ok (.lcmp, 1) := by decide +kernel
theorem d3_15 : decode prog_30_method_4_code 15 = .ok (.ifCond .gt 7, 3) := by decide +kernel
theorem d3_18 : decode prog_30_method_4_code 18 = .ok (.iconst 1, 1) := by decide +kernel
theorem d3_19 : decode prog_30_method_4_code 19 = .ok (.goto 4, 3) := by decide +kernel
theorem pn_com_example_spillway_spillway_split_PriorityLevel : plainName "com/example/spillway/spillway/split/PriorityLevel" = true := by first | (simp [plainName, overriddenIn]; done) | decide +kernel
theorem ef_rm3 (m : MethodId) (wt : Int64) (ct : Int32) : entryFrame m #[(.long wt), (.int ct)] 3 = mkF m 0 #[.val (.long wt), .second, .val (.int ct)] [] := by first | (simp [entryFrame, mkF, argsToLocals, Value.category]; done) | rfl
def Q3 (Z : State) (wt : Int64) (ct : Int32) (h0 : Heap) (n0 : Nat) (v : Option Value) (h : Heap) (L : List Loc) : Prop := v = some (.int (fwei wt ct)) ∧ Fr n0 L ∧ h = h0
set_option maxRecDepth 65536 in
set_option maxHeartbeats 40000000 in
theorem rm3 (l : Launch) (Z : State) (a0 : Array Value) (hw : ∀ d ∈ tables_1, d.before a0 Z = true) (ws : List Jvm.Cond) (wt : Int64) (ct : Int32) (h0 : Heap) (n0 : Nat) (O0 : Old Z n0 h0) :
    MetFree l (⟨"com/example/spillway/spillway/split/PriorityLevel", "weighs", "(JI)Z"⟩ : MethodName) (head1 (Jvm.Cond.code (⟨"com/example/spillway/spillway/split/PriorityLevel", "weighs", "(JI)Z"⟩ : MethodName) prog_30_method_4_code 3 (some .boolean) :: ws) ({ frames := 0, cells := 0, slots := 0, locals := 0 } : Room)) (fun ay U => ay = #[(.long wt), (.int ct)] ∧ Z.Warmed39 U.vm ∧ U.heap = h0) (fun _ _ _ _ _ => True) (fun _ U o U' => ∃ v L, o = .returned v ∧ Q3 Z wt ct h0 n0 v U'.heap L ∧ FrameEnd U o U' L ({ frames := 0, cells := 0, slots := 0, locals := 0 } : Room).cells ({ frames := 0, cells := 0, slots := 0, locals := 0 } : Room).slots) := by
  refine MetFree.of_bodySF (plainFor_of_name pn_com_example_spillway_spillway_split_PriorityLevel) hisR ?_
  intro p e s m args below meth c s₁ Bd hml0 hP hK
  obtain ⟨rfl, hZ, hh⟩ := hP
  have hx := Bd.exec
  have hby := Bd.bytes
  have hlk : meth.locks = false := BodyLoose.notSynchronized Bd
  have hml : c.maxLocals = 3 := hml0
  have hown : s.vm.findClass "com/example/spillway/spillway/split/PriorityLevel" = some m.cls := findClass_of_methodNamed Bd.named
  have hnm := (name_of_methodNamed Bd.named Bd.method).1
  have X0 : Stand p l e ({ frames := 0, cells := 0, slots := 0, locals := 0 } : Room) s m #[(.long wt), (.int ct)] below meth c s₁ [] 0 0 := Stand.of_body Bd
  have e0 : s₁.heap = h0 := by rw [← hh, Bd.state]; rfl
  have N0 := Fr.nil n0
  suffices hgo : Go p e below s 0 0 (Q3 Z wt ct h0 n0) (s₁.setTop (mkF m 0 #[.val (.long wt), .second, .val (.int ct)] [])) by
    obtain ⟨t, o, h1, h2⟩ := hgo; exact ⟨t, o, castTop (ef_rm3 m wt ct) h1, h2⟩
  show Go p e below s _ _ _ (s₁.setTop (mkF m 0 #[.val (.long wt), .second, .val (.int ct)] []))
  refine Go.st (fun _ k' => XS.lloadN X0.here hx rfl (hb hby d3_0) rfl k') ?_
  show Go p e below s _ _ _ (s₁.setTop (mkF m 1 #[.val (.long wt), .second, .val (.int ct)] [(.long wt)]))
  refine Go.st (fun _ k' => XS.iloadN X0.here hx rfl (hb hby d3_1) rfl k') ?_
  show Go p e below s _ _ _ (s₁.setTop (mkF m 2 #[.val (.long wt), .second, .val (.int ct)] [(.int ct), (.long wt)]))
  refine Go.st (fun _ k' => XS.i2l X0.here hx rfl (hb hby d3_2) rfl k') ?_
  show Go p e below s _ _ _ (s₁.setTop (mkF m 3 #[.val (.long wt), .second, .val (.int ct)] [(.long (ct.toInt64)), (.long wt)]))
  refine Go.st (fun _ k' => XT.lcmp X0.here hx rfl (hb hby d3_3) rfl k') ?_
  show Go p e below s _ _ _ (s₁.setTop (mkF m 4 #[.val (.long wt), .second, .val (.int ct)] [(.int (XT.cmpL wt (ct.toInt64)))]))
  by_cases hc1 : wt < (ct.toInt64)
  · refine Go.st (fun _ k' => XS.ifYes X0.here hx rfl (pc0 := 4) (pc' := 22) rfl (hb hby d3_4) rfl (XT.ll_lt_t hc1) (by decide) (by decide) k') ?_
    show Go p e below s _ _ _ (s₁.setTop (mkF m 22 #[.val (.long wt), .second, .val (.int ct)] []))
    refine Go.st (fun _ k' => XS.iconst X0.here hx rfl (hb hby d3_22) k') ?_
    show Go p e below s _ _ _ (s₁.setTop (mkF m 23 #[.val (.long wt), .second, .val (.int ct)] [(.int (0 : Int32))]))
    refine Go.retB X0 hx hlk (t := .boolean) Bd.returns (by simp) (hb hby d3_23) (by decide) (by decide) e0 ?_
    exact ⟨(by simp [fwei, nar, hc1]), N0, rfl⟩
  · refine Go.st (fun _ k' => XS.ifNo X0.here hx rfl (hb hby d3_4) rfl (XT.ll_lt_f hc1) k') ?_
    show Go p e below s _ _ _ (s₁.setTop (mkF m 7 #[.val (.long wt), .second, .val (.int ct)] []))
    refine Go.st (fun _ k' => XS.lloadN X0.here hx rfl (hb hby d3_7) rfl k') ?_
    show Go p e below s _ _ _ (s₁.setTop (mkF m 8 #[.val (.long wt), .second, .val (.int ct)] [(.long wt)]))
    refine Go.st (fun _ k' => XS.iloadN X0.here hx rfl (hb hby d3_8) rfl k') ?_
    show Go p e below s _ _ _ (s₁.setTop (mkF m 9 #[.val (.long wt), .second, .val (.int ct)] [(.int ct), (.long wt)]))
    refine Go.st (fun _ k' => XS.i2l X0.here hx rfl (hb hby d3_9) rfl k') ?_
    show Go p e below s _ _ _ (s₁.setTop (mkF m 10 #[.val (.long wt), .second, .val (.int ct)] [(.long (ct.toInt64)), (.long wt)]))
    refine Go.st (fun _ k' => X0.ldc2J hx hown (mvT hZ (wdx hw 14 rfl)) rfl (hb hby d3_10) k') ?_
    show Go p e below s _ _ _ (s₁.setTop (mkF m 13 #[.val (.long wt), .second, .val (.int ct)] [(.long (4294967295 : Int64)), (.long (ct.toInt64)), (.long wt)]))
    refine Go.st (fun _ k' => XS.lmul X0.here hx rfl (hb hby d3_13) rfl k') ?_
    show Go p e below s _ _ _ (s₁.setTop (mkF m 14 #[.val (.long wt), .second, .val (.int ct)] [(.long ((ct.toInt64) * (4294967295 : Int64))), (.long wt)]))
    refine Go.st (fun _ k' => XT.lcmp X0.here hx rfl (hb hby d3_14) rfl k') ?_
    show Go p e below s _ _ _ (s₁.setTop (mkF m 15 #[.val (.long wt), .second, .val (.int ct)] [(.int (XT.cmpL wt ((ct.toInt64) * (4294967295 : Int64))))]))
    by_cases hc2 : ((ct.toInt64) * (4294967295 : Int64)) < wt
    · refine Go.st (fun _ k' => XS.ifYes X0.here hx rfl (pc0 := 15) (pc' := 22) rfl (hb hby d3_15) rfl (XT.ll_gt_t hc2) (by decide) (by decide) k') ?_
      show Go p e below s _ _ _ (s₁.setTop (mkF m 22 #[.val (.long wt), .second, .val (.int ct)] []))
      refine Go.st (fun _ k' => XS.iconst X0.here hx rfl (hb hby d3_22) k') ?_
      show Go p e below s _ _ _ (s₁.setTop (mkF m 23 #[.val (.long wt), .second, .val (.int ct)] [(.int (0 : Int32))]))
      refine Go.retB X0 hx hlk (t := .boolean) Bd.returns (by simp) (hb hby d3_23) (by decide) (by decide) e0 ?_
      exact ⟨(by simp [fwei, nar, hc1, hc2]), N0, rfl⟩
    · refine Go.st (fun _ k' => XS.ifNo X0.here hx rfl (hb hby d3_15) rfl (XT.ll_gt_f hc2) k') ?_
      show Go p e below s _ _ _ (s₁.setTop (mkF m 18 #[.val (.long wt), .second, .val (.int ct)] []))
      refine Go.st (fun _ k' => XS.iconst X0.here hx rfl (hb hby d3_18) k') ?_
      show Go p e below s _ _ _ (s₁.setTop (mkF m 19 #[.val (.long wt), .second, .val (.int ct)] [(.int (1 : Int32))]))
      refine Go.st (fun _ k' => XS.goto X0.here hx rfl (pc0 := 19) (pc' := 23) rfl (hb hby d3_19) (by decide) (by decide) k') ?_
      show Go p e below s _ _ _ (s₁.setTop (mkF m 23 #[.val (.long wt), .second, .val (.int ct)] [(.int (1 : Int32))]))
      refine Go.retB X0 hx hlk (t := .boolean) Bd.returns (by simp) (hb hby d3_23) (by decide) (by decide) e0 ?_
      exact ⟨(by simp [fwei, nar, hc1, hc2]), N0, rfl⟩
theorem d1_0 : decode prog_30_method_2_code 0 = .ok (.aload_n 0, 1) := by decide +kernel
theorem d1_1 : decode prog_30_method_2_code 1 = .ok (.invokespecial 7, 3) := by decide +kernel
theorem d1_4 : decode prog_30_method_2_code 4 = .ok (.iload_n 2, 1) := by decide +kernel
theorem d1_5 : decode prog_30_method_2_code 5 = .ok (.ifCond .lt 18, 3) := by decide +kernel
theorem d1_8 : decode prog_30_method_2_code 8 = .ok (.iload_n 3, 1) := by decide +kernel
theorem d1_9 : decode prog_30_method_2_code 9 = .ok (.ifCond .lt 14, 3) := by decide +kernel
theorem d1_12 : decode prog_30_method_2_code 12 = .ok (.iload_n 2, 1) := by decide +kernel
theorem d1_13 : decode prog_30_method_2_code 13 = .ok (.i2l, 1) := by decide +kernel
theorem d1_14 : decode prog_30_method_2_code 14 = .ok (.iload_n 3, 1) := by decide +kernel
theorem d1_15 : decode prog_30_method_2_code 15 = .ok (.i2l, 1) := by decide +kernel
theorem d1_16 : decode prog_30_method_2_code 16 = .ok (.ladd, 1) := by decide +kernel
theorem d1_17 : decode prog_30_method_2_code 17 = .ok (.iload_n 1, 1) := by decide +kernel
theorem d1_18 : decode prog_30_method_2_code 18 = .ok (.i2l, 1) := by decide +kernel
theorem d1_19 : decode prog_30_method_2_code 19 = .ok (.lcmp, 1) := by decide +kernel
theorem d1_20 : decode prog_30_method_2_code 20 = .ok (.ifCond .le 25, 3) := by decide +kernel
theorem d1_45 : decode prog_30_method_2_code 45 = .ok (.lload 4, 2) := by decide +kernel
theorem d1_47 : decode prog_30_method_2_code 47 = .ok (.iload_n 1, 1) := by decide +kernel
theorem pd__JI_Z : parseMethodDescriptor "(JI)Z" = some ⟨[.long, .int], some .boolean⟩ := by decide +kernel
theorem d1_48 : decode prog_30_method_2_code 48 = .ok (.invokestatic 25, 3) := by decide +kernel
theorem d1_51 : decode prog_30_method_2_code 51 = .ok (.ifCond .eq 32, 3) := by decide +kernel
theorem d1_54 : decode prog_30_method_2_code 54 = .ok (.lload 6, 2) := by decide +kernel
theorem d1_56 : decode prog_30_method_2_code 56 = .ok (.iload_n 2, 1) := by decide +kernel
theorem d1_57 : decode prog_30_method_2_code 57 = .ok (.invokestatic 25, 3) := by decide +kernel
theorem d1_60 : decode prog_30_method_2_code 60 = .ok (.ifCond .eq 23, 3) := by decide +kernel
theorem d1_63 : decode prog_30_method_2_code 63 = .ok (.lload 8, 2) := by decide +kernel
theorem d1_65 : decode prog_30_method_2_code 65 = .ok (.iload_n 3, 1) := by decide +kernel
theorem d1_66 : decode prog_30_method_2_code 66 = .ok (.invokestatic 25, 3) := by decide +kernel
theorem d1_69 : decode prog_30_method_2_code 69 = .ok (.ifCond .eq 14, 3) := by decide +kernel
theorem d1_72 : decode prog_30_method_2_code 72 = .ok (.lload 6, 2) := by decide +kernel
theorem d1_74 : decode prog_30_method_2_code 74 = .ok (.lload 8, 2) := by decide +kernel
theorem d1_76 : decode prog_30_method_2_code 76 = .ok (.ladd, 1) := by decide +kernel
theorem d1_77 : decode prog_30_method_2_code 77 = .ok (.lload 4, 2) := by decide +kernel
theorem d1_79 : decode prog_30_method_2_code 79 = .ok (.lcmp, 1) := by decide +kernel
theorem d1_80 : decode prog_30_method_2_code 80 = .ok (.ifCond .le 34, 3) := by decide +kernel
theorem d1_114 : decode prog_30_method_2_code 114 = .ok (.aload_n 0, 1) := by decide +kernel
theorem d1_115 : decode prog_30_method_2_code 115 = .ok (.iload_n 1, 1) := by decide +kernel
theorem d1_116 : decode prog_30_method_2_code 116 = .ok (.putfield 32, 3) := by decide +kernel
theorem d1_119 : decode prog_30_method_2_code 119 = .ok (.aload_n 0, 1) := by decide +kernel
theorem d1_120 : decode prog_30_method_2_code 120 = .ok (.iload_n 2, 1) := by decide +kernel
theorem d1_121 : decode prog_30_method_2_code 121 = .ok (.putfield 36, 3) := by decide +kernel
theorem d1_124 : decode prog_30_method_2_code 124 = .ok (.aload_n 0, 1) := by decide +kernel
theorem d1_125 : decode prog_30_method_2_code 125 = .ok (.iload_n 3, 1) := by decide +kernel
theorem d1_126 : decode prog_30_method_2_code 126 = .ok (.putfield 39, 3) := by decide +kernel
theorem d1_129 : decode prog_30_method_2_code 129 = .ok (.aload_n 0, 1) := by decide +kernel
theorem d1_130 : decode prog_30_method_2_code 130 = .ok (.lload 4, 2) := by decide +kernel
theorem d1_132 : decode prog_30_method_2_code 132 = .ok (.putfield 42, 3) := by decide +kernel
theorem d1_135 : decode prog_30_method_2_code 135 = .ok (.aload_n 0, 1) := by decide +kernel
theorem d1_136 : decode prog_30_method_2_code 136 = .ok (.lload 6, 2) := by decide +kernel
theorem d1_138 : decode prog_30_method_2_code 138 = .ok (.putfield 46, 3) := by decide +kernel
theorem d1_141 : decode prog_30_method_2_code 141 = .ok (.aload_n 0, 1) := by decide +kernel
theorem d1_142 : decode prog_30_method_2_code 142 = .ok (.lload 8, 2) := by decide +kernel
theorem d1_144 : decode prog_30_method_2_code 144 = .ok (.putfield 49, 3) := by decide +kernel
theorem d1_147 : decode prog_30_method_2_code 147 = .ok (.return_, 1) := by decide +kernel
theorem ef_rm1 (m : MethodId) (ob : Addr) (uo : Int32) (uh : Int32) (ud : Int32) (wo : Int64) (wh : Int64) (wd : Int64) : entryFrame m #[(.ref ob), (.int uo), (.int uh), (.int ud), (.long wo), (.long wh), (.long wd)] 10 = mkF m 0 #[.val (.ref ob), .val (.int uo), .val (.int uh), .val (.int ud), .val (.long wo), .second, .val (.long wh), .second, .val (.long wd), .second] [] := by first | (simp [entryFrame, mkF, argsToLocals, Value.category]; done) | rfl
def Q1 (Z : State) (ob : Addr) (uo : Int32) (uh : Int32) (ud : Int32) (wo : Int64) (wh : Int64) (wd : Int64) (h0 : Heap) (n0 : Nat) (v : Option Value) (h : Heap) (L : List Loc) : Prop := v = none ∧ Fr n0 L ∧ Keep h0 h [ob] ∧ Fld Z h ob "com/example/spillway/spillway/split/PriorityLevel" "hosts" "I" (.int uo) ∧ Fld Z h ob "com/example/spillway/spillway/split/PriorityLevel" "healthy" "I" (.int uh) ∧ Fld Z h ob "com/example/spillway/spillway/split/PriorityLevel" "degraded" "I" (.int ud) ∧ Fld Z h ob "com/example/spillway/spillway/split/PriorityLevel" "hostWeight" "J" (.long wo) ∧ Fld Z h ob "com/example/spillway/spillway/split/PriorityLevel" "healthyWeight" "J" (.long wh) ∧ Fld Z h ob "com/example/spillway/spillway/split/PriorityLevel" "degradedWeight" "J" (.long wd)
set_option maxRecDepth 65536 in
set_option maxHeartbeats 40000000 in
theorem rm1 (l : Launch) (Z : State) (a0 : Array Value) (hw : ∀ d ∈ tables_1, d.before a0 Z = true) (ws : List Jvm.Cond) (ob : Addr) (uo : Int32) (uh : Int32) (ud : Int32) (wo : Int64) (wh : Int64) (wd : Int64) (h0 : Heap) (n0 : Nat) (O0 : Old Z n0 h0) (E_o : Exa Z h0 ob "com/example/spillway/spillway/split/PriorityLevel") (F0 : Fld Z h0 ob "com/example/spillway/spillway/split/PriorityLevel" "hosts" "I" (.int (0 : Int32))) (F1 : Fld Z h0 ob "com/example/spillway/spillway/split/PriorityLevel" "healthy" "I" (.int (0 : Int32))) (F2 : Fld Z h0 ob "com/example/spillway/spillway/split/PriorityLevel" "degraded" "I" (.int (0 : Int32))) (F3 : Fld Z h0 ob "com/example/spillway/spillway/split/PriorityLevel" "hostWeight" "J" (.long (0 : Int64))) (F4 : Fld Z h0 ob "com/example/spillway/spillway/split/PriorityLevel" "healthyWeight" "J" (.long (0 : Int64))) (F5 : Fld Z h0 ob "com/example/spillway/spillway/split/PriorityLevel" "degradedWeight" "J" (.long (0 : Int64))) (g_o : n0 ≤ ob) (q_a : ¬ uh < (0 : Int32)) (q_b : ¬ ud < (0 : Int32)) (q_c : ¬ (uo.toInt64) < ((uh.toInt64) + (ud.toInt64))) (q_d : ¬ (fwei wo uo) = (0 : Int32)) (q_e : ¬ (fwei wh uh) = (0 : Int32)) (q_f : ¬ (fwei wd ud) = (0 : Int32)) (q_g : ¬ wo < (wh + wd)) :
    MetFree l (⟨"com/example/spillway/spillway/split/PriorityLevel", "<init>", "(IIIJJJ)V"⟩ : MethodName) (head1 (Jvm.Cond.code (⟨"com/example/spillway/spillway/split/PriorityLevel", "<init>", "(IIIJJJ)V"⟩ : MethodName) prog_30_method_2_code 10 none :: ws) ({ frames := 1, cells := 0, slots := 0, locals := 14 } : Room)) (fun ay U => ay = #[(.ref ob), (.int uo), (.int uh), (.int ud), (.long wo), (.long wh), (.long wd)] ∧ Z.Warmed39 U.vm ∧ U.heap = h0) (fun _ _ _ _ _ => True) (fun _ U o U' => ∃ v L, o = .returned v ∧ Q1 Z ob uo uh ud wo wh wd h0 n0 v U'.heap L ∧ FrameEnd U o U' L ({ frames := 1, cells := 0, slots := 0, locals := 14 } : Room).cells ({ frames := 1, cells := 0, slots := 0, locals := 14 } : Room).slots) := by
  refine MetFree.of_bodySF (plainFor_of_name pn_com_example_spillway_spillway_split_PriorityLevel) hisR ?_
  intro p e s m args below meth c s₁ Bd hml0 hP hK
  obtain ⟨rfl, hZ, hh⟩ := hP
  have hx := Bd.exec
  have hby := Bd.bytes
  have hlk : meth.locks = false := BodyLoose.notSynchronized Bd
  have hml : c.maxLocals = 10 := hml0
  have hown : s.vm.findClass "com/example/spillway/spillway/split/PriorityLevel" = some m.cls := findClass_of_methodNamed Bd.named
  have hnm := (name_of_methodNamed Bd.named Bd.method).1
  have X0 : Stand p l e ({ frames := 1, cells := 0, slots := 0, locals := 14 } : Room) s m #[(.ref ob), (.int uo), (.int uh), (.int ud), (.long wo), (.long wh), (.long wd)] below meth c s₁ [] 0 0 := Stand.of_body Bd
  have e0 : s₁.heap = h0 := by rw [← hh, Bd.state]; rfl
  have N0 := Fr.nil n0
  suffices hgo : Go p e below s 0 0 (Q1 Z ob uo uh ud wo wh wd h0 n0) (s₁.setTop (mkF m 0 #[.val (.ref ob), .val (.int uo), .val (.int uh), .val (.int ud), .val (.long wo), .second, .val (.long wh), .second, .val (.long wd), .second] [])) by
    obtain ⟨t, o, h1, h2⟩ := hgo; exact ⟨t, o, castTop (ef_rm1 m ob uo uh ud wo wh wd) h1, h2⟩
  show Go p e below s _ _ _ (s₁.setTop (mkF m 0 #[.val (.ref ob), .val (.int uo), .val (.int uh), .val (.int ud), .val (.long wo), .second, .val (.long wh), .second, .val (.long wd), .second] []))
  refine Go.st (fun _ k' => XS.aloadN X0.here hx rfl (hb hby d1_0) rfl rfl k') ?_
  show Go p e below s _ _ _ (s₁.setTop (mkF m 1 #[.val (.ref ob), .val (.int uo), .val (.int uh), .val (.int ud), .val (.long wo), .second, .val (.long wh), .second, .val (.long wd), .second] [(.ref ob)]))
  obtain ⟨T1, X1, e1, st1⟩ := initO X0 hx hZ hown (wdx hw 8 rfl) (wdx hw 9 rfl) (wdx hw 10 rfl) e0 (g := (mkF m 1 #[.val (.ref ob), .val (.int uo), .val (.int uh), .val (.int ud), .val (.long wo), .second, .val (.long wh), .second, .val (.long wd), .second] [(.ref ob)])) rfl (by rw [hml]; rfl) rfl (hb hby d1_1) (by decide) (W := 0) (by show 2 * 0 + _ ≤ _; exact Nat.le_of_eq rfl) (by decide)
  refine Go.st st1 ?_
  show Go p e below s _ _ _ (T1.setTop (mkF m 4 #[.val (.ref ob), .val (.int uo), .val (.int uh), .val (.int ud), .val (.long wo), .second, .val (.long wh), .second, .val (.long wd), .second] []))
  refine Go.st (fun _ k' => XS.iloadN X1.here hx rfl (hb hby d1_4) rfl k') ?_
  show Go p e below s _ _ _ (T1.setTop (mkF m 5 #[.val (.ref ob), .val (.int uo), .val (.int uh), .val (.int ud), .val (.long wo), .second, .val (.long wh), .second, .val (.long wd), .second] [(.int uh)]))
  refine Go.st (fun _ k' => XS.ifNo X1.here hx rfl (hb hby d1_5) rfl (XT.i0_lt_f q_a) k') ?_
  show Go p e below s _ _ _ (T1.setTop (mkF m 8 #[.val (.ref ob), .val (.int uo), .val (.int uh), .val (.int ud), .val (.long wo), .second, .val (.long wh), .second, .val (.long wd), .second] []))
  refine Go.st (fun _ k' => XS.iloadN X1.here hx rfl (hb hby d1_8) rfl k') ?_
  show Go p e below s _ _ _ (T1.setTop (mkF m 9 #[.val (.ref ob), .val (.int uo), .val (.int uh), .val (.int ud), .val (.long wo), .second, .val (.long wh), .second, .val (.long wd), .second] [(.int ud)]))
  refine Go.st (fun _ k' => XS.ifNo X1.here hx rfl (hb hby d1_9) rfl (XT.i0_lt_f q_b) k') ?_
  show Go p e below s _ _ _ (T1.setTop (mkF m 12 #[.val (.ref ob), .val (.int uo), .val (.int uh), .val (.int ud), .val (.long wo), .second, .val (.long wh), .second, .val (.long wd), .second] []))
  refine Go.st (fun _ k' => XS.iloadN X1.here hx rfl (hb hby d1_12) rfl k') ?_
  show Go p e below s _ _ _ (T1.setTop (mkF m 13 #[.val (.ref ob), .val (.int uo), .val (.int uh), .val (.int ud), .val (.long wo), .second, .val (.long wh), .second, .val (.long wd), .second] [(.int uh)]))
  refine Go.st (fun _ k' => XS.i2l X1.here hx rfl (hb hby d1_13) rfl k') ?_
  show Go p e below s _ _ _ (T1.setTop (mkF m 14 #[.val (.ref ob), .val (.int uo), .val (.int uh), .val (.int ud), .val (.long wo), .second, .val (.long wh), .second, .val (.long wd), .second] [(.long (uh.toInt64))]))
  refine Go.st (fun _ k' => XS.iloadN X1.here hx rfl (hb hby d1_14) rfl k') ?_
  show Go p e below s _ _ _ (T1.setTop (mkF m 15 #[.val (.ref ob), .val (.int uo), .val (.int uh), .val (.int ud), .val (.long wo), .second, .val (.long wh), .second, .val (.long wd), .second] [(.int ud), (.long (uh.toInt64))]))
  refine Go.st (fun _ k' => XS.i2l X1.here hx rfl (hb hby d1_15) rfl k') ?_
  show Go p e below s _ _ _ (T1.setTop (mkF m 16 #[.val (.ref ob), .val (.int uo), .val (.int uh), .val (.int ud), .val (.long wo), .second, .val (.long wh), .second, .val (.long wd), .second] [(.long (ud.toInt64)), (.long (uh.toInt64))]))
  refine Go.st (fun _ k' => XS.ladd X1.here hx rfl (hb hby d1_16) rfl k') ?_
  show Go p e below s _ _ _ (T1.setTop (mkF m 17 #[.val (.ref ob), .val (.int uo), .val (.int uh), .val (.int ud), .val (.long wo), .second, .val (.long wh), .second, .val (.long wd), .second] [(.long ((uh.toInt64) + (ud.toInt64)))]))
  refine Go.st (fun _ k' => XS.iloadN X1.here hx rfl (hb hby d1_17) rfl k') ?_
  show Go p e below s _ _ _ (T1.setTop (mkF m 18 #[.val (.ref ob), .val (.int uo), .val (.int uh), .val (.int ud), .val (.long wo), .second, .val (.long wh), .second, .val (.long wd), .second] [(.int uo), (.long ((uh.toInt64) + (ud.toInt64)))]))
  refine Go.st (fun _ k' => XS.i2l X1.here hx rfl (hb hby d1_18) rfl k') ?_
  show Go p e below s _ _ _ (T1.setTop (mkF m 19 #[.val (.ref ob), .val (.int uo), .val (.int uh), .val (.int ud), .val (.long wo), .second, .val (.long wh), .second, .val (.long wd), .second] [(.long (uo.toInt64)), (.long ((uh.toInt64) + (ud.toInt64)))]))
  refine Go.st (fun _ k' => XT.lcmp X1.here hx rfl (hb hby d1_19) rfl k') ?_
  show Go p e below s _ _ _ (T1.setTop (mkF m 20 #[.val (.ref ob), .val (.int uo), .val (.int uh), .val (.int ud), .val (.long wo), .second, .val (.long wh), .second, .val (.long wd), .second] [(.int (XT.cmpL ((uh.toInt64) + (ud.toInt64)) (uo.toInt64)))]))
  refine Go.st (fun _ k' => XS.ifYes X1.here hx rfl (pc0 := 20) (pc' := 45) rfl (hb hby d1_20) rfl (XT.ll_le_t q_c) (by decide) (by decide) k') ?_
  show Go p e below s _ _ _ (T1.setTop (mkF m 45 #[.val (.ref ob), .val (.int uo), .val (.int uh), .val (.int ud), .val (.long wo), .second, .val (.long wh), .second, .val (.long wd), .second] []))
  refine Go.st (fun _ k' => XS.lload X1.here hx rfl (hb hby d1_45) rfl k') ?_
  show Go p e below s _ _ _ (T1.setTop (mkF m 47 #[.val (.ref ob), .val (.int uo), .val (.int uh), .val (.int ud), .val (.long wo), .second, .val (.long wh), .second, .val (.long wd), .second] [(.long wo)]))
  refine Go.st (fun _ k' => XS.iloadN X1.here hx rfl (hb hby d1_47) rfl k') ?_
  show Go p e below s _ _ _ (T1.setTop (mkF m 48 #[.val (.ref ob), .val (.int uo), .val (.int uh), .val (.int ud), .val (.long wo), .second, .val (.long wh), .second, .val (.long wd), .second] [(.int uo), (.long wo)]))
  obtain ⟨_, _, ⟨T2, L2, k2, n2⟩, -, X2, ⟨Lc2, hQ2, l2, y2, z2⟩, st2⟩ := Jvm.LawKit.callS X1 hx (y := (⟨"com/example/spillway/spillway/split/PriorityLevel", "weighs", "(JI)Z"⟩ : MethodName)) hown (mvT hZ (wdx hw 11 rfl)) (mvT hZ (wdx hw 12 rfl)) (mvT hZ (wdx hw 4 rfl)) (mvT hZ (wdx hw 13 rfl)) (by decide) (backOf (W := 0) (rm3 l Z a0 hw [] wo uo h0 n0 O0 ) hZ (wdx hw 13 rfl) (wdx hw 4 rfl) (by decide) (by decide)) (g := (mkF m 48 #[.val (.ref ob), .val (.int uo), .val (.int uh), .val (.int ud), .val (.long wo), .second, .val (.long wh), .second, .val (.long wd), .second] [(.int uo), (.long wo)])) rfl (by rw [hml]; rfl) (argsL := [(.long wo), (.int uo)]) (rest := []) (lenOf pd__JI_Z rfl) rfl (by show 2 * 0 + _ ≤ _; exact Nat.le_of_eq rfl) (hb hby d1_48) (fun _ _ => ⟨rfl, e1, (by exact Nat.le_of_ble_eq_true rfl), (by exact Nat.le_of_ble_eq_true rfl)⟩)
  dsimp only [Pt.U, Pt.locs, Pt.cells, Pt.slots] at X2 l2 y2 z2 st2 hQ2
  subst l2 y2 z2
  obtain ⟨rfl, Nq2, eq2⟩ := hQ2
  have N2 := Fr.app N0 Nq2
  refine Go.st st2 ?_
  show Go p e below s _ _ _ (T2.setTop (mkF m 51 #[.val (.ref ob), .val (.int uo), .val (.int uh), .val (.int ud), .val (.long wo), .second, .val (.long wh), .second, .val (.long wd), .second] [(.int (fwei wo uo))]))
  refine Go.st (fun _ k' => XS.ifNo X2.here hx rfl (hb hby d1_51) rfl (XT.i0_eq_f q_d) k') ?_
  show Go p e below s _ _ _ (T2.setTop (mkF m 54 #[.val (.ref ob), .val (.int uo), .val (.int uh), .val (.int ud), .val (.long wo), .second, .val (.long wh), .second, .val (.long wd), .second] []))
  refine Go.st (fun _ k' => XS.lload X2.here hx rfl (hb hby d1_54) rfl k') ?_
  show Go p e below s _ _ _ (T2.setTop (mkF m 56 #[.val (.ref ob), .val (.int uo), .val (.int uh), .val (.int ud), .val (.long wo), .second, .val (.long wh), .second, .val (.long wd), .second] [(.long wh)]))
  refine Go.st (fun _ k' => XS.iloadN X2.here hx rfl (hb hby d1_56) rfl k') ?_
  show Go p e below s _ _ _ (T2.setTop (mkF m 57 #[.val (.ref ob), .val (.int uo), .val (.int uh), .val (.int ud), .val (.long wo), .second, .val (.long wh), .second, .val (.long wd), .second] [(.int uh), (.long wh)]))
  obtain ⟨_, _, ⟨T3, L3, k3, n3⟩, -, X3, ⟨Lc3, hQ3, l3, y3, z3⟩, st3⟩ := Jvm.LawKit.callS X2 hx (y := (⟨"com/example/spillway/spillway/split/PriorityLevel", "weighs", "(JI)Z"⟩ : MethodName)) hown (mvT hZ (wdx hw 11 rfl)) (mvT hZ (wdx hw 12 rfl)) (mvT hZ (wdx hw 4 rfl)) (mvT hZ (wdx hw 13 rfl)) (by decide) (backOf (W := 0) (rm3 l Z a0 hw [] wh uh h0 n0 O0 ) hZ (wdx hw 13 rfl) (wdx hw 4 rfl) (by decide) (by decide)) (g := (mkF m 57 #[.val (.ref ob), .val (.int uo), .val (.int uh), .val (.int ud), .val (.long wo), .second, .val (.long wh), .second, .val (.long wd), .second] [(.int uh), (.long wh)])) rfl (by rw [hml]; rfl) (argsL := [(.long wh), (.int uh)]) (rest := []) (lenOf pd__JI_Z rfl) rfl (by show 2 * 0 + _ ≤ _; exact Nat.le_of_eq rfl) (hb hby d1_57) (fun _ _ => ⟨rfl, eq2, (by exact Nat.le_of_ble_eq_true rfl), (by exact Nat.le_of_ble_eq_true rfl)⟩)
  dsimp only [Pt.U, Pt.locs, Pt.cells, Pt.slots] at X3 l3 y3 z3 st3 hQ3
  subst l3 y3 z3
  obtain ⟨rfl, Nq3, eq3⟩ := hQ3
  have N3 := Fr.app N2 Nq3
  refine Go.st st3 ?_
  show Go p e below s _ _ _ (T3.setTop (mkF m 60 #[.val (.ref ob), .val (.int uo), .val (.int uh), .val (.int ud), .val (.long wo), .second, .val (.long wh), .second, .val (.long wd), .second] [(.int (fwei wh uh))]))
  refine Go.st (fun _ k' => XS.ifNo X3.here hx rfl (hb hby d1_60) rfl (XT.i0_eq_f q_e) k') ?_
  show Go p e below s _ _ _ (T3.setTop (mkF m 63 #[.val (.ref ob), .val (.int uo), .val (.int uh), .val (.int ud), .val (.long wo), .second, .val (.long wh), .second, .val (.long wd), .second] []))
  refine Go.st (fun _ k' => XS.lload X3.here hx rfl (hb hby d1_63) rfl k') ?_
  show Go p e below s _ _ _ (T3.setTop (mkF m 65 #[.val (.ref ob), .val (.int uo), .val (.int uh), .val (.int ud), .val (.long wo), .second, .val (.long wh), .second, .val (.long wd), .second] [(.long wd)]))
  refine Go.st (fun _ k' => XS.iloadN X3.here hx rfl (hb hby d1_65) rfl k') ?_
  show Go p e below s _ _ _ (T3.setTop (mkF m 66 #[.val (.ref ob), .val (.int uo), .val (.int uh), .val (.int ud), .val (.long wo), .second, .val (.long wh), .second, .val (.long wd), .second] [(.int ud), (.long wd)]))
  obtain ⟨_, _, ⟨T4, L4, k4, n4⟩, -, X4, ⟨Lc4, hQ4, l4, y4, z4⟩, st4⟩ := Jvm.LawKit.callS X3 hx (y := (⟨"com/example/spillway/spillway/split/PriorityLevel", "weighs", "(JI)Z"⟩ : MethodName)) hown (mvT hZ (wdx hw 11 rfl)) (mvT hZ (wdx hw 12 rfl)) (mvT hZ (wdx hw 4 rfl)) (mvT hZ (wdx hw 13 rfl)) (by decide) (backOf (W := 0) (rm3 l Z a0 hw [] wd ud h0 n0 O0 ) hZ (wdx hw 13 rfl) (wdx hw 4 rfl) (by decide) (by decide)) (g := (mkF m 66 #[.val (.ref ob), .val (.int uo), .val (.int uh), .val (.int ud), .val (.long wo), .second, .val (.long wh), .second, .val (.long wd), .second] [(.int ud), (.long wd)])) rfl (by rw [hml]; rfl) (argsL := [(.long wd), (.int ud)]) (rest := []) (lenOf pd__JI_Z rfl) rfl (by show 2 * 0 + _ ≤ _; exact Nat.le_of_eq rfl) (hb hby d1_66) (fun _ _ => ⟨rfl, eq3, (by exact Nat.le_of_ble_eq_true rfl), (by exact Nat.le_of_ble_eq_true rfl)⟩)
  dsimp only [Pt.U, Pt.locs, Pt.cells, Pt.slots] at X4 l4 y4 z4 st4 hQ4
  subst l4 y4 z4
  obtain ⟨rfl, Nq4, eq4⟩ := hQ4
  have N4 := Fr.app N3 Nq4
  refine Go.st st4 ?_
  show Go p e below s _ _ _ (T4.setTop (mkF m 69 #[.val (.ref ob), .val (.int uo), .val (.int uh), .val (.int ud), .val (.long wo), .second, .val (.long wh), .second, .val (.long wd), .second] [(.int (fwei wd ud))]))
  refine Go.st (fun _ k' => XS.ifNo X4.here hx rfl (hb hby d1_69) rfl (XT.i0_eq_f q_f) k') ?_
  show Go p e below s _ _ _ (T4.setTop (mkF m 72 #[.val (.ref ob), .val (.int uo), .val (.int uh), .val (.int ud), .val (.long wo), .second, .val (.long wh), .second, .val (.long wd), .second] []))
  refine Go.st (fun _ k' => XS.lload X4.here hx rfl (hb hby d1_72) rfl k') ?_
  show Go p e below s _ _ _ (T4.setTop (mkF m 74 #[.val (.ref ob), .val (.int uo), .val (.int uh), .val (.int ud), .val (.long wo), .second, .val (.long wh), .second, .val (.long wd), .second] [(.long wh)]))
  refine Go.st (fun _ k' => XS.lload X4.here hx rfl (hb hby d1_74) rfl k') ?_
  show Go p e below s _ _ _ (T4.setTop (mkF m 76 #[.val (.ref ob), .val (.int uo), .val (.int uh), .val (.int ud), .val (.long wo), .second, .val (.long wh), .second, .val (.long wd), .second] [(.long wd), (.long wh)]))
  refine Go.st (fun _ k' => XS.ladd X4.here hx rfl (hb hby d1_76) rfl k') ?_
  show Go p e below s _ _ _ (T4.setTop (mkF m 77 #[.val (.ref ob), .val (.int uo), .val (.int uh), .val (.int ud), .val (.long wo), .second, .val (.long wh), .second, .val (.long wd), .second] [(.long (wh + wd))]))
  refine Go.st (fun _ k' => XS.lload X4.here hx rfl (hb hby d1_77) rfl k') ?_
  show Go p e below s _ _ _ (T4.setTop (mkF m 79 #[.val (.ref ob), .val (.int uo), .val (.int uh), .val (.int ud), .val (.long wo), .second, .val (.long wh), .second, .val (.long wd), .second] [(.long wo), (.long (wh + wd))]))
  refine Go.st (fun _ k' => XT.lcmp X4.here hx rfl (hb hby d1_79) rfl k') ?_
  show Go p e below s _ _ _ (T4.setTop (mkF m 80 #[.val (.ref ob), .val (.int uo), .val (.int uh), .val (.int ud), .val (.long wo), .second, .val (.long wh), .second, .val (.long wd), .second] [(.int (XT.cmpL (wh + wd) wo))]))
  refine Go.st (fun _ k' => XS.ifYes X4.here hx rfl (pc0 := 80) (pc' := 114) rfl (hb hby d1_80) rfl (XT.ll_le_t q_g) (by decide) (by decide) k') ?_
  show Go p e below s _ _ _ (T4.setTop (mkF m 114 #[.val (.ref ob), .val (.int uo), .val (.int uh), .val (.int ud), .val (.long wo), .second, .val (.long wh), .second, .val (.long wd), .second] []))
  refine Go.st (fun _ k' => XS.aloadN X4.here hx rfl (hb hby d1_114) rfl rfl k') ?_
  show Go p e below s _ _ _ (T4.setTop (mkF m 115 #[.val (.ref ob), .val (.int uo), .val (.int uh), .val (.int ud), .val (.long wo), .second, .val (.long wh), .second, .val (.long wd), .second] [(.ref ob)]))
  refine Go.st (fun _ k' => XS.iloadN X4.here hx rfl (hb hby d1_115) rfl k') ?_
  show Go p e below s _ _ _ (T4.setTop (mkF m 116 #[.val (.ref ob), .val (.int uo), .val (.int uh), .val (.int ud), .val (.long wo), .second, .val (.long wh), .second, .val (.long wd), .second] [(.int uo), (.ref ob)]))
  obtain ⟨T5, h5, X5, e5, W5, st5⟩ := putF X4 hx hZ hown (host := "") (Or.inl (wdx hw 15 rfl)) Via.refl eq4 F0 E_o (Or.inr ⟨(wdx hw 16 rfl), rfl, hnm⟩) (wdx hw 3 rfl) (ty := .int) (by decide) rfl rfl (g := (mkF m 116 #[.val (.ref ob), .val (.int uo), .val (.int uh), .val (.int ud), .val (.long wo), .second, .val (.long wh), .second, .val (.long wd), .second] [(.int uo), (.ref ob)])) rfl rfl (hb hby d1_116)
  refine Go.st st5 ?_
  have f6 : Exa Z h5 ob "com/example/spillway/spillway/split/PriorityLevel" := E_o.wr W5
  have f7 : Fld Z h5 ob "com/example/spillway/spillway/split/PriorityLevel" "hosts" "I" (.int uo) := F0.same W5
  have f8 : Fld Z h5 ob "com/example/spillway/spillway/split/PriorityLevel" "healthy" "I" (.int (0 : Int32)) := F1.other W5 (Or.inr (slot_ne (Or.inr (wdx hw 18 rfl)) (Or.inr (wdx hw 16 rfl)) (by decide) (t := .int) (t' := .int) (by decide) (by decide)))
  have f9 : Fld Z h5 ob "com/example/spillway/spillway/split/PriorityLevel" "degraded" "I" (.int (0 : Int32)) := F2.other W5 (Or.inr (slot_ne (Or.inr (wdx hw 20 rfl)) (Or.inr (wdx hw 16 rfl)) (by decide) (t := .int) (t' := .int) (by decide) (by decide)))
  have f10 : Fld Z h5 ob "com/example/spillway/spillway/split/PriorityLevel" "hostWeight" "J" (.long (0 : Int64)) := F3.other W5 (Or.inr (slot_ne (Or.inr (wdx hw 22 rfl)) (Or.inr (wdx hw 16 rfl)) (by decide) (t := .long) (t' := .int) (by decide) (by decide)))
  have f11 : Fld Z h5 ob "com/example/spillway/spillway/split/PriorityLevel" "healthyWeight" "J" (.long (0 : Int64)) := F4.other W5 (Or.inr (slot_ne (Or.inr (wdx hw 24 rfl)) (Or.inr (wdx hw 16 rfl)) (by decide) (t := .long) (t' := .int) (by decide) (by decide)))
  have f12 : Fld Z h5 ob "com/example/spillway/spillway/split/PriorityLevel" "degradedWeight" "J" (.long (0 : Int64)) := F5.other W5 (Or.inr (slot_ne (Or.inr (wdx hw 26 rfl)) (Or.inr (wdx hw 16 rfl)) (by decide) (t := .long) (t' := .int) (by decide) (by decide)))
  have O5 : Old Z n0 h5 := O0.wr W5 g_o
  have N5 := Fr.snoc X5 N4 g_o
  have K5 : Keep h0 h5 [ob] := (Keep.refl h0 [ob]).wr W5 (Or.inl (by simp))
  show Go p e below s _ _ _ (T5.setTop (mkF m 119 #[.val (.ref ob), .val (.int uo), .val (.int uh), .val (.int ud), .val (.long wo), .second, .val (.long wh), .second, .val (.long wd), .second] []))
  refine Go.st (fun _ k' => XS.aloadN X5.here hx rfl (hb hby d1_119) rfl rfl k') ?_
  show Go p e below s _ _ _ (T5.setTop (mkF m 120 #[.val (.ref ob), .val (.int uo), .val (.int uh), .val (.int ud), .val (.long wo), .second, .val (.long wh), .second, .val (.long wd), .second] [(.ref ob)]))
  refine Go.st (fun _ k' => XS.iloadN X5.here hx rfl (hb hby d1_120) rfl k') ?_
  show Go p e below s _ _ _ (T5.setTop (mkF m 121 #[.val (.ref ob), .val (.int uo), .val (.int uh), .val (.int ud), .val (.long wo), .second, .val (.long wh), .second, .val (.long wd), .second] [(.int uh), (.ref ob)]))
  obtain ⟨T13, h13, X13, e13, W13, st13⟩ := putF X5 hx hZ hown (host := "") (Or.inl (wdx hw 17 rfl)) Via.refl e5 f8 f6 (Or.inr ⟨(wdx hw 18 rfl), rfl, hnm⟩) (wdx hw 3 rfl) (ty := .int) (by decide) rfl rfl (g := (mkF m 121 #[.val (.ref ob), .val (.int uo), .val (.int uh), .val (.int ud), .val (.long wo), .second, .val (.long wh), .second, .val (.long wd), .second] [(.int uh), (.ref ob)])) rfl rfl (hb hby d1_121)
  refine Go.st st13 ?_
  have f14 : Exa Z h13 ob "com/example/spillway/spillway/split/PriorityLevel" := f6.wr W13
  have f15 : Fld Z h13 ob "com/example/spillway/spillway/split/PriorityLevel" "hosts" "I" (.int uo) := f7.other W13 (Or.inr (slot_ne (Or.inr (wdx hw 16 rfl)) (Or.inr (wdx hw 18 rfl)) (by decide) (t := .int) (t' := .int) (by decide) (by decide)))
  have f16 : Fld Z h13 ob "com/example/spillway/spillway/split/PriorityLevel" "healthy" "I" (.int uh) := f8.same W13
  have f17 : Fld Z h13 ob "com/example/spillway/spillway/split/PriorityLevel" "degraded" "I" (.int (0 : Int32)) := f9.other W13 (Or.inr (slot_ne (Or.inr (wdx hw 20 rfl)) (Or.inr (wdx hw 18 rfl)) (by decide) (t := .int) (t' := .int) (by decide) (by decide)))
  have f18 : Fld Z h13 ob "com/example/spillway/spillway/split/PriorityLevel" "hostWeight" "J" (.long (0 : Int64)) := f10.other W13 (Or.inr (slot_ne (Or.inr (wdx hw 22 rfl)) (Or.inr (wdx hw 18 rfl)) (by decide) (t := .long) (t' := .int) (by decide) (by decide)))
  have f19 : Fld Z h13 ob "com/example/spillway/spillway/split/PriorityLevel" "healthyWeight" "J" (.long (0 : Int64)) := f11.other W13 (Or.inr (slot_ne (Or.inr (wdx hw 24 rfl)) (Or.inr (wdx hw 18 rfl)) (by decide) (t := .long) (t' := .int) (by decide) (by decide)))
  have f20 : Fld Z h13 ob "com/example/spillway/spillway/split/PriorityLevel" "degradedWeight" "J" (.long (0 : Int64)) := f12.other W13 (Or.inr (slot_ne (Or.inr (wdx hw 26 rfl)) (Or.inr (wdx hw 18 rfl)) (by decide) (t := .long) (t' := .int) (by decide) (by decide)))
  have O13 : Old Z n0 h13 := O5.wr W13 g_o
  have N13 := Fr.snoc X13 N5 g_o
  have K13 : Keep h0 h13 [ob] := K5.wr W13 (Or.inl (by simp))
  show Go p e below s _ _ _ (T13.setTop (mkF m 124 #[.val (.ref ob), .val (.int uo), .val (.int uh), .val (.int ud), .val (.long wo), .second, .val (.long wh), .second, .val (.long wd), .second] []))
  refine Go.st (fun _ k' => XS.aloadN X13.here hx rfl (hb hby d1_124) rfl rfl k') ?_
  show Go p e below s _ _ _ (T13.setTop (mkF m 125 #[.val (.ref ob), .val (.int uo), .val (.int uh), .val (.int ud), .val (.long wo), .second, .val (.long wh), .second, .val (.long wd), .second] [(.ref ob)]))
  refine Go.st (fun _ k' => XS.iloadN X13.here hx rfl (hb hby d1_125) rfl k') ?_
  show Go p e below s _ _ _ (T13.setTop (mkF m 126 #[.val (.ref ob), .val (.int uo), .val (.int uh), .val (.int ud), .val (.long wo), .second, .val (.long wh), .second, .val (.long wd), .second] [(.int ud), (.ref ob)]))
  obtain ⟨T21, h21, X21, e21, W21, st21⟩ := putF X13 hx hZ hown (host := "") (Or.inl (wdx hw 19 rfl)) Via.refl e13 f17 f14 (Or.inr ⟨(wdx hw 20 rfl), rfl, hnm⟩) (wdx hw 3 rfl) (ty := .int) (by decide) rfl rfl (g := (mkF m 126 #[.val (.ref ob), .val (.int uo), .val (.int uh), .val (.int ud), .val (.long wo), .second, .val (.long wh), .second, .val (.long wd), .second] [(.int ud), (.ref ob)])) rfl rfl (hb hby d1_126)
  refine Go.st st21 ?_
  have f22 : Exa Z h21 ob "com/example/spillway/spillway/split/PriorityLevel" := f14.wr W21
  have f23 : Fld Z h21 ob "com/example/spillway/spillway/split/PriorityLevel" "hosts" "I" (.int uo) := f15.other W21 (Or.inr (slot_ne (Or.inr (wdx hw 16 rfl)) (Or.inr (wdx hw 20 rfl)) (by decide) (t := .int) (t' := .int) (by decide) (by decide)))
  have f24 : Fld Z h21 ob "com/example/spillway/spillway/split/PriorityLevel" "healthy" "I" (.int uh) := f16.other W21 (Or.inr (slot_ne (Or.inr (wdx hw 18 rfl)) (Or.inr (wdx hw 20 rfl)) (by decide) (t := .int) (t' := .int) (by decide) (by decide)))
  have f25 : Fld Z h21 ob "com/example/spillway/spillway/split/PriorityLevel" "degraded" "I" (.int ud) := f17.same W21
  have f26 : Fld Z h21 ob "com/example/spillway/spillway/split/PriorityLevel" "hostWeight" "J" (.long (0 : Int64)) := f18.other W21 (Or.inr (slot_ne (Or.inr (wdx hw 22 rfl)) (Or.inr (wdx hw 20 rfl)) (by decide) (t := .long) (t' := .int) (by decide) (by decide)))
  have f27 : Fld Z h21 ob "com/example/spillway/spillway/split/PriorityLevel" "healthyWeight" "J" (.long (0 : Int64)) := f19.other W21 (Or.inr (slot_ne (Or.inr (wdx hw 24 rfl)) (Or.inr (wdx hw 20 rfl)) (by decide) (t := .long) (t' := .int) (by decide) (by decide)))
  have f28 : Fld Z h21 ob "com/example/spillway/spillway/split/PriorityLevel" "degradedWeight" "J" (.long (0 : Int64)) := f20.other W21 (Or.inr (slot_ne (Or.inr (wdx hw 26 rfl)) (Or.inr (wdx hw 20 rfl)) (by decide) (t := .long) (t' := .int) (by decide) (by decide)))
  have O21 : Old Z n0 h21 := O13.wr W21 g_o
  have N21 := Fr.snoc X21 N13 g_o
  have K21 : Keep h0 h21 [ob] := K13.wr W21 (Or.inl (by simp))
  show Go p e below s _ _ _ (T21.setTop (mkF m 129 #[.val (.ref ob), .val (.int uo), .val (.int uh), .val (.int ud), .val (.long wo), .second, .val (.long wh), .second, .val (.long wd), .second] []))
  refine Go.st (fun _ k' => XS.aloadN X21.here hx rfl (hb hby d1_129) rfl rfl k') ?_
  show Go p e below s _ _ _ (T21.setTop (mkF m 130 #[.val (.ref ob), .val (.int uo), .val (.int uh), .val (.int ud), .val (.long wo), .second, .val (.long wh), .second, .val (.long wd), .second] [(.ref ob)]))
  refine Go.st (fun _ k' => XS.lload X21.here hx rfl (hb hby d1_130) rfl k') ?_
  show Go p e below s _ _ _ (T21.setTop (mkF m 132 #[.val (.ref ob), .val (.int uo), .val (.int uh), .val (.int ud), .val (.long wo), .second, .val (.long wh), .second, .val (.long wd), .second] [(.long wo), (.ref ob)]))
  obtain ⟨T29, h29, X29, e29, W29, st29⟩ := putF X21 hx hZ hown (host := "") (Or.inl (wdx hw 21 rfl)) Via.refl e21 f26 f22 (Or.inr ⟨(wdx hw 22 rfl), rfl, hnm⟩) (wdx hw 3 rfl) (ty := .long) (by decide) rfl rfl (g := (mkF m 132 #[.val (.ref ob), .val (.int uo), .val (.int uh), .val (.int ud), .val (.long wo), .second, .val (.long wh), .second, .val (.long wd), .second] [(.long wo), (.ref ob)])) rfl rfl (hb hby d1_132)
  refine Go.st st29 ?_
  have f30 : Exa Z h29 ob "com/example/spillway/spillway/split/PriorityLevel" := f22.wr W29
  have f31 : Fld Z h29 ob "com/example/spillway/spillway/split/PriorityLevel" "hosts" "I" (.int uo) := f23.other W29 (Or.inr (slot_ne (Or.inr (wdx hw 16 rfl)) (Or.inr (wdx hw 22 rfl)) (by decide) (t := .int) (t' := .long) (by decide) (by decide)))
  have f32 : Fld Z h29 ob "com/example/spillway/spillway/split/PriorityLevel" "healthy" "I" (.int uh) := f24.other W29 (Or.inr (slot_ne (Or.inr (wdx hw 18 rfl)) (Or.inr (wdx hw 22 rfl)) (by decide) (t := .int) (t' := .long) (by decide) (by decide)))
  have f33 : Fld Z h29 ob "com/example/spillway/spillway/split/PriorityLevel" "degraded" "I" (.int ud) := f25.other W29 (Or.inr (slot_ne (Or.inr (wdx hw 20 rfl)) (Or.inr (wdx hw 22 rfl)) (by decide) (t := .int) (t' := .long) (by decide) (by decide)))
  have f34 : Fld Z h29 ob "com/example/spillway/spillway/split/PriorityLevel" "hostWeight" "J" (.long wo) := f26.same W29
  have f35 : Fld Z h29 ob "com/example/spillway/spillway/split/PriorityLevel" "healthyWeight" "J" (.long (0 : Int64)) := f27.other W29 (Or.inr (slot_ne (Or.inr (wdx hw 24 rfl)) (Or.inr (wdx hw 22 rfl)) (by decide) (t := .long) (t' := .long) (by decide) (by decide)))
  have f36 : Fld Z h29 ob "com/example/spillway/spillway/split/PriorityLevel" "degradedWeight" "J" (.long (0 : Int64)) := f28.other W29 (Or.inr (slot_ne (Or.inr (wdx hw 26 rfl)) (Or.inr (wdx hw 22 rfl)) (by decide) (t := .long) (t' := .long) (by decide) (by decide)))
  have O29 : Old Z n0 h29 := O21.wr W29 g_o
  have N29 := Fr.snoc X29 N21 g_o
  have K29 : Keep h0 h29 [ob] := K21.wr W29 (Or.inl (by simp))
  show Go p e below s _ _ _ (T29.setTop (mkF m 135 #[.val (.ref ob), .val (.int uo), .val (.int uh), .val (.int ud), .val (.long wo), .second, .val (.long wh), .second, .val (.long wd), .second] []))
  refine Go.st (fun _ k' => XS.aloadN X29.here hx rfl (hb hby d1_135) rfl rfl k') ?_
  show Go p e below s _ _ _ (T29.setTop (mkF m 136 #[.val (.ref ob), .val (.int uo), .val (.int uh), .val (.int ud), .val (.long wo), .second, .val (.long wh), .second, .val (.long wd), .second] [(.ref ob)]))
  refine Go.st (fun _ k' => XS.lload X29.here hx rfl (hb hby d1_136) rfl k') ?_
  show Go p e below s _ _ _ (T29.setTop (mkF m 138 #[.val (.ref ob), .val (.int uo), .val (.int uh), .val (.int ud), .val (.long wo), .second, .val (.long wh), .second, .val (.long wd), .second] [(.long wh), (.ref ob)]))
  obtain ⟨T37, h37, X37, e37, W37, st37⟩ := putF X29 hx hZ hown (host := "") (Or.inl (wdx hw 23 rfl)) Via.refl e29 f35 f30 (Or.inr ⟨(wdx hw 24 rfl), rfl, hnm⟩) (wdx hw 3 rfl) (ty := .long) (by decide) rfl rfl (g := (mkF m 138 #[.val (.ref ob), .val (.int uo), .val (.int uh), .val (.int ud), .val (.long wo), .second, .val (.long wh), .second, .val (.long wd), .second] [(.long wh), (.ref ob)])) rfl rfl (hb hby d1_138)
  refine Go.st st37 ?_
  have f38 : Exa Z h37 ob "com/example/spillway/spillway/split/PriorityLevel" := f30.wr W37
  have f39 : Fld Z h37 ob "com/example/spillway/spillway/split/PriorityLevel" "hosts" "I" (.int uo) := f31.other W37 (Or.inr (slot_ne (Or.inr (wdx hw 16 rfl)) (Or.inr (wdx hw 24 rfl)) (by decide) (t := .int) (t' := .long) (by decide) (by decide)))
  have f40 : Fld Z h37 ob "com/example/spillway/spillway/split/PriorityLevel" "healthy" "I" (.int uh) := f32.other W37 (Or.inr (slot_ne (Or.inr (wdx hw 18 rfl)) (Or.inr (wdx hw 24 rfl)) (by decide) (t := .int) (t' := .long) (by decide) (by decide)))
  have f41 : Fld Z h37 ob "com/example/spillway/spillway/split/PriorityLevel" "degraded" "I" (.int ud) := f33.other W37 (Or.inr (slot_ne (Or.inr (wdx hw 20 rfl)) (Or.inr (wdx hw 24 rfl)) (by decide) (t := .int) (t' := .long) (by decide) (by decide)))
  have f42 : Fld Z h37 ob "com/example/spillway/spillway/split/PriorityLevel" "hostWeight" "J" (.long wo) := f34.other W37 (Or.inr (slot_ne (Or.inr (wdx hw 22 rfl)) (Or.inr (wdx hw 24 rfl)) (by decide) (t := .long) (t' := .long) (by decide) (by decide)))
  have f43 : Fld Z h37 ob "com/example/spillway/spillway/split/PriorityLevel" "healthyWeight" "J" (.long wh) := f35.same W37
  have f44 : Fld Z h37 ob "com/example/spillway/spillway/split/PriorityLevel" "degradedWeight" "J" (.long (0 : Int64)) := f36.other W37 (Or.inr (slot_ne (Or.inr (wdx hw 26 rfl)) (Or.inr (wdx hw 24 rfl)) (by decide) (t := .long) (t' := .long) (by decide) (by decide)))
  have O37 : Old Z n0 h37 := O29.wr W37 g_o
  have N37 := Fr.snoc X37 N29 g_o
  have K37 : Keep h0 h37 [ob] := K29.wr W37 (Or.inl (by simp))
  show Go p e below s _ _ _ (T37.setTop (mkF m 141 #[.val (.ref ob), .val (.int uo), .val (.int uh), .val (.int ud), .val (.long wo), .second, .val (.long wh), .second, .val (.long wd), .second] []))
  refine Go.st (fun _ k' => XS.aloadN X37.here hx rfl (hb hby d1_141) rfl rfl k') ?_
  show Go p e below s _ _ _ (T37.setTop (mkF m 142 #[.val (.ref ob), .val (.int uo), .val (.int uh), .val (.int ud), .val (.long wo), .second, .val (.long wh), .second, .val (.long wd), .second] [(.ref ob)]))
  refine Go.st (fun _ k' => XS.lload X37.here hx rfl (hb hby d1_142) rfl k') ?_
  show Go p e below s _ _ _ (T37.setTop (mkF m 144 #[.val (.ref ob), .val (.int uo), .val (.int uh), .val (.int ud), .val (.long wo), .second, .val (.long wh), .second, .val (.long wd), .second] [(.long wd), (.ref ob)]))
  obtain ⟨T45, h45, X45, e45, W45, st45⟩ := putF X37 hx hZ hown (host := "") (Or.inl (wdx hw 25 rfl)) Via.refl e37 f44 f38 (Or.inr ⟨(wdx hw 26 rfl), rfl, hnm⟩) (wdx hw 3 rfl) (ty := .long) (by decide) rfl rfl (g := (mkF m 144 #[.val (.ref ob), .val (.int uo), .val (.int uh), .val (.int ud), .val (.long wo), .second, .val (.long wh), .second, .val (.long wd), .second] [(.long wd), (.ref ob)])) rfl rfl (hb hby d1_144)
  refine Go.st st45 ?_
  have f46 : Exa Z h45 ob "com/example/spillway/spillway/split/PriorityLevel" := f38.wr W45
  have f47 : Fld Z h45 ob "com/example/spillway/spillway/split/PriorityLevel" "hosts" "I" (.int uo) := f39.other W45 (Or.inr (slot_ne (Or.inr (wdx hw 16 rfl)) (Or.inr (wdx hw 26 rfl)) (by decide) (t := .int) (t' := .long) (by decide) (by decide)))
  have f48 : Fld Z h45 ob "com/example/spillway/spillway/split/PriorityLevel" "healthy" "I" (.int uh) := f40.other W45 (Or.inr (slot_ne (Or.inr (wdx hw 18 rfl)) (Or.inr (wdx hw 26 rfl)) (by decide) (t := .int) (t' := .long) (by decide) (by decide)))
  have f49 : Fld Z h45 ob "com/example/spillway/spillway/split/PriorityLevel" "degraded" "I" (.int ud) := f41.other W45 (Or.inr (slot_ne (Or.inr (wdx hw 20 rfl)) (Or.inr (wdx hw 26 rfl)) (by decide) (t := .int) (t' := .long) (by decide) (by decide)))
  have f50 : Fld Z h45 ob "com/example/spillway/spillway/split/PriorityLevel" "hostWeight" "J" (.long wo) := f42.other W45 (Or.inr (slot_ne (Or.inr (wdx hw 22 rfl)) (Or.inr (wdx hw 26 rfl)) (by decide) (t := .long) (t' := .long) (by decide) (by decide)))
  have f51 : Fld Z h45 ob "com/example/spillway/spillway/split/PriorityLevel" "healthyWeight" "J" (.long wh) := f43.other W45 (Or.inr (slot_ne (Or.inr (wdx hw 24 rfl)) (Or.inr (wdx hw 26 rfl)) (by decide) (t := .long) (t' := .long) (by decide) (by decide)))
  have f52 : Fld Z h45 ob "com/example/spillway/spillway/split/PriorityLevel" "degradedWeight" "J" (.long wd) := f44.same W45
  have O45 : Old Z n0 h45 := O37.wr W45 g_o
  have N45 := Fr.snoc X45 N37 g_o
  have K45 : Keep h0 h45 [ob] := K37.wr W45 (Or.inl (by simp))
  show Go p e below s _ _ _ (T45.setTop (mkF m 147 #[.val (.ref ob), .val (.int uo), .val (.int uh), .val (.int ud), .val (.long wo), .second, .val (.long wh), .second, .val (.long wd), .second] []))
  refine Go.retV X45 hx hlk Bd.returns (hb hby d1_147) (by decide) (by decide) e45 ?_
  exact ⟨rfl, N45, K45, f47, f48, f49, f50, f51, f52⟩
theorem d4_0 : decode prog_30_method_6_code 0 = .ok (.aload_n 0, 1) := by decide +kernel
theorem d4_1 : decode prog_30_method_6_code 1 = .ok (.getfield 32, 3) := by decide +kernel
theorem d4_4 : decode prog_30_method_6_code 4 = .ok (.ifCond .ne 13, 3) := by decide +kernel
theorem d4_7 : decode prog_30_method_6_code 7 = .ok (.iload_n 1, 1) := by decide +kernel
theorem d4_8 : decode prog_30_method_6_code 8 = .ok (.ifCond .le 7, 3) := by decide +kernel
theorem d4_11 : decode prog_30_method_6_code 11 = .ok (.iconst 1, 1) := by decide +kernel
theorem d4_12 : decode prog_30_method_6_code 12 = .ok (.goto 4, 3) := by decide +kernel
theorem d4_16 : decode prog_30_method_6_code 16 = .ok (.ireturn, 1) := by decide +kernel
theorem d4_15 : decode prog_30_method_6_code 15 = .ok (.iconst 0, 1) := by decide +kernel
theorem d4_17 : decode prog_30_method_6_code 17 = .ok (.aload_n 0, 1) := by decide +kernel
theorem d4_18 : decode prog_30_method_6_code 18 = .ok (.getfield 36, 3) := by decide +kernel
theorem d4_21 : decode prog_30_method_6_code 21 = .ok (.i2l, 1) := by decide +kernel
theorem d4_22 : decode prog_30_method_6_code 22 = .ok (.aload_n 0, 1) := by decide +kernel
theorem d4_23 : decode prog_30_method_6_code 23 = .ok (.getfield 39, 3) := by decide +kernel
theorem d4_26 : decode prog_30_method_6_code 26 = .ok (.i2l, 1) := by decide +kernel
theorem d4_27 : decode prog_30_method_6_code 27 = .ok (.ladd, 1) := by decide +kernel
theorem d4_28 : decode prog_30_method_6_code 28 = .ok (.ldc2_w 100, 3) := by decide +kernel
theorem d4_31 : decode prog_30_method_6_code 31 = .ok (.lmul, 1) := by decide +kernel
theorem d4_32 : decode prog_30_method_6_code 32 = .ok (.iload_n 1, 1) := by decide +kernel
theorem d4_33 : decode prog_30_method_6_code 33 = .ok (.i2l, 1) := by decide +kernel
theorem d4_34 : decode prog_30_method_6_code 34 = .ok (.aload_n 0, 1) := by decide +kernel
theorem d4_35 : decode prog_30_method_6_code 35 = .ok (.getfield 32, 3) := by decide +kernel
theorem d4_38 : decode prog_30_method_6_code 38 = .ok (.i2l, 1) := by decide +kernel
theorem d4_39 : decode prog_30_method_6_code 39 = .ok (.lmul, 1) := by decide +kernel
theorem d4_40 : decode prog_30_method_6_code 40 = .ok (.lcmp, 1) := by decide +kernel
theorem d4_41 : decode prog_30_method_6_code 41 = .ok (.ifCond .ge 7, 3) := by decide +kernel
theorem d4_44 : decode prog_30_method_6_code 44 = .ok (.iconst 1, 1) := by decide +kernel
theorem d4_45 : decode prog_30_method_6_code 45 = .ok (.goto 4, 3) := by decide +kernel
theorem d4_49 : decode prog_30_method_6_code 49 = .ok (.ireturn, 1) := by decide +kernel
theorem d4_48 : decode prog_30_method_6_code 48 = .ok (.iconst 0, 1) := by decide +kernel
theorem ef_rm4 (m : MethodId) (ob : Addr) (pp : Int32) : entryFrame m #[(.ref ob), (.int pp)] 2 = mkF m 0 #[.val (.ref ob), .val (.int pp)] [] := by first | (simp [entryFrame, mkF, argsToLocals, Value.category]; done) | rfl
def Q4 (Z : State) (ob : Addr) (pp : Int32) (uo : Int32) (uh : Int32) (ud : Int32) (h0 : Heap) (n0 : Nat) (v : Option Value) (h : Heap) (L : List Loc) : Prop := v = some (.int (fav uo uh ud pp)) ∧ Fr n0 L ∧ h = h0
set_option maxRecDepth 65536 in
set_option maxHeartbeats 40000000 in
theorem rm4 (l : Launch) (Z : State) (a0 : Array Value) (hw : ∀ d ∈ tables_1, d.before a0 Z = true) (ws : List Jvm.Cond) (ob : Addr) (pp : Int32) (uo : Int32) (uh : Int32) (ud : Int32) (h0 : Heap) (n0 : Nat) (O0 : Old Z n0 h0) (F0 : Fld Z h0 ob "com/example/spillway/spillway/split/PriorityLevel" "hosts" "I" (.int uo)) (F1 : Fld Z h0 ob "com/example/spillway/spillway/split/PriorityLevel" "healthy" "I" (.int uh)) (F2 : Fld Z h0 ob "com/example/spillway/spillway/split/PriorityLevel" "degraded" "I" (.int ud)) :
    MetFree l (⟨"com/example/spillway/spillway/split/PriorityLevel", "isAvailabilityBelow", "(I)Z"⟩ : MethodName) (head1 (Jvm.Cond.code (⟨"com/example/spillway/spillway/split/PriorityLevel", "isAvailabilityBelow", "(I)Z"⟩ : MethodName) prog_30_method_6_code 2 (some .boolean) :: ws) ({ frames := 0, cells := 0, slots := 0, locals := 0 } : Room)) (fun ay U => ay = #[(.ref ob), (.int pp)] ∧ Z.Warmed39 U.vm ∧ U.heap = h0) (fun _ _ _ _ _ => True) (fun _ U o U' => ∃ v L, o = .returned v ∧ Q4 Z ob pp uo uh ud h0 n0 v U'.heap L ∧ FrameEnd U o U' L ({ frames := 0, cells := 0, slots := 0, locals := 0 } : Room).cells ({ frames := 0, cells := 0, slots := 0, locals := 0 } : Room).slots) := by
  refine MetFree.of_bodySF (plainFor_of_name pn_com_example_spillway_spillway_split_PriorityLevel) hisR ?_
  intro p e s m args below meth c s₁ Bd hml0 hP hK
  obtain ⟨rfl, hZ, hh⟩ := hP
  have hx := Bd.exec
  have hby := Bd.bytes
  have hlk : meth.locks = false := BodyLoose.notSynchronized Bd
  have hml : c.maxLocals = 2 := hml0
  have hown : s.vm.findClass "com/example/spillway/spillway/split/PriorityLevel" = some m.cls := findClass_of_methodNamed Bd.named
  have hnm := (name_of_methodNamed Bd.named Bd.method).1
  have X0 : Stand p l e ({ frames := 0, cells := 0, slots := 0, locals := 0 } : Room) s m #[(.ref ob), (.int pp)] below meth c s₁ [] 0 0 := Stand.of_body Bd
  have e0 : s₁.heap = h0 := by rw [← hh, Bd.state]; rfl
  have N0 := Fr.nil n0
  suffices hgo : Go p e below s 0 0 (Q4 Z ob pp uo uh ud h0 n0) (s₁.setTop (mkF m 0 #[.val (.ref ob), .val (.int pp)] [])) by
    obtain ⟨t, o, h1, h2⟩ := hgo; exact ⟨t, o, castTop (ef_rm4 m ob pp) h1, h2⟩
  show Go p e below s _ _ _ (s₁.setTop (mkF m 0 #[.val (.ref ob), .val (.int pp)] []))
  refine Go.st (fun _ k' => XS.aloadN X0.here hx rfl (hb hby d4_0) rfl rfl k') ?_
  show Go p e below s _ _ _ (s₁.setTop (mkF m 1 #[.val (.ref ob), .val (.int pp)] [(.ref ob)]))
  obtain ⟨T1, X1, e1, st1⟩ := getF X0 hx hZ hown (host := "") (Or.inl (wdx hw 15 rfl)) Via.refl e0 F0 (g := (mkF m 1 #[.val (.ref ob), .val (.int pp)] [(.ref ob)])) rfl rfl (hb hby d4_1)
  refine Go.st st1 ?_
  show Go p e below s _ _ _ (T1.setTop (mkF m 4 #[.val (.ref ob), .val (.int pp)] [(.int uo)]))
  by_cases hc2 : uo = (0 : Int32)
  · refine Go.st (fun _ k' => XS.ifNo X1.here hx rfl (hb hby d4_4) rfl (XT.i0_ne_f hc2) k') ?_
    show Go p e below s _ _ _ (T1.setTop (mkF m 7 #[.val (.ref ob), .val (.int pp)] []))
    refine Go.st (fun _ k' => XS.iloadN X1.here hx rfl (hb hby d4_7) rfl k') ?_
    show Go p e below s _ _ _ (T1.setTop (mkF m 8 #[.val (.ref ob), .val (.int pp)] [(.int pp)]))
    by_cases hc3 : (0 : Int32) < pp
    · refine Go.st (fun _ k' => XS.ifNo X1.here hx rfl (hb hby d4_8) rfl (XT.i0_le_f hc3) k') ?_
      show Go p e below s _ _ _ (T1.setTop (mkF m 11 #[.val (.ref ob), .val (.int pp)] []))
      refine Go.st (fun _ k' => XS.iconst X1.here hx rfl (hb hby d4_11) k') ?_
      show Go p e below s _ _ _ (T1.setTop (mkF m 12 #[.val (.ref ob), .val (.int pp)] [(.int (1 : Int32))]))
      refine Go.st (fun _ k' => XS.goto X1.here hx rfl (pc0 := 12) (pc' := 16) rfl (hb hby d4_12) (by decide) (by decide) k') ?_
      show Go p e below s _ _ _ (T1.setTop (mkF m 16 #[.val (.ref ob), .val (.int pp)] [(.int (1 : Int32))]))
      refine Go.retB X1 hx hlk (t := .boolean) Bd.returns (by simp) (hb hby d4_16) (by decide) (by decide) e1 ?_
      exact ⟨(by simp [fav, nar, hc2, hc3]), N0, rfl⟩
    · refine Go.st (fun _ k' => XS.ifYes X1.here hx rfl (pc0 := 8) (pc' := 15) rfl (hb hby d4_8) rfl (XT.i0_le_t hc3) (by decide) (by decide) k') ?_
      show Go p e below s _ _ _ (T1.setTop (mkF m 15 #[.val (.ref ob), .val (.int pp)] []))
      refine Go.st (fun _ k' => XS.iconst X1.here hx rfl (hb hby d4_15) k') ?_
      show Go p e below s _ _ _ (T1.setTop (mkF m 16 #[.val (.ref ob), .val (.int pp)] [(.int (0 : Int32))]))
      refine Go.retB X1 hx hlk (t := .boolean) Bd.returns (by simp) (hb hby d4_16) (by decide) (by decide) e1 ?_
      exact ⟨(by simp [fav, nar, hc2, hc3]), N0, rfl⟩
  · refine Go.st (fun _ k' => XS.ifYes X1.here hx rfl (pc0 := 4) (pc' := 17) rfl (hb hby d4_4) rfl (XT.i0_ne_t hc2) (by decide) (by decide) k') ?_
    show Go p e below s _ _ _ (T1.setTop (mkF m 17 #[.val (.ref ob), .val (.int pp)] []))
    refine Go.st (fun _ k' => XS.aloadN X1.here hx rfl (hb hby d4_17) rfl rfl k') ?_
    show Go p e below s _ _ _ (T1.setTop (mkF m 18 #[.val (.ref ob), .val (.int pp)] [(.ref ob)]))
    obtain ⟨T4, X4, e4, st4⟩ := getF X1 hx hZ hown (host := "") (Or.inl (wdx hw 17 rfl)) Via.refl e1 F1 (g := (mkF m 18 #[.val (.ref ob), .val (.int pp)] [(.ref ob)])) rfl rfl (hb hby d4_18)
    refine Go.st st4 ?_
    show Go p e below s _ _ _ (T4.setTop (mkF m 21 #[.val (.ref ob), .val (.int pp)] [(.int uh)]))
    refine Go.st (fun _ k' => XS.i2l X4.here hx rfl (hb hby d4_21) rfl k') ?_
    show Go p e below s _ _ _ (T4.setTop (mkF m 22 #[.val (.ref ob), .val (.int pp)] [(.long (uh.toInt64))]))
    refine Go.st (fun _ k' => XS.aloadN X4.here hx rfl (hb hby d4_22) rfl rfl k') ?_
    show Go p e below s _ _ _ (T4.setTop (mkF m 23 #[.val (.ref ob), .val (.int pp)] [(.ref ob), (.long (uh.toInt64))]))
    obtain ⟨T5, X5, e5, st5⟩ := getF X4 hx hZ hown (host := "") (Or.inl (wdx hw 19 rfl)) Via.refl e4 F2 (g := (mkF m 23 #[.val (.ref ob), .val (.int pp)] [(.ref ob), (.long (uh.toInt64))])) rfl rfl (hb hby d4_23)
    refine Go.st st5 ?_
    show Go p e below s _ _ _ (T5.setTop (mkF m 26 #[.val (.ref ob), .val (.int pp)] [(.int ud), (.long (uh.toInt64))]))
    refine Go.st (fun _ k' => XS.i2l X5.here hx rfl (hb hby d4_26) rfl k') ?_
    show Go p e below s _ _ _ (T5.setTop (mkF m 27 #[.val (.ref ob), .val (.int pp)] [(.long (ud.toInt64)), (.long (uh.toInt64))]))
    refine Go.st (fun _ k' => XS.ladd X5.here hx rfl (hb hby d4_27) rfl k') ?_
    show Go p e below s _ _ _ (T5.setTop (mkF m 28 #[.val (.ref ob), .val (.int pp)] [(.long ((uh.toInt64) + (ud.toInt64)))]))
    refine Go.st (fun _ k' => X5.ldc2J hx hown (mvT hZ (wdx hw 32 rfl)) rfl (hb hby d4_28) k') ?_
    show Go p e below s _ _ _ (T5.setTop (mkF m 31 #[.val (.ref ob), .val (.int pp)] [(.long (100 : Int64)), (.long ((uh.toInt64) + (ud.toInt64)))]))
    refine Go.st (fun _ k' => XS.lmul X5.here hx rfl (hb hby d4_31) rfl k') ?_
    show Go p e below s _ _ _ (T5.setTop (mkF m 32 #[.val (.ref ob), .val (.int pp)] [(.long (((uh.toInt64) + (ud.toInt64)) * (100 : Int64)))]))
    refine Go.st (fun _ k' => XS.iloadN X5.here hx rfl (hb hby d4_32) rfl k') ?_
    show Go p e below s _ _ _ (T5.setTop (mkF m 33 #[.val (.ref ob), .val (.int pp)] [(.int pp), (.long (((uh.toInt64) + (ud.toInt64)) * (100 : Int64)))]))
    refine Go.st (fun _ k' => XS.i2l X5.here hx rfl (hb hby d4_33) rfl k') ?_
    show Go p e below s _ _ _ (T5.setTop (mkF m 34 #[.val (.ref ob), .val (.int pp)] [(.long (pp.toInt64)), (.long (((uh.toInt64) + (ud.toInt64)) * (100 : Int64)))]))
    refine Go.st (fun _ k' => XS.aloadN X5.here hx rfl (hb hby d4_34) rfl rfl k') ?_
    show Go p e below s _ _ _ (T5.setTop (mkF m 35 #[.val (.ref ob), .val (.int pp)] [(.ref ob), (.long (pp.toInt64)), (.long (((uh.toInt64) + (ud.toInt64)) * (100 : Int64)))]))
    obtain ⟨T6, X6, e6, st6⟩ := getF X5 hx hZ hown (host := "") (Or.inl (wdx hw 15 rfl)) Via.refl e5 F0 (g := (mkF m 35 #[.val (.ref ob), .val (.int pp)] [(.ref ob), (.long (pp.toInt64)), (.long (((uh.toInt64) + (ud.toInt64)) * (100 : Int64)))])) rfl rfl (hb hby d4_35)
    refine Go.st st6 ?_
    show Go p e below s _ _ _ (T6.setTop (mkF m 38 #[.val (.ref ob), .val (.int pp)] [(.int uo), (.long (pp.toInt64)), (.long (((uh.toInt64) + (ud.toInt64)) * (100 : Int64)))]))
    refine Go.st (fun _ k' => XS.i2l X6.here hx rfl (hb hby d4_38) rfl k') ?_
    show Go p e below s _ _ _ (T6.setTop (mkF m 39 #[.val (.ref ob), .val (.int pp)] [(.long (uo.toInt64)), (.long (pp.toInt64)), (.long (((uh.toInt64) + (ud.toInt64)) * (100 : Int64)))]))
    refine Go.st (fun _ k' => XS.lmul X6.here hx rfl (hb hby d4_39) rfl k') ?_
    show Go p e below s _ _ _ (T6.setTop (mkF m 40 #[.val (.ref ob), .val (.int pp)] [(.long ((pp.toInt64) * (uo.toInt64))), (.long (((uh.toInt64) + (ud.toInt64)) * (100 : Int64)))]))
    refine Go.st (fun _ k' => XT.lcmp X6.here hx rfl (hb hby d4_40) rfl k') ?_
    show Go p e below s _ _ _ (T6.setTop (mkF m 41 #[.val (.ref ob), .val (.int pp)] [(.int (XT.cmpL (((uh.toInt64) + (ud.toInt64)) * (100 : Int64)) ((pp.toInt64) * (uo.toInt64))))]))
    by_cases hc7 : (((uh.toInt64) + (ud.toInt64)) * (100 : Int64)) < ((pp.toInt64) * (uo.toInt64))
    · refine Go.st (fun _ k' => XS.ifNo X6.here hx rfl (hb hby d4_41) rfl (XT.ll_ge_f hc7) k') ?_
      show Go p e below s _ _ _ (T6.setTop (mkF m 44 #[.val (.ref ob), .val (.int pp)] []))
      refine Go.st (fun _ k' => XS.iconst X6.here hx rfl (hb hby d4_44) k') ?_
      show Go p e below s _ _ _ (T6.setTop (mkF m 45 #[.val (.ref ob), .val (.int pp)] [(.int (1 : Int32))]))
      refine Go.st (fun _ k' => XS.goto X6.here hx rfl (pc0 := 45) (pc' := 49) rfl (hb hby d4_45) (by decide) (by decide) k') ?_
      show Go p e below s _ _ _ (T6.setTop (mkF m 49 #[.val (.ref ob), .val (.int pp)] [(.int (1 : Int32))]))
      refine Go.retB X6 hx hlk (t := .boolean) Bd.returns (by simp) (hb hby d4_49) (by decide) (by decide) e6 ?_
      exact ⟨(by simp [fav, nar, hc2, hc7]), N0, rfl⟩
    · refine Go.st (fun _ k' => XS.ifYes X6.here hx rfl (pc0 := 41) (pc' := 48) rfl (hb hby d4_41) rfl (XT.ll_ge_t hc7) (by decide) (by decide) k') ?_
      show Go p e below s _ _ _ (T6.setTop (mkF m 48 #[.val (.ref ob), .val (.int pp)] []))
      refine Go.st (fun _ k' => XS.iconst X6.here hx rfl (hb hby d4_48) k') ?_
      show Go p e below s _ _ _ (T6.setTop (mkF m 49 #[.val (.ref ob), .val (.int pp)] [(.int (0 : Int32))]))
      refine Go.retB X6 hx hlk (t := .boolean) Bd.returns (by simp) (hb hby d4_49) (by decide) (by decide) e6 ?_
      exact ⟨(by simp [fav, nar, hc2, hc7]), N0, rfl⟩
theorem pd__IIIJJJ_V : parseMethodDescriptor "(IIIJJJ)V" = some ⟨[.int, .int, .int, .long, .long, .long], none⟩ := by decide +kernel
theorem pd__I_Z : parseMethodDescriptor "(I)Z" = some ⟨[.int], some .boolean⟩ := by decide +kernel
theorem pn_com_example_spillway_spillway_split_PriorityLevelIsAvailabilityBelowPinLaw : plainName "com/example/spillway/spillway/split/PriorityLevelIsAvailabilityBelowPinLaw" = true := by first | (simp [plainName, overriddenIn]; done) | decide +kernel
theorem ef_rm0 (m : MethodId) (uhh : Int32) (ua : Int32) (ub : Int32) (pp : Int32) (uw : Int32) : entryFrame m #[(.int uhh), (.int ua), (.int ub), (.int pp), (.int uw)] maxLocals = mkF m 0 #[.val (.int uhh), .val (.int ua), .val (.int ub), .val (.int pp), .val (.int uw), .unset, .unset, .unset, .unset, .unset, .unset, .unset, .unset, .unset, .unset, .unset, .unset] [] := by first | (simp [entryFrame, mkF, argsToLocals, Value.category, maxLocals]; done) | rfl
def Q0 (Z : State) (uhh : Int32) (ua : Int32) (ub : Int32) (pp : Int32) (uw : Int32) (h0 : Heap) (n0 : Nat) (v : Option Value) (h : Heap) (L : List Loc) : Prop := v = some (.int (1 : Int32)) ∧ Fr n0 L ∧ True
set_option maxRecDepth 65536 in
set_option maxHeartbeats 40000000 in
theorem rm0 (l : Launch) (Z : State) (a0 : Array Value) (hw : ∀ d ∈ tables_1, d.before a0 Z = true) (ws : List Jvm.Cond) (uhh : Int32) (ua : Int32) (ub : Int32) (pp : Int32) (uw : Int32) (h0 : Heap) (n0 : Nat) (O0 : Old Z n0 h0) :
    MetFree l x (head1 (Jvm.Cond.code x code maxLocals ret :: ws) room_1) (fun ay U => ay = #[(.int uhh), (.int ua), (.int ub), (.int pp), (.int uw)] ∧ Z.Warmed39 U.vm ∧ U.heap = h0) (fun _ _ _ _ _ => True) (fun _ U o U' => ∃ v L, o = .returned v ∧ Q0 Z uhh ua ub pp uw h0 n0 v U'.heap L ∧ FrameEnd U o U' L room_1.cells room_1.slots) := by
  refine MetFree.of_bodySF (plainFor_of_name pn_com_example_spillway_spillway_split_PriorityLevelIsAvailabilityBelowPinLaw) hisR ?_
  intro p e s m args below meth c s₁ Bd hml0 hP hK
  obtain ⟨rfl, hZ, hh⟩ := hP
  have hx := Bd.exec
  have hby := Bd.bytes
  have hlk : meth.locks = false := BodyLoose.notSynchronized Bd
  have hml : c.maxLocals = 17 := hml0
  have hown : s.vm.findClass "com/example/spillway/spillway/split/PriorityLevelIsAvailabilityBelowPinLaw" = some m.cls := findClass_of_methodNamed Bd.named
  have hnm := (name_of_methodNamed Bd.named Bd.method).1
  have X0 : Stand p l e room_1 s m #[(.int uhh), (.int ua), (.int ub), (.int pp), (.int uw)] below meth c s₁ [] 0 0 := Stand.of_body Bd
  have e0 : s₁.heap = h0 := by rw [← hh, Bd.state]; rfl
  have N0 := Fr.nil n0
  suffices hgo : Go p e below s 16 128 (Q0 Z uhh ua ub pp uw h0 n0) (s₁.setTop (mkF m 0 #[.val (.int uhh), .val (.int ua), .val (.int ub), .val (.int pp), .val (.int uw), .unset, .unset, .unset, .unset, .unset, .unset, .unset, .unset, .unset, .unset, .unset, .unset] [])) by
    obtain ⟨t, o, h1, h2⟩ := hgo; exact ⟨t, o, castTop (ef_rm0 m uhh ua ub pp uw) h1, h2⟩
  show Go p e below s _ _ _ (s₁.setTop (mkF m 0 #[.val (.int uhh), .val (.int ua), .val (.int ub), .val (.int pp), .val (.int uw), .unset, .unset, .unset, .unset, .unset, .unset, .unset, .unset, .unset, .unset, .unset, .unset] []))
  refine Go.st (fun _ k' => XS.iloadN X0.here hx rfl (hb hby at_0) rfl k') ?_
  show Go p e below s _ _ _ (s₁.setTop (mkF m 1 #[.val (.int uhh), .val (.int ua), .val (.int ub), .val (.int pp), .val (.int uw), .unset, .unset, .unset, .unset, .unset, .unset, .unset, .unset, .unset, .unset, .unset, .unset] [(.int uhh)]))
  refine Go.st (fun _ k' => X0.ldcI hx hown (mvT hZ (wdx hw 0 rfl)) rfl (hb hby at_1) k') ?_
  show Go p e below s _ _ _ (s₁.setTop (mkF m 3 #[.val (.int uhh), .val (.int ua), .val (.int ub), .val (.int pp), .val (.int uw), .unset, .unset, .unset, .unset, .unset, .unset, .unset, .unset, .unset, .unset, .unset, .unset] [(.int (2147483647 : Int32)), (.int uhh)]))
  refine Go.st (fun _ k' => XS.iand X0.here hx rfl (hb hby at_3) rfl k') ?_
  show Go p e below s _ _ _ (s₁.setTop (mkF m 4 #[.val (.int uhh), .val (.int ua), .val (.int ub), .val (.int pp), .val (.int uw), .unset, .unset, .unset, .unset, .unset, .unset, .unset, .unset, .unset, .unset, .unset, .unset] [(.int (uhh &&& (2147483647 : Int32)))]))
  refine Go.st (fun _ k' => XS.istore X0.here hx rfl (hb hby at_4) rfl (l' := #[.val (.int uhh), .val (.int ua), .val (.int ub), .val (.int pp), .val (.int uw), .val (.int (uhh &&& (2147483647 : Int32))), .unset, .unset, .unset, .unset, .unset, .unset, .unset, .unset, .unset, .unset, .unset]) rfl k') ?_
  show Go p e below s _ _ _ (s₁.setTop (mkF m 6 #[.val (.int uhh), .val (.int ua), .val (.int ub), .val (.int pp), .val (.int uw), .val (.int (uhh &&& (2147483647 : Int32))), .unset, .unset, .unset, .unset, .unset, .unset, .unset, .unset, .unset, .unset, .unset] []))
  obtain ⟨hh, hd_hh⟩ : ∃ z, z = (uhh &&& (2147483647 : Int32)) := ⟨_, rfl⟩
  rw [← hd_hh]
  have bh : 0 ≤ hh.toInt := by rw [hd_hh]; exact own_b _
  refine Go.st (fun _ k' => XS.iloadN X0.here hx rfl (hb hby at_6) rfl k') ?_
  show Go p e below s _ _ _ (s₁.setTop (mkF m 7 #[.val (.int uhh), .val (.int ua), .val (.int ub), .val (.int pp), .val (.int uw), .val (.int hh), .unset, .unset, .unset, .unset, .unset, .unset, .unset, .unset, .unset, .unset, .unset] [(.int ua)]))
  refine Go.st (fun _ k' => XS.i2l X0.here hx rfl (hb hby at_7) rfl k') ?_
  show Go p e below s _ _ _ (s₁.setTop (mkF m 8 #[.val (.int uhh), .val (.int ua), .val (.int ub), .val (.int pp), .val (.int uw), .val (.int hh), .unset, .unset, .unset, .unset, .unset, .unset, .unset, .unset, .unset, .unset, .unset] [(.long (ua.toInt64))]))
  refine Go.st (fun _ k' => X0.ldc2J hx hown (mvT hZ (wdx hw 1 rfl)) rfl (hb hby at_8) k') ?_
  show Go p e below s _ _ _ (s₁.setTop (mkF m 11 #[.val (.int uhh), .val (.int ua), .val (.int ub), .val (.int pp), .val (.int uw), .val (.int hh), .unset, .unset, .unset, .unset, .unset, .unset, .unset, .unset, .unset, .unset, .unset] [(.long (2147483647 : Int64)), (.long (ua.toInt64))]))
  refine Go.st (fun _ k' => XS.land X0.here hx rfl (hb hby at_11) rfl k') ?_
  show Go p e below s _ _ _ (s₁.setTop (mkF m 12 #[.val (.int uhh), .val (.int ua), .val (.int ub), .val (.int pp), .val (.int uw), .val (.int hh), .unset, .unset, .unset, .unset, .unset, .unset, .unset, .unset, .unset, .unset, .unset] [(.long ((ua.toInt64) &&& (2147483647 : Int64)))]))
  refine Go.st (fun _ k' => XS.iload X0.here hx rfl (hb hby at_12) rfl k') ?_
  show Go p e below s _ _ _ (s₁.setTop (mkF m 14 #[.val (.int uhh), .val (.int ua), .val (.int ub), .val (.int pp), .val (.int uw), .val (.int hh), .unset, .unset, .unset, .unset, .unset, .unset, .unset, .unset, .unset, .unset, .unset] [(.int hh), (.long ((ua.toInt64) &&& (2147483647 : Int64)))]))
  refine Go.st (fun _ k' => XS.i2l X0.here hx rfl (hb hby at_14) rfl k') ?_
  show Go p e below s _ _ _ (s₁.setTop (mkF m 15 #[.val (.int uhh), .val (.int ua), .val (.int ub), .val (.int pp), .val (.int uw), .val (.int hh), .unset, .unset, .unset, .unset, .unset, .unset, .unset, .unset, .unset, .unset, .unset] [(.long (hh.toInt64)), (.long ((ua.toInt64) &&& (2147483647 : Int64)))]))
  refine Go.st (fun _ k' => XS.lconst X0.here hx rfl (hb hby at_15) k') ?_
  show Go p e below s _ _ _ (s₁.setTop (mkF m 16 #[.val (.int uhh), .val (.int ua), .val (.int ub), .val (.int pp), .val (.int uw), .val (.int hh), .unset, .unset, .unset, .unset, .unset, .unset, .unset, .unset, .unset, .unset, .unset] [(.long (1 : Int64)), (.long (hh.toInt64)), (.long ((ua.toInt64) &&& (2147483647 : Int64)))]))
  refine Go.st (fun _ k' => XS.ladd X0.here hx rfl (hb hby at_16) rfl k') ?_
  show Go p e below s _ _ _ (s₁.setTop (mkF m 17 #[.val (.int uhh), .val (.int ua), .val (.int ub), .val (.int pp), .val (.int uw), .val (.int hh), .unset, .unset, .unset, .unset, .unset, .unset, .unset, .unset, .unset, .unset, .unset] [(.long ((hh.toInt64) + (1 : Int64))), (.long ((ua.toInt64) &&& (2147483647 : Int64)))]))
  refine Go.st (fun _ k' => XS.lrem X0.here hx rfl (hb hby at_17) rfl (own_nz hh bh) k') ?_
  show Go p e below s _ _ _ (s₁.setTop (mkF m 18 #[.val (.int uhh), .val (.int ua), .val (.int ub), .val (.int pp), .val (.int uw), .val (.int hh), .unset, .unset, .unset, .unset, .unset, .unset, .unset, .unset, .unset, .unset, .unset] [(.long (((ua.toInt64) &&& (2147483647 : Int64)) - (((ua.toInt64) &&& (2147483647 : Int64)) / ((hh.toInt64) + (1 : Int64))) * ((hh.toInt64) + (1 : Int64))))]))
  refine Go.st (fun _ k' => XS.l2i X0.here hx rfl (hb hby at_18) rfl k') ?_
  show Go p e below s _ _ _ (s₁.setTop (mkF m 19 #[.val (.int uhh), .val (.int ua), .val (.int ub), .val (.int pp), .val (.int uw), .val (.int hh), .unset, .unset, .unset, .unset, .unset, .unset, .unset, .unset, .unset, .unset, .unset] [(.int ((((ua.toInt64) &&& (2147483647 : Int64)) - (((ua.toInt64) &&& (2147483647 : Int64)) / ((hh.toInt64) + (1 : Int64))) * ((hh.toInt64) + (1 : Int64))).toInt32))]))
  refine Go.st (fun _ k' => XS.istore X0.here hx rfl (hb hby at_19) rfl (l' := #[.val (.int uhh), .val (.int ua), .val (.int ub), .val (.int pp), .val (.int uw), .val (.int hh), .val (.int ((((ua.toInt64) &&& (2147483647 : Int64)) - (((ua.toInt64) &&& (2147483647 : Int64)) / ((hh.toInt64) + (1 : Int64))) * ((hh.toInt64) + (1 : Int64))).toInt32)), .unset, .unset, .unset, .unset, .unset, .unset, .unset, .unset, .unset, .unset]) rfl k') ?_
  show Go p e below s _ _ _ (s₁.setTop (mkF m 21 #[.val (.int uhh), .val (.int ua), .val (.int ub), .val (.int pp), .val (.int uw), .val (.int hh), .val (.int ((((ua.toInt64) &&& (2147483647 : Int64)) - (((ua.toInt64) &&& (2147483647 : Int64)) / ((hh.toInt64) + (1 : Int64))) * ((hh.toInt64) + (1 : Int64))).toInt32)), .unset, .unset, .unset, .unset, .unset, .unset, .unset, .unset, .unset, .unset] []))
  obtain ⟨he, hd_he⟩ : ∃ z, z = ((((ua.toInt64) &&& (2147483647 : Int64)) - (((ua.toInt64) &&& (2147483647 : Int64)) / ((hh.toInt64) + (1 : Int64))) * ((hh.toInt64) + (1 : Int64))).toInt32) := ⟨_, rfl⟩
  rw [← hd_he]
  have bhe := own_he ua hh bh he hd_he
  refine Go.st (fun _ k' => XS.iloadN X0.here hx rfl (hb hby at_21) rfl k') ?_
  show Go p e below s _ _ _ (s₁.setTop (mkF m 22 #[.val (.int uhh), .val (.int ua), .val (.int ub), .val (.int pp), .val (.int uw), .val (.int hh), .val (.int he), .unset, .unset, .unset, .unset, .unset, .unset, .unset, .unset, .unset, .unset] [(.int ub)]))
  refine Go.st (fun _ k' => XS.i2l X0.here hx rfl (hb hby at_22) rfl k') ?_
  show Go p e below s _ _ _ (s₁.setTop (mkF m 23 #[.val (.int uhh), .val (.int ua), .val (.int ub), .val (.int pp), .val (.int uw), .val (.int hh), .val (.int he), .unset, .unset, .unset, .unset, .unset, .unset, .unset, .unset, .unset, .unset] [(.long (ub.toInt64))]))
  refine Go.st (fun _ k' => X0.ldc2J hx hown (mvT hZ (wdx hw 1 rfl)) rfl (hb hby at_23) k') ?_
  show Go p e below s _ _ _ (s₁.setTop (mkF m 26 #[.val (.int uhh), .val (.int ua), .val (.int ub), .val (.int pp), .val (.int uw), .val (.int hh), .val (.int he), .unset, .unset, .unset, .unset, .unset, .unset, .unset, .unset, .unset, .unset] [(.long (2147483647 : Int64)), (.long (ub.toInt64))]))
  refine Go.st (fun _ k' => XS.land X0.here hx rfl (hb hby at_26) rfl k') ?_
  show Go p e below s _ _ _ (s₁.setTop (mkF m 27 #[.val (.int uhh), .val (.int ua), .val (.int ub), .val (.int pp), .val (.int uw), .val (.int hh), .val (.int he), .unset, .unset, .unset, .unset, .unset, .unset, .unset, .unset, .unset, .unset] [(.long ((ub.toInt64) &&& (2147483647 : Int64)))]))
  refine Go.st (fun _ k' => XS.iload X0.here hx rfl (hb hby at_27) rfl k') ?_
  show Go p e below s _ _ _ (s₁.setTop (mkF m 29 #[.val (.int uhh), .val (.int ua), .val (.int ub), .val (.int pp), .val (.int uw), .val (.int hh), .val (.int he), .unset, .unset, .unset, .unset, .unset, .unset, .unset, .unset, .unset, .unset] [(.int hh), (.long ((ub.toInt64) &&& (2147483647 : Int64)))]))
  refine Go.st (fun _ k' => XS.i2l X0.here hx rfl (hb hby at_29) rfl k') ?_
  show Go p e below s _ _ _ (s₁.setTop (mkF m 30 #[.val (.int uhh), .val (.int ua), .val (.int ub), .val (.int pp), .val (.int uw), .val (.int hh), .val (.int he), .unset, .unset, .unset, .unset, .unset, .unset, .unset, .unset, .unset, .unset] [(.long (hh.toInt64)), (.long ((ub.toInt64) &&& (2147483647 : Int64)))]))
  refine Go.st (fun _ k' => XS.iload X0.here hx rfl (hb hby at_30) rfl k') ?_
  show Go p e below s _ _ _ (s₁.setTop (mkF m 32 #[.val (.int uhh), .val (.int ua), .val (.int ub), .val (.int pp), .val (.int uw), .val (.int hh), .val (.int he), .unset, .unset, .unset, .unset, .unset, .unset, .unset, .unset, .unset, .unset] [(.int he), (.long (hh.toInt64)), (.long ((ub.toInt64) &&& (2147483647 : Int64)))]))
  refine Go.st (fun _ k' => XS.i2l X0.here hx rfl (hb hby at_32) rfl k') ?_
  show Go p e below s _ _ _ (s₁.setTop (mkF m 33 #[.val (.int uhh), .val (.int ua), .val (.int ub), .val (.int pp), .val (.int uw), .val (.int hh), .val (.int he), .unset, .unset, .unset, .unset, .unset, .unset, .unset, .unset, .unset, .unset] [(.long (he.toInt64)), (.long (hh.toInt64)), (.long ((ub.toInt64) &&& (2147483647 : Int64)))]))
  refine Go.st (fun _ k' => XS.lsub X0.here hx rfl (hb hby at_33) rfl k') ?_
  show Go p e below s _ _ _ (s₁.setTop (mkF m 34 #[.val (.int uhh), .val (.int ua), .val (.int ub), .val (.int pp), .val (.int uw), .val (.int hh), .val (.int he), .unset, .unset, .unset, .unset, .unset, .unset, .unset, .unset, .unset, .unset] [(.long ((hh.toInt64) - (he.toInt64))), (.long ((ub.toInt64) &&& (2147483647 : Int64)))]))
  refine Go.st (fun _ k' => XS.lconst X0.here hx rfl (hb hby at_34) k') ?_
  show Go p e below s _ _ _ (s₁.setTop (mkF m 35 #[.val (.int uhh), .val (.int ua), .val (.int ub), .val (.int pp), .val (.int uw), .val (.int hh), .val (.int he), .unset, .unset, .unset, .unset, .unset, .unset, .unset, .unset, .unset, .unset] [(.long (1 : Int64)), (.long ((hh.toInt64) - (he.toInt64))), (.long ((ub.toInt64) &&& (2147483647 : Int64)))]))
  refine Go.st (fun _ k' => XS.ladd X0.here hx rfl (hb hby at_35) rfl k') ?_
  show Go p e below s _ _ _ (s₁.setTop (mkF m 36 #[.val (.int uhh), .val (.int ua), .val (.int ub), .val (.int pp), .val (.int uw), .val (.int hh), .val (.int he), .unset, .unset, .unset, .unset, .unset, .unset, .unset, .unset, .unset, .unset] [(.long (((hh.toInt64) - (he.toInt64)) + (1 : Int64))), (.long ((ub.toInt64) &&& (2147483647 : Int64)))]))
  refine Go.st (fun _ k' => XS.lrem X0.here hx rfl (hb hby at_36) rfl (own_nz2 hh he bhe) k') ?_
  show Go p e below s _ _ _ (s₁.setTop (mkF m 37 #[.val (.int uhh), .val (.int ua), .val (.int ub), .val (.int pp), .val (.int uw), .val (.int hh), .val (.int he), .unset, .unset, .unset, .unset, .unset, .unset, .unset, .unset, .unset, .unset] [(.long (((ub.toInt64) &&& (2147483647 : Int64)) - (((ub.toInt64) &&& (2147483647 : Int64)) / (((hh.toInt64) - (he.toInt64)) + (1 : Int64))) * (((hh.toInt64) - (he.toInt64)) + (1 : Int64))))]))
  refine Go.st (fun _ k' => XS.l2i X0.here hx rfl (hb hby at_37) rfl k') ?_
  show Go p e below s _ _ _ (s₁.setTop (mkF m 38 #[.val (.int uhh), .val (.int ua), .val (.int ub), .val (.int pp), .val (.int uw), .val (.int hh), .val (.int he), .unset, .unset, .unset, .unset, .unset, .unset, .unset, .unset, .unset, .unset] [(.int ((((ub.toInt64) &&& (2147483647 : Int64)) - (((ub.toInt64) &&& (2147483647 : Int64)) / (((hh.toInt64) - (he.toInt64)) + (1 : Int64))) * (((hh.toInt64) - (he.toInt64)) + (1 : Int64))).toInt32))]))
  refine Go.st (fun _ k' => XS.istore X0.here hx rfl (hb hby at_38) rfl (l' := #[.val (.int uhh), .val (.int ua), .val (.int ub), .val (.int pp), .val (.int uw), .val (.int hh), .val (.int he), .val (.int ((((ub.toInt64) &&& (2147483647 : Int64)) - (((ub.toInt64) &&& (2147483647 : Int64)) / (((hh.toInt64) - (he.toInt64)) + (1 : Int64))) * (((hh.toInt64) - (he.toInt64)) + (1 : Int64))).toInt32)), .unset, .unset, .unset, .unset, .unset, .unset, .unset, .unset, .unset]) rfl k') ?_
  show Go p e below s _ _ _ (s₁.setTop (mkF m 40 #[.val (.int uhh), .val (.int ua), .val (.int ub), .val (.int pp), .val (.int uw), .val (.int hh), .val (.int he), .val (.int ((((ub.toInt64) &&& (2147483647 : Int64)) - (((ub.toInt64) &&& (2147483647 : Int64)) / (((hh.toInt64) - (he.toInt64)) + (1 : Int64))) * (((hh.toInt64) - (he.toInt64)) + (1 : Int64))).toInt32)), .unset, .unset, .unset, .unset, .unset, .unset, .unset, .unset, .unset] []))
  obtain ⟨de, hd_de⟩ : ∃ z, z = ((((ub.toInt64) &&& (2147483647 : Int64)) - (((ub.toInt64) &&& (2147483647 : Int64)) / (((hh.toInt64) - (he.toInt64)) + (1 : Int64))) * (((hh.toInt64) - (he.toInt64)) + (1 : Int64))).toInt32) := ⟨_, rfl⟩
  rw [← hd_de]
  have bde := own_de ub hh he bhe de hd_de
  refine Go.st (fun _ k' => XS.lconst X0.here hx rfl (hb hby at_40) k') ?_
  show Go p e below s _ _ _ (s₁.setTop (mkF m 41 #[.val (.int uhh), .val (.int ua), .val (.int ub), .val (.int pp), .val (.int uw), .val (.int hh), .val (.int he), .val (.int de), .unset, .unset, .unset, .unset, .unset, .unset, .unset, .unset, .unset] [(.long (1 : Int64))]))
  refine Go.st (fun _ k' => XS.iload X0.here hx rfl (hb hby at_41) rfl k') ?_
  show Go p e below s _ _ _ (s₁.setTop (mkF m 43 #[.val (.int uhh), .val (.int ua), .val (.int ub), .val (.int pp), .val (.int uw), .val (.int hh), .val (.int he), .val (.int de), .unset, .unset, .unset, .unset, .unset, .unset, .unset, .unset, .unset] [(.int uw), (.long (1 : Int64))]))
  refine Go.st (fun _ k' => XS.iconst X0.here hx rfl (hb hby at_43) k') ?_
  show Go p e below s _ _ _ (s₁.setTop (mkF m 44 #[.val (.int uhh), .val (.int ua), .val (.int ub), .val (.int pp), .val (.int uw), .val (.int hh), .val (.int he), .val (.int de), .unset, .unset, .unset, .unset, .unset, .unset, .unset, .unset, .unset] [(.int (3 : Int32)), (.int uw), (.long (1 : Int64))]))
  refine Go.st (fun _ k' => XS.iand X0.here hx rfl (hb hby at_44) rfl k') ?_
  show Go p e below s _ _ _ (s₁.setTop (mkF m 45 #[.val (.int uhh), .val (.int ua), .val (.int ub), .val (.int pp), .val (.int uw), .val (.int hh), .val (.int he), .val (.int de), .unset, .unset, .unset, .unset, .unset, .unset, .unset, .unset, .unset] [(.int (uw &&& (3 : Int32))), (.long (1 : Int64))]))
  refine Go.st (fun _ k' => XS.i2l X0.here hx rfl (hb hby at_45) rfl k') ?_
  show Go p e below s _ _ _ (s₁.setTop (mkF m 46 #[.val (.int uhh), .val (.int ua), .val (.int ub), .val (.int pp), .val (.int uw), .val (.int hh), .val (.int he), .val (.int de), .unset, .unset, .unset, .unset, .unset, .unset, .unset, .unset, .unset] [(.long ((uw &&& (3 : Int32)).toInt64)), (.long (1 : Int64))]))
  refine Go.st (fun _ k' => XS.ladd X0.here hx rfl (hb hby at_46) rfl k') ?_
  show Go p e below s _ _ _ (s₁.setTop (mkF m 47 #[.val (.int uhh), .val (.int ua), .val (.int ub), .val (.int pp), .val (.int uw), .val (.int hh), .val (.int he), .val (.int de), .unset, .unset, .unset, .unset, .unset, .unset, .unset, .unset, .unset] [(.long ((1 : Int64) + ((uw &&& (3 : Int32)).toInt64)))]))
  refine Go.st (fun _ k' => XS.lstore X0.here hx rfl (hb hby at_47) rfl (l' := #[.val (.int uhh), .val (.int ua), .val (.int ub), .val (.int pp), .val (.int uw), .val (.int hh), .val (.int he), .val (.int de), .val (.long ((1 : Int64) + ((uw &&& (3 : Int32)).toInt64))), .second, .unset, .unset, .unset, .unset, .unset, .unset, .unset]) rfl k') ?_
  show Go p e below s _ _ _ (s₁.setTop (mkF m 49 #[.val (.int uhh), .val (.int ua), .val (.int ub), .val (.int pp), .val (.int uw), .val (.int hh), .val (.int he), .val (.int de), .val (.long ((1 : Int64) + ((uw &&& (3 : Int32)).toInt64))), .second, .unset, .unset, .unset, .unset, .unset, .unset, .unset] []))
  obtain ⟨kk, hd_kk⟩ : ∃ z, z = ((1 : Int64) + ((uw &&& (3 : Int32)).toInt64)) := ⟨_, rfl⟩
  rw [← hd_kk]
  have bkk := own_kk uw kk hd_kk
  obtain ⟨T1, h1, X1, e1, E1, A1, D1, -, st1⟩ := newO X0 hx hZ hown (wdx hw 2 rfl) (wdx hw 3 rfl) (wdx hw 4 rfl) e0 (g := (mkF m 49 #[.val (.int uhh), .val (.int ua), .val (.int ub), .val (.int pp), .val (.int uw), .val (.int hh), .val (.int he), .val (.int de), .val (.long kk), .second, .unset, .unset, .unset, .unset, .unset, .unset, .unset] [])) rfl (hb hby at_49) (by decide) (by decide)
  obtain ⟨b1, g1⟩ : ∃ z, z = h0.size := ⟨_, rfl⟩
  rw [← g1] at A1 D1 st1
  refine Go.st st1 ?_
  have g_b1 : n0 ≤ b1 := Nat.le_trans (own_le O0) (Nat.le_of_eq g1.symm)
  have O1 : Old Z n0 h1 := O0.ext E1
  have f2 : Fld Z h1 b1 "com/example/spillway/spillway/split/PriorityLevel" "hosts" "I" (.int (0 : Int32)) := D1 (Or.inr (wdx hw 16 rfl)) (ty := .int) (by decide)
  have f3 : Fld Z h1 b1 "com/example/spillway/spillway/split/PriorityLevel" "healthy" "I" (.int (0 : Int32)) := D1 (Or.inr (wdx hw 18 rfl)) (ty := .int) (by decide)
  have f4 : Fld Z h1 b1 "com/example/spillway/spillway/split/PriorityLevel" "degraded" "I" (.int (0 : Int32)) := D1 (Or.inr (wdx hw 20 rfl)) (ty := .int) (by decide)
  have f5 : Fld Z h1 b1 "com/example/spillway/spillway/split/PriorityLevel" "hostWeight" "J" (.long (0 : Int64)) := D1 (Or.inr (wdx hw 22 rfl)) (ty := .long) (by decide)
  have f6 : Fld Z h1 b1 "com/example/spillway/spillway/split/PriorityLevel" "healthyWeight" "J" (.long (0 : Int64)) := D1 (Or.inr (wdx hw 24 rfl)) (ty := .long) (by decide)
  have f7 : Fld Z h1 b1 "com/example/spillway/spillway/split/PriorityLevel" "degradedWeight" "J" (.long (0 : Int64)) := D1 (Or.inr (wdx hw 26 rfl)) (ty := .long) (by decide)
  show Go p e below s _ _ _ (T1.setTop (mkF m 52 #[.val (.int uhh), .val (.int ua), .val (.int ub), .val (.int pp), .val (.int uw), .val (.int hh), .val (.int he), .val (.int de), .val (.long kk), .second, .unset, .unset, .unset, .unset, .unset, .unset, .unset] [(.ref b1)]))
  refine Go.st (fun _ k' => XS.dup X1.here hx rfl (hb hby at_52) rfl rfl k') ?_
  show Go p e below s _ _ _ (T1.setTop (mkF m 53 #[.val (.int uhh), .val (.int ua), .val (.int ub), .val (.int pp), .val (.int uw), .val (.int hh), .val (.int he), .val (.int de), .val (.long kk), .second, .unset, .unset, .unset, .unset, .unset, .unset, .unset] [(.ref b1), (.ref b1)]))
  refine Go.st (fun _ k' => XS.iload X1.here hx rfl (hb hby at_53) rfl k') ?_
  show Go p e below s _ _ _ (T1.setTop (mkF m 55 #[.val (.int uhh), .val (.int ua), .val (.int ub), .val (.int pp), .val (.int uw), .val (.int hh), .val (.int he), .val (.int de), .val (.long kk), .second, .unset, .unset, .unset, .unset, .unset, .unset, .unset] [(.int hh), (.ref b1), (.ref b1)]))
  refine Go.st (fun _ k' => XS.iload X1.here hx rfl (hb hby at_55) rfl k') ?_
  show Go p e below s _ _ _ (T1.setTop (mkF m 57 #[.val (.int uhh), .val (.int ua), .val (.int ub), .val (.int pp), .val (.int uw), .val (.int hh), .val (.int he), .val (.int de), .val (.long kk), .second, .unset, .unset, .unset, .unset, .unset, .unset, .unset] [(.int he), (.int hh), (.ref b1), (.ref b1)]))
  refine Go.st (fun _ k' => XS.iload X1.here hx rfl (hb hby at_57) rfl k') ?_
  show Go p e below s _ _ _ (T1.setTop (mkF m 59 #[.val (.int uhh), .val (.int ua), .val (.int ub), .val (.int pp), .val (.int uw), .val (.int hh), .val (.int he), .val (.int de), .val (.long kk), .second, .unset, .unset, .unset, .unset, .unset, .unset, .unset] [(.int de), (.int he), (.int hh), (.ref b1), (.ref b1)]))
  refine Go.st (fun _ k' => XS.iload X1.here hx rfl (hb hby at_59) rfl k') ?_
  show Go p e below s _ _ _ (T1.setTop (mkF m 61 #[.val (.int uhh), .val (.int ua), .val (.int ub), .val (.int pp), .val (.int uw), .val (.int hh), .val (.int he), .val (.int de), .val (.long kk), .second, .unset, .unset, .unset, .unset, .unset, .unset, .unset] [(.int hh), (.int de), (.int he), (.int hh), (.ref b1), (.ref b1)]))
  refine Go.st (fun _ k' => XS.i2l X1.here hx rfl (hb hby at_61) rfl k') ?_
  show Go p e below s _ _ _ (T1.setTop (mkF m 62 #[.val (.int uhh), .val (.int ua), .val (.int ub), .val (.int pp), .val (.int uw), .val (.int hh), .val (.int he), .val (.int de), .val (.long kk), .second, .unset, .unset, .unset, .unset, .unset, .unset, .unset] [(.long (hh.toInt64)), (.int de), (.int he), (.int hh), (.ref b1), (.ref b1)]))
  refine Go.st (fun _ k' => XS.lload X1.here hx rfl (hb hby at_62) rfl k') ?_
  show Go p e below s _ _ _ (T1.setTop (mkF m 64 #[.val (.int uhh), .val (.int ua), .val (.int ub), .val (.int pp), .val (.int uw), .val (.int hh), .val (.int he), .val (.int de), .val (.long kk), .second, .unset, .unset, .unset, .unset, .unset, .unset, .unset] [(.long kk), (.long (hh.toInt64)), (.int de), (.int he), (.int hh), (.ref b1), (.ref b1)]))
  refine Go.st (fun _ k' => XS.lmul X1.here hx rfl (hb hby at_64) rfl k') ?_
  show Go p e below s _ _ _ (T1.setTop (mkF m 65 #[.val (.int uhh), .val (.int ua), .val (.int ub), .val (.int pp), .val (.int uw), .val (.int hh), .val (.int he), .val (.int de), .val (.long kk), .second, .unset, .unset, .unset, .unset, .unset, .unset, .unset] [(.long ((hh.toInt64) * kk)), (.int de), (.int he), (.int hh), (.ref b1), (.ref b1)]))
  refine Go.st (fun _ k' => XS.iload X1.here hx rfl (hb hby at_65) rfl k') ?_
  show Go p e below s _ _ _ (T1.setTop (mkF m 67 #[.val (.int uhh), .val (.int ua), .val (.int ub), .val (.int pp), .val (.int uw), .val (.int hh), .val (.int he), .val (.int de), .val (.long kk), .second, .unset, .unset, .unset, .unset, .unset, .unset, .unset] [(.int he), (.long ((hh.toInt64) * kk)), (.int de), (.int he), (.int hh), (.ref b1), (.ref b1)]))
  refine Go.st (fun _ k' => XS.i2l X1.here hx rfl (hb hby at_67) rfl k') ?_
  show Go p e below s _ _ _ (T1.setTop (mkF m 68 #[.val (.int uhh), .val (.int ua), .val (.int ub), .val (.int pp), .val (.int uw), .val (.int hh), .val (.int he), .val (.int de), .val (.long kk), .second, .unset, .unset, .unset, .unset, .unset, .unset, .unset] [(.long (he.toInt64)), (.long ((hh.toInt64) * kk)), (.int de), (.int he), (.int hh), (.ref b1), (.ref b1)]))
  refine Go.st (fun _ k' => XS.iload X1.here hx rfl (hb hby at_68) rfl k') ?_
  show Go p e below s _ _ _ (T1.setTop (mkF m 70 #[.val (.int uhh), .val (.int ua), .val (.int ub), .val (.int pp), .val (.int uw), .val (.int hh), .val (.int he), .val (.int de), .val (.long kk), .second, .unset, .unset, .unset, .unset, .unset, .unset, .unset] [(.int de), (.long (he.toInt64)), (.long ((hh.toInt64) * kk)), (.int de), (.int he), (.int hh), (.ref b1), (.ref b1)]))
  refine Go.st (fun _ k' => XS.i2l X1.here hx rfl (hb hby at_70) rfl k') ?_
  show Go p e below s _ _ _ (T1.setTop (mkF m 71 #[.val (.int uhh), .val (.int ua), .val (.int ub), .val (.int pp), .val (.int uw), .val (.int hh), .val (.int he), .val (.int de), .val (.long kk), .second, .unset, .unset, .unset, .unset, .unset, .unset, .unset] [(.long (de.toInt64)), (.long (he.toInt64)), (.long ((hh.toInt64) * kk)), (.int de), (.int he), (.int hh), (.ref b1), (.ref b1)]))
  obtain ⟨_, _, ⟨T8, L8, k8, n8⟩, -, X8, ⟨Lc8, hQ8, l8, y8, z8⟩, st8⟩ := X1.specialBack hx (y := (⟨"com/example/spillway/spillway/split/PriorityLevel", "<init>", "(IIIJJJ)V"⟩ : MethodName)) rfl hown (mvT hZ (wdx hw 5 rfl)) (mvT hZ (wdx hw 6 rfl)) (mvT hZ (wdx hw 7 rfl)) (by decide) (backOf (W := 1) (rm1 l Z a0 hw [] b1 hh he de ((hh.toInt64) * kk) (he.toInt64) (de.toInt64) h1 n0 O1 A1 f2 f3 f4 f5 f6 f7 g_b1 (own_neg _ bhe.1) (own_neg _ bde.1) (own_s1 _ _ _ bhe.1 bde) (own_w1 _ _ bh bkk) (own_w2 _ bhe.1) (own_w2 _ bde.1) (own_s2 _ _ _ _ bh bhe.1 bde bkk)) hZ (wdx hw 7 rfl) (wdx hw 4 rfl) (by decide) (by decide)) (g := (mkF m 71 #[.val (.int uhh), .val (.int ua), .val (.int ub), .val (.int pp), .val (.int uw), .val (.int hh), .val (.int he), .val (.int de), .val (.long kk), .second, .unset, .unset, .unset, .unset, .unset, .unset, .unset] [(.long (de.toInt64)), (.long (he.toInt64)), (.long ((hh.toInt64) * kk)), (.int de), (.int he), (.int hh), (.ref b1), (.ref b1)])) rfl (by rw [hml]; rfl) (Steps.refl _) (a := b1) (argsL := [(.int hh), (.int he), (.int de), (.long ((hh.toInt64) * kk)), (.long (he.toInt64)), (.long (de.toInt64))]) (rest := [(.ref b1)]) (lenOf pd__IIIJJJ_V rfl) rfl (by show 2 * 0 + _ ≤ _; exact Nat.le_of_eq rfl) (hb hby at_71) (fun _ _ => ⟨rfl, e1, (by exact Nat.le_of_ble_eq_true rfl), (by exact Nat.le_of_ble_eq_true rfl)⟩)
  dsimp only [Pt.U, Pt.locs, Pt.cells, Pt.slots] at X8 l8 y8 z8 st8 hQ8
  subst l8 y8 z8
  obtain ⟨rfl, Nq8, Kq8, f9, f10, f11, f12, f13, f14⟩ := hQ8
  have N8 := Fr.app N0 Nq8
  refine Go.tr st8 ?_
  have f15 : Exa Z T8.heap b1 "com/example/spillway/spillway/split/PriorityLevel" := A1.keep Kq8
  have O8 : Old Z n0 T8.heap := O1.keep Kq8 (allS g_b1 all0)
  show Go p e below s _ _ _ (T8.setTop (mkF m 74 #[.val (.int uhh), .val (.int ua), .val (.int ub), .val (.int pp), .val (.int uw), .val (.int hh), .val (.int he), .val (.int de), .val (.long kk), .second, .unset, .unset, .unset, .unset, .unset, .unset, .unset] [(.ref b1)]))
  refine Go.st (fun _ k' => XS.astore X8.here hx rfl (hb hby at_74) rfl rfl (l' := #[.val (.int uhh), .val (.int ua), .val (.int ub), .val (.int pp), .val (.int uw), .val (.int hh), .val (.int he), .val (.int de), .val (.long kk), .second, .val (.ref b1), .unset, .unset, .unset, .unset, .unset, .unset]) rfl k') ?_
  show Go p e below s _ _ _ (T8.setTop (mkF m 76 #[.val (.int uhh), .val (.int ua), .val (.int ub), .val (.int pp), .val (.int uw), .val (.int hh), .val (.int he), .val (.int de), .val (.long kk), .second, .val (.ref b1), .unset, .unset, .unset, .unset, .unset, .unset] []))
  refine Go.st (fun _ k' => XS.aload X8.here hx rfl (hb hby at_76) rfl rfl k') ?_
  show Go p e below s _ _ _ (T8.setTop (mkF m 78 #[.val (.int uhh), .val (.int ua), .val (.int ub), .val (.int pp), .val (.int uw), .val (.int hh), .val (.int he), .val (.int de), .val (.long kk), .second, .val (.ref b1), .unset, .unset, .unset, .unset, .unset, .unset] [(.ref b1)]))
  refine Go.st (fun _ k' => XS.iloadN X8.here hx rfl (hb hby at_78) rfl k') ?_
  show Go p e below s _ _ _ (T8.setTop (mkF m 79 #[.val (.int uhh), .val (.int ua), .val (.int ub), .val (.int pp), .val (.int uw), .val (.int hh), .val (.int he), .val (.int de), .val (.long kk), .second, .val (.ref b1), .unset, .unset, .unset, .unset, .unset, .unset] [(.int pp), (.ref b1)]))
  obtain ⟨cq16, kq16, q16a, q16b, q16c⟩ := isOf hZ rfl f15
  obtain ⟨_, _, ⟨T16, L16, k16, n16⟩, -, X16, ⟨Lc16, hQ16, l16, y16, z16⟩, st16⟩ := X8.virtualBack hx (y := (⟨"com/example/spillway/spillway/split/PriorityLevel", "isAvailabilityBelow", "(I)Z"⟩ : MethodName)) (z := (⟨"com/example/spillway/spillway/split/PriorityLevel", "isAvailabilityBelow", "(I)Z"⟩ : MethodName)) hown (mvT hZ (wdx hw 27 rfl)) (mvT hZ (wdx hw 28 rfl)) (notFace_of_selects (args := #[]) (mvT hZ (wdx hw 30 rfl))) (mvT hZ (wdx hw 30 rfl)) (mvT hZ (wdx hw 29 rfl)) (by decide) (backOf (W := 0) (rm4 l Z a0 hw [] b1 pp hh he de T8.heap n0 O8 f9 f10 f11) hZ (wdx hw 31 rfl) (wdx hw 4 rfl) (by decide) (by decide)) q16a q16c (g := (mkF m 79 #[.val (.int uhh), .val (.int ua), .val (.int ub), .val (.int pp), .val (.int uw), .val (.int hh), .val (.int he), .val (.int de), .val (.long kk), .second, .val (.ref b1), .unset, .unset, .unset, .unset, .unset, .unset] [(.int pp), (.ref b1)])) rfl (by rw [hml]; rfl) (Steps.refl _) (argsL := [(.int pp)]) (rest := []) (lenOf pd__I_Z rfl) rfl (by show 2 * 0 + _ ≤ _; exact Nat.le_of_eq rfl) (hb hby at_79) (fun _ _ => ⟨rfl, rfl, (by exact Nat.le_of_ble_eq_true rfl), (by exact Nat.le_of_ble_eq_true rfl)⟩)
  dsimp only [Pt.U, Pt.locs, Pt.cells, Pt.slots] at X16 l16 y16 z16 st16 hQ16
  subst l16 y16 z16
  obtain ⟨rfl, Nq16, eq16⟩ := hQ16
  have N16 := Fr.app N8 Nq16
  refine Go.tr st16 ?_
  show Go p e below s _ _ _ (T16.setTop (mkF m 82 #[.val (.int uhh), .val (.int ua), .val (.int ub), .val (.int pp), .val (.int uw), .val (.int hh), .val (.int he), .val (.int de), .val (.long kk), .second, .val (.ref b1), .unset, .unset, .unset, .unset, .unset, .unset] [(.int (fav hh he de pp))]))
  refine Go.st (fun _ k' => XS.istore X16.here hx rfl (hb hby at_82) rfl (l' := #[.val (.int uhh), .val (.int ua), .val (.int ub), .val (.int pp), .val (.int uw), .val (.int hh), .val (.int he), .val (.int de), .val (.long kk), .second, .val (.ref b1), .val (.int (fav hh he de pp)), .unset, .unset, .unset, .unset, .unset]) rfl k') ?_
  show Go p e below s _ _ _ (T16.setTop (mkF m 84 #[.val (.int uhh), .val (.int ua), .val (.int ub), .val (.int pp), .val (.int uw), .val (.int hh), .val (.int he), .val (.int de), .val (.long kk), .second, .val (.ref b1), .val (.int (fav hh he de pp)), .unset, .unset, .unset, .unset, .unset] []))
  refine Go.st (fun _ k' => XS.iload X16.here hx rfl (hb hby at_84) rfl k') ?_
  show Go p e below s _ _ _ (T16.setTop (mkF m 86 #[.val (.int uhh), .val (.int ua), .val (.int ub), .val (.int pp), .val (.int uw), .val (.int hh), .val (.int he), .val (.int de), .val (.long kk), .second, .val (.ref b1), .val (.int (fav hh he de pp)), .unset, .unset, .unset, .unset, .unset] [(.int hh)]))
  by_cases hc17 : hh = (0 : Int32)
  · refine Go.st (fun _ k' => XS.ifNo X16.here hx rfl (hb hby at_86) rfl (XT.i0_ne_f hc17) k') ?_
    show Go p e below s _ _ _ (T16.setTop (mkF m 89 #[.val (.int uhh), .val (.int ua), .val (.int ub), .val (.int pp), .val (.int uw), .val (.int hh), .val (.int he), .val (.int de), .val (.long kk), .second, .val (.ref b1), .val (.int (fav hh he de pp)), .unset, .unset, .unset, .unset, .unset] []))
    refine Go.st (fun _ k' => XS.iloadN X16.here hx rfl (hb hby at_89) rfl k') ?_
    show Go p e below s _ _ _ (T16.setTop (mkF m 90 #[.val (.int uhh), .val (.int ua), .val (.int ub), .val (.int pp), .val (.int uw), .val (.int hh), .val (.int he), .val (.int de), .val (.long kk), .second, .val (.ref b1), .val (.int (fav hh he de pp)), .unset, .unset, .unset, .unset, .unset] [(.int pp)]))
    by_cases hc18 : (0 : Int32) < pp
    · refine Go.st (fun _ k' => XS.ifNo X16.here hx rfl (hb hby at_90) rfl (XT.i0_le_f hc18) k') ?_
      show Go p e below s _ _ _ (T16.setTop (mkF m 93 #[.val (.int uhh), .val (.int ua), .val (.int ub), .val (.int pp), .val (.int uw), .val (.int hh), .val (.int he), .val (.int de), .val (.long kk), .second, .val (.ref b1), .val (.int (fav hh he de pp)), .unset, .unset, .unset, .unset, .unset] []))
      refine Go.st (fun _ k' => XS.iconst X16.here hx rfl (hb hby at_93) k') ?_
      show Go p e below s _ _ _ (T16.setTop (mkF m 94 #[.val (.int uhh), .val (.int ua), .val (.int ub), .val (.int pp), .val (.int uw), .val (.int hh), .val (.int he), .val (.int de), .val (.long kk), .second, .val (.ref b1), .val (.int (fav hh he de pp)), .unset, .unset, .unset, .unset, .unset] [(.int (1 : Int32))]))
      refine Go.st (fun _ k' => XS.goto X16.here hx rfl (pc0 := 94) (pc' := 98) rfl (hb hby at_94) (by decide) (by decide) k') ?_
      show Go p e below s _ _ _ (T16.setTop (mkF m 98 #[.val (.int uhh), .val (.int ua), .val (.int ub), .val (.int pp), .val (.int uw), .val (.int hh), .val (.int he), .val (.int de), .val (.long kk), .second, .val (.ref b1), .val (.int (fav hh he de pp)), .unset, .unset, .unset, .unset, .unset] [(.int (1 : Int32))]))
      refine Go.st (fun _ k' => XS.istore X16.here hx rfl (hb hby at_98) rfl (l' := #[.val (.int uhh), .val (.int ua), .val (.int ub), .val (.int pp), .val (.int uw), .val (.int hh), .val (.int he), .val (.int de), .val (.long kk), .second, .val (.ref b1), .val (.int (fav hh he de pp)), .val (.int (1 : Int32)), .unset, .unset, .unset, .unset]) rfl k') ?_
      show Go p e below s _ _ _ (T16.setTop (mkF m 100 #[.val (.int uhh), .val (.int ua), .val (.int ub), .val (.int pp), .val (.int uw), .val (.int hh), .val (.int he), .val (.int de), .val (.long kk), .second, .val (.ref b1), .val (.int (fav hh he de pp)), .val (.int (1 : Int32)), .unset, .unset, .unset, .unset] []))
      refine Go.st (fun _ k' => XS.goto X16.here hx rfl (pc0 := 100) (pc' := 139) rfl (hb hby at_100) (by decide) (by decide) k') ?_
      show Go p e below s _ _ _ (T16.setTop (mkF m 139 #[.val (.int uhh), .val (.int ua), .val (.int ub), .val (.int pp), .val (.int uw), .val (.int hh), .val (.int he), .val (.int de), .val (.long kk), .second, .val (.ref b1), .val (.int (fav hh he de pp)), .val (.int (1 : Int32)), .unset, .unset, .unset, .unset] []))
      refine Go.st (fun _ k' => XS.iload X16.here hx rfl (hb hby at_139) rfl k') ?_
      show Go p e below s _ _ _ (T16.setTop (mkF m 141 #[.val (.int uhh), .val (.int ua), .val (.int ub), .val (.int pp), .val (.int uw), .val (.int hh), .val (.int he), .val (.int de), .val (.long kk), .second, .val (.ref b1), .val (.int (fav hh he de pp)), .val (.int (1 : Int32)), .unset, .unset, .unset, .unset] [(.int (fav hh he de pp))]))
      refine Go.st (fun _ k' => XS.iload X16.here hx rfl (hb hby at_141) rfl k') ?_
      show Go p e below s _ _ _ (T16.setTop (mkF m 143 #[.val (.int uhh), .val (.int ua), .val (.int ub), .val (.int pp), .val (.int uw), .val (.int hh), .val (.int he), .val (.int de), .val (.long kk), .second, .val (.ref b1), .val (.int (fav hh he de pp)), .val (.int (1 : Int32)), .unset, .unset, .unset, .unset] [(.int (1 : Int32)), (.int (fav hh he de pp))]))
      by_cases hc19 : (fav hh he de pp) = (1 : Int32)
      · refine Go.st (fun _ k' => XS.icmpNo X16.here hx rfl (hb hby at_143) rfl (XT.ii_ne_f hc19) k') ?_
        show Go p e below s _ _ _ (T16.setTop (mkF m 146 #[.val (.int uhh), .val (.int ua), .val (.int ub), .val (.int pp), .val (.int uw), .val (.int hh), .val (.int he), .val (.int de), .val (.long kk), .second, .val (.ref b1), .val (.int (fav hh he de pp)), .val (.int (1 : Int32)), .unset, .unset, .unset, .unset] []))
        refine Go.st (fun _ k' => XS.iconst X16.here hx rfl (hb hby at_146) k') ?_
        show Go p e below s _ _ _ (T16.setTop (mkF m 147 #[.val (.int uhh), .val (.int ua), .val (.int ub), .val (.int pp), .val (.int uw), .val (.int hh), .val (.int he), .val (.int de), .val (.long kk), .second, .val (.ref b1), .val (.int (fav hh he de pp)), .val (.int (1 : Int32)), .unset, .unset, .unset, .unset] [(.int (1 : Int32))]))
        refine Go.st (fun _ k' => XS.goto X16.here hx rfl (pc0 := 147) (pc' := 151) rfl (hb hby at_147) (by decide) (by decide) k') ?_
        show Go p e below s _ _ _ (T16.setTop (mkF m 151 #[.val (.int uhh), .val (.int ua), .val (.int ub), .val (.int pp), .val (.int uw), .val (.int hh), .val (.int he), .val (.int de), .val (.long kk), .second, .val (.ref b1), .val (.int (fav hh he de pp)), .val (.int (1 : Int32)), .unset, .unset, .unset, .unset] [(.int (1 : Int32))]))
        refine Go.retB X16 hx hlk (t := .boolean) Bd.returns (by simp) (hb hby at_151) (by decide) (by decide) eq16 ?_
        exact ⟨rfl, N16, trivial⟩
      · refine Go.st (fun _ k' => XS.icmpYes X16.here hx rfl (pc0 := 143) (pc' := 150) rfl (hb hby at_143) rfl (XT.ii_ne_t hc19) (by decide) (by decide) k') ?_
        show Go p e below s _ _ _ (T16.setTop (mkF m 150 #[.val (.int uhh), .val (.int ua), .val (.int ub), .val (.int pp), .val (.int uw), .val (.int hh), .val (.int he), .val (.int de), .val (.long kk), .second, .val (.ref b1), .val (.int (fav hh he de pp)), .val (.int (1 : Int32)), .unset, .unset, .unset, .unset] []))
        refine Go.st (fun _ k' => XS.iconst X16.here hx rfl (hb hby at_150) k') ?_
        show Go p e below s _ _ _ (T16.setTop (mkF m 151 #[.val (.int uhh), .val (.int ua), .val (.int ub), .val (.int pp), .val (.int uw), .val (.int hh), .val (.int he), .val (.int de), .val (.long kk), .second, .val (.ref b1), .val (.int (fav hh he de pp)), .val (.int (1 : Int32)), .unset, .unset, .unset, .unset] [(.int (0 : Int32))]))
        refine Go.retB X16 hx hlk (t := .boolean) Bd.returns (by simp) (hb hby at_151) (by decide) (by decide) eq16 ?_
        exact absurd (by simp [fav, hc17, hc18]) hc19
    · refine Go.st (fun _ k' => XS.ifYes X16.here hx rfl (pc0 := 90) (pc' := 97) rfl (hb hby at_90) rfl (XT.i0_le_t hc18) (by decide) (by decide) k') ?_
      show Go p e below s _ _ _ (T16.setTop (mkF m 97 #[.val (.int uhh), .val (.int ua), .val (.int ub), .val (.int pp), .val (.int uw), .val (.int hh), .val (.int he), .val (.int de), .val (.long kk), .second, .val (.ref b1), .val (.int (fav hh he de pp)), .unset, .unset, .unset, .unset, .unset] []))
      refine Go.st (fun _ k' => XS.iconst X16.here hx rfl (hb hby at_97) k') ?_
      show Go p e below s _ _ _ (T16.setTop (mkF m 98 #[.val (.int uhh), .val (.int ua), .val (.int ub), .val (.int pp), .val (.int uw), .val (.int hh), .val (.int he), .val (.int de), .val (.long kk), .second, .val (.ref b1), .val (.int (fav hh he de pp)), .unset, .unset, .unset, .unset, .unset] [(.int (0 : Int32))]))
      refine Go.st (fun _ k' => XS.istore X16.here hx rfl (hb hby at_98) rfl (l' := #[.val (.int uhh), .val (.int ua), .val (.int ub), .val (.int pp), .val (.int uw), .val (.int hh), .val (.int he), .val (.int de), .val (.long kk), .second, .val (.ref b1), .val (.int (fav hh he de pp)), .val (.int (0 : Int32)), .unset, .unset, .unset, .unset]) rfl k') ?_
      show Go p e below s _ _ _ (T16.setTop (mkF m 100 #[.val (.int uhh), .val (.int ua), .val (.int ub), .val (.int pp), .val (.int uw), .val (.int hh), .val (.int he), .val (.int de), .val (.long kk), .second, .val (.ref b1), .val (.int (fav hh he de pp)), .val (.int (0 : Int32)), .unset, .unset, .unset, .unset] []))
      refine Go.st (fun _ k' => XS.goto X16.here hx rfl (pc0 := 100) (pc' := 139) rfl (hb hby at_100) (by decide) (by decide) k') ?_
      show Go p e below s _ _ _ (T16.setTop (mkF m 139 #[.val (.int uhh), .val (.int ua), .val (.int ub), .val (.int pp), .val (.int uw), .val (.int hh), .val (.int he), .val (.int de), .val (.long kk), .second, .val (.ref b1), .val (.int (fav hh he de pp)), .val (.int (0 : Int32)), .unset, .unset, .unset, .unset] []))
      refine Go.st (fun _ k' => XS.iload X16.here hx rfl (hb hby at_139) rfl k') ?_
      show Go p e below s _ _ _ (T16.setTop (mkF m 141 #[.val (.int uhh), .val (.int ua), .val (.int ub), .val (.int pp), .val (.int uw), .val (.int hh), .val (.int he), .val (.int de), .val (.long kk), .second, .val (.ref b1), .val (.int (fav hh he de pp)), .val (.int (0 : Int32)), .unset, .unset, .unset, .unset] [(.int (fav hh he de pp))]))
      refine Go.st (fun _ k' => XS.iload X16.here hx rfl (hb hby at_141) rfl k') ?_
      show Go p e below s _ _ _ (T16.setTop (mkF m 143 #[.val (.int uhh), .val (.int ua), .val (.int ub), .val (.int pp), .val (.int uw), .val (.int hh), .val (.int he), .val (.int de), .val (.long kk), .second, .val (.ref b1), .val (.int (fav hh he de pp)), .val (.int (0 : Int32)), .unset, .unset, .unset, .unset] [(.int (0 : Int32)), (.int (fav hh he de pp))]))
      by_cases hc20 : (fav hh he de pp) = (0 : Int32)
      · refine Go.st (fun _ k' => XS.icmpNo X16.here hx rfl (hb hby at_143) rfl (XT.ii_ne_f hc20) k') ?_
        show Go p e below s _ _ _ (T16.setTop (mkF m 146 #[.val (.int uhh), .val (.int ua), .val (.int ub), .val (.int pp), .val (.int uw), .val (.int hh), .val (.int he), .val (.int de), .val (.long kk), .second, .val (.ref b1), .val (.int (fav hh he de pp)), .val (.int (0 : Int32)), .unset, .unset, .unset, .unset] []))
        refine Go.st (fun _ k' => XS.iconst X16.here hx rfl (hb hby at_146) k') ?_
        show Go p e below s _ _ _ (T16.setTop (mkF m 147 #[.val (.int uhh), .val (.int ua), .val (.int ub), .val (.int pp), .val (.int uw), .val (.int hh), .val (.int he), .val (.int de), .val (.long kk), .second, .val (.ref b1), .val (.int (fav hh he de pp)), .val (.int (0 : Int32)), .unset, .unset, .unset, .unset] [(.int (1 : Int32))]))
        refine Go.st (fun _ k' => XS.goto X16.here hx rfl (pc0 := 147) (pc' := 151) rfl (hb hby at_147) (by decide) (by decide) k') ?_
        show Go p e below s _ _ _ (T16.setTop (mkF m 151 #[.val (.int uhh), .val (.int ua), .val (.int ub), .val (.int pp), .val (.int uw), .val (.int hh), .val (.int he), .val (.int de), .val (.long kk), .second, .val (.ref b1), .val (.int (fav hh he de pp)), .val (.int (0 : Int32)), .unset, .unset, .unset, .unset] [(.int (1 : Int32))]))
        refine Go.retB X16 hx hlk (t := .boolean) Bd.returns (by simp) (hb hby at_151) (by decide) (by decide) eq16 ?_
        exact ⟨rfl, N16, trivial⟩
      · refine Go.st (fun _ k' => XS.icmpYes X16.here hx rfl (pc0 := 143) (pc' := 150) rfl (hb hby at_143) rfl (XT.ii_ne_t hc20) (by decide) (by decide) k') ?_
        show Go p e below s _ _ _ (T16.setTop (mkF m 150 #[.val (.int uhh), .val (.int ua), .val (.int ub), .val (.int pp), .val (.int uw), .val (.int hh), .val (.int he), .val (.int de), .val (.long kk), .second, .val (.ref b1), .val (.int (fav hh he de pp)), .val (.int (0 : Int32)), .unset, .unset, .unset, .unset] []))
        refine Go.st (fun _ k' => XS.iconst X16.here hx rfl (hb hby at_150) k') ?_
        show Go p e below s _ _ _ (T16.setTop (mkF m 151 #[.val (.int uhh), .val (.int ua), .val (.int ub), .val (.int pp), .val (.int uw), .val (.int hh), .val (.int he), .val (.int de), .val (.long kk), .second, .val (.ref b1), .val (.int (fav hh he de pp)), .val (.int (0 : Int32)), .unset, .unset, .unset, .unset] [(.int (0 : Int32))]))
        refine Go.retB X16 hx hlk (t := .boolean) Bd.returns (by simp) (hb hby at_151) (by decide) (by decide) eq16 ?_
        exact absurd (by simp [fav, hc17, hc18]) hc20
  · refine Go.st (fun _ k' => XS.ifYes X16.here hx rfl (pc0 := 86) (pc' := 103) rfl (hb hby at_86) rfl (XT.i0_ne_t hc17) (by decide) (by decide) k') ?_
    show Go p e below s _ _ _ (T16.setTop (mkF m 103 #[.val (.int uhh), .val (.int ua), .val (.int ub), .val (.int pp), .val (.int uw), .val (.int hh), .val (.int he), .val (.int de), .val (.long kk), .second, .val (.ref b1), .val (.int (fav hh he de pp)), .unset, .unset, .unset, .unset, .unset] []))
    refine Go.st (fun _ k' => XS.iload X16.here hx rfl (hb hby at_103) rfl k') ?_
    show Go p e below s _ _ _ (T16.setTop (mkF m 105 #[.val (.int uhh), .val (.int ua), .val (.int ub), .val (.int pp), .val (.int uw), .val (.int hh), .val (.int he), .val (.int de), .val (.long kk), .second, .val (.ref b1), .val (.int (fav hh he de pp)), .unset, .unset, .unset, .unset, .unset] [(.int he)]))
    refine Go.st (fun _ k' => XS.i2l X16.here hx rfl (hb hby at_105) rfl k') ?_
    show Go p e below s _ _ _ (T16.setTop (mkF m 106 #[.val (.int uhh), .val (.int ua), .val (.int ub), .val (.int pp), .val (.int uw), .val (.int hh), .val (.int he), .val (.int de), .val (.long kk), .second, .val (.ref b1), .val (.int (fav hh he de pp)), .unset, .unset, .unset, .unset, .unset] [(.long (he.toInt64))]))
    refine Go.st (fun _ k' => XS.iload X16.here hx rfl (hb hby at_106) rfl k') ?_
    show Go p e below s _ _ _ (T16.setTop (mkF m 108 #[.val (.int uhh), .val (.int ua), .val (.int ub), .val (.int pp), .val (.int uw), .val (.int hh), .val (.int he), .val (.int de), .val (.long kk), .second, .val (.ref b1), .val (.int (fav hh he de pp)), .unset, .unset, .unset, .unset, .unset] [(.int de), (.long (he.toInt64))]))
    refine Go.st (fun _ k' => XS.i2l X16.here hx rfl (hb hby at_108) rfl k') ?_
    show Go p e below s _ _ _ (T16.setTop (mkF m 109 #[.val (.int uhh), .val (.int ua), .val (.int ub), .val (.int pp), .val (.int uw), .val (.int hh), .val (.int he), .val (.int de), .val (.long kk), .second, .val (.ref b1), .val (.int (fav hh he de pp)), .unset, .unset, .unset, .unset, .unset] [(.long (de.toInt64)), (.long (he.toInt64))]))
    refine Go.st (fun _ k' => XS.ladd X16.here hx rfl (hb hby at_109) rfl k') ?_
    show Go p e below s _ _ _ (T16.setTop (mkF m 110 #[.val (.int uhh), .val (.int ua), .val (.int ub), .val (.int pp), .val (.int uw), .val (.int hh), .val (.int he), .val (.int de), .val (.long kk), .second, .val (.ref b1), .val (.int (fav hh he de pp)), .unset, .unset, .unset, .unset, .unset] [(.long ((he.toInt64) + (de.toInt64)))]))
    refine Go.st (fun _ k' => XS.lstore X16.here hx rfl (hb hby at_110) rfl (l' := #[.val (.int uhh), .val (.int ua), .val (.int ub), .val (.int pp), .val (.int uw), .val (.int hh), .val (.int he), .val (.int de), .val (.long kk), .second, .val (.ref b1), .val (.int (fav hh he de pp)), .unset, .val (.long ((he.toInt64) + (de.toInt64))), .second, .unset, .unset]) rfl k') ?_
    show Go p e below s _ _ _ (T16.setTop (mkF m 112 #[.val (.int uhh), .val (.int ua), .val (.int ub), .val (.int pp), .val (.int uw), .val (.int hh), .val (.int he), .val (.int de), .val (.long kk), .second, .val (.ref b1), .val (.int (fav hh he de pp)), .unset, .val (.long ((he.toInt64) + (de.toInt64))), .second, .unset, .unset] []))
    refine Go.st (fun _ k' => XS.lload X16.here hx rfl (hb hby at_112) rfl k') ?_
    show Go p e below s _ _ _ (T16.setTop (mkF m 114 #[.val (.int uhh), .val (.int ua), .val (.int ub), .val (.int pp), .val (.int uw), .val (.int hh), .val (.int he), .val (.int de), .val (.long kk), .second, .val (.ref b1), .val (.int (fav hh he de pp)), .unset, .val (.long ((he.toInt64) + (de.toInt64))), .second, .unset, .unset] [(.long ((he.toInt64) + (de.toInt64)))]))
    refine Go.st (fun _ k' => X16.ldc2J hx hown (mvT hZ (wdx hw 33 rfl)) rfl (hb hby at_114) k') ?_
    show Go p e below s _ _ _ (T16.setTop (mkF m 117 #[.val (.int uhh), .val (.int ua), .val (.int ub), .val (.int pp), .val (.int uw), .val (.int hh), .val (.int he), .val (.int de), .val (.long kk), .second, .val (.ref b1), .val (.int (fav hh he de pp)), .unset, .val (.long ((he.toInt64) + (de.toInt64))), .second, .unset, .unset] [(.long (100 : Int64)), (.long ((he.toInt64) + (de.toInt64)))]))
    refine Go.st (fun _ k' => XS.lmul X16.here hx rfl (hb hby at_117) rfl k') ?_
    show Go p e below s _ _ _ (T16.setTop (mkF m 118 #[.val (.int uhh), .val (.int ua), .val (.int ub), .val (.int pp), .val (.int uw), .val (.int hh), .val (.int he), .val (.int de), .val (.long kk), .second, .val (.ref b1), .val (.int (fav hh he de pp)), .unset, .val (.long ((he.toInt64) + (de.toInt64))), .second, .unset, .unset] [(.long (((he.toInt64) + (de.toInt64)) * (100 : Int64)))]))
    refine Go.st (fun _ k' => XS.iload X16.here hx rfl (hb hby at_118) rfl k') ?_
    show Go p e below s _ _ _ (T16.setTop (mkF m 120 #[.val (.int uhh), .val (.int ua), .val (.int ub), .val (.int pp), .val (.int uw), .val (.int hh), .val (.int he), .val (.int de), .val (.long kk), .second, .val (.ref b1), .val (.int (fav hh he de pp)), .unset, .val (.long ((he.toInt64) + (de.toInt64))), .second, .unset, .unset] [(.int hh), (.long (((he.toInt64) + (de.toInt64)) * (100 : Int64)))]))
    refine Go.st (fun _ k' => XS.i2l X16.here hx rfl (hb hby at_120) rfl k') ?_
    show Go p e below s _ _ _ (T16.setTop (mkF m 121 #[.val (.int uhh), .val (.int ua), .val (.int ub), .val (.int pp), .val (.int uw), .val (.int hh), .val (.int he), .val (.int de), .val (.long kk), .second, .val (.ref b1), .val (.int (fav hh he de pp)), .unset, .val (.long ((he.toInt64) + (de.toInt64))), .second, .unset, .unset] [(.long (hh.toInt64)), (.long (((he.toInt64) + (de.toInt64)) * (100 : Int64)))]))
    refine Go.st (fun _ k' => XS.ldiv X16.here hx rfl (hb hby at_121) rfl (own_hn hh hc17) k') ?_
    show Go p e below s _ _ _ (T16.setTop (mkF m 122 #[.val (.int uhh), .val (.int ua), .val (.int ub), .val (.int pp), .val (.int uw), .val (.int hh), .val (.int he), .val (.int de), .val (.long kk), .second, .val (.ref b1), .val (.int (fav hh he de pp)), .unset, .val (.long ((he.toInt64) + (de.toInt64))), .second, .unset, .unset] [(.long ((((he.toInt64) + (de.toInt64)) * (100 : Int64)) / (hh.toInt64)))]))
    refine Go.st (fun _ k' => XS.lstore X16.here hx rfl (hb hby at_122) rfl (l' := #[.val (.int uhh), .val (.int ua), .val (.int ub), .val (.int pp), .val (.int uw), .val (.int hh), .val (.int he), .val (.int de), .val (.long kk), .second, .val (.ref b1), .val (.int (fav hh he de pp)), .unset, .val (.long ((he.toInt64) + (de.toInt64))), .second, .val (.long ((((he.toInt64) + (de.toInt64)) * (100 : Int64)) / (hh.toInt64))), .second]) rfl k') ?_
    show Go p e below s _ _ _ (T16.setTop (mkF m 124 #[.val (.int uhh), .val (.int ua), .val (.int ub), .val (.int pp), .val (.int uw), .val (.int hh), .val (.int he), .val (.int de), .val (.long kk), .second, .val (.ref b1), .val (.int (fav hh he de pp)), .unset, .val (.long ((he.toInt64) + (de.toInt64))), .second, .val (.long ((((he.toInt64) + (de.toInt64)) * (100 : Int64)) / (hh.toInt64))), .second] []))
    refine Go.st (fun _ k' => XS.lload X16.here hx rfl (hb hby at_124) rfl k') ?_
    show Go p e below s _ _ _ (T16.setTop (mkF m 126 #[.val (.int uhh), .val (.int ua), .val (.int ub), .val (.int pp), .val (.int uw), .val (.int hh), .val (.int he), .val (.int de), .val (.long kk), .second, .val (.ref b1), .val (.int (fav hh he de pp)), .unset, .val (.long ((he.toInt64) + (de.toInt64))), .second, .val (.long ((((he.toInt64) + (de.toInt64)) * (100 : Int64)) / (hh.toInt64))), .second] [(.long ((((he.toInt64) + (de.toInt64)) * (100 : Int64)) / (hh.toInt64)))]))
    refine Go.st (fun _ k' => XS.iloadN X16.here hx rfl (hb hby at_126) rfl k') ?_
    show Go p e below s _ _ _ (T16.setTop (mkF m 127 #[.val (.int uhh), .val (.int ua), .val (.int ub), .val (.int pp), .val (.int uw), .val (.int hh), .val (.int he), .val (.int de), .val (.long kk), .second, .val (.ref b1), .val (.int (fav hh he de pp)), .unset, .val (.long ((he.toInt64) + (de.toInt64))), .second, .val (.long ((((he.toInt64) + (de.toInt64)) * (100 : Int64)) / (hh.toInt64))), .second] [(.int pp), (.long ((((he.toInt64) + (de.toInt64)) * (100 : Int64)) / (hh.toInt64)))]))
    refine Go.st (fun _ k' => XS.i2l X16.here hx rfl (hb hby at_127) rfl k') ?_
    show Go p e below s _ _ _ (T16.setTop (mkF m 128 #[.val (.int uhh), .val (.int ua), .val (.int ub), .val (.int pp), .val (.int uw), .val (.int hh), .val (.int he), .val (.int de), .val (.long kk), .second, .val (.ref b1), .val (.int (fav hh he de pp)), .unset, .val (.long ((he.toInt64) + (de.toInt64))), .second, .val (.long ((((he.toInt64) + (de.toInt64)) * (100 : Int64)) / (hh.toInt64))), .second] [(.long (pp.toInt64)), (.long ((((he.toInt64) + (de.toInt64)) * (100 : Int64)) / (hh.toInt64)))]))
    refine Go.st (fun _ k' => XT.lcmp X16.here hx rfl (hb hby at_128) rfl k') ?_
    show Go p e below s _ _ _ (T16.setTop (mkF m 129 #[.val (.int uhh), .val (.int ua), .val (.int ub), .val (.int pp), .val (.int uw), .val (.int hh), .val (.int he), .val (.int de), .val (.long kk), .second, .val (.ref b1), .val (.int (fav hh he de pp)), .unset, .val (.long ((he.toInt64) + (de.toInt64))), .second, .val (.long ((((he.toInt64) + (de.toInt64)) * (100 : Int64)) / (hh.toInt64))), .second] [(.int (XT.cmpL ((((he.toInt64) + (de.toInt64)) * (100 : Int64)) / (hh.toInt64)) (pp.toInt64)))]))
    by_cases hc21 : ((((he.toInt64) + (de.toInt64)) * (100 : Int64)) / (hh.toInt64)) < (pp.toInt64)
    · refine Go.st (fun _ k' => XS.ifNo X16.here hx rfl (hb hby at_129) rfl (XT.ll_ge_f hc21) k') ?_
      show Go p e below s _ _ _ (T16.setTop (mkF m 132 #[.val (.int uhh), .val (.int ua), .val (.int ub), .val (.int pp), .val (.int uw), .val (.int hh), .val (.int he), .val (.int de), .val (.long kk), .second, .val (.ref b1), .val (.int (fav hh he de pp)), .unset, .val (.long ((he.toInt64) + (de.toInt64))), .second, .val (.long ((((he.toInt64) + (de.toInt64)) * (100 : Int64)) / (hh.toInt64))), .second] []))
      refine Go.st (fun _ k' => XS.iconst X16.here hx rfl (hb hby at_132) k') ?_
      show Go p e below s _ _ _ (T16.setTop (mkF m 133 #[.val (.int uhh), .val (.int ua), .val (.int ub), .val (.int pp), .val (.int uw), .val (.int hh), .val (.int he), .val (.int de), .val (.long kk), .second, .val (.ref b1), .val (.int (fav hh he de pp)), .unset, .val (.long ((he.toInt64) + (de.toInt64))), .second, .val (.long ((((he.toInt64) + (de.toInt64)) * (100 : Int64)) / (hh.toInt64))), .second] [(.int (1 : Int32))]))
      refine Go.st (fun _ k' => XS.goto X16.here hx rfl (pc0 := 133) (pc' := 137) rfl (hb hby at_133) (by decide) (by decide) k') ?_
      show Go p e below s _ _ _ (T16.setTop (mkF m 137 #[.val (.int uhh), .val (.int ua), .val (.int ub), .val (.int pp), .val (.int uw), .val (.int hh), .val (.int he), .val (.int de), .val (.long kk), .second, .val (.ref b1), .val (.int (fav hh he de pp)), .unset, .val (.long ((he.toInt64) + (de.toInt64))), .second, .val (.long ((((he.toInt64) + (de.toInt64)) * (100 : Int64)) / (hh.toInt64))), .second] [(.int (1 : Int32))]))
      refine Go.st (fun _ k' => XS.istore X16.here hx rfl (hb hby at_137) rfl (l' := #[.val (.int uhh), .val (.int ua), .val (.int ub), .val (.int pp), .val (.int uw), .val (.int hh), .val (.int he), .val (.int de), .val (.long kk), .second, .val (.ref b1), .val (.int (fav hh he de pp)), .val (.int (1 : Int32)), .val (.long ((he.toInt64) + (de.toInt64))), .second, .val (.long ((((he.toInt64) + (de.toInt64)) * (100 : Int64)) / (hh.toInt64))), .second]) rfl k') ?_
      show Go p e below s _ _ _ (T16.setTop (mkF m 139 #[.val (.int uhh), .val (.int ua), .val (.int ub), .val (.int pp), .val (.int uw), .val (.int hh), .val (.int he), .val (.int de), .val (.long kk), .second, .val (.ref b1), .val (.int (fav hh he de pp)), .val (.int (1 : Int32)), .val (.long ((he.toInt64) + (de.toInt64))), .second, .val (.long ((((he.toInt64) + (de.toInt64)) * (100 : Int64)) / (hh.toInt64))), .second] []))
      refine Go.st (fun _ k' => XS.iload X16.here hx rfl (hb hby at_139) rfl k') ?_
      show Go p e below s _ _ _ (T16.setTop (mkF m 141 #[.val (.int uhh), .val (.int ua), .val (.int ub), .val (.int pp), .val (.int uw), .val (.int hh), .val (.int he), .val (.int de), .val (.long kk), .second, .val (.ref b1), .val (.int (fav hh he de pp)), .val (.int (1 : Int32)), .val (.long ((he.toInt64) + (de.toInt64))), .second, .val (.long ((((he.toInt64) + (de.toInt64)) * (100 : Int64)) / (hh.toInt64))), .second] [(.int (fav hh he de pp))]))
      refine Go.st (fun _ k' => XS.iload X16.here hx rfl (hb hby at_141) rfl k') ?_
      show Go p e below s _ _ _ (T16.setTop (mkF m 143 #[.val (.int uhh), .val (.int ua), .val (.int ub), .val (.int pp), .val (.int uw), .val (.int hh), .val (.int he), .val (.int de), .val (.long kk), .second, .val (.ref b1), .val (.int (fav hh he de pp)), .val (.int (1 : Int32)), .val (.long ((he.toInt64) + (de.toInt64))), .second, .val (.long ((((he.toInt64) + (de.toInt64)) * (100 : Int64)) / (hh.toInt64))), .second] [(.int (1 : Int32)), (.int (fav hh he de pp))]))
      by_cases hc22 : (fav hh he de pp) = (1 : Int32)
      · refine Go.st (fun _ k' => XS.icmpNo X16.here hx rfl (hb hby at_143) rfl (XT.ii_ne_f hc22) k') ?_
        show Go p e below s _ _ _ (T16.setTop (mkF m 146 #[.val (.int uhh), .val (.int ua), .val (.int ub), .val (.int pp), .val (.int uw), .val (.int hh), .val (.int he), .val (.int de), .val (.long kk), .second, .val (.ref b1), .val (.int (fav hh he de pp)), .val (.int (1 : Int32)), .val (.long ((he.toInt64) + (de.toInt64))), .second, .val (.long ((((he.toInt64) + (de.toInt64)) * (100 : Int64)) / (hh.toInt64))), .second] []))
        refine Go.st (fun _ k' => XS.iconst X16.here hx rfl (hb hby at_146) k') ?_
        show Go p e below s _ _ _ (T16.setTop (mkF m 147 #[.val (.int uhh), .val (.int ua), .val (.int ub), .val (.int pp), .val (.int uw), .val (.int hh), .val (.int he), .val (.int de), .val (.long kk), .second, .val (.ref b1), .val (.int (fav hh he de pp)), .val (.int (1 : Int32)), .val (.long ((he.toInt64) + (de.toInt64))), .second, .val (.long ((((he.toInt64) + (de.toInt64)) * (100 : Int64)) / (hh.toInt64))), .second] [(.int (1 : Int32))]))
        refine Go.st (fun _ k' => XS.goto X16.here hx rfl (pc0 := 147) (pc' := 151) rfl (hb hby at_147) (by decide) (by decide) k') ?_
        show Go p e below s _ _ _ (T16.setTop (mkF m 151 #[.val (.int uhh), .val (.int ua), .val (.int ub), .val (.int pp), .val (.int uw), .val (.int hh), .val (.int he), .val (.int de), .val (.long kk), .second, .val (.ref b1), .val (.int (fav hh he de pp)), .val (.int (1 : Int32)), .val (.long ((he.toInt64) + (de.toInt64))), .second, .val (.long ((((he.toInt64) + (de.toInt64)) * (100 : Int64)) / (hh.toInt64))), .second] [(.int (1 : Int32))]))
        refine Go.retB X16 hx hlk (t := .boolean) Bd.returns (by simp) (hb hby at_151) (by decide) (by decide) eq16 ?_
        exact ⟨rfl, N16, trivial⟩
      · refine Go.st (fun _ k' => XS.icmpYes X16.here hx rfl (pc0 := 143) (pc' := 150) rfl (hb hby at_143) rfl (XT.ii_ne_t hc22) (by decide) (by decide) k') ?_
        show Go p e below s _ _ _ (T16.setTop (mkF m 150 #[.val (.int uhh), .val (.int ua), .val (.int ub), .val (.int pp), .val (.int uw), .val (.int hh), .val (.int he), .val (.int de), .val (.long kk), .second, .val (.ref b1), .val (.int (fav hh he de pp)), .val (.int (1 : Int32)), .val (.long ((he.toInt64) + (de.toInt64))), .second, .val (.long ((((he.toInt64) + (de.toInt64)) * (100 : Int64)) / (hh.toInt64))), .second] []))
        refine Go.st (fun _ k' => XS.iconst X16.here hx rfl (hb hby at_150) k') ?_
        show Go p e below s _ _ _ (T16.setTop (mkF m 151 #[.val (.int uhh), .val (.int ua), .val (.int ub), .val (.int pp), .val (.int uw), .val (.int hh), .val (.int he), .val (.int de), .val (.long kk), .second, .val (.ref b1), .val (.int (fav hh he de pp)), .val (.int (1 : Int32)), .val (.long ((he.toInt64) + (de.toInt64))), .second, .val (.long ((((he.toInt64) + (de.toInt64)) * (100 : Int64)) / (hh.toInt64))), .second] [(.int (0 : Int32))]))
        refine Go.retB X16 hx hlk (t := .boolean) Bd.returns (by simp) (hb hby at_151) (by decide) (by decide) eq16 ?_
        have q := own_fl hh he de pp bh hc17 bhe.1 bde
        exact absurd (by simp [fav, hc17, hc21, ← q]) hc22
    · refine Go.st (fun _ k' => XS.ifYes X16.here hx rfl (pc0 := 129) (pc' := 136) rfl (hb hby at_129) rfl (XT.ll_ge_t hc21) (by decide) (by decide) k') ?_
      show Go p e below s _ _ _ (T16.setTop (mkF m 136 #[.val (.int uhh), .val (.int ua), .val (.int ub), .val (.int pp), .val (.int uw), .val (.int hh), .val (.int he), .val (.int de), .val (.long kk), .second, .val (.ref b1), .val (.int (fav hh he de pp)), .unset, .val (.long ((he.toInt64) + (de.toInt64))), .second, .val (.long ((((he.toInt64) + (de.toInt64)) * (100 : Int64)) / (hh.toInt64))), .second] []))
      refine Go.st (fun _ k' => XS.iconst X16.here hx rfl (hb hby at_136) k') ?_
      show Go p e below s _ _ _ (T16.setTop (mkF m 137 #[.val (.int uhh), .val (.int ua), .val (.int ub), .val (.int pp), .val (.int uw), .val (.int hh), .val (.int he), .val (.int de), .val (.long kk), .second, .val (.ref b1), .val (.int (fav hh he de pp)), .unset, .val (.long ((he.toInt64) + (de.toInt64))), .second, .val (.long ((((he.toInt64) + (de.toInt64)) * (100 : Int64)) / (hh.toInt64))), .second] [(.int (0 : Int32))]))
      refine Go.st (fun _ k' => XS.istore X16.here hx rfl (hb hby at_137) rfl (l' := #[.val (.int uhh), .val (.int ua), .val (.int ub), .val (.int pp), .val (.int uw), .val (.int hh), .val (.int he), .val (.int de), .val (.long kk), .second, .val (.ref b1), .val (.int (fav hh he de pp)), .val (.int (0 : Int32)), .val (.long ((he.toInt64) + (de.toInt64))), .second, .val (.long ((((he.toInt64) + (de.toInt64)) * (100 : Int64)) / (hh.toInt64))), .second]) rfl k') ?_
      show Go p e below s _ _ _ (T16.setTop (mkF m 139 #[.val (.int uhh), .val (.int ua), .val (.int ub), .val (.int pp), .val (.int uw), .val (.int hh), .val (.int he), .val (.int de), .val (.long kk), .second, .val (.ref b1), .val (.int (fav hh he de pp)), .val (.int (0 : Int32)), .val (.long ((he.toInt64) + (de.toInt64))), .second, .val (.long ((((he.toInt64) + (de.toInt64)) * (100 : Int64)) / (hh.toInt64))), .second] []))
      refine Go.st (fun _ k' => XS.iload X16.here hx rfl (hb hby at_139) rfl k') ?_
      show Go p e below s _ _ _ (T16.setTop (mkF m 141 #[.val (.int uhh), .val (.int ua), .val (.int ub), .val (.int pp), .val (.int uw), .val (.int hh), .val (.int he), .val (.int de), .val (.long kk), .second, .val (.ref b1), .val (.int (fav hh he de pp)), .val (.int (0 : Int32)), .val (.long ((he.toInt64) + (de.toInt64))), .second, .val (.long ((((he.toInt64) + (de.toInt64)) * (100 : Int64)) / (hh.toInt64))), .second] [(.int (fav hh he de pp))]))
      refine Go.st (fun _ k' => XS.iload X16.here hx rfl (hb hby at_141) rfl k') ?_
      show Go p e below s _ _ _ (T16.setTop (mkF m 143 #[.val (.int uhh), .val (.int ua), .val (.int ub), .val (.int pp), .val (.int uw), .val (.int hh), .val (.int he), .val (.int de), .val (.long kk), .second, .val (.ref b1), .val (.int (fav hh he de pp)), .val (.int (0 : Int32)), .val (.long ((he.toInt64) + (de.toInt64))), .second, .val (.long ((((he.toInt64) + (de.toInt64)) * (100 : Int64)) / (hh.toInt64))), .second] [(.int (0 : Int32)), (.int (fav hh he de pp))]))
      by_cases hc23 : (fav hh he de pp) = (0 : Int32)
      · refine Go.st (fun _ k' => XS.icmpNo X16.here hx rfl (hb hby at_143) rfl (XT.ii_ne_f hc23) k') ?_
        show Go p e below s _ _ _ (T16.setTop (mkF m 146 #[.val (.int uhh), .val (.int ua), .val (.int ub), .val (.int pp), .val (.int uw), .val (.int hh), .val (.int he), .val (.int de), .val (.long kk), .second, .val (.ref b1), .val (.int (fav hh he de pp)), .val (.int (0 : Int32)), .val (.long ((he.toInt64) + (de.toInt64))), .second, .val (.long ((((he.toInt64) + (de.toInt64)) * (100 : Int64)) / (hh.toInt64))), .second] []))
        refine Go.st (fun _ k' => XS.iconst X16.here hx rfl (hb hby at_146) k') ?_
        show Go p e below s _ _ _ (T16.setTop (mkF m 147 #[.val (.int uhh), .val (.int ua), .val (.int ub), .val (.int pp), .val (.int uw), .val (.int hh), .val (.int he), .val (.int de), .val (.long kk), .second, .val (.ref b1), .val (.int (fav hh he de pp)), .val (.int (0 : Int32)), .val (.long ((he.toInt64) + (de.toInt64))), .second, .val (.long ((((he.toInt64) + (de.toInt64)) * (100 : Int64)) / (hh.toInt64))), .second] [(.int (1 : Int32))]))
        refine Go.st (fun _ k' => XS.goto X16.here hx rfl (pc0 := 147) (pc' := 151) rfl (hb hby at_147) (by decide) (by decide) k') ?_
        show Go p e below s _ _ _ (T16.setTop (mkF m 151 #[.val (.int uhh), .val (.int ua), .val (.int ub), .val (.int pp), .val (.int uw), .val (.int hh), .val (.int he), .val (.int de), .val (.long kk), .second, .val (.ref b1), .val (.int (fav hh he de pp)), .val (.int (0 : Int32)), .val (.long ((he.toInt64) + (de.toInt64))), .second, .val (.long ((((he.toInt64) + (de.toInt64)) * (100 : Int64)) / (hh.toInt64))), .second] [(.int (1 : Int32))]))
        refine Go.retB X16 hx hlk (t := .boolean) Bd.returns (by simp) (hb hby at_151) (by decide) (by decide) eq16 ?_
        exact ⟨rfl, N16, trivial⟩
      · refine Go.st (fun _ k' => XS.icmpYes X16.here hx rfl (pc0 := 143) (pc' := 150) rfl (hb hby at_143) rfl (XT.ii_ne_t hc23) (by decide) (by decide) k') ?_
        show Go p e below s _ _ _ (T16.setTop (mkF m 150 #[.val (.int uhh), .val (.int ua), .val (.int ub), .val (.int pp), .val (.int uw), .val (.int hh), .val (.int he), .val (.int de), .val (.long kk), .second, .val (.ref b1), .val (.int (fav hh he de pp)), .val (.int (0 : Int32)), .val (.long ((he.toInt64) + (de.toInt64))), .second, .val (.long ((((he.toInt64) + (de.toInt64)) * (100 : Int64)) / (hh.toInt64))), .second] []))
        refine Go.st (fun _ k' => XS.iconst X16.here hx rfl (hb hby at_150) k') ?_
        show Go p e below s _ _ _ (T16.setTop (mkF m 151 #[.val (.int uhh), .val (.int ua), .val (.int ub), .val (.int pp), .val (.int uw), .val (.int hh), .val (.int he), .val (.int de), .val (.long kk), .second, .val (.ref b1), .val (.int (fav hh he de pp)), .val (.int (0 : Int32)), .val (.long ((he.toInt64) + (de.toInt64))), .second, .val (.long ((((he.toInt64) + (de.toInt64)) * (100 : Int64)) / (hh.toInt64))), .second] [(.int (0 : Int32))]))
        refine Go.retB X16 hx hlk (t := .boolean) Bd.returns (by simp) (hb hby at_151) (by decide) (by decide) eq16 ?_
        have q := own_fl hh he de pp bh hc17 bhe.1 bde
        exact absurd (by simp [fav, hc17, hc21, ← q]) hc23
set_option maxRecDepth 65536 in
set_option maxHeartbeats 40000000 in
theorem comes_1 {Post : Tables → Env → Array Value → State → Outcome → State → Prop} (hpost : ∀ tb e args s v u, (limb_1_1.after args s (.returned v) u = true ∧ limb_1_2.after args s (.returned v) u = true ∧ True) → FrameEnd s (.returned v) u (Jvm.fieldLocs frame_1_writes args s ++ Jvm.arrayLocs frame_1_arrays args s ++ Jvm.staticLocs frame_1_statics s) 16 128 → Post tb e args s (.returned v) u) :
    ArmFor flags0 classFile x code maxLocals ret World_1 tables_1 room_1 Calls_1 rest_1 Pre_1 Post := by
  intro l hfl _ _ p e ha hc hk s m args below hf hA hF happ hP
  obtain ⟨hcalls, hrest, hpre⟩ := hP
  obtain ⟨-, -, -, hnamed, -, -, -, hat⟩ := (Spec.applies_iff hf).mp happ
  obtain ⟨hg, hn⟩ := and_e (Cond.before_iff.mp (show (Jvm.Cond.and given_1 narrow_1).before args s = true from hpre))
  obtain ⟨hcnt, hg0⟩ := and_e hg
  obtain ⟨ha0, hg1⟩ := and_e hg0
  obtain ⟨ha1, hg2⟩ := and_e hg1
  obtain ⟨ha2, hg3⟩ := and_e hg2
  obtain ⟨ha3, hg4⟩ := and_e hg3
  have ha4 := hg4
  obtain ⟨w0, w1, w2, w3, w4, rfl⟩ : ∃ w0 w1 w2 w3 w4 : Value, args = #[w0, w1, w2, w3, w4] := by
    have hs : args.size = 5 := by simpa [Cond.value, given_1] using hcnt
    obtain ⟨L⟩ := args
    match L, hs with
    | [w0, w1, w2, w3, w4], _ => exact ⟨w0, w1, w2, w3, w4, rfl⟩
  have hw := fun d (hd : d ∈ tables_1) => atoms_spec (ws := Jvm.Cond.code x code maxLocals ret :: tables_1) hat d (List.mem_cons_of_mem _ hd)
  have hfit : Fit s := fun {y c} hc i hi => by
    obtain ⟨ha, rfl⟩ := Array.getElem?_eq_some_iff.mp hc
    have q := List.all_eq_true.mp ((Array.all_eq_true_iff_forall_mem.mp hF) _ (Array.getElem_mem ha)) i (List.mem_range.mpr hi)
    simpa [Array.getElem?_eq_getElem hi] using q
  obtain ⟨i0, ei0⟩ := is_v ha0
  obtain rfl : w0 = (.int i0) := Option.some.inj ei0
  obtain ⟨i1, ei1⟩ := is_v ha1
  obtain rfl : w1 = (.int i1) := Option.some.inj ei1
  obtain ⟨i2, ei2⟩ := is_v ha2
  obtain rfl : w2 = (.int i2) := Option.some.inj ei2
  obtain ⟨i3, ei3⟩ := is_v ha3
  obtain rfl : w3 = (.int i3) := Option.some.inj ei3
  obtain ⟨i4, ei4⟩ := is_v ha4
  obtain rfl : w4 = (.int i4) := Option.some.inj ei4
  obtain ⟨n, o, h1, h2, h3, _, L, rfl, ⟨rfl, N, -⟩, hq⟩ := rm0 l s _ hw tables_1 i0 i1 i2 i3 i4 s.heap s.heap.size (Old.start s)  p e ha hc hk s m _ below hf ((Spec.applies_iff_loose hf).mp happ).1 ⟨rfl, State.Warmed39.refl s, rfl⟩ trivial
  refine ⟨n, _, h1, h2, h3, hpost _ _ _ _ _ _ ⟨Cond.after_iff.mpr rfl, Cond.after_iff.mpr (eq_i res_at (Term.int_eval (1)) rfl), trivial⟩ ⟨hq.1, hq.2.1, (hq.2.2.sift fun y hy => Or.inr (N y hy)).mono (by decide) (by decide)⟩⟩
theorem main_1_1 : Claimed_1_1 := comes_1 fun _ _ _ _ _ _ h hF => ⟨h.1, hF⟩
theorem main_1_2 : Claimed_1_2 := comes_1 fun _ _ _ _ _ _ h hF => ⟨h.2.1, hF⟩
end Jvm.Pilot.@@N@@
namespace Jvm.Pilot.@@N@@
open Jvm Jvm.ClassFile Sem Op Lib Jvm.Free Jvm.Stand Jvm.Pilot.@@N@@.Jvm.D
/-! MADE BY PROGRAM (witnessworld.py) out of the Statement's table words and the real class files: 9 classes; the members and pool entries that the words name. The judged class is class 1, her method 1. -/
namespace start1
open Jvm.ClassFile
def u (s : String) : CpInfo := .utf8 (stringToUtf16 s)
/-- a pool by its gaps: so many unusable entries, then the entry; so many at the end -/
def gap : Nat → List CpInfo → List CpInfo
  | 0, r => r
  | n + 1, r => .unusable :: gap n r
def poolList (es : List (Nat × CpInfo)) (last : Nat) : List CpInfo := es.foldr (fun e r => gap e.1 (e.2 :: r)) (gap last [])
def pool (es : List (Nat × CpInfo)) (last : Nat) : Array CpInfo := ⟨poolList es last⟩
def fileOf (pool : Array CpInfo) (this : Nat) (attrs : Array Attribute := #[]) (ms : Array MethodInfo := #[]) (fl : Nat := 33) (sup : Nat := 0) (ifs : Array Nat := #[]) (fds : Array FieldInfo := #[]) : ClassFile where
  minorVersion := 0
  majorVersion := 65
  constantPool := pool
  accessFlags := fl
  thisClass := this
  superClass := sup
  interfaces := ifs
  fields := fds
  methods := ms
  attributes := attrs
def plain (name : String) (sup : Option ClassId) : Class where
  name := name
  kind := .ordinary
  loader := none
  accessFlags := 33
  super := sup
  interfaces := #[]
  cf := none
  fields := #[]
  methods := #[]
  instanceTypes := #[]
  staticTypes := #[]
  resolved := #[]
  callSites := []
  init := .initialized
  statics := none
  mirror := none

def pool0 : Array CpInfo := pool [(5, u "<init>"), (0, u "()V"), (1, .class_ 10), (1, u "java/lang/Object")] 113

def k0c0 : Code := { maxStack := 0, maxLocals := 1, code := object_method_1_code, exceptionTable := #[], attributes := #[] }
def k0m0 : Method := { name := "<init>", desc := "()V", sig := { parameters := [], returnType := none }, accessFlags := 1, code := some k0c0 }
/-- java/lang/Object -/
def k0 : Class := { plain "java/lang/Object" none with
  accessFlags := 33
  interfaces := #[]
  cf := some (fileOf pool0 8 #[] #[{ accessFlags := 1, nameIndex := 5, descriptorIndex := 6, attributes := #[] }] 33 0 #[] #[])
  fields := #[]
  methods := #[k0m0]
  instanceTypes := #[]
  staticTypes := #[]
  resolved := Array.replicate 124 none
  statics := none }

def pool1 : Array CpInfo := pool [(2, .class_ 4), (1, u "java/lang/Object"), (0, u "<init>"), (0, u "()V"), (0, .integer 2147483647), (0, .long 2147483647), (1, .class_ 11), (0, u "com/example/spillway/spillway/split/PriorityLevel"), (0, .methodref 10 13), (0, .nameAndType 5 14), (0, u "(IIIJJJ)V"), (0, .methodref 10 16), (0, .nameAndType 17 18), (0, u "isAvailabilityBelow"), (0, u "(I)Z"), (0, .long 100), (1, .class_ 22), (0, u "com/example/spillway/spillway/split/PriorityLevelIsAvailabilityBelowPinLaw"), (2, u "law"), (0, u "(IIIII)Z")] 3

def k1m0 : Method := { name := "<init>", desc := "()V", sig := { parameters := [], returnType := none }, accessFlags := 1, code := none }
def k1c1 : Code := { maxStack := 11, maxLocals := 17, code := code, exceptionTable := #[], attributes := #[] }
def k1m1 : Method := { name := "law", desc := "(IIIII)Z", sig := { parameters := [.int, .int, .int, .int, .int], returnType := some .boolean }, accessFlags := 9, code := some k1c1 }
/-- com/example/spillway/spillway/split/PriorityLevelIsAvailabilityBelowPinLaw -/
def k1 : Class := { plain "com/example/spillway/spillway/split/PriorityLevelIsAvailabilityBelowPinLaw" (some 0) with
  accessFlags := 49
  interfaces := #[]
  cf := some (fileOf pool1 21 #[] #[{ accessFlags := 1, nameIndex := 5, descriptorIndex := 6, attributes := #[] }, { accessFlags := 9, nameIndex := 25, descriptorIndex := 26, attributes := #[] }] 49 2 #[] #[])
  fields := #[]
  methods := #[k1m0, k1m1]
  instanceTypes := #[]
  staticTypes := #[]
  resolved := Array.replicate 30 none
  statics := none }

def pool2 : Array CpInfo := pool [(2, .class_ 4), (1, u "com/example/spillway/spillway/split/PriorityLevel"), (0, u "<init>"), (0, u "(IIIJJJ)V"), (0, .methodref 8 9), (0, .class_ 10), (0, .nameAndType 5 11), (0, u "java/lang/Object"), (0, u "()V"), (13, .methodref 2 26), (0, .nameAndType 27 28), (0, u "weighs"), (0, u "(JI)Z"), (3, .fieldref 2 33), (0, .nameAndType 34 35), (0, u "hosts"), (0, u "I"), (0, .fieldref 2 37), (0, .nameAndType 38 35), (0, u "healthy"), (0, .fieldref 2 40), (0, .nameAndType 41 35), (0, u "degraded"), (0, .fieldref 2 43), (0, .nameAndType 44 45), (0, u "hostWeight"), (0, u "J"), (0, .fieldref 2 47), (0, .nameAndType 48 45), (0, u "healthyWeight"), (0, .fieldref 2 50), (0, .nameAndType 51 45), (0, u "degradedWeight"), (4, .long 4294967295), (43, .long 100), (8, u "isAvailabilityBelow"), (0, u "(I)Z")] 25

def k2c0 : Code := { maxStack := 9, maxLocals := 10, code := prog_30_method_2_code, exceptionTable := #[], attributes := #[] }
def k2m0 : Method := { name := "<init>", desc := "(IIIJJJ)V", sig := { parameters := [.int, .int, .int, .long, .long, .long], returnType := none }, accessFlags := 1, code := some k2c0 }
def k2c1 : Code := { maxStack := 6, maxLocals := 3, code := prog_30_method_4_code, exceptionTable := #[], attributes := #[] }
def k2m1 : Method := { name := "weighs", desc := "(JI)Z", sig := { parameters := [.long, .int], returnType := some .boolean }, accessFlags := 10, code := some k2c1 }
def k2c2 : Code := { maxStack := 6, maxLocals := 2, code := prog_30_method_6_code, exceptionTable := #[], attributes := #[] }
def k2m2 : Method := { name := "isAvailabilityBelow", desc := "(I)Z", sig := { parameters := [.int], returnType := some .boolean }, accessFlags := 0, code := some k2c2 }
/-- com/example/spillway/spillway/split/PriorityLevel -/
def k2 : Class := { plain "com/example/spillway/spillway/split/PriorityLevel" (some 0) with
  accessFlags := 49
  interfaces := #[]
  cf := some (fileOf pool2 2 #[] #[{ accessFlags := 1, nameIndex := 5, descriptorIndex := 6, attributes := #[] }, { accessFlags := 10, nameIndex := 27, descriptorIndex := 28, attributes := #[] }, { accessFlags := 0, nameIndex := 109, descriptorIndex := 110, attributes := #[] }] 49 8 #[] #[{ accessFlags := 18, nameIndex := 34, descriptorIndex := 35, attributes := #[] }, { accessFlags := 18, nameIndex := 38, descriptorIndex := 35, attributes := #[] }, { accessFlags := 18, nameIndex := 41, descriptorIndex := 35, attributes := #[] }, { accessFlags := 18, nameIndex := 44, descriptorIndex := 45, attributes := #[] }, { accessFlags := 18, nameIndex := 48, descriptorIndex := 45, attributes := #[] }, { accessFlags := 18, nameIndex := 51, descriptorIndex := 45, attributes := #[] }])
  fields := #[{ name := "hosts", type := .int, accessFlags := 18, slot := 0, constantValue := 0 }, { name := "healthy", type := .int, accessFlags := 18, slot := 1, constantValue := 0 }, { name := "degraded", type := .int, accessFlags := 18, slot := 2, constantValue := 0 }, { name := "hostWeight", type := .long, accessFlags := 18, slot := 3, constantValue := 0 }, { name := "healthyWeight", type := .long, accessFlags := 18, slot := 4, constantValue := 0 }, { name := "degradedWeight", type := .long, accessFlags := 18, slot := 5, constantValue := 0 }]
  methods := #[k2m0, k2m1, k2m2]
  instanceTypes := #[.int, .int, .int, .long, .long, .long]
  staticTypes := #[]
  resolved := Array.replicate 136 none
  statics := none }

def pool3 : Array CpInfo := pool [(1, u "java/lang/Cloneable"), (0, .class_ 1), (0, u "java/lang/Object"), (0, .class_ 3)] 3

/-- java/lang/Cloneable -/
def k3 : Class := { plain "java/lang/Cloneable" (some 0) with
  accessFlags := 1537
  interfaces := #[]
  cf := some (fileOf pool3 2 #[] #[] 1537 4 #[] #[])
  fields := #[]
  methods := #[]
  instanceTypes := #[]
  staticTypes := #[]
  resolved := Array.replicate 8 none
  statics := none }

def pool4 : Array CpInfo := pool [(1, u "java/io/Serializable"), (0, .class_ 1), (0, u "java/lang/Object"), (0, .class_ 3)] 3

/-- java/io/Serializable -/
def k4 : Class := { plain "java/io/Serializable" (some 0) with
  accessFlags := 1537
  interfaces := #[]
  cf := some (fileOf pool4 2 #[] #[] 1537 4 #[] #[])
  fields := #[]
  methods := #[]
  instanceTypes := #[]
  staticTypes := #[]
  resolved := Array.replicate 8 none
  statics := none }

/-- the primitive byte -/
def k5 : Class := { plain "byte" none with kind := .primitive 'B', accessFlags := 0x411 }
/-- [B -/
def k6 : Class := { plain "[B" (some 0) with kind := .array 5 .byte, interfaces := #[3, 4], accessFlags := 1041 }

/-- the primitive int -/
def k7 : Class := { plain "int" none with kind := .primitive 'I', accessFlags := 0x411 }
/-- [I -/
def k8 : Class := { plain "[I" (some 0) with kind := .array 7 .int, interfaces := #[3, 4], accessFlags := 1041 }

def heap : Heap := #[]
def classes : Array Class := #[k0, k1, k2, k3, k4, k5, k6, k7, k8]
def interned : List (Array UInt16 × Addr) := []
def slotsUsed : Nat := 0
def theMethod : MethodId := ⟨1, 1⟩
def args0 : Array Value := #[.int 5, .int 5, .int 5, .int 5, .int 5]
def aboutOver (below : List Frame) : State where
  vm := { classes := classes, interned := interned.toArray }
  heap := heap
  slotsUsed := slotsUsed
  threads := #[{ frames := .invoking theMethod args0 :: below }]
def below0 : List Frame := [.native { method := ⟨0, 0⟩, args := #[] }]
def about1 : State := aboutOver below0
def p0 : Program := .bare "" "" ""
def e0 : Env := launch0.env 0 0 0
theorem w_frames : about1.frames = Frame.invoking theMethod args0 :: below0 := rfl
set_option maxRecDepth 65536 in
theorem w_args : argsFit about1.vm theMethod args0 = true := by decide +kernel
set_option maxRecDepth 65536 in
theorem w_heap : heapFits about1 = true := by decide +kernel
set_option maxRecDepth 65536 in
theorem w_runnable : about1.curStatus? = some .runnable := by decide +kernel
set_option maxRecDepth 65536 in
theorem w_alone : about1.alone = true := by decide +kernel
set_option maxRecDepth 65536 in
theorem w_named : about1.methodNamed? x = some theMethod := by decide +kernel
set_option maxRecDepth 65536 in
theorem w_hears : about1.hears theMethod below0 = true := by decide +kernel
set_option maxRecDepth 65536 in
theorem w_ripe : about1.ripe theMethod args0 below0 = true := by decide +kernel
theorem w_running : about1.status = .running := rfl
set_option maxRecDepth 65536 in
theorem w_room : about1.hasRoom e0.platform room_1 = true :=
  launch0.hasRoom_least _ room_1 (by decide +kernel) (by decide +kernel) (by decide +kernel) (by decide +kernel) (by decide +kernel) (by decide +kernel)
theorem allAtoms_all (ts : List Jvm.Cond) (a : Array Jvm.Value) (st : Jvm.State) : (allAtoms ts).before a st = ts.all (fun c => c.before a st) := by
  induction ts with
  | nil => rfl
  | cons c t ih =>
    show (Jvm.Cond.and c (allAtoms t)).before a st = _
    rw [Jvm.Cond.before_and, ih, List.all_cons]
def words1 : List Jvm.Cond := Jvm.Cond.code x code maxLocals ret :: tables_1
/-- a 'code' word, met by the world's own term for the bytes: nothing is compared byte by byte -/
theorem code_word {y : MethodName} {bytes : ByteArray} {mx : Nat} {rt : Option FieldType} {a : Array Value} {s : State} {m : MethodId} {meth : Method} {c : Code} (h1 : s.methodNamed? y = some m) (h2 : s.vm.method? m = some meth) (h3 : meth.code = some c) (h4 : c.code = bytes)
    (h5 : (c.maxLocals == mx && c.exceptionTable.isEmpty && decide (c.maxStack ≤ mostOperands) && decide (meth.sig.returnType = rt) && !meth.locks && decide (parseMethodDescriptor y.desc = some meth.sig)) = true) : (Jvm.Cond.code y bytes mx rt).before a s = true := by
  simp only [Bool.and_eq_true, beq_iff_eq, Bool.not_eq_true', decide_eq_true_eq] at h5
  obtain ⟨⟨⟨⟨⟨g1, g2⟩, g3⟩, g4⟩, g5⟩, g6⟩ := h5
  simp [Cond.before, Cond.holds, Cond.value, h1, h2, h3, h4, g1, g2, g3, g4, g5, g6]
def isCode : Jvm.Cond → Bool
  | .code _ _ _ _ => true
  | _ => false
theorem all_split {L : List Jvm.Cond} {P : Jvm.Cond → Bool} (h1 : L.all (fun c => isCode c || P c) = true) (h2 : ∀ c ∈ L.filter isCode, P c = true) : L.all P = true := by
  refine List.all_eq_true.mpr fun c hc => ?_
  have h := List.all_eq_true.mp h1 c hc
  rcases Bool.eq_false_or_eq_true (isCode c) with hi | hi
  · exact h2 c (List.mem_filter.mpr ⟨hc, hi⟩)
  · simpa [hi] using h
set_option maxRecDepth 65536 in
theorem w_c0 : (Jvm.Cond.code x code maxLocals ret).before args0 about1 = true := code_word (m := ⟨1, 1⟩) (meth := k1m1) (c := k1c1) (by decide +kernel) rfl rfl rfl (by decide +kernel)
set_option maxRecDepth 65536 in
theorem w_c1 : (Jvm.Cond.code ({ cls := "com/example/spillway/spillway/split/PriorityLevel", name := "<init>", desc := "(IIIJJJ)V" } : Jvm.MethodName) prog_30_method_2_code (10 : Nat) (Option.none : Option Jvm.ClassFile.FieldType)).before args0 about1 = true := code_word (m := ⟨2, 0⟩) (meth := k2m0) (c := k2c0) (by decide +kernel) rfl rfl rfl (by decide +kernel)
set_option maxRecDepth 65536 in
theorem w_c2 : (Jvm.Cond.code ({ cls := "java/lang/Object", name := "<init>", desc := "()V" } : Jvm.MethodName) object_method_1_code (1 : Nat) (Option.none : Option Jvm.ClassFile.FieldType)).before args0 about1 = true := code_word (m := ⟨0, 0⟩) (meth := k0m0) (c := k0c0) (by decide +kernel) rfl rfl rfl (by decide +kernel)
set_option maxRecDepth 65536 in
theorem w_c3 : (Jvm.Cond.code ({ cls := "com/example/spillway/spillway/split/PriorityLevel", name := "weighs", desc := "(JI)Z" } : Jvm.MethodName) prog_30_method_4_code (3 : Nat) (Option.some Jvm.ClassFile.FieldType.boolean)).before args0 about1 = true := code_word (m := ⟨2, 1⟩) (meth := k2m1) (c := k2c1) (by decide +kernel) rfl rfl rfl (by decide +kernel)
set_option maxRecDepth 65536 in
theorem w_c4 : (Jvm.Cond.code ({ cls := "com/example/spillway/spillway/split/PriorityLevel", name := "isAvailabilityBelow", desc := "(I)Z" } : Jvm.MethodName) prog_30_method_6_code (2 : Nat) (Option.some Jvm.ClassFile.FieldType.boolean)).before args0 about1 = true := code_word (m := ⟨2, 2⟩) (meth := k2m2) (c := k2c2) (by decide +kernel) rfl rfl rfl (by decide +kernel)
def codes1 : List Jvm.Cond := [Jvm.Cond.code x code maxLocals ret, Jvm.Cond.code ({ cls := "com/example/spillway/spillway/split/PriorityLevel", name := "<init>", desc := "(IIIJJJ)V" } : Jvm.MethodName) prog_30_method_2_code (10 : Nat) (Option.none : Option Jvm.ClassFile.FieldType), Jvm.Cond.code ({ cls := "java/lang/Object", name := "<init>", desc := "()V" } : Jvm.MethodName) object_method_1_code (1 : Nat) (Option.none : Option Jvm.ClassFile.FieldType), Jvm.Cond.code ({ cls := "com/example/spillway/spillway/split/PriorityLevel", name := "weighs", desc := "(JI)Z" } : Jvm.MethodName) prog_30_method_4_code (3 : Nat) (Option.some Jvm.ClassFile.FieldType.boolean), Jvm.Cond.code ({ cls := "com/example/spillway/spillway/split/PriorityLevel", name := "isAvailabilityBelow", desc := "(I)Z" } : Jvm.MethodName) prog_30_method_6_code (2 : Nat) (Option.some Jvm.ClassFile.FieldType.boolean)]
set_option maxRecDepth 65536 in
theorem codes_eq : words1.filter isCode = codes1 := rfl
theorem w_codes : ∀ c ∈ words1.filter isCode, c.before args0 about1 = true := by
  rw [codes_eq]
  intro c hc
  simp only [codes1, List.mem_cons, List.not_mem_nil, or_false] at hc
  rcases hc with rfl | rfl | rfl | rfl | rfl
  · exact w_c0
  · exact w_c1
  · exact w_c2
  · exact w_c3
  · exact w_c4
set_option maxRecDepth 65536 in
theorem w_t1 : (words1.take 24).all (fun c => isCode c || c.before args0 about1) = true := by decide +kernel
set_option maxRecDepth 65536 in
theorem w_t2 : (words1.drop 24).all (fun c => isCode c || c.before args0 about1) = true := by decide +kernel
theorem w_tables : (allAtoms (Jvm.Cond.code x code maxLocals ret :: tables_1)).before args0 about1 = true := by
  rw [allAtoms_all]
  show words1.all (fun c => c.before args0 about1) = true
  refine all_split ?_ w_codes
  rw [← List.take_append_drop 24 words1, List.all_append, w_t1, w_t2]
  rfl
set_option maxRecDepth 65536 in
theorem w_case : (Jvm.Cond.and given_1 narrow_1).before args0 about1 = true := by decide +kernel
theorem w_applies : (headSpec (Jvm.Cond.code x code maxLocals ret :: tables_1) room_1).applies x e0.platform about1 = true :=
  (Spec.applies_iff w_frames).mpr ⟨w_running, w_runnable, w_alone, w_named, w_hears, w_ripe, w_room, w_tables⟩
theorem atStart : AtStart classFile x code maxLocals ret World_1 tables_1 room_1 Calls_1 rest_1 Pre_1 launch0 p0 e0 about1 theMethod args0 below0 :=
  ⟨lists_1, trivial, launch0.admits_env _ _ _, launch0.least_env, fairChoices_fair.cas, fairChoices_fair.clock, w_frames, w_args, w_heap, w_applies, trivial, trivial, w_case⟩
end start1
theorem witness_1 : WitnessClaimed_1 := ⟨start1.p0, start1.e0, start1.about1, start1.theMethod, start1.args0, start1.below0, start1.atStart⟩
end Jvm.Pilot.@@N@@
