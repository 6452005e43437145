import JvmDerived
import JvmDerived.Pilot.@@N@@Statement
import JvmDerived.Pilot.@@N@@Code
set_option linter.unusedVariables false
set_option linter.unusedSimpArgs false
@@BLOCK:HandJ.lean.txt@@
@@BLOCK:SymMore.lean.txt@@
namespace Jvm.Pilot.@@N@@
section FlA
open Jvm Jvm.FP.Core Jvm.RoadKit
theorem own_qle {a b : UInt64} {V : Datum} {s : Bool} {c : Nat} {q : Int} {d : Nat} {r : Int} (ea : val64 a = .fin s c q) (eb : val64 b = .fin false d r) (hd : d ≠ 0) (fV : Jvm.FP.Core.fits b64 V) (hV : V ≠ .nan) (h : zmag b64 (val64 a) * one64 ≤ zmag b64 V * zmag b64 (val64 b)) : zmag b64 (val64 (ddiv a b)) ≤ zmag b64 V := by
  have fa := val64_fits a; have fb := val64_fits b
  rw [ea] at fa h; rw [eb] at fb h
  rw [val64_ddiv, ea, eb]
  show zmag b64 (if d = 0 then _ else _) ≤ _
  rw [if_neg hd]
  have q1 := fa.2.1; have q2 := fb.2.1
  have e0 : b64.qmin = -1074 := by decide
  refine zmag_roundRatio_le good_b64 (e0 := 2 * b64.qmin - r) (Nat.pos_of_ne_zero hd) fV hV (by omega) (by omega) ?_
  have i1 : inUnits c (q - r) (2 * b64.qmin - r) = zmag b64 (.fin s c q) * one64 := by
    show _ = inUnits c q b64.qmin * one64
    unfold inUnits one64
    rw [Nat.mul_assoc, ← Nat.pow_add]; congr 2; omega
  have i2 : zmag b64 V * 2 ^ (b64.qmin - (2 * b64.qmin - r)).toNat * d = zmag b64 V * zmag b64 (.fin false d r) := by
    show _ = zmag b64 V * inUnits d r b64.qmin
    unfold inUnits
    rw [show (b64.qmin - (2 * b64.qmin - r)).toNat = (r - b64.qmin).toNat by omega]; ac_rfl
  rw [i1, i2]; exact h
theorem own_qge {a b : UInt64} {V : Datum} {s : Bool} {c : Nat} {q : Int} {d : Nat} {r : Int} (ea : val64 a = .fin s c q) (eb : val64 b = .fin false d r) (hd : d ≠ 0) (fV : Jvm.FP.Core.fits b64 V) (h : zmag b64 V * zmag b64 (val64 b) ≤ zmag b64 (val64 a) * one64) : zmag b64 V ≤ zmag b64 (val64 (ddiv a b)) := by
  have fa := val64_fits a; have fb := val64_fits b
  rw [ea] at fa h; rw [eb] at fb h
  rw [val64_ddiv, ea, eb]
  show _ ≤ zmag b64 (if d = 0 then _ else _)
  rw [if_neg hd]
  have q1 := fa.2.1; have q2 := fb.2.1
  have e0 : b64.qmin = -1074 := by decide
  refine zmag_roundRatio_ge good_b64 (e0 := 2 * b64.qmin - r) (Nat.pos_of_ne_zero hd) fV (by omega) (by omega) ?_
  have i1 : inUnits c (q - r) (2 * b64.qmin - r) = zmag b64 (.fin s c q) * one64 := by
    show _ = inUnits c q b64.qmin * one64
    unfold inUnits one64
    rw [Nat.mul_assoc, ← Nat.pow_add]; congr 2; omega
  have i2 : zmag b64 V * 2 ^ (b64.qmin - (2 * b64.qmin - r)).toNat * d = zmag b64 V * zmag b64 (.fin false d r) := by
    show _ = zmag b64 V * inUnits d r b64.qmin
    unfold inUnits
    rw [show (b64.qmin - (2 * b64.qmin - r)).toNat = (r - b64.qmin).toNat by omega]; ac_rfl
  rw [i1, i2]; exact h
theorem own_qsg {a b : UInt64} {s : Bool} {c : Nat} {q : Int} {d : Nat} {r : Int} (ea : val64 a = .fin s c q) (eb : val64 b = .fin false d r) (hd : d ≠ 0) : sgn (val64 (ddiv a b)) = s := by
  rw [val64_ddiv, ea, eb]
  show sgn (if d = 0 then _ else _) = _
  rw [if_neg hd, sgn_roundRatio]; cases s <;> rfl
theorem own_sg (s t : Bool) (m k : Nat) : signed (s != t) (m * k) = signed s m * signed t k := by
  cases s <;> cases t <;> simp [signed, Int.natCast_mul, Int.neg_mul, Int.mul_neg]
theorem own_ple {a b : UInt64} {V : Datum} (ha : DFin a) (hb : DFin b) (fV : Jvm.FP.Core.fits b64 V) (hV : V ≠ .nan) (h : zval b64 (val64 a) * zval b64 (val64 b) ≤ zval b64 V * (one64 : Int)) : zval b64 (val64 (dmul a b)) ≤ zval b64 V := by
  obtain ⟨s, c, q, ea⟩ := ha; obtain ⟨t, d, r, eb⟩ := hb
  have fa := val64_fits a; have fb := val64_fits b
  rw [ea] at fa h; rw [eb] at fb h
  rw [val64_dmul, ea, eb]
  obtain ⟨p1, p2, p3⟩ := product_units fa fb
  rw [p1]
  refine zval_round_le good_b64 fV hV (e0 := 2 * b64.qmin) (by decide) p2 ?_
  rw [p3, show (b64.qmin - 2 * b64.qmin).toNat = 1074 by decide]
  have e : signed (s != t) (zmag b64 (.fin s c q) * zmag b64 (.fin t d r)) = zval b64 (.fin s c q) * zval b64 (.fin t d r) := by
    exact own_sg s t _ _
  rw [e]; exact h
theorem own_pge {a b : UInt64} {V : Datum} (ha : DFin a) (hb : DFin b) (fV : Jvm.FP.Core.fits b64 V) (hV : V ≠ .nan) (h : zval b64 V * (one64 : Int) ≤ zval b64 (val64 a) * zval b64 (val64 b)) : zval b64 V ≤ zval b64 (val64 (dmul a b)) := by
  obtain ⟨s, c, q, ea⟩ := ha; obtain ⟨t, d, r, eb⟩ := hb
  have fa := val64_fits a; have fb := val64_fits b
  rw [ea] at fa h; rw [eb] at fb h
  rw [val64_dmul, ea, eb]
  obtain ⟨p1, p2, p3⟩ := product_units fa fb
  rw [p1]
  refine zval_round_ge good_b64 fV hV (e0 := 2 * b64.qmin) (by decide) p2 ?_
  rw [p3, show (b64.qmin - 2 * b64.qmin).toNat = 1074 by decide]
  have e : signed (s != t) (zmag b64 (.fin s c q) * zmag b64 (.fin t d r)) = zval b64 (.fin s c q) * zval b64 (.fin t d r) := by
    exact own_sg s t _ _
  rw [e]; exact h
theorem own_sle {a b : UInt64} {V : Datum} (ha : DFin a) (hb : DFin b) (fV : Jvm.FP.Core.fits b64 V) (hV : V ≠ .nan) (h : zval b64 (val64 a) - zval b64 (val64 b) ≤ zval b64 V) : zval b64 (val64 (dsub a b)) ≤ zval b64 V := by
  rw [val64_dsub]
  refine sum_le good_b64 ha ?_ (val64_fits a) (negate_fits (val64_fits b)) fV hV (by rw [zval_negate]; omega)
  obtain ⟨s, c, q, eb⟩ := hb; exact ⟨!s, c, q, by rw [eb]; rfl⟩
theorem own_sge {a b : UInt64} {V : Datum} (ha : DFin a) (hb : DFin b) (fV : Jvm.FP.Core.fits b64 V) (hV : V ≠ .nan) (h : zval b64 V ≤ zval b64 (val64 a) - zval b64 (val64 b)) : zval b64 V ≤ zval b64 (val64 (dsub a b)) := by
  rw [val64_dsub]
  refine sum_ge good_b64 ha ?_ (val64_fits a) (negate_fits (val64_fits b)) fV hV (by rw [zval_negate]; omega)
  obtain ⟨s, c, q, eb⟩ := hb; exact ⟨!s, c, q, by rw [eb]; rfl⟩
theorem own_ale {a b : UInt64} {V : Datum} (ha : DFin a) (hb : DFin b) (fV : Jvm.FP.Core.fits b64 V) (hV : V ≠ .nan) (h : zval b64 (val64 a) + zval b64 (val64 b) ≤ zval b64 V) : zval b64 (val64 (dadd a b)) ≤ zval b64 V := by
  rw [val64_dadd]; exact sum_le good_b64 ha hb (val64_fits a) (val64_fits b) fV hV h
theorem own_age {a b : UInt64} {V : Datum} (ha : DFin a) (hb : DFin b) (fV : Jvm.FP.Core.fits b64 V) (hV : V ≠ .nan) (h : zval b64 V ≤ zval b64 (val64 a) + zval b64 (val64 b)) : zval b64 V ≤ zval b64 (val64 (dadd a b)) := by
  rw [val64_dadd]; exact sum_ge good_b64 ha hb (val64_fits a) (val64_fits b) fV hV h
/-- a number that is double the number of a datum -/
theorem own_dbl {a : Int64} (h : Small53 a) (hz : a.toInt ≠ 0) : ∃ V : Datum, Jvm.FP.Core.fits b64 V ∧ V ≠ .nan ∧ zval b64 V = 2 * a.toInt * (one64 : Int) := by
  obtain ⟨c, q, e⟩ := l2d_shape a
  have f := val64_fits (l2d a)
  have z := DInt_zval (l2d_whole h)
  have m := l2d_mag a
  rw [e] at f z
  have f1 := f.2.1
  obtain ⟨s', c', q', e', m'⟩ := mag_bits m (by decide)
  rw [e] at e'; cases e'
  have hq : q < 200 := by
    refine Int.lt_of_not_ge fun hq => ?_
    have hc : 0 < c := by
      rcases Nat.eq_zero_or_pos c with h0 | h0
      · subst h0
        have : zval b64 (.fin (decide (a.toInt < 0)) 0 q) = 0 := by unfold zval; show signed _ (inUnits 0 q _) = 0; unfold inUnits; rw [Nat.zero_mul]; cases decide (a.toInt < 0) <;> rfl
        rw [this] at z
        rcases Int.mul_eq_zero.mp z.symm with h1 | h1
        · exact absurd h1 hz
        · have := one64_pos; omega
      · exact h0
    have e0 : b64.qmin = -1074 := by decide
    have p1 : 2 ^ 1274 ≤ 2 ^ (q - b64.qmin).toNat := Nat.pow_le_pow_right (by decide) (by omega)
    have p2 : (2 : Nat) ^ 52 * 2 ^ (1088 - 1) = 2 ^ 1139 := by rw [← Nat.pow_add]
    have p3 : (2 : Nat) ^ 1139 ≤ 2 ^ 1274 := Nat.pow_le_pow_right (by decide) (by decide)
    have p4 : 2 ^ (q - b64.qmin).toNat ≤ c * 2 ^ (q - b64.qmin).toNat := Nat.le_mul_of_pos_left _ hc
    rw [p2] at m'
    generalize (2 : Nat) ^ 1139 = A at *
    generalize (2 : Nat) ^ 1274 = B at *
    omega
  have hc2 : b64.tails ≤ c := by
    rcases f.2.2.2 with h1 | h1
    · exfalso
      subst h1
      have : zval b64 (.fin (decide (a.toInt < 0)) c b64.qmin) = signed (decide (a.toInt < 0)) c := by
        unfold zval; show signed _ (inUnits c _ _) = _; unfold inUnits; rw [Int.sub_self]; show signed _ (c * 1) = _; rw [Nat.mul_one]; rfl
      rw [this] at z
      have hcp : c < 2 ^ 53 := f.1
      have p1 : (2 : Nat) ^ 53 ≤ one64 := Nat.pow_le_pow_right (by decide) (by decide)
      have p2 : one64 ≤ a.toInt.natAbs * one64 := Nat.le_mul_of_pos_left _ (by omega)
      have p3 : (signed (decide (a.toInt < 0)) c).natAbs = c := by cases decide (a.toInt < 0) <;> simp [signed]
      have p4 := congrArg Int.natAbs z
      rw [p3, Int.natAbs_mul, Int.natAbs_natCast] at p4
      generalize one64 = A at *
      omega
    · exact h1
  refine ⟨.fin (decide (a.toInt < 0)) c (q + 1), ⟨f.1, by omega, ?_, Or.inr hc2⟩, nofun, ?_⟩
  · have : b64.qmax = 971 := by decide
    omega
  · have : zval b64 (.fin (decide (a.toInt < 0)) c (q + 1)) = 2 * zval b64 (.fin (decide (a.toInt < 0)) c q) := by
      unfold zval; show signed (decide (a.toInt < 0)) (inUnits c (q + 1) _) = 2 * signed (decide (a.toInt < 0)) (inUnits c q _)
      have e1 : inUnits c (q + 1) b64.qmin = inUnits c q b64.qmin * 2 := by
        unfold inUnits; rw [show (q + 1 - b64.qmin).toNat = (q - b64.qmin).toNat + 1 by omega, Nat.pow_succ, Nat.mul_assoc]
      rw [e1]; cases decide (a.toInt < 0) <;> simp [signed] <;> omega
    rw [this, z, Int.mul_assoc]
theorem own_zl {x : Int64} (h : Small53 x) : zval b64 (val64 (l2d x)) = x.toInt * (one64 : Int) := DInt_zval (l2d_whole h)
theorem own_nn {x : Int64} (h : Small53 x) (h0 : 0 ≤ x.toInt) : ∃ c q, val64 (l2d x) = .fin false c q ∧ (zmag b64 (val64 (l2d x)) : Int) = x.toInt * (one64 : Int) := by
  obtain ⟨c, q, e⟩ := l2d_shape x
  rw [show decide (x.toInt < 0) = false from decide_eq_false (by omega)] at e
  have z := own_zl h
  refine ⟨c, q, e, ?_⟩
  rw [← z]; unfold zval; rw [e]; rfl
theorem own_po {x : Int64} (h : Small53 x) (h0 : 0 < x.toInt) : ∃ c q, val64 (l2d x) = .fin false c q ∧ c ≠ 0 ∧ (zmag b64 (val64 (l2d x)) : Int) = x.toInt * (one64 : Int) := by
  obtain ⟨c, q, e, z⟩ := own_nn h (by omega)
  refine ⟨c, q, e, fun hc => ?_, z⟩
  have m0 : zmag b64 (val64 (l2d x)) = 0 := by rw [e, hc]; show inUnits 0 q _ = 0; unfold inUnits; rw [Nat.zero_mul]
  rw [m0] at z
  have := one64_pos
  have p : 0 < x.toInt * (one64 : Int) := Int.mul_pos h0 (by omega)
  omega
theorem own_mm {a : UInt64} {K K' : Nat} (h : a.toNat % 2 ^ 63 < K * 2 ^ 52) (hk : K ≤ K') : a.toNat % 2 ^ 63 < K' * 2 ^ 52 := Nat.lt_of_lt_of_le h (Nat.mul_le_mul_right _ hk)
theorem own_fin (S C t q : Int64) (hC : C.toInt ≠ 0) (ht : t.toInt ≠ 0) : DFin (ddiv (l2d S) (l2d C)) ∧ DFin (dsub (l2d t) (ddiv (l2d S) (l2d C))) ∧ DFin (dmul (l2d q) (dsub (l2d t) (ddiv (l2d S) (l2d C)))) ∧ DFin (ddiv (dmul (l2d q) (dsub (l2d t) (ddiv (l2d S) (l2d C)))) (l2d t)) ∧ DFin (dadd (l2d q) (ddiv (dmul (l2d q) (dsub (l2d t) (ddiv (l2d S) (l2d C)))) (l2d t))) := by
  have m1 := ddiv_mag (l2d_mag S) (l2d_big hC).1 (l2d_big hC).2 (by decide) (by decide)
  have m2 := dsub_mag (own_mm (l2d_mag t) (K' := 1089) (by decide)) m1 (by decide)
  have m3 := dmul_mag (l2d_mag q) m2 (by decide) (by decide)
  have m4 := ddiv_mag m3 (l2d_big ht).1 (l2d_big ht).2 (by decide) (by decide)
  have m5 := dadd_mag (own_mm (l2d_mag q) (K' := 1158) (by decide)) m4 (by decide)
  exact ⟨fin_of_lt m1 (by decide), fin_of_lt m2 (by decide), fin_of_lt m3 (by decide), fin_of_lt m4 (by decide), fin_of_lt m5 (by decide)⟩
theorem own_sgv {d : Datum} (h : sgn d = false) : zval b64 d = (zmag b64 d : Int) := by unfold zval; rw [h]; rfl
theorem own_zp {f : Fmt} (d : Datum) : 0 ≤ zval f d ∨ zval f d ≤ 0 := by omega
theorem own_r1 (a b u : Int) : a * u * (b * u) = a * b * u * u := by ac_rfl
theorem own_r2 (q t' u : Int) : q * u * (-(2 * t') * u) = 2 * -(q * t') * u * u := by simp only [Int.neg_mul, Int.mul_neg]; congr 1; ac_rfl
theorem own_r3 (q t' u : Int) : 2 * -(q * t') * u = -(2 * (q * t' * u)) := by simp only [Int.neg_mul, Int.mul_neg]; congr 1; ac_rfl
theorem own_r4 (q t' u : Int) : q * u * (2 * t' * u) = 2 * (q * t' * u) * u := by ac_rfl
theorem own_lat {S C : Int64} (hS : Small53 S) (hS0 : 0 ≤ S.toInt) (hC : Small53 C) (hC0 : 0 < C.toInt) {V : Int64} (hV : Small53 V) (hV0 : 0 ≤ V.toInt) :
    (S.toInt ≤ V.toInt * C.toInt → zval b64 (val64 (ddiv (l2d S) (l2d C))) ≤ V.toInt * (one64 : Int)) ∧ (V.toInt * C.toInt ≤ S.toInt → V.toInt * (one64 : Int) ≤ zval b64 (val64 (ddiv (l2d S) (l2d C)))) ∧ 0 ≤ zval b64 (val64 (ddiv (l2d S) (l2d C))) := by
  obtain ⟨c, q, ea, za⟩ := own_nn hS hS0
  obtain ⟨d, r, eb, hd, zb⟩ := own_po hC hC0
  obtain ⟨v, w, ev, zv⟩ := own_nn hV hV0
  have sg := own_qsg ea eb hd
  rw [own_sgv sg]
  have hu := one64_pos
  refine ⟨fun h => ?_, fun h => ?_, by omega⟩
  · have := own_qle ea eb hd (val64_fits (l2d V)) (by rw [ev]; nofun) (by
      apply Int.ofNat_le.mp
      rw [Int.natCast_mul, Int.natCast_mul, za, zv, zb]
      have := Int.mul_le_mul_of_nonneg_right (Int.mul_le_mul_of_nonneg_right h (Int.natCast_nonneg one64)) (Int.natCast_nonneg one64)
      have e : V.toInt * (one64 : Int) * (C.toInt * (one64 : Int)) = V.toInt * C.toInt * (one64 : Int) * (one64 : Int) := own_r1 _ _ _
      rw [e]; exact this)
    rw [← zv]; exact Int.ofNat_le.mpr this
  · have := own_qge ea eb hd (V := val64 (l2d V)) (val64_fits (l2d V)) (by
      apply Int.ofNat_le.mp
      rw [Int.natCast_mul, Int.natCast_mul, za, zv, zb]
      have := Int.mul_le_mul_of_nonneg_right (Int.mul_le_mul_of_nonneg_right h (Int.natCast_nonneg one64)) (Int.natCast_nonneg one64)
      have e : V.toInt * (one64 : Int) * (C.toInt * (one64 : Int)) = V.toInt * C.toInt * (one64 : Int) * (one64 : Int) := own_r1 _ _ _
      rw [e]; exact this)
    rw [← zv]; exact Int.ofNat_le.mpr this
theorem own_nnan {x : Int64} : val64 (l2d x) ≠ .nan := (l2d_fin x).ne_nan
theorem own_up {S C t q : Int64} (hS : Small53 S) (hS0 : 0 ≤ S.toInt) (hC : Small53 C) (hC0 : 0 < C.toInt) (ht : Small53 t) (ht0 : 0 < t.toInt) (hq : Small53 q) (hq0 : 0 < q.toInt) (h : S.toInt ≤ t.toInt * C.toInt) :
    q.toInt * (one64 : Int) ≤ zval b64 (val64 (dadd (l2d q) (ddiv (dmul (l2d q) (dsub (l2d t) (ddiv (l2d S) (l2d C)))) (l2d t)))) := by
  obtain ⟨f1, f2, f3, f4, f5⟩ := own_fin S C t q (by omega) (by omega)
  have l1 := (own_lat hS hS0 hC hC0 ht (by omega)).1 h
  generalize ddiv (l2d S) (l2d C) = lat at *
  have d1 := own_sge (l2d_fin t) f1 (V := val64 0) (val64_fits 0) (by decide +kernel) (by rw [zval64_zero, own_zl ht]; omega)
  rw [zval64_zero] at d1
  generalize dsub (l2d t) lat = D at *
  have m1 := own_pge (l2d_fin q) f2 (V := val64 0) (val64_fits 0) (by decide +kernel) (by
    rw [zval64_zero, own_zl hq, Int.zero_mul]
    exact Int.mul_nonneg (Int.mul_nonneg (by omega) (by have := one64_pos; omega)) d1)
  rw [zval64_zero] at m1
  generalize dmul (l2d q) D = M at *
  obtain ⟨s, c, k, em⟩ := f3
  obtain ⟨d, r, eb, hd, zb⟩ := own_po ht ht0
  have sg := own_qsg em eb hd
  have q1 : 0 ≤ zval b64 (val64 (ddiv M (l2d t))) := by
    cases s
    · rw [own_sgv sg]; omega
    · have z0 : zmag b64 (val64 M) = 0 := by
        rw [em] at m1 ⊢; unfold zval at m1
        have : signed (sgn (.fin true c k)) (zmag b64 (.fin true c k)) = -(zmag b64 (.fin true c k) : Int) := rfl
        omega
      have := own_qle em eb hd (V := val64 0) (val64_fits 0) (by decide +kernel) (by rw [z0, Nat.zero_mul]; exact Nat.zero_le _)
      have e0 : zmag b64 (val64 0) = 0 := by decide +kernel
      unfold zval; rw [sg]
      show 0 ≤ -((zmag b64 (val64 (ddiv M (l2d t))) : Nat) : Int)
      omega
  have := own_age (l2d_fin q) f4 (V := val64 (l2d q)) (val64_fits _) own_nnan (by omega)
  rw [own_zl hq] at this; exact this
theorem own_dn {S C t q t' : Int64} (hS : Small53 S) (hS0 : 0 ≤ S.toInt) (hC : Small53 C) (hC0 : 0 < C.toInt) (ht : Small53 t) (ht0 : 0 < t.toInt) (hq : Small53 q) (hq0 : 0 < q.toInt) (hh : t.toInt = 2 * t'.toInt) (w w2 : Int64) (hw : Small53 w) (ew : w.toInt = -(q.toInt * t'.toInt)) (hw2 : Small53 w2) (ew2 : w2.toInt = 2 * t.toInt) (h : 2 * t.toInt * C.toInt ≤ S.toInt) :
    zval b64 (val64 (dadd (l2d q) (ddiv (dmul (l2d q) (dsub (l2d t) (ddiv (l2d S) (l2d C)))) (l2d t)))) ≤ 0 := by
  obtain ⟨f1, f2, f3, f4, f5⟩ := own_fin S C t q (by omega) (by omega)
  have hu := one64_pos
  have l1 := (own_lat hS hS0 hC hC0 hw2 (by omega)).2.1 (by rw [ew2]; exact h)
  rw [ew2] at l1
  generalize ddiv (l2d S) (l2d C) = lat at *
  have nt : Small53 (-t) ∧ (-t).toInt = -t.toInt := by
    have := int64_neg (a := t) (by unfold Small53 at ht; omega)
    unfold Small53 at *; omega
  have d1 := own_sle (l2d_fin t) f1 (V := val64 (l2d (-t))) (val64_fits _) own_nnan (by
    rw [own_zl ht, own_zl nt.1, nt.2, Int.neg_mul]
    have : 2 * t.toInt * (one64 : Int) = 2 * (t.toInt * (one64 : Int)) := Int.mul_assoc _ _ _
    omega)
  rw [own_zl nt.1, nt.2] at d1
  generalize dsub (l2d t) lat = D at *
  have hqt : 0 < q.toInt * t'.toInt := Int.mul_pos hq0 (by omega)
  obtain ⟨V, fV, nV, zV⟩ := own_dbl hw (by omega)
  have m1 := own_ple (l2d_fin q) f2 fV nV (by
    rw [zV, own_zl hq, ew]
    have a1 := Int.mul_le_mul_of_nonneg_left d1 (show 0 ≤ q.toInt * (one64 : Int) from Int.mul_nonneg (by omega) (by omega))
    have e : q.toInt * (one64 : Int) * (-t.toInt * (one64 : Int)) = 2 * -(q.toInt * t'.toInt) * (one64 : Int) * (one64 : Int) := by
      rw [hh]; exact own_r2 _ _ _
    rw [← e]; exact a1)
  rw [zV, ew] at m1
  generalize dmul (l2d q) D = M at *
  obtain ⟨s, c, k, em⟩ := f3
  obtain ⟨d, r, eb, hd, zb⟩ := own_po ht ht0
  have sg := own_qsg em eb hd
  have hp : 0 < q.toInt * t'.toInt * (one64 : Int) := Int.mul_pos hqt (by omega)
  have e1 : 2 * -(q.toInt * t'.toInt) * (one64 : Int) = -(2 * (q.toInt * t'.toInt * (one64 : Int))) := own_r3 _ _ _
  rw [e1] at m1
  have hs : s = true := by
    cases s
    · exfalso; rw [em] at m1; unfold zval at m1
      have : signed (sgn (.fin false c k)) (zmag b64 (.fin false c k)) = (zmag b64 (.fin false c k) : Int) := rfl
      omega
    · rfl
  subst hs
  have zm : 2 * (q.toInt * t'.toInt * (one64 : Int)) ≤ (zmag b64 (val64 M) : Int) := by
    rw [em] at m1 ⊢; unfold zval at m1
    have : signed (sgn (.fin true c k)) (zmag b64 (.fin true c k)) = -(zmag b64 (.fin true c k) : Int) := rfl
    omega
  obtain ⟨cq, kq, eq, zq⟩ := own_nn hq (by omega)
  have g := own_qge em eb hd (V := val64 (l2d q)) (val64_fits _) (by
    apply Int.ofNat_le.mp
    rw [Int.natCast_mul, Int.natCast_mul, zq, zb]
    have a1 := Int.mul_le_mul_of_nonneg_right zm (Int.natCast_nonneg one64)
    have e : q.toInt * (one64 : Int) * (t.toInt * (one64 : Int)) = 2 * (q.toInt * t'.toInt * (one64 : Int)) * (one64 : Int) := by
      rw [hh]; exact own_r4 _ _ _
    rw [e]; exact a1)
  have q1 : zval b64 (val64 (ddiv M (l2d t))) ≤ -(q.toInt * (one64 : Int)) := by
    unfold zval; rw [sg]
    show -((zmag b64 (val64 (ddiv M (l2d t))) : Nat) : Int) ≤ _
    rw [← zq]; omega
  have := own_ale (l2d_fin q) f4 (V := val64 0) (val64_fits _) (by decide +kernel) (by rw [zval64_zero, own_zl hq]; omega)
  rw [zval64_zero] at this; exact this
theorem own_ti (a : UInt64) (h : a.toNat < 2 ^ 63) : a.toInt64.toInt = (a.toNat : Int) := by
  show a.toBitVec.toInt = _
  rw [BitVec.toInt_eq_toNat_of_lt (by show 2 * a.toNat < 2 ^ 64; omega)]; rfl
theorem own_exp (a : UInt64) (h : a.toNat < 2 ^ 63) : ((a.toInt64 &&& (9218868437227405312 : Int64)) >>> ((52 : Int32) &&& 0x3f).toInt64).toInt = ((a.toNat / 2 ^ 52 : Nat) : Int) := by
  rw [c_lshr _ 52 52 (by decide)]
  have e1 : (a.toInt64 &&& (9218868437227405312 : Int64)).toBitVec.toNat = a.toNat &&& 9218868437227405312 := by
    rw [Int64.toBitVec_and, BitVec.toNat_and]; rfl
  have e2 : a.toNat &&& 9218868437227405312 ≤ a.toNat := Nat.and_le_left
  have e3 : (a.toInt64 &&& (9218868437227405312 : Int64)).toInt = ((a.toNat &&& 9218868437227405312 : Nat) : Int) := by
    show (a.toInt64 &&& (9218868437227405312 : Int64)).toBitVec.toInt = _
    rw [BitVec.toInt_eq_toNat_of_lt (by rw [e1]; omega), e1]
  rw [e3]
  have e4 : (a.toNat &&& 9218868437227405312) / 2 ^ 52 = a.toNat / 2 ^ 52 := by
    rw [← Nat.shiftRight_eq_div_pow, Nat.shiftRight_and_distrib, show (9218868437227405312 : Nat) >>> 52 = 2 ^ 11 - 1 from by decide, Nat.and_two_pow_sub_one_eq_mod, Nat.shiftRight_eq_div_pow]
    exact Nat.mod_eq_of_lt (by omega)
  rw [← e4]; rfl
theorem own_m64 (x : Int64) (h : x &&& (-64 : Int64) = 0) : 0 ≤ x.toInt ∧ x.toInt < 64 := by
  have e : x = x &&& 63 := by
    apply Int64.toBitVec_inj.mp
    rw [Int64.toBitVec_and]
    apply BitVec.eq_of_getLsbD_eq
    intro i hi
    have hb := congrArg (fun z : Int64 => z.toBitVec.getLsbD i) h
    simp only [Int64.toBitVec_and, BitVec.getLsbD_and] at hb
    have hn : (-64 : Int64).toBitVec.getLsbD i = !((63 : Int64).toBitVec.getLsbD i) := by
      have : ∀ j : Fin 64, (-64 : Int64).toBitVec.getLsbD j.1 = !((63 : Int64).toBitVec.getLsbD j.1) := by decide
      exact this ⟨i, hi⟩
    have h0 : (0 : Int64).toBitVec.getLsbD i = false := by
      have : ∀ j : Fin 64, (0 : Int64).toBitVec.getLsbD j.1 = false := by decide
      exact this ⟨i, hi⟩
    rw [hn, h0] at hb
    rw [BitVec.getLsbD_and]
    revert hb
    generalize x.toBitVec.getLsbD i = p
    generalize (63 : Int64).toBitVec.getLsbD i = q
    cases p <;> cases q <;> decide
  have := c_maskL x 63 6 (by decide) (by decide)
  rw [← e] at this
  omega
theorem own_sh (x : Int64) (k : Nat) (hk : k < 64) (h : x.toInt = k) : x.toInt32.toBitVec.toNat % 64 = k := by
  have e : x = Int64.ofInt k := by rw [← h, Int64.ofInt_toInt]
  have : ∀ j : Fin 64, (Int64.ofInt (j.1 : Int)).toInt32.toBitVec.toNat % 64 = j.1 := by decide
  rw [e]; exact this ⟨k, hk⟩
theorem own_pos {a : UInt64} {k : Int} (hn : val64 a ≠ .nan) (hk : 1 ≤ k) (h : k * (one64 : Int) ≤ zval b64 (val64 a)) : a.toNat < 2 ^ 63 ∧ sgn (val64 a) = false ∧ k * (one64 : Int) ≤ (zmag b64 (val64 a) : Int) ∧ zmag b64 (val64 a) = unitsOf b64 a.toNat := by
  have hu := one64_pos
  have p : 0 < k * (one64 : Int) := Int.mul_pos (by omega) (by omega)
  have s := sgn_bits hn
  have z := zmag_bits hn
  cases hs : sgn (val64 a) with
  | true => exfalso; unfold zval at h; rw [hs] at h; have : signed true (zmag b64 (val64 a)) = -(zmag b64 (val64 a) : Int) := rfl; omega
  | false =>
    rw [hs] at s
    have h1 : a.toNat < 2 ^ 63 := by have := of_decide_eq_false s.symm; omega
    refine ⟨h1, rfl, ?_, ?_⟩
    · unfold zval at h; rw [hs] at h; exact h
    · rw [z, Nat.mod_eq_of_lt h1]
def fround (a : UInt64) : Int64 := if (((1074 : Int64) - ((a.toInt64 &&& (9218868437227405312 : Int64)) >>> ((52 : Int32) &&& 0x3f).toInt64)) &&& (-64 : Int64)) = 0 then ((((((a.toInt64 &&& (4503599627370495 : Int64)) ||| (4503599627370496 : Int64))) >>> (((((1074 : Int64) - ((a.toInt64 &&& (9218868437227405312 : Int64)) >>> ((52 : Int32) &&& 0x3f).toInt64))).toInt32) &&& 0x3f).toInt64) + (1 : Int64)) >>> ((1 : Int32) &&& 0x3f).toInt64) else d2l a
theorem own_fround {a : UInt64} {k : Int} (hn : val64 a ≠ .nan) (hk : 1 ≤ k) (hk2 : k < 9223372036854775807) (h : k * (one64 : Int) ≤ zval b64 (val64 a)) : k ≤ (fround a).toInt := by
  obtain ⟨h1, h2, h3, h4⟩ := own_pos hn hk h
  unfold fround
  split
  · rename_i hc
    have hE := own_exp a h1
    generalize ((a.toInt64 &&& (9218868437227405312 : Int64)) >>> ((52 : Int32) &&& 0x3f).toInt64) = E at *
    have hs := c_lsub (1074 : Int64) E
    have ec : (1074 : Int64).toInt = 1074 := rfl
    have hb := own_m64 _ hc
    generalize (1074 : Int64) - E = sh at *
    have hd : a.toNat / 2 ^ 52 < 2 ^ 11 := by omega
    have hsh : sh.toInt = 1074 - ((a.toNat / 2 ^ 52 : Nat) : Int) := by omega
    obtain ⟨j, hj⟩ : ∃ j : Nat, sh.toInt = j := ⟨sh.toInt.toNat, by omega⟩
    have hm := c_maskL a.toInt64 4503599627370495 52 (by decide) (by decide)
    rw [own_ti a h1] at hm
    have hr := c_orL' (a.toInt64 &&& (4503599627370495 : Int64)) 4503599627370496 52 (by decide) 4503599627370496 (by decide) (by decide) (by omega) (by omega)
    have er : (4503599627370496 : Int64).toInt = 4503599627370496 := rfl
    generalize ((a.toInt64 &&& (4503599627370495 : Int64)) ||| (4503599627370496 : Int64)) = r at *
    have r1 := r.le_toInt; have r2 := r.toInt_lt
    have hr2 : r.toInt = 4503599627370496 + ((a.toNat % 2 ^ 52 : Nat) : Int) := by omega
    have hz := c_lshr r sh.toInt32 j (own_sh sh j (by omega) hj)
    have hz0 : 0 ≤ r.toInt / ((2 ^ j : Nat) : Int) := Int.ediv_nonneg (by omega) (Int.natCast_nonneg _)
    have hz1 : r.toInt / ((2 ^ j : Nat) : Int) ≤ r.toInt := Int.ediv_le_self _ (by omega)
    have ha := c_ladd (r >>> (sh.toInt32 &&& 0x3f).toInt64) 1
    have e1 : (1 : Int64).toInt = 1 := rfl
    have hy := c_lshr ((r >>> (sh.toInt32 &&& 0x3f).toInt64) + (1 : Int64)) 1 1 (by decide)
    rw [hy]
    have b1 := ((r >>> (sh.toInt32 &&& 0x3f).toInt64) + (1 : Int64)).le_toInt; have b2 := ((r >>> (sh.toInt32 &&& 0x3f).toInt64) + (1 : Int64)).toInt_lt
    rw [hz] at ha
    have ha2 : ((r >>> (sh.toInt32 &&& 0x3f).toInt64) + (1 : Int64)).toInt = r.toInt / ((2 ^ j : Nat) : Int) + 1 := by omega
    rw [ha2]
    have key : 2 * k ≤ r.toInt / ((2 ^ j : Nat) : Int) := by
      apply Int.le_ediv_of_mul_le (by have := Nat.two_pow_pos j; omega)
      have hN : ¬ a.toNat < b64.tails := fun q => by
        have u1 : unitsOf b64 a.toNat = a.toNat := by unfold unitsOf; rw [if_pos q]
        rw [h4, u1] at h3
        have o1 : (2 : Nat) ^ 64 ≤ one64 := Nat.pow_le_pow_right (by decide) (by decide)
        have o2 : (one64 : Int) ≤ k * (one64 : Int) := by have := Int.mul_le_mul_of_nonneg_right hk (Int.natCast_nonneg one64); rwa [Int.one_mul] at this
        generalize one64 = u at *
        omega
      have u2 : unitsOf b64 a.toNat = (2 ^ 52 + a.toNat % 2 ^ 52) * 2 ^ (a.toNat / 2 ^ 52 - 1) := by unfold unitsOf; rw [if_neg hN]; rfl
      have t52 : b64.tails = 2 ^ 52 := by decide
      have hE1 : 1 ≤ a.toNat / 2 ^ 52 := by rw [t52] at hN; omega
      have eo : one64 = 2 ^ (j + 1) * 2 ^ (a.toNat / 2 ^ 52 - 1) := by unfold one64; rw [← Nat.pow_add]; congr 1; omega
      rw [h4, u2, eo, Int.natCast_mul, Int.natCast_mul, ← Int.mul_assoc] at h3
      have hp : (0 : Int) < ((2 ^ (a.toNat / 2 ^ 52 - 1) : Nat) : Int) := by have := Nat.two_pow_pos (a.toNat / 2 ^ 52 - 1); omega
      have h5 := Int.le_of_mul_le_mul_right h3 hp
      rw [hr2]
      have e6 : 2 * k * ((2 ^ j : Nat) : Int) = k * ((2 ^ (j + 1) : Nat) : Int) := by rw [Nat.pow_succ, Int.natCast_mul, Int.mul_comm 2 k, Int.mul_assoc, Int.mul_comm 2]; rfl
      rw [e6]
      refine Int.le_trans h5 ?_
      rw [Int.natCast_add]; exact Int.le_refl _
    have : ((2 ^ 1 : Nat) : Int) = 2 := rfl
    rw [this]; omega
  · rw [d2l_val hn, h2]
    have : k ≤ ((zmag b64 (val64 a) / one64 : Nat) : Int) := by
      rw [Int.natCast_ediv]
      exact Int.le_ediv_of_mul_le (by have := one64_pos; omega) h3
    show k ≤ max _ (min _ ((zmag b64 (val64 a) / one64 : Nat) : Int))
    omega
def fmaxD (a b : UInt64) : UInt64 := if Op.cmpValue (FP.dcmp a b) .l < 0 then b else a
def fminJ (a b : Int64) : Int64 := if b < a then b else a
def fkeep (z : UInt64) (q : Int32) : Int32 := (fminJ (fround (fmaxD FP.dconst1 z)) q.toInt64).toInt32
theorem own_one : FP.dconst1 = 4607182418800017408 := by decide +kernel
theorem own_onez : zval b64 (val64 FP.dconst1) = (one64 : Int) := by rw [own_one, DInt_zval dint_one, Int.one_mul]
theorem own_onen : val64 FP.dconst1 ≠ .nan := by rw [own_one]; exact DInt_ne_nan dint_one
theorem own_mx {z : UInt64} (hz : val64 z ≠ .nan) : val64 (fmaxD FP.dconst1 z) ≠ .nan ∧ 1 * (one64 : Int) ≤ zval b64 (val64 (fmaxD FP.dconst1 z)) ∧ zval b64 (val64 z) ≤ zval b64 (val64 (fmaxD FP.dconst1 z)) ∧ (zval b64 (val64 z) ≤ 0 → fmaxD FP.dconst1 z = FP.dconst1) := by
  have hc : FP.dcmp FP.dconst1 z = some (compare (zval b64 (val64 FP.dconst1)) (zval b64 (val64 z))) := dcmp_zval own_onen hz
  have hu := one64_pos
  unfold fmaxD
  rw [hc, own_onez, Int.one_mul]
  by_cases h : (one64 : Int) < zval b64 (val64 z)
  · rw [(compare_lt_iff _ _).mpr h, if_pos (by decide)]
    exact ⟨hz, by omega, Int.le_refl _, fun q => by omega⟩
  · by_cases h2 : (one64 : Int) = zval b64 (val64 z)
    · rw [(compare_eq_iff _ _).mpr h2, if_neg (by decide), own_onez]
      exact ⟨own_onen, by omega, by omega, fun _ => rfl⟩
    · rw [(compare_gt_iff _ _).mpr (by omega), if_neg (by decide), own_onez]
      exact ⟨own_onen, by omega, by omega, fun _ => rfl⟩
theorem own_rp {z : UInt64} (hz : val64 z ≠ .nan) : ¬ (fmaxD FP.dconst1 z).toInt64 < 0 := by
  obtain ⟨m1, m2, m3, m4⟩ := own_mx hz
  have := (own_pos m1 (by decide) m2).1
  have e := own_ti _ this
  rw [Int64.lt_iff_toInt_lt, e]; show ¬ _ < (0 : Int); omega
theorem own_keep {z : UInt64} {q : Int32} (hz : val64 z ≠ .nan) (hq : 1 ≤ q.toInt) :
    1 ≤ (fkeep z q).toInt ∧ (fkeep z q).toInt ≤ q.toInt ∧ (q.toInt * (one64 : Int) ≤ zval b64 (val64 z) → fkeep z q = q) ∧ (zval b64 (val64 z) ≤ 0 → fkeep z q = 1) := by
  obtain ⟨m1, m2, m3, m4⟩ := own_mx hz
  have q2 := q.toInt_lt
  have e64 : q.toInt64.toInt = q.toInt := c_i2l q
  have r1 := own_fround m1 (by decide) (by decide) m2
  have cv : ∀ y : Int64, 1 ≤ y.toInt → y.toInt ≤ q.toInt → y.toInt32.toInt = y.toInt := fun y h1 h2 => int64_toInt32 (by omega) (by omega)
  unfold fkeep fminJ
  by_cases h : q.toInt64 < fround (fmaxD FP.dconst1 z)
  · rw [if_pos h]
    have e := cv q.toInt64 (by omega) (by omega)
    have e2 : q.toInt64.toInt32 = q := Int32.toInt_inj.mp (by rw [e, e64])
    refine ⟨by omega, by omega, fun _ => e2, fun h0 => ?_⟩
    exfalso
    rw [m4 h0, Int64.lt_iff_toInt_lt, e64] at h
    have : (fround FP.dconst1).toInt = 1 := by decide +kernel
    omega
  · rw [if_neg h]
    rw [Int64.lt_iff_toInt_lt, e64] at h
    have e := cv (fround (fmaxD FP.dconst1 z)) r1 (by omega)
    refine ⟨by omega, by omega, fun h1 => ?_, fun h0 => ?_⟩
    · have r2 := own_fround m1 hq (by omega) (Int.le_trans h1 m3)
      exact Int32.toInt_inj.mp (by omega)
    · rw [m4 h0]; decide +kernel
def fAdj (dn dl dg dt : UInt64) : UInt64 := FP.dadd dn (FP.ddiv (FP.dmul (FP.dmul dg dn) (FP.dsub dt dl)) dt)
def fok (dn dl dg dt : UInt64) : Prop := Jvm.Free.Fl.NoNaN64 (FP.dmul dg dn) ∧ Jvm.Free.Fl.NoNaN64 (FP.dsub dt dl) ∧ Jvm.Free.Fl.NoNaN64 (FP.dmul (FP.dmul dg dn) (FP.dsub dt dl)) ∧ Jvm.Free.Fl.NoNaN64 (FP.ddiv (FP.dmul (FP.dmul dg dn) (FP.dsub dt dl)) dt) ∧ Jvm.Free.Fl.NoNaN64 (FP.dadd dn (FP.ddiv (FP.dmul (FP.dmul dg dn) (FP.dsub dt dl)) dt))
theorem own_self {a : UInt64} (h : Jvm.Free.Fl.NoNaN64 a) : (Op.cmpValue (FP.dcmp a a) .l) = (0 : Int32) := dcmpV_self h .l
theorem own_nan : ¬ (Op.cmpValue (FP.dcmp (9221120237041090560 : UInt64) (9221120237041090560 : UInt64)) .l) = (0 : Int32) := by decide +kernel
theorem own_tgt {jt : Int64} (h : 1 ≤ jt.toInt ∧ jt.toInt ≤ 8) : (jt * (1000000 : Int64)).toInt = jt.toInt * 1000000 := by
  have a := c_lmul jt 1000000
  have e : (1000000 : Int64).toInt = 1000000 := rfl
  rw [e] at a
  have b1 := (jt * (1000000 : Int64)).le_toInt; have b2 := (jt * (1000000 : Int64)).toInt_lt
  omega
theorem own_t0 {jt : Int64} (h : 1 ≤ jt.toInt ∧ jt.toInt ≤ 8) : (jt * (1000000 : Int64)).toInt ≠ 0 := by rw [own_tgt h]; omega
theorem own_gn (q : Int32) : FP.dmul FP.dconst1 (l2d q.toInt64) = l2d q.toInt64 := by rw [own_one]; exact one_dmul (l2d_fin _).notNaN
theorem own_iq (q : Int32) : FP.i2d q = l2d q.toInt64 := i2d_l2d q
theorem own_adj (q : Int32) (L T : UInt64) : fAdj (FP.i2d q) L FP.dconst1 T = dadd (l2d q.toInt64) (ddiv (dmul (l2d q.toInt64) (dsub T L)) T) := by
  unfold fAdj; rw [own_iq, own_gn]
theorem own_nn64 {a : UInt64} (h : DFin a) : Jvm.Free.Fl.NoNaN64 a := Jvm.Free.Fl.noNaN64_no.mpr h.notNaN
theorem own_fok (S C t : Int64) (q : Int32) (hC : C.toInt ≠ 0) (ht : t.toInt ≠ 0) : Jvm.Free.Fl.NoNaN64 (FP.ddiv (FP.l2d S) (FP.l2d C)) ∧ fok (FP.i2d q) (FP.ddiv (FP.l2d S) (FP.l2d C)) FP.dconst1 (FP.l2d t) ∧ val64 (fAdj (FP.i2d q) (FP.ddiv (FP.l2d S) (FP.l2d C)) FP.dconst1 (FP.l2d t)) ≠ .nan := by
  obtain ⟨f1, f2, f3, f4, f5⟩ := own_fin S C t q.toInt64 hC ht
  refine ⟨own_nn64 f1, ?_, ?_⟩
  · unfold fok; rw [own_iq, own_gn]; exact ⟨own_nn64 (l2d_fin _), own_nn64 f2, own_nn64 f3, own_nn64 f4, own_nn64 f5⟩
  · rw [own_adj]; exact f5.ne_nan
theorem own_nni (q : Int32) : Jvm.Free.Fl.NoNaN64 (FP.i2d q) := by rw [own_iq]; exact own_nn64 (l2d_fin _)
theorem own_nn1 : Jvm.Free.Fl.NoNaN64 FP.dconst1 := Jvm.Free.Fl.noNaN64_no.mpr (by decide +kernel)
theorem own_pick {b : UInt64} (h : Jvm.Free.Fl.NoNaN64 b) : Native.java_lang_Math.nans.pick64 true FP.dconst1 b = fmaxD FP.dconst1 b := by
  have hc : FP.dcmp FP.dconst1 b = some (compare (zval b64 (val64 FP.dconst1)) (zval b64 (val64 b))) := dcmp_zval own_onen (Jvm.Free.Fl.val64_no.mp h)
  have e : Native.java_lang_Math.nans.pick64 true FP.dconst1 b = (match FP.dcmp FP.dconst1 b with | some .lt => if true then b else FP.dconst1 | some .gt => if true then FP.dconst1 else b | _ => if (FP.dconst1 >>> 63 == 1) == true then b else FP.dconst1) := rfl
  rw [e]; unfold fmaxD; rw [hc]
  generalize compare (zval b64 (val64 FP.dconst1)) (zval b64 (val64 b)) = o
  cases o with
  | lt => rw [if_pos (show Op.cmpValue (some .lt) .l < 0 by decide)]; rfl
  | eq => rw [if_neg (show ¬ Op.cmpValue (some .eq) .l < 0 by decide)]; exact if_neg (by decide +kernel)
  | gt => rw [if_neg (show ¬ Op.cmpValue (some .gt) .l < 0 by decide)]; rfl
theorem own_i32 {a b : Int32} : ¬ a < b ↔ b.toInt ≤ a.toInt := by rw [Int32.lt_iff_toInt_lt]; omega
theorem own_i64 {a b : Int64} : ¬ a < b ↔ b.toInt ≤ a.toInt := by rw [Int64.lt_iff_toInt_lt]; omega
theorem own_pr {a b A B : Int} (h1 : 0 ≤ a) (h2 : a ≤ A) (h3 : 0 ≤ b) (h4 : b ≤ B) : 0 ≤ a * b ∧ a * b ≤ A * B := ⟨Int.mul_nonneg h1 h3, Int.mul_le_mul h2 h4 h3 (by omega)⟩
theorem own_mu {a b : Int64} (h : -9223372036854775808 ≤ a.toInt * b.toInt ∧ a.toInt * b.toInt < 9223372036854775808) : (a * b).toInt = a.toInt * b.toInt := by
  have c := c_lmul a b
  have b1 := (a * b).le_toInt; have b2 := (a * b).toInt_lt
  generalize a.toInt * b.toInt = x at *
  omega
theorem own_law0 {q : Int32} (hq : 1 ≤ q.toInt) : fkeep (FP.i2d q) q = q := by
  have hs : Small53 q.toInt64 := by have := c_i2l q; have := q.toInt_lt; unfold Small53; omega
  refine (own_keep (z := FP.i2d q) (by rw [own_iq]; exact own_nnan) hq).2.2.1 ?_
  rw [own_iq, own_zl hs, c_i2l]; exact Int.le_refl _
theorem own_rp0 (q : Int32) : ¬ (fmaxD FP.dconst1 (FP.i2d q)).toInt64 < 0 := own_rp (by rw [own_iq]; exact own_nnan)
theorem own_law1 {S C jt : Int64} {q cl : Int32} (hS : 0 ≤ S.toInt ∧ S.toInt < 4398046511104) (hC : C.toInt = cl.toInt) (hc : 1 ≤ cl.toInt ∧ cl.toInt ≤ 3) (h : 1 ≤ jt.toInt ∧ jt.toInt ≤ 8) (hq : 1 ≤ q.toInt) :
    ¬ fkeep (fAdj (FP.i2d q) (FP.ddiv (FP.l2d S) (FP.l2d C)) FP.dconst1 (FP.l2d (jt * (1000000 : Int64)))) q < (1 : Int32) ∧
    ¬ q < fkeep (fAdj (FP.i2d q) (FP.ddiv (FP.l2d S) (FP.l2d C)) FP.dconst1 (FP.l2d (jt * (1000000 : Int64)))) q ∧
    (¬ (cl.toInt64 * (jt * (1000000 : Int64))) < S → fkeep (fAdj (FP.i2d q) (FP.ddiv (FP.l2d S) (FP.l2d C)) FP.dconst1 (FP.l2d (jt * (1000000 : Int64)))) q = q) ∧
    (¬ S < (((2 : Int64) * cl.toInt64) * (jt * (1000000 : Int64))) → fkeep (fAdj (FP.i2d q) (FP.ddiv (FP.l2d S) (FP.l2d C)) FP.dconst1 (FP.l2d (jt * (1000000 : Int64)))) q = 1) := by
  have et := own_tgt h
  have ht0 := own_t0 h
  have hC0 : C.toInt ≠ 0 := by omega
  have e64 := c_i2l q
  have c64 := c_i2l cl
  have q2 := q.toInt_lt
  obtain ⟨k1, k2, k3, k4⟩ := own_keep (q := q) (own_fok S C (jt * (1000000 : Int64)) q hC0 ht0).2.2 hq
  have e5 : (jt * (500000 : Int64)).toInt = jt.toInt * 500000 := by
    have e : (500000 : Int64).toInt = 500000 := rfl
    rw [own_mu (by rw [e]; omega), e]
  generalize jt * (500000 : Int64) = t' at *
  generalize jt * (1000000 : Int64) = t at *
  have sS : Small53 S := by unfold Small53; omega
  have sC : Small53 C := by unfold Small53; omega
  have st : Small53 t := by unfold Small53; omega
  have sq : Small53 q.toInt64 := by unfold Small53; omega
  have p1 := own_pr (a := cl.toInt) (b := t.toInt) (A := 3) (B := 8000000) (by omega) (by omega) (by omega) (by omega)
  refine ⟨own_i32.mpr k1, own_i32.mpr k2, fun g => k3 ?_, fun g => k4 ?_⟩
  · rw [own_adj, ← e64]
    refine own_up sS hS.1 sC (by omega) st (by omega) sq (by omega) ?_
    have g := own_i64.mp g
    rw [own_mu (by rw [c64]; omega), c64] at g
    rw [hC, Int.mul_comm]; exact g
  · rw [own_adj]
    have g := own_i64.mp g
    have e2 : (2 : Int64).toInt = 2 := rfl
    have m2 : ((2 : Int64) * cl.toInt64).toInt = 2 * cl.toInt := by rw [own_mu (by rw [e2, c64]; omega), e2, c64]
    have p2 : 2 * cl.toInt * t.toInt = 2 * (cl.toInt * t.toInt) := Int.mul_assoc _ _ _
    rw [own_mu (by rw [m2]; omega), m2] at g
    have p3 := own_pr (a := q.toInt) (b := t'.toInt) (A := 2147483647) (B := 4000000) (by omega) (by omega) (by omega) (by omega)
    have m3 : (q.toInt64 * t').toInt = q.toInt * t'.toInt := by rw [own_mu (by rw [e64]; omega), e64]
    have m4 := int64_neg (a := q.toInt64 * t') (by rw [m3]; omega)
    have m5 : (t + t).toInt = 2 * t.toInt := by
      have := c_ladd t t
      have b1 := (t + t).le_toInt; have b2 := (t + t).toInt_lt
      omega
    refine own_dn sS hS.1 sC (by omega) st (by omega) sq (by omega) (t' := t') (by omega) (-(q.toInt64 * t')) (t + t) ?_ ?_ ?_ m5 ?_
    · unfold Small53; omega
    · rw [m4, m3, e64]
    · unfold Small53; omega
    · rw [hC]
      have : 2 * t.toInt * cl.toInt = 2 * cl.toInt * t.toInt := by rw [Int.mul_assoc, Int.mul_comm t.toInt, ← Int.mul_assoc]
      rw [this]; exact g
theorem own_tm (u : Int32) : 1 ≤ ((1 : Int64) + (u &&& (7 : Int32)).toInt64).toInt ∧ ((1 : Int64) + (u &&& (7 : Int32)).toInt64).toInt ≤ 8 := by
  have m := c_mask u 7 3 (by decide) (by decide)
  have i := c_i2l (u &&& (7 : Int32))
  have a := c_ladd 1 (u &&& (7 : Int32)).toInt64
  have e : (1 : Int64).toInt = 1 := rfl
  have b1 := ((1 : Int64) + (u &&& (7 : Int32)).toInt64).le_toInt; have b2 := ((1 : Int64) + (u &&& (7 : Int32)).toInt64).toInt_lt
  omega
theorem own_msk {x m : Int64} (h : m = (16777215 : Int64) ∨ m = (1099511627775 : Int64)) : 0 ≤ (x &&& m).toInt ∧ (x &&& m).toInt < 1099511627776 := by
  rcases h with rfl | rfl
  · have := c_maskL x 16777215 24 (by decide) (by decide); omega
  · have := c_maskL x 1099511627775 40 (by decide) (by decide); omega
theorem own_ubd {jt : Int64} (h : 1 ≤ jt.toInt ∧ jt.toInt ≤ 8) : ¬ (9223372036854 : Int64) < jt := by
  rw [own_i64]; have e : (9223372036854 : Int64).toInt = 9223372036854 := rfl; omega
theorem own_vbd {jt : Int64} (h : 1 ≤ jt.toInt ∧ jt.toInt ≤ 8) : ¬ jt < (-(9223372036854 : Int64)) := by
  rw [own_i64]; have e : (-(9223372036854 : Int64)).toInt = -9223372036854 := rfl; omega
theorem own_sa {a : Int64} (ha : 0 ≤ a.toInt ∧ a.toInt < 1099511627776) : 0 ≤ ((0 : Int64) + a).toInt ∧ ((0 : Int64) + a).toInt < 1099511627776 := by rw [Int64.zero_add]; exact ha
theorem own_sb {a b : Int64} (ha : 0 ≤ a.toInt ∧ a.toInt < 1099511627776) (hb : 0 ≤ b.toInt ∧ b.toInt < 1099511627776) : 0 ≤ (((0 : Int64) + a) + b).toInt ∧ (((0 : Int64) + a) + b).toInt < 2199023255552 := by
  rw [Int64.zero_add]
  have := c_ladd a b; have b1 := (a + b).le_toInt; have b2 := (a + b).toInt_lt; omega
theorem own_sd {a b d : Int64} (ha : 0 ≤ a.toInt ∧ a.toInt < 1099511627776) (hb : 0 ≤ b.toInt ∧ b.toInt < 1099511627776) (hd : 0 ≤ d.toInt ∧ d.toInt < 1099511627776) : 0 ≤ ((((0 : Int64) + a) + b) + d).toInt ∧ ((((0 : Int64) + a) + b) + d).toInt < 4398046511104 := by
  have h := own_sb ha hb
  generalize ((0 : Int64) + a) + b = y at *
  have := c_ladd y d; have b1 := (y + d).le_toInt; have b2 := (y + d).toInt_lt; omega
theorem own_z0 (x : Int64) : ¬ ((0 : Int32).toInt64 * x) < (0 : Int64) := by
  have e : (0 : Int32).toInt64 = 0 := rfl
  rw [e, Int64.zero_mul]; decide
end FlA
end Jvm.Pilot.@@N@@
namespace Jvm.Pilot.@@N@@
open Jvm Jvm.ClassFile Sem Op Lib Jvm.Free Jvm.Stand Jvm.LawKit Jvm.RoadKit Bundle Jvm.Pilot.@@N@@.Jvm.D
theorem wdx {a0 : Array Value} {Z : State} (hw : ∀ d ∈ tables_1, d.before a0 Z = true) (i : Nat) {d : Jvm.Cond} (h : tables_1[i]? = some d) : d.before a0 Z = true := hw d (List.mem_of_getElem? h)
/-! the walk in one predicate: from S the run comes to an end at which Q holds -/
def Go (p : Program) (e : Env) (below : List Frame) (s : State) (rc rs : Nat) (Q : Option Value → Heap → List Loc → Prop) (S : State) : Prop :=
  ∃ t o, Steps p.tables e below S t ∧ t.status = .running ∧ Ended t below o ∧ ∃ v L, o = .returned v ∧ Q v t.heap L ∧ FrameEnd s o t L rc rs
section Pre
variable {p : Program} {l : Launch} {e : Env} {R : Room} {s : State} {m : MethodId} {args : Array Value} {below : List Frame} {meth : Method} {c : Code} {T : State} {locs : List Loc} {cells slots rc rs : Nat} {Q : Option Value → Heap → List Loc → Prop} {S S' : State} {h : Heap} {Z : State} {n0 : Nat}
theorem Go.st (k : ∀ t, Steps p.tables e below S' t → Steps p.tables e below S t) (g : Go p e below s rc rs Q S') : Go p e below s rc rs Q S := by
  obtain ⟨t, o, h, r⟩ := g; exact ⟨t, o, k t h, r⟩
theorem Go.tr (k : Steps p.tables e below S S') (g : Go p e below s rc rs Q S') : Go p e below s rc rs Q S := by
  obtain ⟨t, o, h, r⟩ := g; exact ⟨t, o, k.trans h, r⟩
theorem Go.ret (X : Stand p l e R s m args below meth c T locs cells slots) (hx : p.tables.exec = Jvm.exec) (hlk : meth.locks = false) {pc : Nat} {Ls : Array Slot} {w : Value} {t : FieldType} {i : Instr} {rest : List Value} (hret : meth.sig.returnType = some t) (hn : narrow t w = w)
    (hi : (i = .ireturn ∧ (t = .int ∨ t = .boolean ∨ t = .byte ∨ t = .char ∨ t = .short) ∧ ∃ z, w = .int z) ∨ (i = .lreturn ∧ t = .long ∧ ∃ z, w = .long z) ∨ (i = .dreturn ∧ t = .double ∧ ∃ z, w = .double z) ∨ (i = .freturn ∧ t = .float ∧ ∃ z, w = .float z) ∨ (i = .areturn ∧ t.isReference = true ∧ w.isRef = true))
    (hd : decode c.code pc = .ok (i, 1)) (hc : cells ≤ rc) (hs : slots ≤ rs) (hh : T.heap = h) (hq : Q (some w) h locs) : Go p e below s rc rs Q (T.setTop (mkF m pc Ls (w :: rest))) := by
  obtain ⟨fs, hr, hrun, hended, hW, hsame⟩ := X.leave (v := some w) (fun h => by rw [hret] at h; cases h) hlk
  subst hh
  exact ⟨_, _, retOut X hx hret hn hi hd hr, hrun, hended, _, _, rfl, hq, ⟨_, rfl⟩, hW, hsame.mono hc hs⟩
theorem Go.retB (X : Stand p l e R s m args below meth c T locs cells slots) (hx : p.tables.exec = Jvm.exec) (hlk : meth.locks = false) {pc : Nat} {Ls : Array Slot} {z : Int32} {t : FieldType} {rest : List Value} (hret : meth.sig.returnType = some t) (ht : t = .boolean ∨ t = .byte ∨ t = .char ∨ t = .short)
    (hd : decode c.code pc = .ok (.ireturn, 1)) (hc : cells ≤ rc) (hs : slots ≤ rs) (hh : T.heap = h) (hq : Q (some (.int (nar t z))) h locs) : Go p e below s rc rs Q (T.setTop (mkF m pc Ls (.int z :: rest))) := by
  obtain ⟨fs, hr, hrun, hended, hW, hsame⟩ := X.leave (v := some (.int (nar t z))) (fun h => by rw [hret] at h; cases h) hlk
  subst hh
  exact ⟨_, _, retN X hx hret ht hd hr, hrun, hended, _, _, rfl, hq, ⟨_, rfl⟩, hW, hsame.mono hc hs⟩
theorem Go.retV (X : Stand p l e R s m args below meth c T locs cells slots) (hx : p.tables.exec = Jvm.exec) (hlk : meth.locks = false) {pc : Nat} {Ls : Array Slot} (hret : meth.sig.returnType = none)
    (hd : decode c.code pc = .ok (.return_, 1)) (hc : cells ≤ rc) (hs : slots ≤ rs) (hh : T.heap = h) (hq : Q none h locs) : Go p e below s rc rs Q (T.setTop (mkF m pc Ls [])) := by
  obtain ⟨fs, hr, hrun, hended, hW, hsame⟩ := X.leave (v := none) (fun _ => rfl) hlk
  subst hh
  exact ⟨_, _, X.returnOut hx hret hd hr, hrun, hended, _, _, rfl, hq, ⟨_, rfl⟩, hW, hsame.mono hc hs⟩
theorem own_le (O : Old Z n0 h) : n0 ≤ h.size := O.1 ▸ O.2.1
theorem own_nb (b : Bool) : nar .boolean (if b then 1 else 0) = if b then 1 else 0 := by cases b <;> rfl
end Pre
def fmaxI (a b : Int32) : Int32 := if a < b then b else a
theorem d1_0 : decode jdk_29_method_65_code 0 = .ok (.iload_n 0, 1) := by decide +kernel
theorem d1_1 : decode jdk_29_method_65_code 1 = .ok (.iload_n 1, 1) := by decide +kernel
theorem d1_2 : decode jdk_29_method_65_code 2 = .ok (.if_icmp .lt 7, 3) := by decide +kernel
theorem d1_9 : decode jdk_29_method_65_code 9 = .ok (.iload_n 1, 1) := by decide +kernel
theorem d1_10 : decode jdk_29_method_65_code 10 = .ok (.ireturn, 1) := by decide +kernel
theorem d1_5 : decode jdk_29_method_65_code 5 = .ok (.iload_n 0, 1) := by decide +kernel
theorem d1_6 : decode jdk_29_method_65_code 6 = .ok (.goto 4, 3) := by decide +kernel
theorem ef_rm1 (m : MethodId) (ua : Int32) (ub : Int32) : entryFrame m #[(.int ua), (.int ub)] 2 = mkF m 0 #[.val (.int ua), .val (.int ub)] [] := by first | (simp [entryFrame, mkF, argsToLocals, Value.category]; done) | rfl
def Q1 (Z : State) (ua : Int32) (ub : Int32) (h0 : Heap) (n0 : Nat) (v : Option Value) (h : Heap) (L : List Loc) : Prop := v = some (.int (fmaxI ua ub)) ∧ Fr n0 L ∧ h = h0
set_option maxRecDepth 65536 in
set_option maxHeartbeats 40000000 in
theorem rm1 (l : Launch) (Z : State) (a0 : Array Value) (hw : ∀ d ∈ tables_1, d.before a0 Z = true) (ws : List Jvm.Cond) (ua : Int32) (ub : Int32) (h0 : Heap) (n0 : Nat) (O0 : Old Z n0 h0) :
    MetFree l (⟨"java/lang/Math", "max", "(II)I"⟩ : MethodName) (head1 (Jvm.Cond.code (⟨"java/lang/Math", "max", "(II)I"⟩ : MethodName) jdk_29_method_65_code 2 (some .int) :: ws) ({ frames := 0, cells := 0, slots := 0, locals := 0 } : Room)) (fun ay U => ay = #[(.int ua), (.int ub)] ∧ Z.Warmed39 U.vm ∧ U.heap = h0) (fun _ _ _ _ _ => True) (fun _ U o U' => ∃ v L, o = .returned v ∧ Q1 Z ua ub h0 n0 v U'.heap L ∧ FrameEnd U o U' L ({ frames := 0, cells := 0, slots := 0, locals := 0 } : Room).cells ({ frames := 0, cells := 0, slots := 0, locals := 0 } : Room).slots) := by
  refine MetFree.of_bodySF (Jvm.Free.JP.mathPlain rfl (by decide +kernel)) hisR ?_
  intro p e s m args below meth c s₁ Bd hml0 hP hK
  obtain ⟨rfl, hZ, hh⟩ := hP
  have hx := Bd.exec
  have hby := Bd.bytes
  have hlk : meth.locks = false := BodyLoose.notSynchronized Bd
  have hml : c.maxLocals = 2 := hml0
  have hown : s.vm.findClass "java/lang/Math" = some m.cls := findClass_of_methodNamed Bd.named
  have hnm := (name_of_methodNamed Bd.named Bd.method).1
  have X0 : Stand p l e ({ frames := 0, cells := 0, slots := 0, locals := 0 } : Room) s m #[(.int ua), (.int ub)] below meth c s₁ [] 0 0 := Stand.of_body Bd
  have e0 : s₁.heap = h0 := by rw [← hh, Bd.state]; rfl
  have N0 := Fr.nil n0
  suffices hgo : Go p e below s 0 0 (Q1 Z ua ub h0 n0) (s₁.setTop (mkF m 0 #[.val (.int ua), .val (.int ub)] [])) by
    obtain ⟨t, o, h1, h2⟩ := hgo; exact ⟨t, o, castTop (ef_rm1 m ua ub) h1, h2⟩
  show Go p e below s _ _ _ (s₁.setTop (mkF m 0 #[.val (.int ua), .val (.int ub)] []))
  refine Go.st (fun _ k' => XS.iloadN X0.here hx rfl (hb hby d1_0) rfl k') ?_
  show Go p e below s _ _ _ (s₁.setTop (mkF m 1 #[.val (.int ua), .val (.int ub)] [(.int ua)]))
  refine Go.st (fun _ k' => XS.iloadN X0.here hx rfl (hb hby d1_1) rfl k') ?_
  show Go p e below s _ _ _ (s₁.setTop (mkF m 2 #[.val (.int ua), .val (.int ub)] [(.int ub), (.int ua)]))
  by_cases hc1 : ua < ub
  · refine Go.st (fun _ k' => XS.icmpYes X0.here hx rfl (pc0 := 2) (pc' := 9) rfl (hb hby d1_2) rfl (XT.ii_lt_t hc1) (by decide) (by decide) k') ?_
    show Go p e below s _ _ _ (s₁.setTop (mkF m 9 #[.val (.int ua), .val (.int ub)] []))
    refine Go.st (fun _ k' => XS.iloadN X0.here hx rfl (hb hby d1_9) rfl k') ?_
    show Go p e below s _ _ _ (s₁.setTop (mkF m 10 #[.val (.int ua), .val (.int ub)] [(.int ub)]))
    refine Go.ret X0 hx hlk (t := .int) Bd.returns rfl (Or.inl ⟨rfl, Or.inl rfl, _, rfl⟩) (hb hby d1_10) (by decide) (by decide) e0 ?_
    exact ⟨(by simp [fmaxI, hc1]), N0, rfl⟩
  · refine Go.st (fun _ k' => XS.icmpNo X0.here hx rfl (hb hby d1_2) rfl (XT.ii_lt_f hc1) k') ?_
    show Go p e below s _ _ _ (s₁.setTop (mkF m 5 #[.val (.int ua), .val (.int ub)] []))
    refine Go.st (fun _ k' => XS.iloadN X0.here hx rfl (hb hby d1_5) rfl k') ?_
    show Go p e below s _ _ _ (s₁.setTop (mkF m 6 #[.val (.int ua), .val (.int ub)] [(.int ua)]))
    refine Go.st (fun _ k' => XS.goto X0.here hx rfl (pc0 := 6) (pc' := 10) rfl (hb hby d1_6) (by decide) (by decide) k') ?_
    show Go p e below s _ _ _ (s₁.setTop (mkF m 10 #[.val (.int ua), .val (.int ub)] [(.int ua)]))
    refine Go.ret X0 hx hlk (t := .int) Bd.returns rfl (Or.inl ⟨rfl, Or.inl rfl, _, rfl⟩) (hb hby d1_10) (by decide) (by decide) e0 ?_
    exact ⟨(by simp [fmaxI, hc1]), N0, rfl⟩
theorem d11_0 : decode jdk_29_method_70_code 0 = .ok (.lload_n 0, 1) := by decide +kernel
theorem d11_1 : decode jdk_29_method_70_code 1 = .ok (.lload_n 2, 1) := by decide +kernel
theorem d11_2 : decode jdk_29_method_70_code 2 = .ok (.lcmp, 1) := by decide +kernel
theorem d11_3 : decode jdk_29_method_70_code 3 = .ok (.ifCond .gt 7, 3) := by decide +kernel
theorem d11_10 : decode jdk_29_method_70_code 10 = .ok (.lload_n 2, 1) := by decide +kernel
theorem d11_11 : decode jdk_29_method_70_code 11 = .ok (.lreturn, 1) := by decide +kernel
theorem d11_6 : decode jdk_29_method_70_code 6 = .ok (.lload_n 0, 1) := by decide +kernel
theorem d11_7 : decode jdk_29_method_70_code 7 = .ok (.goto 4, 3) := by decide +kernel
theorem ef_rm11 (m : MethodId) (ja : Int64) (jb : Int64) : entryFrame m #[(.long ja), (.long jb)] 4 = mkF m 0 #[.val (.long ja), .second, .val (.long jb), .second] [] := by first | (simp [entryFrame, mkF, argsToLocals, Value.category]; done) | rfl
def Q11 (Z : State) (ja : Int64) (jb : Int64) (h0 : Heap) (n0 : Nat) (v : Option Value) (h : Heap) (L : List Loc) : Prop := v = some (.long (fminJ ja jb)) ∧ Fr n0 L ∧ h = h0
set_option maxRecDepth 65536 in
set_option maxHeartbeats 40000000 in
theorem rm11 (l : Launch) (Z : State) (a0 : Array Value) (hw : ∀ d ∈ tables_1, d.before a0 Z = true) (ws : List Jvm.Cond) (ja : Int64) (jb : Int64) (h0 : Heap) (n0 : Nat) (O0 : Old Z n0 h0) :
    MetFree l (⟨"java/lang/Math", "min", "(JJ)J"⟩ : MethodName) (head1 (Jvm.Cond.code (⟨"java/lang/Math", "min", "(JJ)J"⟩ : MethodName) jdk_29_method_70_code 4 (some .long) :: ws) ({ frames := 0, cells := 0, slots := 0, locals := 0 } : Room)) (fun ay U => ay = #[(.long ja), (.long jb)] ∧ Z.Warmed39 U.vm ∧ U.heap = h0) (fun _ _ _ _ _ => True) (fun _ U o U' => ∃ v L, o = .returned v ∧ Q11 Z ja jb h0 n0 v U'.heap L ∧ FrameEnd U o U' L ({ frames := 0, cells := 0, slots := 0, locals := 0 } : Room).cells ({ frames := 0, cells := 0, slots := 0, locals := 0 } : Room).slots) := by
  refine MetFree.of_bodySF (Jvm.Free.JP.mathPlain rfl (by decide +kernel)) hisR ?_
  intro p e s m args below meth c s₁ Bd hml0 hP hK
  obtain ⟨rfl, hZ, hh⟩ := hP
  have hx := Bd.exec
  have hby := Bd.bytes
  have hlk : meth.locks = false := BodyLoose.notSynchronized Bd
  have hml : c.maxLocals = 4 := hml0
  have hown : s.vm.findClass "java/lang/Math" = some m.cls := findClass_of_methodNamed Bd.named
  have hnm := (name_of_methodNamed Bd.named Bd.method).1
  have X0 : Stand p l e ({ frames := 0, cells := 0, slots := 0, locals := 0 } : Room) s m #[(.long ja), (.long jb)] below meth c s₁ [] 0 0 := Stand.of_body Bd
  have e0 : s₁.heap = h0 := by rw [← hh, Bd.state]; rfl
  have N0 := Fr.nil n0
  suffices hgo : Go p e below s 0 0 (Q11 Z ja jb h0 n0) (s₁.setTop (mkF m 0 #[.val (.long ja), .second, .val (.long jb), .second] [])) by
    obtain ⟨t, o, h1, h2⟩ := hgo; exact ⟨t, o, castTop (ef_rm11 m ja jb) h1, h2⟩
  show Go p e below s _ _ _ (s₁.setTop (mkF m 0 #[.val (.long ja), .second, .val (.long jb), .second] []))
  refine Go.st (fun _ k' => XS.lloadN X0.here hx rfl (hb hby d11_0) rfl k') ?_
  show Go p e below s _ _ _ (s₁.setTop (mkF m 1 #[.val (.long ja), .second, .val (.long jb), .second] [(.long ja)]))
  refine Go.st (fun _ k' => XS.lloadN X0.here hx rfl (hb hby d11_1) rfl k') ?_
  show Go p e below s _ _ _ (s₁.setTop (mkF m 2 #[.val (.long ja), .second, .val (.long jb), .second] [(.long jb), (.long ja)]))
  refine Go.st (fun _ k' => XT.lcmp X0.here hx rfl (hb hby d11_2) rfl k') ?_
  show Go p e below s _ _ _ (s₁.setTop (mkF m 3 #[.val (.long ja), .second, .val (.long jb), .second] [(.int (XT.cmpL ja jb))]))
  by_cases hc1 : jb < ja
  · refine Go.st (fun _ k' => XS.ifYes X0.here hx rfl (pc0 := 3) (pc' := 10) rfl (hb hby d11_3) rfl (XT.ll_gt_t hc1) (by decide) (by decide) k') ?_
    show Go p e below s _ _ _ (s₁.setTop (mkF m 10 #[.val (.long ja), .second, .val (.long jb), .second] []))
    refine Go.st (fun _ k' => XS.lloadN X0.here hx rfl (hb hby d11_10) rfl k') ?_
    show Go p e below s _ _ _ (s₁.setTop (mkF m 11 #[.val (.long ja), .second, .val (.long jb), .second] [(.long jb)]))
    refine Go.ret X0 hx hlk (t := .long) Bd.returns rfl (Or.inr (Or.inl ⟨rfl, rfl, _, rfl⟩)) (hb hby d11_11) (by decide) (by decide) e0 ?_
    exact ⟨(by simp [fminJ, hc1]), N0, rfl⟩
  · refine Go.st (fun _ k' => XS.ifNo X0.here hx rfl (hb hby d11_3) rfl (XT.ll_gt_f hc1) k') ?_
    show Go p e below s _ _ _ (s₁.setTop (mkF m 6 #[.val (.long ja), .second, .val (.long jb), .second] []))
    refine Go.st (fun _ k' => XS.lloadN X0.here hx rfl (hb hby d11_6) rfl k') ?_
    show Go p e below s _ _ _ (s₁.setTop (mkF m 7 #[.val (.long ja), .second, .val (.long jb), .second] [(.long ja)]))
    refine Go.st (fun _ k' => XS.goto X0.here hx rfl (pc0 := 7) (pc' := 11) rfl (hb hby d11_7) (by decide) (by decide) k') ?_
    show Go p e below s _ _ _ (s₁.setTop (mkF m 11 #[.val (.long ja), .second, .val (.long jb), .second] [(.long ja)]))
    refine Go.ret X0 hx hlk (t := .long) Bd.returns rfl (Or.inr (Or.inl ⟨rfl, rfl, _, rfl⟩)) (hb hby d11_11) (by decide) (by decide) e0 ?_
    exact ⟨(by simp [fminJ, hc1]), N0, rfl⟩
theorem d7_0 : decode jdk_117_method_6_code 0 = .ok (.dload_n 0, 1) := by decide +kernel
theorem d7_1 : decode jdk_117_method_6_code 1 = .ok (.dload_n 0, 1) := by decide +kernel
theorem d7_2 : decode jdk_117_method_6_code 2 = .ok (.dcmp .l, 1) := by decide +kernel
theorem d7_3 : decode jdk_117_method_6_code 3 = .ok (.ifCond .eq 7, 3) := by decide +kernel
theorem d7_10 : decode jdk_117_method_6_code 10 = .ok (.iconst 0, 1) := by decide +kernel
theorem d7_11 : decode jdk_117_method_6_code 11 = .ok (.ireturn, 1) := by decide +kernel
theorem d7_6 : decode jdk_117_method_6_code 6 = .ok (.iconst 1, 1) := by decide +kernel
theorem d7_7 : decode jdk_117_method_6_code 7 = .ok (.goto 4, 3) := by decide +kernel
theorem pn_java_lang_Double : plainName "java/lang/Double" = true := by first | (simp [plainName, overriddenIn]; done) | decide +kernel
theorem ef_rm7 (m : MethodId) (da : UInt64) : entryFrame m #[(.double da)] 2 = mkF m 0 #[.val (.double da), .second] [] := by first | (simp [entryFrame, mkF, argsToLocals, Value.category]; done) | rfl
def Q7 (Z : State) (da : UInt64) (h0 : Heap) (n0 : Nat) (v : Option Value) (h : Heap) (L : List Loc) : Prop := v = some (.int (if (cmpValue (FP.dcmp da da) .l) = (0 : Int32) then (0 : Int32) else 1)) ∧ Fr n0 L ∧ h = h0
set_option maxRecDepth 65536 in
set_option maxHeartbeats 40000000 in
theorem rm7 (l : Launch) (Z : State) (a0 : Array Value) (hw : ∀ d ∈ tables_1, d.before a0 Z = true) (ws : List Jvm.Cond) (da : UInt64) (h0 : Heap) (n0 : Nat) (O0 : Old Z n0 h0) :
    MetFree l (⟨"java/lang/Double", "isNaN", "(D)Z"⟩ : MethodName) (head1 (Jvm.Cond.code (⟨"java/lang/Double", "isNaN", "(D)Z"⟩ : MethodName) jdk_117_method_6_code 2 (some .boolean) :: ws) ({ frames := 0, cells := 0, slots := 0, locals := 0 } : Room)) (fun ay U => ay = #[(.double da)] ∧ Z.Warmed39 U.vm ∧ U.heap = h0) (fun _ _ _ _ _ => True) (fun _ U o U' => ∃ v L, o = .returned v ∧ Q7 Z da h0 n0 v U'.heap L ∧ FrameEnd U o U' L ({ frames := 0, cells := 0, slots := 0, locals := 0 } : Room).cells ({ frames := 0, cells := 0, slots := 0, locals := 0 } : Room).slots) := by
  refine MetFree.of_bodySF (plainFor_of_name pn_java_lang_Double) hisR ?_
  intro p e s m args below meth c s₁ Bd hml0 hP hK
  obtain ⟨rfl, hZ, hh⟩ := hP
  have hx := Bd.exec
  have hby := Bd.bytes
  have hlk : meth.locks = false := BodyLoose.notSynchronized Bd
  have hml : c.maxLocals = 2 := hml0
  have hown : s.vm.findClass "java/lang/Double" = some m.cls := findClass_of_methodNamed Bd.named
  have hnm := (name_of_methodNamed Bd.named Bd.method).1
  have X0 : Stand p l e ({ frames := 0, cells := 0, slots := 0, locals := 0 } : Room) s m #[(.double da)] below meth c s₁ [] 0 0 := Stand.of_body Bd
  have e0 : s₁.heap = h0 := by rw [← hh, Bd.state]; rfl
  have N0 := Fr.nil n0
  suffices hgo : Go p e below s 0 0 (Q7 Z da h0 n0) (s₁.setTop (mkF m 0 #[.val (.double da), .second] [])) by
    obtain ⟨t, o, h1, h2⟩ := hgo; exact ⟨t, o, castTop (ef_rm7 m da) h1, h2⟩
  show Go p e below s _ _ _ (s₁.setTop (mkF m 0 #[.val (.double da), .second] []))
  refine Go.st (fun _ k' => XS.dloadN X0.here hx rfl (hb hby d7_0) rfl k') ?_
  show Go p e below s _ _ _ (s₁.setTop (mkF m 1 #[.val (.double da), .second] [(.double da)]))
  refine Go.st (fun _ k' => XS.dloadN X0.here hx rfl (hb hby d7_1) rfl k') ?_
  show Go p e below s _ _ _ (s₁.setTop (mkF m 2 #[.val (.double da), .second] [(.double da), (.double da)]))
  refine Go.st (fun _ k' => XS.dcmpS X0.here hx rfl (hb hby d7_2) rfl rfl k') ?_
  show Go p e below s _ _ _ (s₁.setTop (mkF m 3 #[.val (.double da), .second] [(.int (cmpValue (FP.dcmp da da) .l))]))
  by_cases hc1 : (cmpValue (FP.dcmp da da) .l) = (0 : Int32)
  · refine Go.st (fun _ k' => XS.ifYes X0.here hx rfl (pc0 := 3) (pc' := 10) rfl (hb hby d7_3) rfl (XT.i0_eq_t hc1) (by decide) (by decide) k') ?_
    show Go p e below s _ _ _ (s₁.setTop (mkF m 10 #[.val (.double da), .second] []))
    refine Go.st (fun _ k' => XS.iconst X0.here hx rfl (hb hby d7_10) k') ?_
    show Go p e below s _ _ _ (s₁.setTop (mkF m 11 #[.val (.double da), .second] [(.int (0 : Int32))]))
    refine Go.retB X0 hx hlk (t := .boolean) Bd.returns (by simp) (hb hby d7_11) (by decide) (by decide) e0 ?_
    exact ⟨(by simp [nar, hc1]), N0, rfl⟩
  · refine Go.st (fun _ k' => XS.ifNo X0.here hx rfl (hb hby d7_3) rfl (XT.i0_eq_f hc1) k') ?_
    show Go p e below s _ _ _ (s₁.setTop (mkF m 6 #[.val (.double da), .second] []))
    refine Go.st (fun _ k' => XS.iconst X0.here hx rfl (hb hby d7_6) k') ?_
    show Go p e below s _ _ _ (s₁.setTop (mkF m 7 #[.val (.double da), .second] [(.int (1 : Int32))]))
    refine Go.st (fun _ k' => XS.goto X0.here hx rfl (pc0 := 7) (pc' := 11) rfl (hb hby d7_7) (by decide) (by decide) k') ?_
    show Go p e below s _ _ _ (s₁.setTop (mkF m 11 #[.val (.double da), .second] [(.int (1 : Int32))]))
    refine Go.retB X0 hx hlk (t := .boolean) Bd.returns (by simp) (hb hby d7_11) (by decide) (by decide) e0 ?_
    exact ⟨(by simp [nar, hc1]), N0, rfl⟩
theorem own_mxb {a0 : Array Value} {Z : State} (hw : ∀ d ∈ tables_1, d.before a0 Z = true) : (Jvm.Cond.code Jvm.Free.Fl.Abs.maxDN Jvm.Free.Fl.Abs.maxDCode 4 (some .double)).before a0 Z = true := wdx hw 62 rfl
theorem d10_0 : decode jdk_29_method_22_code 0 = .ok (.dload_n 0, 1) := by decide +kernel
theorem d10_1 : decode jdk_29_method_22_code 1 = .ok (.invokestatic 79, 3) := by decide +kernel
theorem d10_4 : decode jdk_29_method_22_code 4 = .ok (.lstore_n 2, 1) := by decide +kernel
theorem d10_5 : decode jdk_29_method_22_code 5 = .ok (.lload_n 2, 1) := by decide +kernel
theorem d10_6 : decode jdk_29_method_22_code 6 = .ok (.ldc2_w 87, 3) := by decide +kernel
theorem d10_9 : decode jdk_29_method_22_code 9 = .ok (.land, 1) := by decide +kernel
theorem d10_10 : decode jdk_29_method_22_code 10 = .ok (.bipush 52, 2) := by decide +kernel
theorem d10_12 : decode jdk_29_method_22_code 12 = .ok (.lshr, 1) := by decide +kernel
theorem d10_13 : decode jdk_29_method_22_code 13 = .ok (.lstore 4, 2) := by decide +kernel
theorem d10_15 : decode jdk_29_method_22_code 15 = .ok (.ldc2_w 89, 3) := by decide +kernel
theorem d10_18 : decode jdk_29_method_22_code 18 = .ok (.lload 4, 2) := by decide +kernel
theorem d10_20 : decode jdk_29_method_22_code 20 = .ok (.lsub, 1) := by decide +kernel
theorem d10_21 : decode jdk_29_method_22_code 21 = .ok (.lstore 6, 2) := by decide +kernel
theorem d10_23 : decode jdk_29_method_22_code 23 = .ok (.lload 6, 2) := by decide +kernel
theorem d10_25 : decode jdk_29_method_22_code 25 = .ok (.ldc2_w 91, 3) := by decide +kernel
theorem d10_28 : decode jdk_29_method_22_code 28 = .ok (.land, 1) := by decide +kernel
theorem d10_29 : decode jdk_29_method_22_code 29 = .ok (.lconst 0, 1) := by decide +kernel
theorem d10_30 : decode jdk_29_method_22_code 30 = .ok (.lcmp, 1) := by decide +kernel
theorem d10_31 : decode jdk_29_method_22_code 31 = .ok (.ifCond .ne 36, 3) := by decide +kernel
theorem d10_34 : decode jdk_29_method_22_code 34 = .ok (.lload_n 2, 1) := by decide +kernel
theorem d10_35 : decode jdk_29_method_22_code 35 = .ok (.ldc2_w 93, 3) := by decide +kernel
theorem d10_38 : decode jdk_29_method_22_code 38 = .ok (.land, 1) := by decide +kernel
theorem d10_39 : decode jdk_29_method_22_code 39 = .ok (.ldc2_w 95, 3) := by decide +kernel
theorem d10_42 : decode jdk_29_method_22_code 42 = .ok (.lor, 1) := by decide +kernel
theorem d10_43 : decode jdk_29_method_22_code 43 = .ok (.lstore 8, 2) := by decide +kernel
theorem d10_45 : decode jdk_29_method_22_code 45 = .ok (.lload_n 2, 1) := by decide +kernel
theorem d10_46 : decode jdk_29_method_22_code 46 = .ok (.lconst 0, 1) := by decide +kernel
theorem d10_47 : decode jdk_29_method_22_code 47 = .ok (.lcmp, 1) := by decide +kernel
theorem d10_48 : decode jdk_29_method_22_code 48 = .ok (.ifCond .ge 8, 3) := by decide +kernel
theorem d10_56 : decode jdk_29_method_22_code 56 = .ok (.lload 8, 2) := by decide +kernel
theorem d10_58 : decode jdk_29_method_22_code 58 = .ok (.lload 6, 2) := by decide +kernel
theorem d10_60 : decode jdk_29_method_22_code 60 = .ok (.l2i, 1) := by decide +kernel
theorem d10_61 : decode jdk_29_method_22_code 61 = .ok (.lshr, 1) := by decide +kernel
theorem d10_62 : decode jdk_29_method_22_code 62 = .ok (.lconst 1, 1) := by decide +kernel
theorem d10_63 : decode jdk_29_method_22_code 63 = .ok (.ladd, 1) := by decide +kernel
theorem d10_64 : decode jdk_29_method_22_code 64 = .ok (.iconst 1, 1) := by decide +kernel
theorem d10_65 : decode jdk_29_method_22_code 65 = .ok (.lshr, 1) := by decide +kernel
theorem d10_66 : decode jdk_29_method_22_code 66 = .ok (.lreturn, 1) := by decide +kernel
theorem d10_67 : decode jdk_29_method_22_code 67 = .ok (.dload_n 0, 1) := by decide +kernel
theorem d10_68 : decode jdk_29_method_22_code 68 = .ok (.d2l, 1) := by decide +kernel
theorem d10_69 : decode jdk_29_method_22_code 69 = .ok (.lreturn, 1) := by decide +kernel
theorem ef_rm10 (m : MethodId) (da : UInt64) : entryFrame m #[(.double da)] 10 = mkF m 0 #[.val (.double da), .second, .unset, .unset, .unset, .unset, .unset, .unset, .unset, .unset] [] := by first | (simp [entryFrame, mkF, argsToLocals, Value.category]; done) | rfl
def Q10 (Z : State) (da : UInt64) (h0 : Heap) (n0 : Nat) (v : Option Value) (h : Heap) (L : List Loc) : Prop := v = some (.long (fround da)) ∧ Fr n0 L ∧ h = h0
set_option maxRecDepth 65536 in
set_option maxHeartbeats 40000000 in
theorem rm10 (l : Launch) (Z : State) (a0 : Array Value) (hw : ∀ d ∈ tables_1, d.before a0 Z = true) (ws : List Jvm.Cond) (da : UInt64) (h0 : Heap) (n0 : Nat) (O0 : Old Z n0 h0) (q_p : ¬ da.toInt64 < (0 : Int64)) :
    MetFree l (⟨"java/lang/Math", "round", "(D)J"⟩ : MethodName) (head1 (Jvm.Cond.code (⟨"java/lang/Math", "round", "(D)J"⟩ : MethodName) jdk_29_method_22_code 10 (some .long) :: ws) ({ frames := 1, cells := 0, slots := 0, locals := 15 } : Room)) (fun ay U => ay = #[(.double da)] ∧ Z.Warmed39 U.vm ∧ U.heap = h0) (fun _ _ _ _ _ => True) (fun _ U o U' => ∃ v L, o = .returned v ∧ Q10 Z da h0 n0 v U'.heap L ∧ FrameEnd U o U' L ({ frames := 1, cells := 0, slots := 0, locals := 15 } : Room).cells ({ frames := 1, cells := 0, slots := 0, locals := 15 } : Room).slots) := by
  refine MetFree.of_bodySF (Jvm.Free.JP.mathPlain rfl (by decide +kernel)) hisR ?_
  intro p e s m args below meth c s₁ Bd hml0 hP hK
  obtain ⟨rfl, hZ, hh⟩ := hP
  have hx := Bd.exec
  have hby := Bd.bytes
  have hlk : meth.locks = false := BodyLoose.notSynchronized Bd
  have hml : c.maxLocals = 10 := hml0
  have hown : s.vm.findClass "java/lang/Math" = some m.cls := findClass_of_methodNamed Bd.named
  have hnm := (name_of_methodNamed Bd.named Bd.method).1
  have X0 : Stand p l e ({ frames := 1, cells := 0, slots := 0, locals := 15 } : Room) s m #[(.double da)] below meth c s₁ [] 0 0 := Stand.of_body Bd
  have e0 : s₁.heap = h0 := by rw [← hh, Bd.state]; rfl
  have N0 := Fr.nil n0
  suffices hgo : Go p e below s 0 0 (Q10 Z da h0 n0) (s₁.setTop (mkF m 0 #[.val (.double da), .second, .unset, .unset, .unset, .unset, .unset, .unset, .unset, .unset] [])) by
    obtain ⟨t, o, h1, h2⟩ := hgo; exact ⟨t, o, castTop (ef_rm10 m da) h1, h2⟩
  show Go p e below s _ _ _ (s₁.setTop (mkF m 0 #[.val (.double da), .second, .unset, .unset, .unset, .unset, .unset, .unset, .unset, .unset] []))
  refine Go.st (fun _ k' => XS.dloadN X0.here hx rfl (hb hby d10_0) rfl k') ?_
  show Go p e below s _ _ _ (s₁.setTop (mkF m 1 #[.val (.double da), .second, .unset, .unset, .unset, .unset, .unset, .unset, .unset, .unset] [(.double da)]))
  obtain ⟨vm1, X1, st1⟩ := X0.doubleToRawLongBits hx hown (mvT hZ (wdx hw 66 rfl)) (mvT hZ (wdx hw 68 rfl)) (mvT hZ (wdx hw 67 rfl)) (mvT hZ (wdx hw 54 rfl)) (g := (mkF m 1 #[.val (.double da), .second, .unset, .unset, .unset, .unset, .unset, .unset, .unset, .unset] [(.double da)])) rfl (by rw [hml]; rfl) (rest := []) (b := da) rfl (hb hby d10_1) (by decide) (by show 2 * 0 + 0 + (nativeFrameWords "java/lang/Double" "doubleToRawLongBits" 2 + 11) ≤ _; decide +kernel)
  refine Go.st st1 ?_
  show Go p e below s _ _ _ ((s₁.setVm vm1).setTop (mkF m 4 #[.val (.double da), .second, .unset, .unset, .unset, .unset, .unset, .unset, .unset, .unset] [(.long (da.toInt64))]))
  refine Go.st (fun _ k' => XS.lstoreN X1.here hx rfl (hb hby d10_4) rfl (l' := #[.val (.double da), .second, .val (.long (da.toInt64)), .second, .unset, .unset, .unset, .unset, .unset, .unset]) rfl k') ?_
  show Go p e below s _ _ _ ((s₁.setVm vm1).setTop (mkF m 5 #[.val (.double da), .second, .val (.long (da.toInt64)), .second, .unset, .unset, .unset, .unset, .unset, .unset] []))
  refine Go.st (fun _ k' => XS.lloadN X1.here hx rfl (hb hby d10_5) rfl k') ?_
  show Go p e below s _ _ _ ((s₁.setVm vm1).setTop (mkF m 6 #[.val (.double da), .second, .val (.long (da.toInt64)), .second, .unset, .unset, .unset, .unset, .unset, .unset] [(.long (da.toInt64))]))
  refine Go.st (fun _ k' => X1.ldc2J hx hown (mvT hZ (wdx hw 69 rfl)) rfl (hb hby d10_6) k') ?_
  show Go p e below s _ _ _ ((s₁.setVm vm1).setTop (mkF m 9 #[.val (.double da), .second, .val (.long (da.toInt64)), .second, .unset, .unset, .unset, .unset, .unset, .unset] [(.long (9218868437227405312 : Int64)), (.long (da.toInt64))]))
  refine Go.st (fun _ k' => XS.land X1.here hx rfl (hb hby d10_9) rfl k') ?_
  show Go p e below s _ _ _ ((s₁.setVm vm1).setTop (mkF m 10 #[.val (.double da), .second, .val (.long (da.toInt64)), .second, .unset, .unset, .unset, .unset, .unset, .unset] [(.long ((da.toInt64) &&& (9218868437227405312 : Int64)))]))
  refine Go.st (fun _ k' => XS.bipush X1.here hx rfl (hb hby d10_10) k') ?_
  show Go p e below s _ _ _ ((s₁.setVm vm1).setTop (mkF m 12 #[.val (.double da), .second, .val (.long (da.toInt64)), .second, .unset, .unset, .unset, .unset, .unset, .unset] [(.int (52 : Int32)), (.long ((da.toInt64) &&& (9218868437227405312 : Int64)))]))
  refine Go.st (fun _ k' => XS.lshr X1.here hx rfl (hb hby d10_12) rfl k') ?_
  show Go p e below s _ _ _ ((s₁.setVm vm1).setTop (mkF m 13 #[.val (.double da), .second, .val (.long (da.toInt64)), .second, .unset, .unset, .unset, .unset, .unset, .unset] [(.long (((da.toInt64) &&& (9218868437227405312 : Int64)) >>> ((52 : Int32) &&& 0x3f).toInt64))]))
  refine Go.st (fun _ k' => XS.lstore X1.here hx rfl (hb hby d10_13) rfl (l' := #[.val (.double da), .second, .val (.long (da.toInt64)), .second, .val (.long (((da.toInt64) &&& (9218868437227405312 : Int64)) >>> ((52 : Int32) &&& 0x3f).toInt64)), .second, .unset, .unset, .unset, .unset]) rfl k') ?_
  show Go p e below s _ _ _ ((s₁.setVm vm1).setTop (mkF m 15 #[.val (.double da), .second, .val (.long (da.toInt64)), .second, .val (.long (((da.toInt64) &&& (9218868437227405312 : Int64)) >>> ((52 : Int32) &&& 0x3f).toInt64)), .second, .unset, .unset, .unset, .unset] []))
  refine Go.st (fun _ k' => X1.ldc2J hx hown (mvT hZ (wdx hw 70 rfl)) rfl (hb hby d10_15) k') ?_
  show Go p e below s _ _ _ ((s₁.setVm vm1).setTop (mkF m 18 #[.val (.double da), .second, .val (.long (da.toInt64)), .second, .val (.long (((da.toInt64) &&& (9218868437227405312 : Int64)) >>> ((52 : Int32) &&& 0x3f).toInt64)), .second, .unset, .unset, .unset, .unset] [(.long (1074 : Int64))]))
  refine Go.st (fun _ k' => XS.lload X1.here hx rfl (hb hby d10_18) rfl k') ?_
  show Go p e below s _ _ _ ((s₁.setVm vm1).setTop (mkF m 20 #[.val (.double da), .second, .val (.long (da.toInt64)), .second, .val (.long (((da.toInt64) &&& (9218868437227405312 : Int64)) >>> ((52 : Int32) &&& 0x3f).toInt64)), .second, .unset, .unset, .unset, .unset] [(.long (((da.toInt64) &&& (9218868437227405312 : Int64)) >>> ((52 : Int32) &&& 0x3f).toInt64)), (.long (1074 : Int64))]))
  refine Go.st (fun _ k' => XS.lsub X1.here hx rfl (hb hby d10_20) rfl k') ?_
  show Go p e below s _ _ _ ((s₁.setVm vm1).setTop (mkF m 21 #[.val (.double da), .second, .val (.long (da.toInt64)), .second, .val (.long (((da.toInt64) &&& (9218868437227405312 : Int64)) >>> ((52 : Int32) &&& 0x3f).toInt64)), .second, .unset, .unset, .unset, .unset] [(.long ((1074 : Int64) - (((da.toInt64) &&& (9218868437227405312 : Int64)) >>> ((52 : Int32) &&& 0x3f).toInt64)))]))
  refine Go.st (fun _ k' => XS.lstore X1.here hx rfl (hb hby d10_21) rfl (l' := #[.val (.double da), .second, .val (.long (da.toInt64)), .second, .val (.long (((da.toInt64) &&& (9218868437227405312 : Int64)) >>> ((52 : Int32) &&& 0x3f).toInt64)), .second, .val (.long ((1074 : Int64) - (((da.toInt64) &&& (9218868437227405312 : Int64)) >>> ((52 : Int32) &&& 0x3f).toInt64))), .second, .unset, .unset]) rfl k') ?_
  show Go p e below s _ _ _ ((s₁.setVm vm1).setTop (mkF m 23 #[.val (.double da), .second, .val (.long (da.toInt64)), .second, .val (.long (((da.toInt64) &&& (9218868437227405312 : Int64)) >>> ((52 : Int32) &&& 0x3f).toInt64)), .second, .val (.long ((1074 : Int64) - (((da.toInt64) &&& (9218868437227405312 : Int64)) >>> ((52 : Int32) &&& 0x3f).toInt64))), .second, .unset, .unset] []))
  refine Go.st (fun _ k' => XS.lload X1.here hx rfl (hb hby d10_23) rfl k') ?_
  show Go p e below s _ _ _ ((s₁.setVm vm1).setTop (mkF m 25 #[.val (.double da), .second, .val (.long (da.toInt64)), .second, .val (.long (((da.toInt64) &&& (9218868437227405312 : Int64)) >>> ((52 : Int32) &&& 0x3f).toInt64)), .second, .val (.long ((1074 : Int64) - (((da.toInt64) &&& (9218868437227405312 : Int64)) >>> ((52 : Int32) &&& 0x3f).toInt64))), .second, .unset, .unset] [(.long ((1074 : Int64) - (((da.toInt64) &&& (9218868437227405312 : Int64)) >>> ((52 : Int32) &&& 0x3f).toInt64)))]))
  refine Go.st (fun _ k' => X1.ldc2J hx hown (mvT hZ (wdx hw 71 rfl)) rfl (hb hby d10_25) k') ?_
  show Go p e below s _ _ _ ((s₁.setVm vm1).setTop (mkF m 28 #[.val (.double da), .second, .val (.long (da.toInt64)), .second, .val (.long (((da.toInt64) &&& (9218868437227405312 : Int64)) >>> ((52 : Int32) &&& 0x3f).toInt64)), .second, .val (.long ((1074 : Int64) - (((da.toInt64) &&& (9218868437227405312 : Int64)) >>> ((52 : Int32) &&& 0x3f).toInt64))), .second, .unset, .unset] [(.long (-64 : Int64)), (.long ((1074 : Int64) - (((da.toInt64) &&& (9218868437227405312 : Int64)) >>> ((52 : Int32) &&& 0x3f).toInt64)))]))
  refine Go.st (fun _ k' => XS.land X1.here hx rfl (hb hby d10_28) rfl k') ?_
  show Go p e below s _ _ _ ((s₁.setVm vm1).setTop (mkF m 29 #[.val (.double da), .second, .val (.long (da.toInt64)), .second, .val (.long (((da.toInt64) &&& (9218868437227405312 : Int64)) >>> ((52 : Int32) &&& 0x3f).toInt64)), .second, .val (.long ((1074 : Int64) - (((da.toInt64) &&& (9218868437227405312 : Int64)) >>> ((52 : Int32) &&& 0x3f).toInt64))), .second, .unset, .unset] [(.long (((1074 : Int64) - (((da.toInt64) &&& (9218868437227405312 : Int64)) >>> ((52 : Int32) &&& 0x3f).toInt64)) &&& (-64 : Int64)))]))
  refine Go.st (fun _ k' => XS.lconst X1.here hx rfl (hb hby d10_29) k') ?_
  show Go p e below s _ _ _ ((s₁.setVm vm1).setTop (mkF m 30 #[.val (.double da), .second, .val (.long (da.toInt64)), .second, .val (.long (((da.toInt64) &&& (9218868437227405312 : Int64)) >>> ((52 : Int32) &&& 0x3f).toInt64)), .second, .val (.long ((1074 : Int64) - (((da.toInt64) &&& (9218868437227405312 : Int64)) >>> ((52 : Int32) &&& 0x3f).toInt64))), .second, .unset, .unset] [(.long (0 : Int64)), (.long (((1074 : Int64) - (((da.toInt64) &&& (9218868437227405312 : Int64)) >>> ((52 : Int32) &&& 0x3f).toInt64)) &&& (-64 : Int64)))]))
  refine Go.st (fun _ k' => XT.lcmp X1.here hx rfl (hb hby d10_30) rfl k') ?_
  show Go p e below s _ _ _ ((s₁.setVm vm1).setTop (mkF m 31 #[.val (.double da), .second, .val (.long (da.toInt64)), .second, .val (.long (((da.toInt64) &&& (9218868437227405312 : Int64)) >>> ((52 : Int32) &&& 0x3f).toInt64)), .second, .val (.long ((1074 : Int64) - (((da.toInt64) &&& (9218868437227405312 : Int64)) >>> ((52 : Int32) &&& 0x3f).toInt64))), .second, .unset, .unset] [(.int (XT.cmpL (((1074 : Int64) - (((da.toInt64) &&& (9218868437227405312 : Int64)) >>> ((52 : Int32) &&& 0x3f).toInt64)) &&& (-64 : Int64)) (0 : Int64)))]))
  by_cases hc2 : (((1074 : Int64) - (((da.toInt64) &&& (9218868437227405312 : Int64)) >>> ((52 : Int32) &&& 0x3f).toInt64)) &&& (-64 : Int64)) = (0 : Int64)
  · refine Go.st (fun _ k' => XS.ifNo X1.here hx rfl (hb hby d10_31) rfl (XT.ll_ne_f hc2) k') ?_
    show Go p e below s _ _ _ ((s₁.setVm vm1).setTop (mkF m 34 #[.val (.double da), .second, .val (.long (da.toInt64)), .second, .val (.long (((da.toInt64) &&& (9218868437227405312 : Int64)) >>> ((52 : Int32) &&& 0x3f).toInt64)), .second, .val (.long ((1074 : Int64) - (((da.toInt64) &&& (9218868437227405312 : Int64)) >>> ((52 : Int32) &&& 0x3f).toInt64))), .second, .unset, .unset] []))
    refine Go.st (fun _ k' => XS.lloadN X1.here hx rfl (hb hby d10_34) rfl k') ?_
    show Go p e below s _ _ _ ((s₁.setVm vm1).setTop (mkF m 35 #[.val (.double da), .second, .val (.long (da.toInt64)), .second, .val (.long (((da.toInt64) &&& (9218868437227405312 : Int64)) >>> ((52 : Int32) &&& 0x3f).toInt64)), .second, .val (.long ((1074 : Int64) - (((da.toInt64) &&& (9218868437227405312 : Int64)) >>> ((52 : Int32) &&& 0x3f).toInt64))), .second, .unset, .unset] [(.long (da.toInt64))]))
    refine Go.st (fun _ k' => X1.ldc2J hx hown (mvT hZ (wdx hw 72 rfl)) rfl (hb hby d10_35) k') ?_
    show Go p e below s _ _ _ ((s₁.setVm vm1).setTop (mkF m 38 #[.val (.double da), .second, .val (.long (da.toInt64)), .second, .val (.long (((da.toInt64) &&& (9218868437227405312 : Int64)) >>> ((52 : Int32) &&& 0x3f).toInt64)), .second, .val (.long ((1074 : Int64) - (((da.toInt64) &&& (9218868437227405312 : Int64)) >>> ((52 : Int32) &&& 0x3f).toInt64))), .second, .unset, .unset] [(.long (4503599627370495 : Int64)), (.long (da.toInt64))]))
    refine Go.st (fun _ k' => XS.land X1.here hx rfl (hb hby d10_38) rfl k') ?_
    show Go p e below s _ _ _ ((s₁.setVm vm1).setTop (mkF m 39 #[.val (.double da), .second, .val (.long (da.toInt64)), .second, .val (.long (((da.toInt64) &&& (9218868437227405312 : Int64)) >>> ((52 : Int32) &&& 0x3f).toInt64)), .second, .val (.long ((1074 : Int64) - (((da.toInt64) &&& (9218868437227405312 : Int64)) >>> ((52 : Int32) &&& 0x3f).toInt64))), .second, .unset, .unset] [(.long ((da.toInt64) &&& (4503599627370495 : Int64)))]))
    refine Go.st (fun _ k' => X1.ldc2J hx hown (mvT hZ (wdx hw 73 rfl)) rfl (hb hby d10_39) k') ?_
    show Go p e below s _ _ _ ((s₁.setVm vm1).setTop (mkF m 42 #[.val (.double da), .second, .val (.long (da.toInt64)), .second, .val (.long (((da.toInt64) &&& (9218868437227405312 : Int64)) >>> ((52 : Int32) &&& 0x3f).toInt64)), .second, .val (.long ((1074 : Int64) - (((da.toInt64) &&& (9218868437227405312 : Int64)) >>> ((52 : Int32) &&& 0x3f).toInt64))), .second, .unset, .unset] [(.long (4503599627370496 : Int64)), (.long ((da.toInt64) &&& (4503599627370495 : Int64)))]))
    refine Go.st (fun _ k' => XS.lor X1.here hx rfl (hb hby d10_42) rfl k') ?_
    show Go p e below s _ _ _ ((s₁.setVm vm1).setTop (mkF m 43 #[.val (.double da), .second, .val (.long (da.toInt64)), .second, .val (.long (((da.toInt64) &&& (9218868437227405312 : Int64)) >>> ((52 : Int32) &&& 0x3f).toInt64)), .second, .val (.long ((1074 : Int64) - (((da.toInt64) &&& (9218868437227405312 : Int64)) >>> ((52 : Int32) &&& 0x3f).toInt64))), .second, .unset, .unset] [(.long (((da.toInt64) &&& (4503599627370495 : Int64)) ||| (4503599627370496 : Int64)))]))
    refine Go.st (fun _ k' => XS.lstore X1.here hx rfl (hb hby d10_43) rfl (l' := #[.val (.double da), .second, .val (.long (da.toInt64)), .second, .val (.long (((da.toInt64) &&& (9218868437227405312 : Int64)) >>> ((52 : Int32) &&& 0x3f).toInt64)), .second, .val (.long ((1074 : Int64) - (((da.toInt64) &&& (9218868437227405312 : Int64)) >>> ((52 : Int32) &&& 0x3f).toInt64))), .second, .val (.long (((da.toInt64) &&& (4503599627370495 : Int64)) ||| (4503599627370496 : Int64))), .second]) rfl k') ?_
    show Go p e below s _ _ _ ((s₁.setVm vm1).setTop (mkF m 45 #[.val (.double da), .second, .val (.long (da.toInt64)), .second, .val (.long (((da.toInt64) &&& (9218868437227405312 : Int64)) >>> ((52 : Int32) &&& 0x3f).toInt64)), .second, .val (.long ((1074 : Int64) - (((da.toInt64) &&& (9218868437227405312 : Int64)) >>> ((52 : Int32) &&& 0x3f).toInt64))), .second, .val (.long (((da.toInt64) &&& (4503599627370495 : Int64)) ||| (4503599627370496 : Int64))), .second] []))
    refine Go.st (fun _ k' => XS.lloadN X1.here hx rfl (hb hby d10_45) rfl k') ?_
    show Go p e below s _ _ _ ((s₁.setVm vm1).setTop (mkF m 46 #[.val (.double da), .second, .val (.long (da.toInt64)), .second, .val (.long (((da.toInt64) &&& (9218868437227405312 : Int64)) >>> ((52 : Int32) &&& 0x3f).toInt64)), .second, .val (.long ((1074 : Int64) - (((da.toInt64) &&& (9218868437227405312 : Int64)) >>> ((52 : Int32) &&& 0x3f).toInt64))), .second, .val (.long (((da.toInt64) &&& (4503599627370495 : Int64)) ||| (4503599627370496 : Int64))), .second] [(.long (da.toInt64))]))
    refine Go.st (fun _ k' => XS.lconst X1.here hx rfl (hb hby d10_46) k') ?_
    show Go p e below s _ _ _ ((s₁.setVm vm1).setTop (mkF m 47 #[.val (.double da), .second, .val (.long (da.toInt64)), .second, .val (.long (((da.toInt64) &&& (9218868437227405312 : Int64)) >>> ((52 : Int32) &&& 0x3f).toInt64)), .second, .val (.long ((1074 : Int64) - (((da.toInt64) &&& (9218868437227405312 : Int64)) >>> ((52 : Int32) &&& 0x3f).toInt64))), .second, .val (.long (((da.toInt64) &&& (4503599627370495 : Int64)) ||| (4503599627370496 : Int64))), .second] [(.long (0 : Int64)), (.long (da.toInt64))]))
    refine Go.st (fun _ k' => XT.lcmp X1.here hx rfl (hb hby d10_47) rfl k') ?_
    show Go p e below s _ _ _ ((s₁.setVm vm1).setTop (mkF m 48 #[.val (.double da), .second, .val (.long (da.toInt64)), .second, .val (.long (((da.toInt64) &&& (9218868437227405312 : Int64)) >>> ((52 : Int32) &&& 0x3f).toInt64)), .second, .val (.long ((1074 : Int64) - (((da.toInt64) &&& (9218868437227405312 : Int64)) >>> ((52 : Int32) &&& 0x3f).toInt64))), .second, .val (.long (((da.toInt64) &&& (4503599627370495 : Int64)) ||| (4503599627370496 : Int64))), .second] [(.int (XT.cmpL (da.toInt64) (0 : Int64)))]))
    refine Go.st (fun _ k' => XS.ifYes X1.here hx rfl (pc0 := 48) (pc' := 56) rfl (hb hby d10_48) rfl (XT.ll_ge_t q_p) (by decide) (by decide) k') ?_
    show Go p e below s _ _ _ ((s₁.setVm vm1).setTop (mkF m 56 #[.val (.double da), .second, .val (.long (da.toInt64)), .second, .val (.long (((da.toInt64) &&& (9218868437227405312 : Int64)) >>> ((52 : Int32) &&& 0x3f).toInt64)), .second, .val (.long ((1074 : Int64) - (((da.toInt64) &&& (9218868437227405312 : Int64)) >>> ((52 : Int32) &&& 0x3f).toInt64))), .second, .val (.long (((da.toInt64) &&& (4503599627370495 : Int64)) ||| (4503599627370496 : Int64))), .second] []))
    refine Go.st (fun _ k' => XS.lload X1.here hx rfl (hb hby d10_56) rfl k') ?_
    show Go p e below s _ _ _ ((s₁.setVm vm1).setTop (mkF m 58 #[.val (.double da), .second, .val (.long (da.toInt64)), .second, .val (.long (((da.toInt64) &&& (9218868437227405312 : Int64)) >>> ((52 : Int32) &&& 0x3f).toInt64)), .second, .val (.long ((1074 : Int64) - (((da.toInt64) &&& (9218868437227405312 : Int64)) >>> ((52 : Int32) &&& 0x3f).toInt64))), .second, .val (.long (((da.toInt64) &&& (4503599627370495 : Int64)) ||| (4503599627370496 : Int64))), .second] [(.long (((da.toInt64) &&& (4503599627370495 : Int64)) ||| (4503599627370496 : Int64)))]))
    refine Go.st (fun _ k' => XS.lload X1.here hx rfl (hb hby d10_58) rfl k') ?_
    show Go p e below s _ _ _ ((s₁.setVm vm1).setTop (mkF m 60 #[.val (.double da), .second, .val (.long (da.toInt64)), .second, .val (.long (((da.toInt64) &&& (9218868437227405312 : Int64)) >>> ((52 : Int32) &&& 0x3f).toInt64)), .second, .val (.long ((1074 : Int64) - (((da.toInt64) &&& (9218868437227405312 : Int64)) >>> ((52 : Int32) &&& 0x3f).toInt64))), .second, .val (.long (((da.toInt64) &&& (4503599627370495 : Int64)) ||| (4503599627370496 : Int64))), .second] [(.long ((1074 : Int64) - (((da.toInt64) &&& (9218868437227405312 : Int64)) >>> ((52 : Int32) &&& 0x3f).toInt64))), (.long (((da.toInt64) &&& (4503599627370495 : Int64)) ||| (4503599627370496 : Int64)))]))
    refine Go.st (fun _ k' => XS.l2i X1.here hx rfl (hb hby d10_60) rfl k') ?_
    show Go p e below s _ _ _ ((s₁.setVm vm1).setTop (mkF m 61 #[.val (.double da), .second, .val (.long (da.toInt64)), .second, .val (.long (((da.toInt64) &&& (9218868437227405312 : Int64)) >>> ((52 : Int32) &&& 0x3f).toInt64)), .second, .val (.long ((1074 : Int64) - (((da.toInt64) &&& (9218868437227405312 : Int64)) >>> ((52 : Int32) &&& 0x3f).toInt64))), .second, .val (.long (((da.toInt64) &&& (4503599627370495 : Int64)) ||| (4503599627370496 : Int64))), .second] [(.int (((1074 : Int64) - (((da.toInt64) &&& (9218868437227405312 : Int64)) >>> ((52 : Int32) &&& 0x3f).toInt64)).toInt32)), (.long (((da.toInt64) &&& (4503599627370495 : Int64)) ||| (4503599627370496 : Int64)))]))
    refine Go.st (fun _ k' => XS.lshr X1.here hx rfl (hb hby d10_61) rfl k') ?_
    show Go p e below s _ _ _ ((s₁.setVm vm1).setTop (mkF m 62 #[.val (.double da), .second, .val (.long (da.toInt64)), .second, .val (.long (((da.toInt64) &&& (9218868437227405312 : Int64)) >>> ((52 : Int32) &&& 0x3f).toInt64)), .second, .val (.long ((1074 : Int64) - (((da.toInt64) &&& (9218868437227405312 : Int64)) >>> ((52 : Int32) &&& 0x3f).toInt64))), .second, .val (.long (((da.toInt64) &&& (4503599627370495 : Int64)) ||| (4503599627370496 : Int64))), .second] [(.long ((((da.toInt64) &&& (4503599627370495 : Int64)) ||| (4503599627370496 : Int64)) >>> ((((1074 : Int64) - (((da.toInt64) &&& (9218868437227405312 : Int64)) >>> ((52 : Int32) &&& 0x3f).toInt64)).toInt32) &&& 0x3f).toInt64))]))
    refine Go.st (fun _ k' => XS.lconst X1.here hx rfl (hb hby d10_62) k') ?_
    show Go p e below s _ _ _ ((s₁.setVm vm1).setTop (mkF m 63 #[.val (.double da), .second, .val (.long (da.toInt64)), .second, .val (.long (((da.toInt64) &&& (9218868437227405312 : Int64)) >>> ((52 : Int32) &&& 0x3f).toInt64)), .second, .val (.long ((1074 : Int64) - (((da.toInt64) &&& (9218868437227405312 : Int64)) >>> ((52 : Int32) &&& 0x3f).toInt64))), .second, .val (.long (((da.toInt64) &&& (4503599627370495 : Int64)) ||| (4503599627370496 : Int64))), .second] [(.long (1 : Int64)), (.long ((((da.toInt64) &&& (4503599627370495 : Int64)) ||| (4503599627370496 : Int64)) >>> ((((1074 : Int64) - (((da.toInt64) &&& (9218868437227405312 : Int64)) >>> ((52 : Int32) &&& 0x3f).toInt64)).toInt32) &&& 0x3f).toInt64))]))
    refine Go.st (fun _ k' => XS.ladd X1.here hx rfl (hb hby d10_63) rfl k') ?_
    show Go p e below s _ _ _ ((s₁.setVm vm1).setTop (mkF m 64 #[.val (.double da), .second, .val (.long (da.toInt64)), .second, .val (.long (((da.toInt64) &&& (9218868437227405312 : Int64)) >>> ((52 : Int32) &&& 0x3f).toInt64)), .second, .val (.long ((1074 : Int64) - (((da.toInt64) &&& (9218868437227405312 : Int64)) >>> ((52 : Int32) &&& 0x3f).toInt64))), .second, .val (.long (((da.toInt64) &&& (4503599627370495 : Int64)) ||| (4503599627370496 : Int64))), .second] [(.long (((((da.toInt64) &&& (4503599627370495 : Int64)) ||| (4503599627370496 : Int64)) >>> ((((1074 : Int64) - (((da.toInt64) &&& (9218868437227405312 : Int64)) >>> ((52 : Int32) &&& 0x3f).toInt64)).toInt32) &&& 0x3f).toInt64) + (1 : Int64)))]))
    refine Go.st (fun _ k' => XS.iconst X1.here hx rfl (hb hby d10_64) k') ?_
    show Go p e below s _ _ _ ((s₁.setVm vm1).setTop (mkF m 65 #[.val (.double da), .second, .val (.long (da.toInt64)), .second, .val (.long (((da.toInt64) &&& (9218868437227405312 : Int64)) >>> ((52 : Int32) &&& 0x3f).toInt64)), .second, .val (.long ((1074 : Int64) - (((da.toInt64) &&& (9218868437227405312 : Int64)) >>> ((52 : Int32) &&& 0x3f).toInt64))), .second, .val (.long (((da.toInt64) &&& (4503599627370495 : Int64)) ||| (4503599627370496 : Int64))), .second] [(.int (1 : Int32)), (.long (((((da.toInt64) &&& (4503599627370495 : Int64)) ||| (4503599627370496 : Int64)) >>> ((((1074 : Int64) - (((da.toInt64) &&& (9218868437227405312 : Int64)) >>> ((52 : Int32) &&& 0x3f).toInt64)).toInt32) &&& 0x3f).toInt64) + (1 : Int64)))]))
    refine Go.st (fun _ k' => XS.lshr X1.here hx rfl (hb hby d10_65) rfl k') ?_
    show Go p e below s _ _ _ ((s₁.setVm vm1).setTop (mkF m 66 #[.val (.double da), .second, .val (.long (da.toInt64)), .second, .val (.long (((da.toInt64) &&& (9218868437227405312 : Int64)) >>> ((52 : Int32) &&& 0x3f).toInt64)), .second, .val (.long ((1074 : Int64) - (((da.toInt64) &&& (9218868437227405312 : Int64)) >>> ((52 : Int32) &&& 0x3f).toInt64))), .second, .val (.long (((da.toInt64) &&& (4503599627370495 : Int64)) ||| (4503599627370496 : Int64))), .second] [(.long ((((((da.toInt64) &&& (4503599627370495 : Int64)) ||| (4503599627370496 : Int64)) >>> ((((1074 : Int64) - (((da.toInt64) &&& (9218868437227405312 : Int64)) >>> ((52 : Int32) &&& 0x3f).toInt64)).toInt32) &&& 0x3f).toInt64) + (1 : Int64)) >>> ((1 : Int32) &&& 0x3f).toInt64))]))
    refine Go.ret X1 hx hlk (t := .long) Bd.returns rfl (Or.inr (Or.inl ⟨rfl, rfl, _, rfl⟩)) (hb hby d10_66) (by decide) (by decide) e0 ?_
    exact ⟨(by unfold fround; rw [if_pos hc2]), N0, rfl⟩
  · refine Go.st (fun _ k' => XS.ifYes X1.here hx rfl (pc0 := 31) (pc' := 67) rfl (hb hby d10_31) rfl (XT.ll_ne_t hc2) (by decide) (by decide) k') ?_
    show Go p e below s _ _ _ ((s₁.setVm vm1).setTop (mkF m 67 #[.val (.double da), .second, .val (.long (da.toInt64)), .second, .val (.long (((da.toInt64) &&& (9218868437227405312 : Int64)) >>> ((52 : Int32) &&& 0x3f).toInt64)), .second, .val (.long ((1074 : Int64) - (((da.toInt64) &&& (9218868437227405312 : Int64)) >>> ((52 : Int32) &&& 0x3f).toInt64))), .second, .unset, .unset] []))
    refine Go.st (fun _ k' => XS.dloadN X1.here hx rfl (hb hby d10_67) rfl k') ?_
    show Go p e below s _ _ _ ((s₁.setVm vm1).setTop (mkF m 68 #[.val (.double da), .second, .val (.long (da.toInt64)), .second, .val (.long (((da.toInt64) &&& (9218868437227405312 : Int64)) >>> ((52 : Int32) &&& 0x3f).toInt64)), .second, .val (.long ((1074 : Int64) - (((da.toInt64) &&& (9218868437227405312 : Int64)) >>> ((52 : Int32) &&& 0x3f).toInt64))), .second, .unset, .unset] [(.double da)]))
    refine Go.st (fun _ k' => XS.d2lS X1.here hx rfl (hb hby d10_68) rfl rfl k') ?_
    show Go p e below s _ _ _ ((s₁.setVm vm1).setTop (mkF m 69 #[.val (.double da), .second, .val (.long (da.toInt64)), .second, .val (.long (((da.toInt64) &&& (9218868437227405312 : Int64)) >>> ((52 : Int32) &&& 0x3f).toInt64)), .second, .val (.long ((1074 : Int64) - (((da.toInt64) &&& (9218868437227405312 : Int64)) >>> ((52 : Int32) &&& 0x3f).toInt64))), .second, .unset, .unset] [(.long (FP.d2l da))]))
    refine Go.ret X1 hx hlk (t := .long) Bd.returns rfl (Or.inr (Or.inl ⟨rfl, rfl, _, rfl⟩)) (hb hby d10_69) (by decide) (by decide) e0 ?_
    exact ⟨(by unfold fround; rw [if_neg hc2]), N0, rfl⟩
theorem d4_0 : decode jdk_2799_method_7_code 0 = .ok (.aload_n 0, 1) := by decide +kernel
theorem d4_1 : decode jdk_2799_method_7_code 1 = .ok (.getfield 44, 3) := by decide +kernel
theorem d4_4 : decode jdk_2799_method_7_code 4 = .ok (.dup2, 1) := by decide +kernel
theorem d4_5 : decode jdk_2799_method_7_code 5 = .ok (.lstore_n 3, 1) := by decide +kernel
theorem d4_6 : decode jdk_2799_method_7_code 6 = .ok (.lconst 1, 1) := by decide +kernel
theorem d4_7 : decode jdk_2799_method_7_code 7 = .ok (.lcmp, 1) := by decide +kernel
theorem d4_8 : decode jdk_2799_method_7_code 8 = .ok (.ifCond .ne 5, 3) := by decide +kernel
theorem d4_13 : decode jdk_2799_method_7_code 13 = .ok (.lload_n 1, 1) := by decide +kernel
theorem d4_14 : decode jdk_2799_method_7_code 14 = .ok (.aload_n 0, 1) := by decide +kernel
theorem d4_15 : decode jdk_2799_method_7_code 15 = .ok (.getfield 52, 3) := by decide +kernel
theorem d4_18 : decode jdk_2799_method_7_code 18 = .ok (.dup2, 1) := by decide +kernel
theorem d4_19 : decode jdk_2799_method_7_code 19 = .ok (.lstore 5, 2) := by decide +kernel
theorem d4_21 : decode jdk_2799_method_7_code 21 = .ok (.lcmp, 1) := by decide +kernel
theorem d4_22 : decode jdk_2799_method_7_code 22 = .ok (.ifCond .le 7, 3) := by decide +kernel
theorem d4_29 : decode jdk_2799_method_7_code 29 = .ok (.lload_n 1, 1) := by decide +kernel
theorem d4_30 : decode jdk_2799_method_7_code 30 = .ok (.lload 5, 2) := by decide +kernel
theorem d4_32 : decode jdk_2799_method_7_code 32 = .ok (.lneg, 1) := by decide +kernel
theorem d4_33 : decode jdk_2799_method_7_code 33 = .ok (.lcmp, 1) := by decide +kernel
theorem d4_34 : decode jdk_2799_method_7_code 34 = .ok (.ifCond .ge 7, 3) := by decide +kernel
theorem d4_41 : decode jdk_2799_method_7_code 41 = .ok (.lload_n 1, 1) := by decide +kernel
theorem d4_42 : decode jdk_2799_method_7_code 42 = .ok (.lload_n 3, 1) := by decide +kernel
theorem d4_43 : decode jdk_2799_method_7_code 43 = .ok (.lmul, 1) := by decide +kernel
theorem d4_44 : decode jdk_2799_method_7_code 44 = .ok (.lreturn, 1) := by decide +kernel
theorem pn_java_util_concurrent_TimeUnit : plainName "java/util/concurrent/TimeUnit" = true := by first | (simp [plainName, overriddenIn]; done) | decide +kernel
theorem ef_rm4 (m : MethodId) (ob : Addr) (jd : Int64) : entryFrame m #[(.ref ob), (.long jd)] 7 = mkF m 0 #[.val (.ref ob), .val (.long jd), .second, .unset, .unset, .unset, .unset] [] := by first | (simp [entryFrame, mkF, argsToLocals, Value.category]; done) | rfl
def Q4 (Z : State) (ob : Addr) (jd : Int64) (h0 : Heap) (n0 : Nat) (v : Option Value) (h : Heap) (L : List Loc) : Prop := v = some (.long (jd * (1000000 : Int64))) ∧ Fr n0 L ∧ h = h0
set_option maxRecDepth 65536 in
set_option maxHeartbeats 40000000 in
theorem rm4 (l : Launch) (Z : State) (a0 : Array Value) (hw : ∀ d ∈ tables_1, d.before a0 Z = true) (ws : List Jvm.Cond) (ob : Addr) (jd : Int64) (h0 : Heap) (n0 : Nat) (O0 : Old Z n0 h0) (Fs : Fld Z h0 ob "java/util/concurrent/TimeUnit" "scale" "J" (.long (1000000 : Int64))) (Fm : Fld Z h0 ob "java/util/concurrent/TimeUnit" "maxNanos" "J" (.long (9223372036854 : Int64))) (q_u : ¬ (9223372036854 : Int64) < jd) (q_v : ¬ jd < (-(9223372036854 : Int64))) :
    MetFree l (⟨"java/util/concurrent/TimeUnit", "toNanos", "(J)J"⟩ : MethodName) (head1 (Jvm.Cond.code (⟨"java/util/concurrent/TimeUnit", "toNanos", "(J)J"⟩ : MethodName) jdk_2799_method_7_code 7 (some .long) :: ws) ({ frames := 0, cells := 0, slots := 0, locals := 0 } : Room)) (fun ay U => ay = #[(.ref ob), (.long jd)] ∧ Z.Warmed39 U.vm ∧ U.heap = h0) (fun _ _ _ _ _ => True) (fun _ U o U' => ∃ v L, o = .returned v ∧ Q4 Z ob jd h0 n0 v U'.heap L ∧ FrameEnd U o U' L ({ frames := 0, cells := 0, slots := 0, locals := 0 } : Room).cells ({ frames := 0, cells := 0, slots := 0, locals := 0 } : Room).slots) := by
  refine MetFree.of_bodySF (plainFor_of_name pn_java_util_concurrent_TimeUnit) hisR ?_
  intro p e s m args below meth c s₁ Bd hml0 hP hK
  obtain ⟨rfl, hZ, hh⟩ := hP
  have hx := Bd.exec
  have hby := Bd.bytes
  have hlk : meth.locks = false := BodyLoose.notSynchronized Bd
  have hml : c.maxLocals = 7 := hml0
  have hown : s.vm.findClass "java/util/concurrent/TimeUnit" = some m.cls := findClass_of_methodNamed Bd.named
  have hnm := (name_of_methodNamed Bd.named Bd.method).1
  have X0 : Stand p l e ({ frames := 0, cells := 0, slots := 0, locals := 0 } : Room) s m #[(.ref ob), (.long jd)] below meth c s₁ [] 0 0 := Stand.of_body Bd
  have e0 : s₁.heap = h0 := by rw [← hh, Bd.state]; rfl
  have N0 := Fr.nil n0
  suffices hgo : Go p e below s 0 0 (Q4 Z ob jd h0 n0) (s₁.setTop (mkF m 0 #[.val (.ref ob), .val (.long jd), .second, .unset, .unset, .unset, .unset] [])) by
    obtain ⟨t, o, h1, h2⟩ := hgo; exact ⟨t, o, castTop (ef_rm4 m ob jd) h1, h2⟩
  show Go p e below s _ _ _ (s₁.setTop (mkF m 0 #[.val (.ref ob), .val (.long jd), .second, .unset, .unset, .unset, .unset] []))
  refine Go.st (fun _ k' => XS.aloadN X0.here hx rfl (hb hby d4_0) rfl rfl k') ?_
  show Go p e below s _ _ _ (s₁.setTop (mkF m 1 #[.val (.ref ob), .val (.long jd), .second, .unset, .unset, .unset, .unset] [(.ref ob)]))
  obtain ⟨T1, X1, e1, st1⟩ := getF X0 hx hZ hown (host := "") (Or.inl (wdx hw 26 rfl)) Via.refl e0 Fs (g := (mkF m 1 #[.val (.ref ob), .val (.long jd), .second, .unset, .unset, .unset, .unset] [(.ref ob)])) rfl rfl (hb hby d4_1)
  refine Go.st st1 ?_
  show Go p e below s _ _ _ (T1.setTop (mkF m 4 #[.val (.ref ob), .val (.long jd), .second, .unset, .unset, .unset, .unset] [(.long (1000000 : Int64))]))
  refine Go.st (fun _ k' => XT.dup2L X1.here hx rfl (hb hby d4_4) rfl k') ?_
  show Go p e below s _ _ _ (T1.setTop (mkF m 5 #[.val (.ref ob), .val (.long jd), .second, .unset, .unset, .unset, .unset] [(.long (1000000 : Int64)), (.long (1000000 : Int64))]))
  refine Go.st (fun _ k' => XS.lstoreN X1.here hx rfl (hb hby d4_5) rfl (l' := #[.val (.ref ob), .val (.long jd), .second, .val (.long (1000000 : Int64)), .second, .unset, .unset]) rfl k') ?_
  show Go p e below s _ _ _ (T1.setTop (mkF m 6 #[.val (.ref ob), .val (.long jd), .second, .val (.long (1000000 : Int64)), .second, .unset, .unset] [(.long (1000000 : Int64))]))
  refine Go.st (fun _ k' => XS.lconst X1.here hx rfl (hb hby d4_6) k') ?_
  show Go p e below s _ _ _ (T1.setTop (mkF m 7 #[.val (.ref ob), .val (.long jd), .second, .val (.long (1000000 : Int64)), .second, .unset, .unset] [(.long (1 : Int64)), (.long (1000000 : Int64))]))
  refine Go.st (fun _ k' => XT.lcmp X1.here hx rfl (hb hby d4_7) rfl k') ?_
  show Go p e below s _ _ _ (T1.setTop (mkF m 8 #[.val (.ref ob), .val (.long jd), .second, .val (.long (1000000 : Int64)), .second, .unset, .unset] [(.int (XT.cmpL (1000000 : Int64) (1 : Int64)))]))
  refine Go.st (fun _ k' => XS.ifYes X1.here hx rfl (pc0 := 8) (pc' := 13) rfl (hb hby d4_8) rfl (XT.ll_ne_t (by decide)) (by decide) (by decide) k') ?_
  show Go p e below s _ _ _ (T1.setTop (mkF m 13 #[.val (.ref ob), .val (.long jd), .second, .val (.long (1000000 : Int64)), .second, .unset, .unset] []))
  refine Go.st (fun _ k' => XS.lloadN X1.here hx rfl (hb hby d4_13) rfl k') ?_
  show Go p e below s _ _ _ (T1.setTop (mkF m 14 #[.val (.ref ob), .val (.long jd), .second, .val (.long (1000000 : Int64)), .second, .unset, .unset] [(.long jd)]))
  refine Go.st (fun _ k' => XS.aloadN X1.here hx rfl (hb hby d4_14) rfl rfl k') ?_
  show Go p e below s _ _ _ (T1.setTop (mkF m 15 #[.val (.ref ob), .val (.long jd), .second, .val (.long (1000000 : Int64)), .second, .unset, .unset] [(.ref ob), (.long jd)]))
  obtain ⟨T2, X2, e2, st2⟩ := getF X1 hx hZ hown (host := "") (Or.inl (wdx hw 28 rfl)) Via.refl e1 Fm (g := (mkF m 15 #[.val (.ref ob), .val (.long jd), .second, .val (.long (1000000 : Int64)), .second, .unset, .unset] [(.ref ob), (.long jd)])) rfl rfl (hb hby d4_15)
  refine Go.st st2 ?_
  show Go p e below s _ _ _ (T2.setTop (mkF m 18 #[.val (.ref ob), .val (.long jd), .second, .val (.long (1000000 : Int64)), .second, .unset, .unset] [(.long (9223372036854 : Int64)), (.long jd)]))
  refine Go.st (fun _ k' => XT.dup2L X2.here hx rfl (hb hby d4_18) rfl k') ?_
  show Go p e below s _ _ _ (T2.setTop (mkF m 19 #[.val (.ref ob), .val (.long jd), .second, .val (.long (1000000 : Int64)), .second, .unset, .unset] [(.long (9223372036854 : Int64)), (.long (9223372036854 : Int64)), (.long jd)]))
  refine Go.st (fun _ k' => XS.lstore X2.here hx rfl (hb hby d4_19) rfl (l' := #[.val (.ref ob), .val (.long jd), .second, .val (.long (1000000 : Int64)), .second, .val (.long (9223372036854 : Int64)), .second]) rfl k') ?_
  show Go p e below s _ _ _ (T2.setTop (mkF m 21 #[.val (.ref ob), .val (.long jd), .second, .val (.long (1000000 : Int64)), .second, .val (.long (9223372036854 : Int64)), .second] [(.long (9223372036854 : Int64)), (.long jd)]))
  refine Go.st (fun _ k' => XT.lcmp X2.here hx rfl (hb hby d4_21) rfl k') ?_
  show Go p e below s _ _ _ (T2.setTop (mkF m 22 #[.val (.ref ob), .val (.long jd), .second, .val (.long (1000000 : Int64)), .second, .val (.long (9223372036854 : Int64)), .second] [(.int (XT.cmpL jd (9223372036854 : Int64)))]))
  refine Go.st (fun _ k' => XS.ifYes X2.here hx rfl (pc0 := 22) (pc' := 29) rfl (hb hby d4_22) rfl (XT.ll_le_t q_u) (by decide) (by decide) k') ?_
  show Go p e below s _ _ _ (T2.setTop (mkF m 29 #[.val (.ref ob), .val (.long jd), .second, .val (.long (1000000 : Int64)), .second, .val (.long (9223372036854 : Int64)), .second] []))
  refine Go.st (fun _ k' => XS.lloadN X2.here hx rfl (hb hby d4_29) rfl k') ?_
  show Go p e below s _ _ _ (T2.setTop (mkF m 30 #[.val (.ref ob), .val (.long jd), .second, .val (.long (1000000 : Int64)), .second, .val (.long (9223372036854 : Int64)), .second] [(.long jd)]))
  refine Go.st (fun _ k' => XS.lload X2.here hx rfl (hb hby d4_30) rfl k') ?_
  show Go p e below s _ _ _ (T2.setTop (mkF m 32 #[.val (.ref ob), .val (.long jd), .second, .val (.long (1000000 : Int64)), .second, .val (.long (9223372036854 : Int64)), .second] [(.long (9223372036854 : Int64)), (.long jd)]))
  refine Go.st (fun _ k' => XS.lneg X2.here hx rfl (hb hby d4_32) rfl k') ?_
  show Go p e below s _ _ _ (T2.setTop (mkF m 33 #[.val (.ref ob), .val (.long jd), .second, .val (.long (1000000 : Int64)), .second, .val (.long (9223372036854 : Int64)), .second] [(.long (-(9223372036854 : Int64))), (.long jd)]))
  refine Go.st (fun _ k' => XT.lcmp X2.here hx rfl (hb hby d4_33) rfl k') ?_
  show Go p e below s _ _ _ (T2.setTop (mkF m 34 #[.val (.ref ob), .val (.long jd), .second, .val (.long (1000000 : Int64)), .second, .val (.long (9223372036854 : Int64)), .second] [(.int (XT.cmpL jd (-(9223372036854 : Int64))))]))
  refine Go.st (fun _ k' => XS.ifYes X2.here hx rfl (pc0 := 34) (pc' := 41) rfl (hb hby d4_34) rfl (XT.ll_ge_t q_v) (by decide) (by decide) k') ?_
  show Go p e below s _ _ _ (T2.setTop (mkF m 41 #[.val (.ref ob), .val (.long jd), .second, .val (.long (1000000 : Int64)), .second, .val (.long (9223372036854 : Int64)), .second] []))
  refine Go.st (fun _ k' => XS.lloadN X2.here hx rfl (hb hby d4_41) rfl k') ?_
  show Go p e below s _ _ _ (T2.setTop (mkF m 42 #[.val (.ref ob), .val (.long jd), .second, .val (.long (1000000 : Int64)), .second, .val (.long (9223372036854 : Int64)), .second] [(.long jd)]))
  refine Go.st (fun _ k' => XS.lloadN X2.here hx rfl (hb hby d4_42) rfl k') ?_
  show Go p e below s _ _ _ (T2.setTop (mkF m 43 #[.val (.ref ob), .val (.long jd), .second, .val (.long (1000000 : Int64)), .second, .val (.long (9223372036854 : Int64)), .second] [(.long (1000000 : Int64)), (.long jd)]))
  refine Go.st (fun _ k' => XS.lmul X2.here hx rfl (hb hby d4_43) rfl k') ?_
  show Go p e below s _ _ _ (T2.setTop (mkF m 44 #[.val (.ref ob), .val (.long jd), .second, .val (.long (1000000 : Int64)), .second, .val (.long (9223372036854 : Int64)), .second] [(.long (jd * (1000000 : Int64)))]))
  refine Go.ret X2 hx hlk (t := .long) Bd.returns rfl (Or.inr (Or.inl ⟨rfl, rfl, _, rfl⟩)) (hb hby d4_44) (by decide) (by decide) e2 ?_
  exact ⟨rfl, N0, rfl⟩
theorem d2_0 : decode prog_19_method_1_code 0 = .ok (.aload_n 0, 1) := by decide +kernel
theorem d2_1 : decode prog_19_method_1_code 1 = .ok (.invokespecial 1, 3) := by decide +kernel
theorem d2_4 : decode prog_19_method_1_code 4 = .ok (.aload_n 0, 1) := by decide +kernel
theorem d2_5 : decode prog_19_method_1_code 5 = .ok (.ldc2_w 9, 3) := by decide +kernel
theorem d2_8 : decode prog_19_method_1_code 8 = .ok (.putfield 11, 3) := by decide +kernel
theorem d2_11 : decode prog_19_method_1_code 11 = .ok (.aload_n 0, 1) := by decide +kernel
theorem d2_12 : decode prog_19_method_1_code 12 = .ok (.getstatic 17, 3) := by decide +kernel
theorem d2_15 : decode prog_19_method_1_code 15 = .ok (.lload_n 1, 1) := by decide +kernel
theorem pd__J_J : parseMethodDescriptor "(J)J" = some ⟨[.long], some .long⟩ := by decide +kernel
theorem d2_16 : decode prog_19_method_1_code 16 = .ok (.invokevirtual 23, 3) := by decide +kernel
theorem d2_19 : decode prog_19_method_1_code 19 = .ok (.l2d, 1) := by decide +kernel
theorem d2_20 : decode prog_19_method_1_code 20 = .ok (.putfield 27, 3) := by decide +kernel
theorem d2_23 : decode prog_19_method_1_code 23 = .ok (.aload_n 0, 1) := by decide +kernel
theorem d2_24 : decode prog_19_method_1_code 24 = .ok (.getstatic 17, 3) := by decide +kernel
theorem d2_27 : decode prog_19_method_1_code 27 = .ok (.lload_n 3, 1) := by decide +kernel
theorem d2_28 : decode prog_19_method_1_code 28 = .ok (.invokevirtual 23, 3) := by decide +kernel
theorem d2_31 : decode prog_19_method_1_code 31 = .ok (.putfield 30, 3) := by decide +kernel
theorem d2_34 : decode prog_19_method_1_code 34 = .ok (.aload_n 0, 1) := by decide +kernel
theorem d2_35 : decode prog_19_method_1_code 35 = .ok (.dload 5, 2) := by decide +kernel
theorem d2_37 : decode prog_19_method_1_code 37 = .ok (.putfield 34, 3) := by decide +kernel
theorem d2_40 : decode prog_19_method_1_code 40 = .ok (.return_, 1) := by decide +kernel
theorem pn_com_example_spillway_spillway_runtime_LatencyController : plainName "com/example/spillway/spillway/runtime/LatencyController" = true := by first | (simp [plainName, overriddenIn]; done) | decide +kernel
theorem ef_rm2 (m : MethodId) (ob : Addr) (ja : Int64) (jb : Int64) (dg : UInt64) : entryFrame m #[(.ref ob), (.long ja), (.long jb), (.double dg)] 7 = mkF m 0 #[.val (.ref ob), .val (.long ja), .second, .val (.long jb), .second, .val (.double dg), .second] [] := by first | (simp [entryFrame, mkF, argsToLocals, Value.category]; done) | rfl
def Q2 (Z : State) (ob : Addr) (ja : Int64) (jb : Int64) (dg : UInt64) (a_ms : Addr) (h0 : Heap) (n0 : Nat) (v : Option Value) (h : Heap) (L : List Loc) : Prop := v = none ∧ Fr n0 L ∧ Keep h0 h [ob] ∧ Fld Z h ob "com/example/spillway/spillway/runtime/LatencyController" "limit" "D" (.double (9221120237041090560 : UInt64)) ∧ Fld Z h ob "com/example/spillway/spillway/runtime/LatencyController" "targetNanos" "D" (.double (FP.l2d (ja * (1000000 : Int64)))) ∧ Fld Z h ob "com/example/spillway/spillway/runtime/LatencyController" "gain" "D" (.double dg) ∧ Fld Z h ob "com/example/spillway/spillway/runtime/LatencyController" "latencySum" "J" (.long (0 : Int64)) ∧ Fld Z h ob "com/example/spillway/spillway/runtime/LatencyController" "latencyCount" "J" (.long (0 : Int64)) ∧ Fld Z h ob "com/example/spillway/spillway/runtime/LatencyController" "decisions" "J" (.long (0 : Int64))
set_option maxRecDepth 65536 in
set_option maxHeartbeats 40000000 in
theorem rm2 (l : Launch) (Z : State) (a0 : Array Value) (hw : ∀ d ∈ tables_1, d.before a0 Z = true) (ws : List Jvm.Cond) (ob : Addr) (ja : Int64) (jb : Int64) (dg : UInt64) (a_ms : Addr) (h0 : Heap) (n0 : Nat) (O0 : Old Z n0 h0) (E_o : Exa Z h0 ob "com/example/spillway/spillway/runtime/LatencyController") (F1 : Fld Z h0 ob "com/example/spillway/spillway/runtime/LatencyController" "limit" "D" (.double (0 : UInt64))) (F2 : Fld Z h0 ob "com/example/spillway/spillway/runtime/LatencyController" "targetNanos" "D" (.double (0 : UInt64))) (F3 : Fld Z h0 ob "com/example/spillway/spillway/runtime/LatencyController" "periodNanos" "J" (.long (0 : Int64))) (F4 : Fld Z h0 ob "com/example/spillway/spillway/runtime/LatencyController" "gain" "D" (.double (0 : UInt64))) (F5 : Fld Z h0 ob "com/example/spillway/spillway/runtime/LatencyController" "latencySum" "J" (.long (0 : Int64))) (F6 : Fld Z h0 ob "com/example/spillway/spillway/runtime/LatencyController" "latencyCount" "J" (.long (0 : Int64))) (F7 : Fld Z h0 ob "com/example/spillway/spillway/runtime/LatencyController" "decisions" "J" (.long (0 : Int64))) (E_ms : Exa Z h0 a_ms "java/util/concurrent/TimeUnit") (Fs : Fld Z h0 a_ms "java/util/concurrent/TimeUnit" "scale" "J" (.long (1000000 : Int64))) (Fm : Fld Z h0 a_ms "java/util/concurrent/TimeUnit" "maxNanos" "J" (.long (9223372036854 : Int64))) (S_ms : Sta Z Z.heap "java/util/concurrent/TimeUnit" "MILLISECONDS" "Ljava/util/concurrent/TimeUnit;" (.ref a_ms)) (g_o : n0 ≤ ob) (q_uja : ¬ (9223372036854 : Int64) < ja) (q_vja : ¬ ja < (-(9223372036854 : Int64))) (q_ujb : ¬ (9223372036854 : Int64) < jb) (q_vjb : ¬ jb < (-(9223372036854 : Int64))) :
    MetFree l (⟨"com/example/spillway/spillway/runtime/LatencyController", "<init>", "(JJD)V"⟩ : MethodName) (head1 (Jvm.Cond.code (⟨"com/example/spillway/spillway/runtime/LatencyController", "<init>", "(JJD)V"⟩ : MethodName) prog_19_method_1_code 7 none :: ws) ({ frames := 1, cells := 0, slots := 0, locals := 19 } : Room)) (fun ay U => ay = #[(.ref ob), (.long ja), (.long jb), (.double dg)] ∧ Z.Warmed39 U.vm ∧ U.heap = h0) (fun _ _ _ _ _ => True) (fun _ U o U' => ∃ v L, o = .returned v ∧ Q2 Z ob ja jb dg a_ms h0 n0 v U'.heap L ∧ FrameEnd U o U' L ({ frames := 1, cells := 0, slots := 0, locals := 19 } : Room).cells ({ frames := 1, cells := 0, slots := 0, locals := 19 } : Room).slots) := by
  refine MetFree.of_bodySF (plainFor_of_name pn_com_example_spillway_spillway_runtime_LatencyController) hisR ?_
  intro p e s m args below meth c s₁ Bd hml0 hP hK
  obtain ⟨rfl, hZ, hh⟩ := hP
  have hx := Bd.exec
  have hby := Bd.bytes
  have hlk : meth.locks = false := BodyLoose.notSynchronized Bd
  have hml : c.maxLocals = 7 := hml0
  have hown : s.vm.findClass "com/example/spillway/spillway/runtime/LatencyController" = some m.cls := findClass_of_methodNamed Bd.named
  have hnm := (name_of_methodNamed Bd.named Bd.method).1
  have X0 : Stand p l e ({ frames := 1, cells := 0, slots := 0, locals := 19 } : Room) s m #[(.ref ob), (.long ja), (.long jb), (.double dg)] below meth c s₁ [] 0 0 := Stand.of_body Bd
  have e0 : s₁.heap = h0 := by rw [← hh, Bd.state]; rfl
  have N0 := Fr.nil n0
  suffices hgo : Go p e below s 0 0 (Q2 Z ob ja jb dg a_ms h0 n0) (s₁.setTop (mkF m 0 #[.val (.ref ob), .val (.long ja), .second, .val (.long jb), .second, .val (.double dg), .second] [])) by
    obtain ⟨t, o, h1, h2⟩ := hgo; exact ⟨t, o, castTop (ef_rm2 m ob ja jb dg) h1, h2⟩
  show Go p e below s _ _ _ (s₁.setTop (mkF m 0 #[.val (.ref ob), .val (.long ja), .second, .val (.long jb), .second, .val (.double dg), .second] []))
  refine Go.st (fun _ k' => XS.aloadN X0.here hx rfl (hb hby d2_0) rfl rfl k') ?_
  show Go p e below s _ _ _ (s₁.setTop (mkF m 1 #[.val (.ref ob), .val (.long ja), .second, .val (.long jb), .second, .val (.double dg), .second] [(.ref ob)]))
  obtain ⟨T1, X1, e1, st1⟩ := initO X0 hx hZ hown (wdx hw 13 rfl) (wdx hw 14 rfl) (wdx hw 15 rfl) e0 (g := (mkF m 1 #[.val (.ref ob), .val (.long ja), .second, .val (.long jb), .second, .val (.double dg), .second] [(.ref ob)])) rfl (by rw [hml]; rfl) rfl (hb hby d2_1) (by decide) (W := 0) (by show 2 * 0 + _ ≤ _; exact Nat.le_of_eq rfl) (by decide)
  refine Go.st st1 ?_
  show Go p e below s _ _ _ (T1.setTop (mkF m 4 #[.val (.ref ob), .val (.long ja), .second, .val (.long jb), .second, .val (.double dg), .second] []))
  refine Go.st (fun _ k' => XS.aloadN X1.here hx rfl (hb hby d2_4) rfl rfl k') ?_
  show Go p e below s _ _ _ (T1.setTop (mkF m 5 #[.val (.ref ob), .val (.long ja), .second, .val (.long jb), .second, .val (.double dg), .second] [(.ref ob)]))
  refine Go.st (fun _ k' => X1.ldc2DoubleC hx hown (mvT hZ (wdx hw 16 rfl)) (g := (mkF m 5 #[.val (.ref ob), .val (.long ja), .second, .val (.long jb), .second, .val (.double dg), .second] [(.ref ob)])) rfl (hb hby d2_5) _ k') ?_
  show Go p e below s _ _ _ (T1.setTop (mkF m 8 #[.val (.ref ob), .val (.long ja), .second, .val (.long jb), .second, .val (.double dg), .second] [(.double (9221120237041090560 : UInt64)), (.ref ob)]))
  obtain ⟨T2, h2, X2, e2, W2, st2⟩ := putF X1 hx hZ hown (host := "") (Or.inl (wdx hw 17 rfl)) Via.refl e1 F1 E_o (Or.inl (wdx hw 18 rfl)) (wdx hw 7 rfl) (ty := .double) (by decide) rfl rfl (g := (mkF m 8 #[.val (.ref ob), .val (.long ja), .second, .val (.long jb), .second, .val (.double dg), .second] [(.double (9221120237041090560 : UInt64)), (.ref ob)])) rfl rfl (hb hby d2_8)
  refine Go.st st2 ?_
  have f3 : Exa Z h2 ob "com/example/spillway/spillway/runtime/LatencyController" := E_o.wr W2
  have f4 : Fld Z h2 ob "com/example/spillway/spillway/runtime/LatencyController" "limit" "D" (.double (9221120237041090560 : UInt64)) := F1.same W2
  have f5 : Fld Z h2 ob "com/example/spillway/spillway/runtime/LatencyController" "targetNanos" "D" (.double (0 : UInt64)) := F2.other W2 (Or.inr (slot_ne (Or.inr (wdx hw 31 rfl)) (Or.inl (wdx hw 18 rfl)) (by decide) (t := .double) (t' := .double) (by decide) (by decide)))
  have f6 : Fld Z h2 ob "com/example/spillway/spillway/runtime/LatencyController" "periodNanos" "J" (.long (0 : Int64)) := F3.other W2 (Or.inr (slot_ne (Or.inr (wdx hw 33 rfl)) (Or.inl (wdx hw 18 rfl)) (by decide) (t := .long) (t' := .double) (by decide) (by decide)))
  have f7 : Fld Z h2 ob "com/example/spillway/spillway/runtime/LatencyController" "gain" "D" (.double (0 : UInt64)) := F4.other W2 (Or.inr (slot_ne (Or.inr (wdx hw 35 rfl)) (Or.inl (wdx hw 18 rfl)) (by decide) (t := .double) (t' := .double) (by decide) (by decide)))
  have f8 : Fld Z h2 ob "com/example/spillway/spillway/runtime/LatencyController" "latencySum" "J" (.long (0 : Int64)) := F5.other W2 (Or.inr (slot_ne (Or.inl (wdx hw 42 rfl)) (Or.inl (wdx hw 18 rfl)) (by decide) (t := .long) (t' := .double) (by decide) (by decide)))
  have f9 : Fld Z h2 ob "com/example/spillway/spillway/runtime/LatencyController" "latencyCount" "J" (.long (0 : Int64)) := F6.other W2 (Or.inr (slot_ne (Or.inl (wdx hw 44 rfl)) (Or.inl (wdx hw 18 rfl)) (by decide) (t := .long) (t' := .double) (by decide) (by decide)))
  have f10 : Fld Z h2 ob "com/example/spillway/spillway/runtime/LatencyController" "decisions" "J" (.long (0 : Int64)) := F7.other W2 (Or.inr (slot_ne (Or.inl (wdx hw 51 rfl)) (Or.inl (wdx hw 18 rfl)) (by decide) (t := .long) (t' := .double) (by decide) (by decide)))
  have f11 : Exa Z h2 a_ms "java/util/concurrent/TimeUnit" := E_ms.wr W2
  have ne12 : a_ms ≠ ob := Exa.ne E_ms E_o (by decide)
  have f13 : Fld Z h2 a_ms "java/util/concurrent/TimeUnit" "scale" "J" (.long (1000000 : Int64)) := Fs.other W2 (Or.inl ne12)
  have f14 : Fld Z h2 a_ms "java/util/concurrent/TimeUnit" "maxNanos" "J" (.long (9223372036854 : Int64)) := Fm.other W2 (Or.inl ne12)
  have O2 : Old Z n0 h2 := O0.wr W2 g_o
  have N2 := Fr.snoc X2 N0 g_o
  have K2 : Keep h0 h2 [ob] := (Keep.refl h0 [ob]).wr W2 (Or.inl (by simp))
  show Go p e below s _ _ _ (T2.setTop (mkF m 11 #[.val (.ref ob), .val (.long ja), .second, .val (.long jb), .second, .val (.double dg), .second] []))
  refine Go.st (fun _ k' => XS.aloadN X2.here hx rfl (hb hby d2_11) rfl rfl k') ?_
  show Go p e below s _ _ _ (T2.setTop (mkF m 12 #[.val (.ref ob), .val (.long ja), .second, .val (.long jb), .second, .val (.double dg), .second] [(.ref ob)]))
  obtain ⟨T15, X15, e15, st15⟩ := getS2 X2 hx hZ hown (host := "") (Or.inl (wdx hw 19 rfl)) Via.refl e2 (S_ms.ext O2.2) (g := (mkF m 12 #[.val (.ref ob), .val (.long ja), .second, .val (.long jb), .second, .val (.double dg), .second] [(.ref ob)])) rfl (hb hby d2_12)
  refine Go.st st15 ?_
  show Go p e below s _ _ _ (T15.setTop (mkF m 15 #[.val (.ref ob), .val (.long ja), .second, .val (.long jb), .second, .val (.double dg), .second] [(.ref a_ms), (.ref ob)]))
  refine Go.st (fun _ k' => XS.lloadN X15.here hx rfl (hb hby d2_15) rfl k') ?_
  show Go p e below s _ _ _ (T15.setTop (mkF m 16 #[.val (.ref ob), .val (.long ja), .second, .val (.long jb), .second, .val (.double dg), .second] [(.long ja), (.ref a_ms), (.ref ob)]))
  obtain ⟨cq16, kq16, q16a, q16b, q16c⟩ := isOf hZ e15 f11
  obtain ⟨_, _, ⟨T16, L16, k16, n16⟩, -, X16, ⟨Lc16, hQ16, l16, y16, z16⟩, st16⟩ := X15.virtualBack hx (y := (⟨"java/util/concurrent/TimeUnit", "toNanos", "(J)J"⟩ : MethodName)) (z := (⟨"java/util/concurrent/TimeUnit", "toNanos", "(J)J"⟩ : MethodName)) hown (mvT hZ (wdx hw 21 rfl)) (mvT hZ (wdx hw 22 rfl)) (notFace_of_selects (args := #[]) (mvT hZ (wdx hw 24 rfl))) (mvT hZ (wdx hw 24 rfl)) (mvT hZ (wdx hw 23 rfl)) (by decide) (backOf (W := 1) (rm4 l Z a0 hw [] a_ms ja h2 n0 O2 f13 f14 q_uja q_vja) hZ (wdx hw 25 rfl) (wdx hw 20 rfl) (by decide) (by decide)) q16a q16c (g := (mkF m 16 #[.val (.ref ob), .val (.long ja), .second, .val (.long jb), .second, .val (.double dg), .second] [(.long ja), (.ref a_ms), (.ref ob)])) rfl (by rw [hml]; rfl) (Steps.refl _) (argsL := [(.long ja)]) (rest := [(.ref ob)]) (lenOf pd__J_J rfl) rfl (by show 2 * 0 + _ ≤ _; exact Nat.le_of_eq rfl) (hb hby d2_16) (fun _ _ => ⟨rfl, e15, (by exact Nat.le_of_ble_eq_true rfl), (by exact Nat.le_of_ble_eq_true rfl)⟩)
  dsimp only [Pt.U, Pt.locs, Pt.cells, Pt.slots] at X16 l16 y16 z16 st16 hQ16
  subst l16 y16 z16
  obtain ⟨rfl, Nq16, eq16⟩ := hQ16
  have N16 := Fr.app N2 Nq16
  refine Go.tr st16 ?_
  show Go p e below s _ _ _ (T16.setTop (mkF m 19 #[.val (.ref ob), .val (.long ja), .second, .val (.long jb), .second, .val (.double dg), .second] [(.long (ja * (1000000 : Int64))), (.ref ob)]))
  refine Go.st (fun _ k' => XS.l2dS X16.here hx rfl (hb hby d2_19) rfl rfl k') ?_
  show Go p e below s _ _ _ (T16.setTop (mkF m 20 #[.val (.ref ob), .val (.long ja), .second, .val (.long jb), .second, .val (.double dg), .second] [(.double (FP.l2d (ja * (1000000 : Int64)))), (.ref ob)]))
  obtain ⟨T17, h17, X17, e17, W17, st17⟩ := putF X16 hx hZ hown (host := "") (Or.inl (wdx hw 30 rfl)) Via.refl eq16 f5 f3 (Or.inr ⟨(wdx hw 31 rfl), rfl, hnm⟩) (wdx hw 7 rfl) (ty := .double) (by decide) rfl rfl (g := (mkF m 20 #[.val (.ref ob), .val (.long ja), .second, .val (.long jb), .second, .val (.double dg), .second] [(.double (FP.l2d (ja * (1000000 : Int64)))), (.ref ob)])) rfl rfl (hb hby d2_20)
  refine Go.st st17 ?_
  have f18 : Exa Z h17 ob "com/example/spillway/spillway/runtime/LatencyController" := f3.wr W17
  have f19 : Fld Z h17 ob "com/example/spillway/spillway/runtime/LatencyController" "limit" "D" (.double (9221120237041090560 : UInt64)) := f4.other W17 (Or.inr (slot_ne (Or.inl (wdx hw 18 rfl)) (Or.inr (wdx hw 31 rfl)) (by decide) (t := .double) (t' := .double) (by decide) (by decide)))
  have f20 : Fld Z h17 ob "com/example/spillway/spillway/runtime/LatencyController" "targetNanos" "D" (.double (FP.l2d (ja * (1000000 : Int64)))) := f5.same W17
  have f21 : Fld Z h17 ob "com/example/spillway/spillway/runtime/LatencyController" "periodNanos" "J" (.long (0 : Int64)) := f6.other W17 (Or.inr (slot_ne (Or.inr (wdx hw 33 rfl)) (Or.inr (wdx hw 31 rfl)) (by decide) (t := .long) (t' := .double) (by decide) (by decide)))
  have f22 : Fld Z h17 ob "com/example/spillway/spillway/runtime/LatencyController" "gain" "D" (.double (0 : UInt64)) := f7.other W17 (Or.inr (slot_ne (Or.inr (wdx hw 35 rfl)) (Or.inr (wdx hw 31 rfl)) (by decide) (t := .double) (t' := .double) (by decide) (by decide)))
  have f23 : Fld Z h17 ob "com/example/spillway/spillway/runtime/LatencyController" "latencySum" "J" (.long (0 : Int64)) := f8.other W17 (Or.inr (slot_ne (Or.inl (wdx hw 42 rfl)) (Or.inr (wdx hw 31 rfl)) (by decide) (t := .long) (t' := .double) (by decide) (by decide)))
  have f24 : Fld Z h17 ob "com/example/spillway/spillway/runtime/LatencyController" "latencyCount" "J" (.long (0 : Int64)) := f9.other W17 (Or.inr (slot_ne (Or.inl (wdx hw 44 rfl)) (Or.inr (wdx hw 31 rfl)) (by decide) (t := .long) (t' := .double) (by decide) (by decide)))
  have f25 : Fld Z h17 ob "com/example/spillway/spillway/runtime/LatencyController" "decisions" "J" (.long (0 : Int64)) := f10.other W17 (Or.inr (slot_ne (Or.inl (wdx hw 51 rfl)) (Or.inr (wdx hw 31 rfl)) (by decide) (t := .long) (t' := .double) (by decide) (by decide)))
  have f26 : Exa Z h17 a_ms "java/util/concurrent/TimeUnit" := f11.wr W17
  have f27 : Fld Z h17 a_ms "java/util/concurrent/TimeUnit" "scale" "J" (.long (1000000 : Int64)) := f13.other W17 (Or.inl ne12)
  have f28 : Fld Z h17 a_ms "java/util/concurrent/TimeUnit" "maxNanos" "J" (.long (9223372036854 : Int64)) := f14.other W17 (Or.inl ne12)
  have O17 : Old Z n0 h17 := O2.wr W17 g_o
  have N17 := Fr.snoc X17 N16 g_o
  have K17 : Keep h0 h17 [ob] := K2.wr W17 (Or.inl (by simp))
  show Go p e below s _ _ _ (T17.setTop (mkF m 23 #[.val (.ref ob), .val (.long ja), .second, .val (.long jb), .second, .val (.double dg), .second] []))
  refine Go.st (fun _ k' => XS.aloadN X17.here hx rfl (hb hby d2_23) rfl rfl k') ?_
  show Go p e below s _ _ _ (T17.setTop (mkF m 24 #[.val (.ref ob), .val (.long ja), .second, .val (.long jb), .second, .val (.double dg), .second] [(.ref ob)]))
  obtain ⟨T29, X29, e29, st29⟩ := getS2 X17 hx hZ hown (host := "") (Or.inl (wdx hw 19 rfl)) Via.refl e17 (S_ms.ext O17.2) (g := (mkF m 24 #[.val (.ref ob), .val (.long ja), .second, .val (.long jb), .second, .val (.double dg), .second] [(.ref ob)])) rfl (hb hby d2_24)
  refine Go.st st29 ?_
  show Go p e below s _ _ _ (T29.setTop (mkF m 27 #[.val (.ref ob), .val (.long ja), .second, .val (.long jb), .second, .val (.double dg), .second] [(.ref a_ms), (.ref ob)]))
  refine Go.st (fun _ k' => XS.lloadN X29.here hx rfl (hb hby d2_27) rfl k') ?_
  show Go p e below s _ _ _ (T29.setTop (mkF m 28 #[.val (.ref ob), .val (.long ja), .second, .val (.long jb), .second, .val (.double dg), .second] [(.long jb), (.ref a_ms), (.ref ob)]))
  obtain ⟨cq30, kq30, q30a, q30b, q30c⟩ := isOf hZ e29 f26
  obtain ⟨_, _, ⟨T30, L30, k30, n30⟩, -, X30, ⟨Lc30, hQ30, l30, y30, z30⟩, st30⟩ := X29.virtualBack hx (y := (⟨"java/util/concurrent/TimeUnit", "toNanos", "(J)J"⟩ : MethodName)) (z := (⟨"java/util/concurrent/TimeUnit", "toNanos", "(J)J"⟩ : MethodName)) hown (mvT hZ (wdx hw 21 rfl)) (mvT hZ (wdx hw 22 rfl)) (notFace_of_selects (args := #[]) (mvT hZ (wdx hw 24 rfl))) (mvT hZ (wdx hw 24 rfl)) (mvT hZ (wdx hw 23 rfl)) (by decide) (backOf (W := 1) (rm4 l Z a0 hw [] a_ms jb h17 n0 O17 f27 f28 q_ujb q_vjb) hZ (wdx hw 25 rfl) (wdx hw 20 rfl) (by decide) (by decide)) q30a q30c (g := (mkF m 28 #[.val (.ref ob), .val (.long ja), .second, .val (.long jb), .second, .val (.double dg), .second] [(.long jb), (.ref a_ms), (.ref ob)])) rfl (by rw [hml]; rfl) (Steps.refl _) (argsL := [(.long jb)]) (rest := [(.ref ob)]) (lenOf pd__J_J rfl) rfl (by show 2 * 0 + _ ≤ _; exact Nat.le_of_eq rfl) (hb hby d2_28) (fun _ _ => ⟨rfl, e29, (by exact Nat.le_of_ble_eq_true rfl), (by exact Nat.le_of_ble_eq_true rfl)⟩)
  dsimp only [Pt.U, Pt.locs, Pt.cells, Pt.slots] at X30 l30 y30 z30 st30 hQ30
  subst l30 y30 z30
  obtain ⟨rfl, Nq30, eq30⟩ := hQ30
  have N30 := Fr.app N17 Nq30
  refine Go.tr st30 ?_
  show Go p e below s _ _ _ (T30.setTop (mkF m 31 #[.val (.ref ob), .val (.long ja), .second, .val (.long jb), .second, .val (.double dg), .second] [(.long (jb * (1000000 : Int64))), (.ref ob)]))
  obtain ⟨T31, h31, X31, e31, W31, st31⟩ := putF X30 hx hZ hown (host := "") (Or.inl (wdx hw 32 rfl)) Via.refl eq30 f21 f18 (Or.inr ⟨(wdx hw 33 rfl), rfl, hnm⟩) (wdx hw 7 rfl) (ty := .long) (by decide) rfl rfl (g := (mkF m 31 #[.val (.ref ob), .val (.long ja), .second, .val (.long jb), .second, .val (.double dg), .second] [(.long (jb * (1000000 : Int64))), (.ref ob)])) rfl rfl (hb hby d2_31)
  refine Go.st st31 ?_
  have f32 : Exa Z h31 ob "com/example/spillway/spillway/runtime/LatencyController" := f18.wr W31
  have f33 : Fld Z h31 ob "com/example/spillway/spillway/runtime/LatencyController" "limit" "D" (.double (9221120237041090560 : UInt64)) := f19.other W31 (Or.inr (slot_ne (Or.inl (wdx hw 18 rfl)) (Or.inr (wdx hw 33 rfl)) (by decide) (t := .double) (t' := .long) (by decide) (by decide)))
  have f34 : Fld Z h31 ob "com/example/spillway/spillway/runtime/LatencyController" "targetNanos" "D" (.double (FP.l2d (ja * (1000000 : Int64)))) := f20.other W31 (Or.inr (slot_ne (Or.inr (wdx hw 31 rfl)) (Or.inr (wdx hw 33 rfl)) (by decide) (t := .double) (t' := .long) (by decide) (by decide)))
  have f35 : Fld Z h31 ob "com/example/spillway/spillway/runtime/LatencyController" "periodNanos" "J" (.long (jb * (1000000 : Int64))) := f21.same W31
  have f36 : Fld Z h31 ob "com/example/spillway/spillway/runtime/LatencyController" "gain" "D" (.double (0 : UInt64)) := f22.other W31 (Or.inr (slot_ne (Or.inr (wdx hw 35 rfl)) (Or.inr (wdx hw 33 rfl)) (by decide) (t := .double) (t' := .long) (by decide) (by decide)))
  have f37 : Fld Z h31 ob "com/example/spillway/spillway/runtime/LatencyController" "latencySum" "J" (.long (0 : Int64)) := f23.other W31 (Or.inr (slot_ne (Or.inl (wdx hw 42 rfl)) (Or.inr (wdx hw 33 rfl)) (by decide) (t := .long) (t' := .long) (by decide) (by decide)))
  have f38 : Fld Z h31 ob "com/example/spillway/spillway/runtime/LatencyController" "latencyCount" "J" (.long (0 : Int64)) := f24.other W31 (Or.inr (slot_ne (Or.inl (wdx hw 44 rfl)) (Or.inr (wdx hw 33 rfl)) (by decide) (t := .long) (t' := .long) (by decide) (by decide)))
  have f39 : Fld Z h31 ob "com/example/spillway/spillway/runtime/LatencyController" "decisions" "J" (.long (0 : Int64)) := f25.other W31 (Or.inr (slot_ne (Or.inl (wdx hw 51 rfl)) (Or.inr (wdx hw 33 rfl)) (by decide) (t := .long) (t' := .long) (by decide) (by decide)))
  have f40 : Exa Z h31 a_ms "java/util/concurrent/TimeUnit" := f26.wr W31
  have f41 : Fld Z h31 a_ms "java/util/concurrent/TimeUnit" "scale" "J" (.long (1000000 : Int64)) := f27.other W31 (Or.inl ne12)
  have f42 : Fld Z h31 a_ms "java/util/concurrent/TimeUnit" "maxNanos" "J" (.long (9223372036854 : Int64)) := f28.other W31 (Or.inl ne12)
  have O31 : Old Z n0 h31 := O17.wr W31 g_o
  have N31 := Fr.snoc X31 N30 g_o
  have K31 : Keep h0 h31 [ob] := K17.wr W31 (Or.inl (by simp))
  show Go p e below s _ _ _ (T31.setTop (mkF m 34 #[.val (.ref ob), .val (.long ja), .second, .val (.long jb), .second, .val (.double dg), .second] []))
  refine Go.st (fun _ k' => XS.aloadN X31.here hx rfl (hb hby d2_34) rfl rfl k') ?_
  show Go p e below s _ _ _ (T31.setTop (mkF m 35 #[.val (.ref ob), .val (.long ja), .second, .val (.long jb), .second, .val (.double dg), .second] [(.ref ob)]))
  refine Go.st (fun _ k' => XS.dload X31.here hx rfl (hb hby d2_35) rfl k') ?_
  show Go p e below s _ _ _ (T31.setTop (mkF m 37 #[.val (.ref ob), .val (.long ja), .second, .val (.long jb), .second, .val (.double dg), .second] [(.double dg), (.ref ob)]))
  obtain ⟨T43, h43, X43, e43, W43, st43⟩ := putF X31 hx hZ hown (host := "") (Or.inl (wdx hw 34 rfl)) Via.refl e31 f36 f32 (Or.inr ⟨(wdx hw 35 rfl), rfl, hnm⟩) (wdx hw 7 rfl) (ty := .double) (by decide) rfl rfl (g := (mkF m 37 #[.val (.ref ob), .val (.long ja), .second, .val (.long jb), .second, .val (.double dg), .second] [(.double dg), (.ref ob)])) rfl rfl (hb hby d2_37)
  refine Go.st st43 ?_
  have f44 : Exa Z h43 ob "com/example/spillway/spillway/runtime/LatencyController" := f32.wr W43
  have f45 : Fld Z h43 ob "com/example/spillway/spillway/runtime/LatencyController" "limit" "D" (.double (9221120237041090560 : UInt64)) := f33.other W43 (Or.inr (slot_ne (Or.inl (wdx hw 18 rfl)) (Or.inr (wdx hw 35 rfl)) (by decide) (t := .double) (t' := .double) (by decide) (by decide)))
  have f46 : Fld Z h43 ob "com/example/spillway/spillway/runtime/LatencyController" "targetNanos" "D" (.double (FP.l2d (ja * (1000000 : Int64)))) := f34.other W43 (Or.inr (slot_ne (Or.inr (wdx hw 31 rfl)) (Or.inr (wdx hw 35 rfl)) (by decide) (t := .double) (t' := .double) (by decide) (by decide)))
  have f47 : Fld Z h43 ob "com/example/spillway/spillway/runtime/LatencyController" "periodNanos" "J" (.long (jb * (1000000 : Int64))) := f35.other W43 (Or.inr (slot_ne (Or.inr (wdx hw 33 rfl)) (Or.inr (wdx hw 35 rfl)) (by decide) (t := .long) (t' := .double) (by decide) (by decide)))
  have f48 : Fld Z h43 ob "com/example/spillway/spillway/runtime/LatencyController" "gain" "D" (.double dg) := f36.same W43
  have f49 : Fld Z h43 ob "com/example/spillway/spillway/runtime/LatencyController" "latencySum" "J" (.long (0 : Int64)) := f37.other W43 (Or.inr (slot_ne (Or.inl (wdx hw 42 rfl)) (Or.inr (wdx hw 35 rfl)) (by decide) (t := .long) (t' := .double) (by decide) (by decide)))
  have f50 : Fld Z h43 ob "com/example/spillway/spillway/runtime/LatencyController" "latencyCount" "J" (.long (0 : Int64)) := f38.other W43 (Or.inr (slot_ne (Or.inl (wdx hw 44 rfl)) (Or.inr (wdx hw 35 rfl)) (by decide) (t := .long) (t' := .double) (by decide) (by decide)))
  have f51 : Fld Z h43 ob "com/example/spillway/spillway/runtime/LatencyController" "decisions" "J" (.long (0 : Int64)) := f39.other W43 (Or.inr (slot_ne (Or.inl (wdx hw 51 rfl)) (Or.inr (wdx hw 35 rfl)) (by decide) (t := .long) (t' := .double) (by decide) (by decide)))
  have f52 : Exa Z h43 a_ms "java/util/concurrent/TimeUnit" := f40.wr W43
  have f53 : Fld Z h43 a_ms "java/util/concurrent/TimeUnit" "scale" "J" (.long (1000000 : Int64)) := f41.other W43 (Or.inl ne12)
  have f54 : Fld Z h43 a_ms "java/util/concurrent/TimeUnit" "maxNanos" "J" (.long (9223372036854 : Int64)) := f42.other W43 (Or.inl ne12)
  have O43 : Old Z n0 h43 := O31.wr W43 g_o
  have N43 := Fr.snoc X43 N31 g_o
  have K43 : Keep h0 h43 [ob] := K31.wr W43 (Or.inl (by simp))
  show Go p e below s _ _ _ (T43.setTop (mkF m 40 #[.val (.ref ob), .val (.long ja), .second, .val (.long jb), .second, .val (.double dg), .second] []))
  refine Go.retV X43 hx hlk Bd.returns (hb hby d2_40) (by decide) (by decide) e43 ?_
  exact ⟨rfl, N43, K43, f45, f46, f48, f49, f50, f51⟩
theorem d5_0 : decode prog_19_method_3_code 0 = .ok (.aload_n 0, 1) := by decide +kernel
theorem d5_1 : decode prog_19_method_3_code 1 = .ok (.dup, 1) := by decide +kernel
theorem d5_2 : decode prog_19_method_3_code 2 = .ok (.getfield 37, 3) := by decide +kernel
theorem d5_5 : decode prog_19_method_3_code 5 = .ok (.lload_n 1, 1) := by decide +kernel
theorem d5_6 : decode prog_19_method_3_code 6 = .ok (.ladd, 1) := by decide +kernel
theorem d5_7 : decode prog_19_method_3_code 7 = .ok (.putfield 37, 3) := by decide +kernel
theorem d5_10 : decode prog_19_method_3_code 10 = .ok (.aload_n 0, 1) := by decide +kernel
theorem d5_11 : decode prog_19_method_3_code 11 = .ok (.dup, 1) := by decide +kernel
theorem d5_12 : decode prog_19_method_3_code 12 = .ok (.getfield 40, 3) := by decide +kernel
theorem d5_15 : decode prog_19_method_3_code 15 = .ok (.lconst 1, 1) := by decide +kernel
theorem d5_16 : decode prog_19_method_3_code 16 = .ok (.ladd, 1) := by decide +kernel
theorem d5_17 : decode prog_19_method_3_code 17 = .ok (.putfield 40, 3) := by decide +kernel
theorem d5_20 : decode prog_19_method_3_code 20 = .ok (.return_, 1) := by decide +kernel
theorem ef_rm5 (m : MethodId) (ob : Addr) (jv : Int64) : entryFrame m #[(.ref ob), (.long jv)] 3 = mkF m 0 #[.val (.ref ob), .val (.long jv), .second] [] := by first | (simp [entryFrame, mkF, argsToLocals, Value.category]; done) | rfl
def Q5 (Z : State) (ob : Addr) (jv : Int64) (js : Int64) (jc : Int64) (jd : Int64) (dt : UInt64) (dg : UInt64) (h0 : Heap) (n0 : Nat) (v : Option Value) (h : Heap) (L : List Loc) : Prop := v = none ∧ Fr n0 L ∧ Keep h0 h [ob] ∧ Fld Z h ob "com/example/spillway/spillway/runtime/LatencyController" "latencySum" "J" (.long (js + jv)) ∧ Fld Z h ob "com/example/spillway/spillway/runtime/LatencyController" "latencyCount" "J" (.long (jc + (1 : Int64))) ∧ Fld Z h ob "com/example/spillway/spillway/runtime/LatencyController" "limit" "D" (.double (9221120237041090560 : UInt64)) ∧ Fld Z h ob "com/example/spillway/spillway/runtime/LatencyController" "targetNanos" "D" (.double dt) ∧ Fld Z h ob "com/example/spillway/spillway/runtime/LatencyController" "gain" "D" (.double dg) ∧ Fld Z h ob "com/example/spillway/spillway/runtime/LatencyController" "decisions" "J" (.long jd)
set_option maxRecDepth 65536 in
set_option maxHeartbeats 40000000 in
theorem rm5 (l : Launch) (Z : State) (a0 : Array Value) (hw : ∀ d ∈ tables_1, d.before a0 Z = true) (ws : List Jvm.Cond) (ob : Addr) (jv : Int64) (js : Int64) (jc : Int64) (jd : Int64) (dt : UInt64) (dg : UInt64) (h0 : Heap) (n0 : Nat) (O0 : Old Z n0 h0) (E_o : Exa Z h0 ob "com/example/spillway/spillway/runtime/LatencyController") (F1 : Fld Z h0 ob "com/example/spillway/spillway/runtime/LatencyController" "limit" "D" (.double (9221120237041090560 : UInt64))) (F2 : Fld Z h0 ob "com/example/spillway/spillway/runtime/LatencyController" "targetNanos" "D" (.double dt)) (F4 : Fld Z h0 ob "com/example/spillway/spillway/runtime/LatencyController" "gain" "D" (.double dg)) (F5 : Fld Z h0 ob "com/example/spillway/spillway/runtime/LatencyController" "latencySum" "J" (.long js)) (F6 : Fld Z h0 ob "com/example/spillway/spillway/runtime/LatencyController" "latencyCount" "J" (.long jc)) (F7 : Fld Z h0 ob "com/example/spillway/spillway/runtime/LatencyController" "decisions" "J" (.long jd)) (g_o : n0 ≤ ob) :
    MetFree l (⟨"com/example/spillway/spillway/runtime/LatencyController", "processed", "(J)V"⟩ : MethodName) (head1 (Jvm.Cond.code (⟨"com/example/spillway/spillway/runtime/LatencyController", "processed", "(J)V"⟩ : MethodName) prog_19_method_3_code 3 none :: ws) ({ frames := 0, cells := 0, slots := 0, locals := 0 } : Room)) (fun ay U => ay = #[(.ref ob), (.long jv)] ∧ Z.Warmed39 U.vm ∧ U.heap = h0) (fun _ _ _ _ _ => True) (fun _ U o U' => ∃ v L, o = .returned v ∧ Q5 Z ob jv js jc jd dt dg h0 n0 v U'.heap L ∧ FrameEnd U o U' L ({ frames := 0, cells := 0, slots := 0, locals := 0 } : Room).cells ({ frames := 0, cells := 0, slots := 0, locals := 0 } : Room).slots) := by
  refine MetFree.of_bodySF (plainFor_of_name pn_com_example_spillway_spillway_runtime_LatencyController) hisR ?_
  intro p e s m args below meth c s₁ Bd hml0 hP hK
  obtain ⟨rfl, hZ, hh⟩ := hP
  have hx := Bd.exec
  have hby := Bd.bytes
  have hlk : meth.locks = false := BodyLoose.notSynchronized Bd
  have hml : c.maxLocals = 3 := hml0
  have hown : s.vm.findClass "com/example/spillway/spillway/runtime/LatencyController" = some m.cls := findClass_of_methodNamed Bd.named
  have hnm := (name_of_methodNamed Bd.named Bd.method).1
  have X0 : Stand p l e ({ frames := 0, cells := 0, slots := 0, locals := 0 } : Room) s m #[(.ref ob), (.long jv)] below meth c s₁ [] 0 0 := Stand.of_body Bd
  have e0 : s₁.heap = h0 := by rw [← hh, Bd.state]; rfl
  have N0 := Fr.nil n0
  suffices hgo : Go p e below s 0 0 (Q5 Z ob jv js jc jd dt dg h0 n0) (s₁.setTop (mkF m 0 #[.val (.ref ob), .val (.long jv), .second] [])) by
    obtain ⟨t, o, h1, h2⟩ := hgo; exact ⟨t, o, castTop (ef_rm5 m ob jv) h1, h2⟩
  show Go p e below s _ _ _ (s₁.setTop (mkF m 0 #[.val (.ref ob), .val (.long jv), .second] []))
  refine Go.st (fun _ k' => XS.aloadN X0.here hx rfl (hb hby d5_0) rfl rfl k') ?_
  show Go p e below s _ _ _ (s₁.setTop (mkF m 1 #[.val (.ref ob), .val (.long jv), .second] [(.ref ob)]))
  refine Go.st (fun _ k' => XS.dup X0.here hx rfl (hb hby d5_1) rfl rfl k') ?_
  show Go p e below s _ _ _ (s₁.setTop (mkF m 2 #[.val (.ref ob), .val (.long jv), .second] [(.ref ob), (.ref ob)]))
  obtain ⟨T1, X1, e1, st1⟩ := getF X0 hx hZ hown (host := "") (Or.inl (wdx hw 41 rfl)) Via.refl e0 F5 (g := (mkF m 2 #[.val (.ref ob), .val (.long jv), .second] [(.ref ob), (.ref ob)])) rfl rfl (hb hby d5_2)
  refine Go.st st1 ?_
  show Go p e below s _ _ _ (T1.setTop (mkF m 5 #[.val (.ref ob), .val (.long jv), .second] [(.long js), (.ref ob)]))
  refine Go.st (fun _ k' => XS.lloadN X1.here hx rfl (hb hby d5_5) rfl k') ?_
  show Go p e below s _ _ _ (T1.setTop (mkF m 6 #[.val (.ref ob), .val (.long jv), .second] [(.long jv), (.long js), (.ref ob)]))
  refine Go.st (fun _ k' => XS.ladd X1.here hx rfl (hb hby d5_6) rfl k') ?_
  show Go p e below s _ _ _ (T1.setTop (mkF m 7 #[.val (.ref ob), .val (.long jv), .second] [(.long (js + jv)), (.ref ob)]))
  obtain ⟨T2, h2, X2, e2, W2, st2⟩ := putF X1 hx hZ hown (host := "") (Or.inl (wdx hw 41 rfl)) Via.refl e1 F5 E_o (Or.inl (wdx hw 42 rfl)) (wdx hw 7 rfl) (ty := .long) (by decide) rfl rfl (g := (mkF m 7 #[.val (.ref ob), .val (.long jv), .second] [(.long (js + jv)), (.ref ob)])) rfl rfl (hb hby d5_7)
  refine Go.st st2 ?_
  have f3 : Exa Z h2 ob "com/example/spillway/spillway/runtime/LatencyController" := E_o.wr W2
  have f4 : Fld Z h2 ob "com/example/spillway/spillway/runtime/LatencyController" "limit" "D" (.double (9221120237041090560 : UInt64)) := F1.other W2 (Or.inr (slot_ne (Or.inl (wdx hw 18 rfl)) (Or.inl (wdx hw 42 rfl)) (by decide) (t := .double) (t' := .long) (by decide) (by decide)))
  have f5 : Fld Z h2 ob "com/example/spillway/spillway/runtime/LatencyController" "targetNanos" "D" (.double dt) := F2.other W2 (Or.inr (slot_ne (Or.inr (wdx hw 31 rfl)) (Or.inl (wdx hw 42 rfl)) (by decide) (t := .double) (t' := .long) (by decide) (by decide)))
  have f6 : Fld Z h2 ob "com/example/spillway/spillway/runtime/LatencyController" "gain" "D" (.double dg) := F4.other W2 (Or.inr (slot_ne (Or.inr (wdx hw 35 rfl)) (Or.inl (wdx hw 42 rfl)) (by decide) (t := .double) (t' := .long) (by decide) (by decide)))
  have f7 : Fld Z h2 ob "com/example/spillway/spillway/runtime/LatencyController" "latencySum" "J" (.long (js + jv)) := F5.same W2
  have f8 : Fld Z h2 ob "com/example/spillway/spillway/runtime/LatencyController" "latencyCount" "J" (.long jc) := F6.other W2 (Or.inr (slot_ne (Or.inl (wdx hw 44 rfl)) (Or.inl (wdx hw 42 rfl)) (by decide) (t := .long) (t' := .long) (by decide) (by decide)))
  have f9 : Fld Z h2 ob "com/example/spillway/spillway/runtime/LatencyController" "decisions" "J" (.long jd) := F7.other W2 (Or.inr (slot_ne (Or.inl (wdx hw 51 rfl)) (Or.inl (wdx hw 42 rfl)) (by decide) (t := .long) (t' := .long) (by decide) (by decide)))
  have O2 : Old Z n0 h2 := O0.wr W2 g_o
  have N2 := Fr.snoc X2 N0 g_o
  have K2 : Keep h0 h2 [ob] := (Keep.refl h0 [ob]).wr W2 (Or.inl (by simp))
  show Go p e below s _ _ _ (T2.setTop (mkF m 10 #[.val (.ref ob), .val (.long jv), .second] []))
  refine Go.st (fun _ k' => XS.aloadN X2.here hx rfl (hb hby d5_10) rfl rfl k') ?_
  show Go p e below s _ _ _ (T2.setTop (mkF m 11 #[.val (.ref ob), .val (.long jv), .second] [(.ref ob)]))
  refine Go.st (fun _ k' => XS.dup X2.here hx rfl (hb hby d5_11) rfl rfl k') ?_
  show Go p e below s _ _ _ (T2.setTop (mkF m 12 #[.val (.ref ob), .val (.long jv), .second] [(.ref ob), (.ref ob)]))
  obtain ⟨T10, X10, e10, st10⟩ := getF X2 hx hZ hown (host := "") (Or.inl (wdx hw 43 rfl)) Via.refl e2 f8 (g := (mkF m 12 #[.val (.ref ob), .val (.long jv), .second] [(.ref ob), (.ref ob)])) rfl rfl (hb hby d5_12)
  refine Go.st st10 ?_
  show Go p e below s _ _ _ (T10.setTop (mkF m 15 #[.val (.ref ob), .val (.long jv), .second] [(.long jc), (.ref ob)]))
  refine Go.st (fun _ k' => XS.lconst X10.here hx rfl (hb hby d5_15) k') ?_
  show Go p e below s _ _ _ (T10.setTop (mkF m 16 #[.val (.ref ob), .val (.long jv), .second] [(.long (1 : Int64)), (.long jc), (.ref ob)]))
  refine Go.st (fun _ k' => XS.ladd X10.here hx rfl (hb hby d5_16) rfl k') ?_
  show Go p e below s _ _ _ (T10.setTop (mkF m 17 #[.val (.ref ob), .val (.long jv), .second] [(.long (jc + (1 : Int64))), (.ref ob)]))
  obtain ⟨T11, h11, X11, e11, W11, st11⟩ := putF X10 hx hZ hown (host := "") (Or.inl (wdx hw 43 rfl)) Via.refl e10 f8 f3 (Or.inl (wdx hw 44 rfl)) (wdx hw 7 rfl) (ty := .long) (by decide) rfl rfl (g := (mkF m 17 #[.val (.ref ob), .val (.long jv), .second] [(.long (jc + (1 : Int64))), (.ref ob)])) rfl rfl (hb hby d5_17)
  refine Go.st st11 ?_
  have f12 : Exa Z h11 ob "com/example/spillway/spillway/runtime/LatencyController" := f3.wr W11
  have f13 : Fld Z h11 ob "com/example/spillway/spillway/runtime/LatencyController" "limit" "D" (.double (9221120237041090560 : UInt64)) := f4.other W11 (Or.inr (slot_ne (Or.inl (wdx hw 18 rfl)) (Or.inl (wdx hw 44 rfl)) (by decide) (t := .double) (t' := .long) (by decide) (by decide)))
  have f14 : Fld Z h11 ob "com/example/spillway/spillway/runtime/LatencyController" "targetNanos" "D" (.double dt) := f5.other W11 (Or.inr (slot_ne (Or.inr (wdx hw 31 rfl)) (Or.inl (wdx hw 44 rfl)) (by decide) (t := .double) (t' := .long) (by decide) (by decide)))
  have f15 : Fld Z h11 ob "com/example/spillway/spillway/runtime/LatencyController" "gain" "D" (.double dg) := f6.other W11 (Or.inr (slot_ne (Or.inr (wdx hw 35 rfl)) (Or.inl (wdx hw 44 rfl)) (by decide) (t := .double) (t' := .long) (by decide) (by decide)))
  have f16 : Fld Z h11 ob "com/example/spillway/spillway/runtime/LatencyController" "latencySum" "J" (.long (js + jv)) := f7.other W11 (Or.inr (slot_ne (Or.inl (wdx hw 42 rfl)) (Or.inl (wdx hw 44 rfl)) (by decide) (t := .long) (t' := .long) (by decide) (by decide)))
  have f17 : Fld Z h11 ob "com/example/spillway/spillway/runtime/LatencyController" "latencyCount" "J" (.long (jc + (1 : Int64))) := f8.same W11
  have f18 : Fld Z h11 ob "com/example/spillway/spillway/runtime/LatencyController" "decisions" "J" (.long jd) := f9.other W11 (Or.inr (slot_ne (Or.inl (wdx hw 51 rfl)) (Or.inl (wdx hw 44 rfl)) (by decide) (t := .long) (t' := .long) (by decide) (by decide)))
  have O11 : Old Z n0 h11 := O2.wr W11 g_o
  have N11 := Fr.snoc X11 N2 g_o
  have K11 : Keep h0 h11 [ob] := K2.wr W11 (Or.inl (by simp))
  show Go p e below s _ _ _ (T11.setTop (mkF m 20 #[.val (.ref ob), .val (.long jv), .second] []))
  refine Go.retV X11 hx hlk Bd.returns (hb hby d5_20) (by decide) (by decide) e11 ?_
  exact ⟨rfl, N11, K11, f16, f17, f13, f14, f15, f18⟩
theorem d8_0 : decode prog_19_method_5_code 0 = .ok (.dload_n 1, 1) := by decide +kernel
theorem d8_1 : decode prog_19_method_5_code 1 = .ok (.dstore 5, 2) := by decide +kernel
theorem d8_3 : decode prog_19_method_5_code 3 = .ok (.dload_n 3, 1) := by decide +kernel
theorem pd__D_Z : parseMethodDescriptor "(D)Z" = some ⟨[.double], some .boolean⟩ := by decide +kernel
theorem d8_4 : decode prog_19_method_5_code 4 = .ok (.invokestatic 46, 3) := by decide +kernel
theorem d8_7 : decode prog_19_method_5_code 7 = .ok (.ifCond .ne 25, 3) := by decide +kernel
theorem d8_32 : decode prog_19_method_5_code 32 = .ok (.dload 5, 2) := by decide +kernel
theorem d8_34 : decode prog_19_method_5_code 34 = .ok (.dreturn, 1) := by decide +kernel
theorem ef_rm8_n (m : MethodId) (ob : Addr) (dn : UInt64) (dl : UInt64) : entryFrame m #[(.ref ob), (.double dn), (.double dl)] 7 = mkF m 0 #[.val (.ref ob), .val (.double dn), .second, .val (.double dl), .second, .unset, .unset] [] := by first | (simp [entryFrame, mkF, argsToLocals, Value.category]; done) | rfl
def Q8_n (Z : State) (ob : Addr) (dn : UInt64) (dl : UInt64) (h0 : Heap) (n0 : Nat) (v : Option Value) (h : Heap) (L : List Loc) : Prop := v = some (.double dn) ∧ Fr n0 L ∧ h = h0
set_option maxRecDepth 65536 in
set_option maxHeartbeats 40000000 in
theorem rm8_n (l : Launch) (Z : State) (a0 : Array Value) (hw : ∀ d ∈ tables_1, d.before a0 Z = true) (ws : List Jvm.Cond) (ob : Addr) (dn : UInt64) (dl : UInt64) (h0 : Heap) (n0 : Nat) (O0 : Old Z n0 h0) (q_l : ¬ (cmpValue (FP.dcmp dl dl) .l) = (0 : Int32)) :
    MetFree l (⟨"com/example/spillway/spillway/runtime/LatencyController", "adjusted", "(DD)D"⟩ : MethodName) (head1 (Jvm.Cond.code (⟨"com/example/spillway/spillway/runtime/LatencyController", "adjusted", "(DD)D"⟩ : MethodName) prog_19_method_5_code 7 (some .double) :: ws) ({ frames := 1, cells := 0, slots := 0, locals := 13 } : Room)) (fun ay U => ay = #[(.ref ob), (.double dn), (.double dl)] ∧ Z.Warmed39 U.vm ∧ U.heap = h0) (fun _ _ _ _ _ => True) (fun _ U o U' => ∃ v L, o = .returned v ∧ Q8_n Z ob dn dl h0 n0 v U'.heap L ∧ FrameEnd U o U' L ({ frames := 1, cells := 0, slots := 0, locals := 13 } : Room).cells ({ frames := 1, cells := 0, slots := 0, locals := 13 } : Room).slots) := by
  refine MetFree.of_bodySF (plainFor_of_name pn_com_example_spillway_spillway_runtime_LatencyController) hisR ?_
  intro p e s m args below meth c s₁ Bd hml0 hP hK
  obtain ⟨rfl, hZ, hh⟩ := hP
  have hx := Bd.exec
  have hby := Bd.bytes
  have hlk : meth.locks = false := BodyLoose.notSynchronized Bd
  have hml : c.maxLocals = 7 := hml0
  have hown : s.vm.findClass "com/example/spillway/spillway/runtime/LatencyController" = some m.cls := findClass_of_methodNamed Bd.named
  have hnm := (name_of_methodNamed Bd.named Bd.method).1
  have X0 : Stand p l e ({ frames := 1, cells := 0, slots := 0, locals := 13 } : Room) s m #[(.ref ob), (.double dn), (.double dl)] below meth c s₁ [] 0 0 := Stand.of_body Bd
  have e0 : s₁.heap = h0 := by rw [← hh, Bd.state]; rfl
  have N0 := Fr.nil n0
  suffices hgo : Go p e below s 0 0 (Q8_n Z ob dn dl h0 n0) (s₁.setTop (mkF m 0 #[.val (.ref ob), .val (.double dn), .second, .val (.double dl), .second, .unset, .unset] [])) by
    obtain ⟨t, o, h1, h2⟩ := hgo; exact ⟨t, o, castTop (ef_rm8_n m ob dn dl) h1, h2⟩
  show Go p e below s _ _ _ (s₁.setTop (mkF m 0 #[.val (.ref ob), .val (.double dn), .second, .val (.double dl), .second, .unset, .unset] []))
  refine Go.st (fun _ k' => XS.dloadN X0.here hx rfl (hb hby d8_0) rfl k') ?_
  show Go p e below s _ _ _ (s₁.setTop (mkF m 1 #[.val (.ref ob), .val (.double dn), .second, .val (.double dl), .second, .unset, .unset] [(.double dn)]))
  refine Go.st (fun _ k' => XS.dstore X0.here hx rfl (hb hby d8_1) rfl (l' := #[.val (.ref ob), .val (.double dn), .second, .val (.double dl), .second, .val (.double dn), .second]) rfl k') ?_
  show Go p e below s _ _ _ (s₁.setTop (mkF m 3 #[.val (.ref ob), .val (.double dn), .second, .val (.double dl), .second, .val (.double dn), .second] []))
  refine Go.st (fun _ k' => XS.dloadN X0.here hx rfl (hb hby d8_3) rfl k') ?_
  show Go p e below s _ _ _ (s₁.setTop (mkF m 4 #[.val (.ref ob), .val (.double dn), .second, .val (.double dl), .second, .val (.double dn), .second] [(.double dl)]))
  obtain ⟨_, _, ⟨T1, L1, k1, n1⟩, -, X1, ⟨Lc1, hQ1, l1, y1, z1⟩, st1⟩ := Jvm.LawKit.callS X0 hx (y := (⟨"java/lang/Double", "isNaN", "(D)Z"⟩ : MethodName)) hown (mvT hZ (wdx hw 52 rfl)) (mvT hZ (wdx hw 53 rfl)) (mvT hZ (wdx hw 54 rfl)) (mvT hZ (wdx hw 55 rfl)) (by decide) (backOf (W := 0) (rm7 l Z a0 hw [] dl h0 n0 O0 ) hZ (wdx hw 55 rfl) (wdx hw 54 rfl) (by decide) (by decide)) (g := (mkF m 4 #[.val (.ref ob), .val (.double dn), .second, .val (.double dl), .second, .val (.double dn), .second] [(.double dl)])) rfl (by rw [hml]; rfl) (argsL := [(.double dl)]) (rest := []) (lenOf pd__D_Z rfl) rfl (by show 2 * 0 + _ ≤ _; exact Nat.le_of_eq rfl) (hb hby d8_4) (fun _ _ => ⟨rfl, e0, (by exact Nat.le_of_ble_eq_true rfl), (by exact Nat.le_of_ble_eq_true rfl)⟩)
  dsimp only [Pt.U, Pt.locs, Pt.cells, Pt.slots] at X1 l1 y1 z1 st1 hQ1
  subst l1 y1 z1
  obtain ⟨rfl, Nq1, eq1⟩ := hQ1
  have N1 := Fr.app N0 Nq1
  refine Go.st st1 ?_
  show Go p e below s _ _ _ (T1.setTop (mkF m 7 #[.val (.ref ob), .val (.double dn), .second, .val (.double dl), .second, .val (.double dn), .second] [(.int (if (cmpValue (FP.dcmp dl dl) .l) = (0 : Int32) then (0 : Int32) else 1))]))
  refine Go.st (fun _ k' => XS.ifYes X1.here hx rfl (pc0 := 7) (pc' := 32) rfl (hb hby d8_7) rfl (XT.i0_ne_t (by rw [if_neg q_l]; decide)) (by decide) (by decide) k') ?_
  show Go p e below s _ _ _ (T1.setTop (mkF m 32 #[.val (.ref ob), .val (.double dn), .second, .val (.double dl), .second, .val (.double dn), .second] []))
  refine Go.st (fun _ k' => XS.dload X1.here hx rfl (hb hby d8_32) rfl k') ?_
  show Go p e below s _ _ _ (T1.setTop (mkF m 34 #[.val (.ref ob), .val (.double dn), .second, .val (.double dl), .second, .val (.double dn), .second] [(.double dn)]))
  refine Go.ret X1 hx hlk (t := .double) Bd.returns rfl (Or.inr (Or.inr (Or.inl ⟨rfl, rfl, _, rfl⟩))) (hb hby d8_34) (by decide) (by decide) eq1 ?_
  exact ⟨rfl, N1, rfl⟩
theorem d8_10 : decode prog_19_method_5_code 10 = .ok (.dload_n 1, 1) := by decide +kernel
theorem d8_11 : decode prog_19_method_5_code 11 = .ok (.aload_n 0, 1) := by decide +kernel
theorem d8_12 : decode prog_19_method_5_code 12 = .ok (.getfield 34, 3) := by decide +kernel
theorem d8_15 : decode prog_19_method_5_code 15 = .ok (.dload_n 1, 1) := by decide +kernel
theorem d8_16 : decode prog_19_method_5_code 16 = .ok (.dmul, 1) := by decide +kernel
theorem d8_17 : decode prog_19_method_5_code 17 = .ok (.aload_n 0, 1) := by decide +kernel
theorem d8_18 : decode prog_19_method_5_code 18 = .ok (.getfield 27, 3) := by decide +kernel
theorem d8_21 : decode prog_19_method_5_code 21 = .ok (.dload_n 3, 1) := by decide +kernel
theorem d8_22 : decode prog_19_method_5_code 22 = .ok (.dsub, 1) := by decide +kernel
theorem d8_23 : decode prog_19_method_5_code 23 = .ok (.dmul, 1) := by decide +kernel
theorem d8_24 : decode prog_19_method_5_code 24 = .ok (.aload_n 0, 1) := by decide +kernel
theorem d8_25 : decode prog_19_method_5_code 25 = .ok (.getfield 27, 3) := by decide +kernel
theorem d8_28 : decode prog_19_method_5_code 28 = .ok (.ddiv, 1) := by decide +kernel
theorem d8_29 : decode prog_19_method_5_code 29 = .ok (.dadd, 1) := by decide +kernel
theorem d8_30 : decode prog_19_method_5_code 30 = .ok (.dstore 5, 2) := by decide +kernel
theorem ef_rm8_f (m : MethodId) (ob : Addr) (dn : UInt64) (dl : UInt64) : entryFrame m #[(.ref ob), (.double dn), (.double dl)] 7 = mkF m 0 #[.val (.ref ob), .val (.double dn), .second, .val (.double dl), .second, .unset, .unset] [] := by first | (simp [entryFrame, mkF, argsToLocals, Value.category]; done) | rfl
def Q8_f (Z : State) (ob : Addr) (dn : UInt64) (dl : UInt64) (dg : UInt64) (dt : UInt64) (h0 : Heap) (n0 : Nat) (v : Option Value) (h : Heap) (L : List Loc) : Prop := v = some (.double (fAdj dn dl dg dt)) ∧ Fr n0 L ∧ h = h0
set_option maxRecDepth 65536 in
set_option maxHeartbeats 40000000 in
theorem rm8_f (l : Launch) (Z : State) (a0 : Array Value) (hw : ∀ d ∈ tables_1, d.before a0 Z = true) (ws : List Jvm.Cond) (ob : Addr) (dn : UInt64) (dl : UInt64) (dg : UInt64) (dt : UInt64) (h0 : Heap) (n0 : Nat) (O0 : Old Z n0 h0) (F2 : Fld Z h0 ob "com/example/spillway/spillway/runtime/LatencyController" "targetNanos" "D" (.double dt)) (F4 : Fld Z h0 ob "com/example/spillway/spillway/runtime/LatencyController" "gain" "D" (.double dg)) (q_l : (cmpValue (FP.dcmp dl dl) .l) = (0 : Int32)) (q_k : fok dn dl dg dt) :
    MetFree l (⟨"com/example/spillway/spillway/runtime/LatencyController", "adjusted", "(DD)D"⟩ : MethodName) (head1 (Jvm.Cond.code (⟨"com/example/spillway/spillway/runtime/LatencyController", "adjusted", "(DD)D"⟩ : MethodName) prog_19_method_5_code 7 (some .double) :: ws) ({ frames := 1, cells := 0, slots := 0, locals := 13 } : Room)) (fun ay U => ay = #[(.ref ob), (.double dn), (.double dl)] ∧ Z.Warmed39 U.vm ∧ U.heap = h0) (fun _ _ _ _ _ => True) (fun _ U o U' => ∃ v L, o = .returned v ∧ Q8_f Z ob dn dl dg dt h0 n0 v U'.heap L ∧ FrameEnd U o U' L ({ frames := 1, cells := 0, slots := 0, locals := 13 } : Room).cells ({ frames := 1, cells := 0, slots := 0, locals := 13 } : Room).slots) := by
  refine MetFree.of_bodySF (plainFor_of_name pn_com_example_spillway_spillway_runtime_LatencyController) hisR ?_
  intro p e s m args below meth c s₁ Bd hml0 hP hK
  obtain ⟨rfl, hZ, hh⟩ := hP
  have hx := Bd.exec
  have hby := Bd.bytes
  have hlk : meth.locks = false := BodyLoose.notSynchronized Bd
  have hml : c.maxLocals = 7 := hml0
  have hown : s.vm.findClass "com/example/spillway/spillway/runtime/LatencyController" = some m.cls := findClass_of_methodNamed Bd.named
  have hnm := (name_of_methodNamed Bd.named Bd.method).1
  have X0 : Stand p l e ({ frames := 1, cells := 0, slots := 0, locals := 13 } : Room) s m #[(.ref ob), (.double dn), (.double dl)] below meth c s₁ [] 0 0 := Stand.of_body Bd
  have e0 : s₁.heap = h0 := by rw [← hh, Bd.state]; rfl
  have N0 := Fr.nil n0
  suffices hgo : Go p e below s 0 0 (Q8_f Z ob dn dl dg dt h0 n0) (s₁.setTop (mkF m 0 #[.val (.ref ob), .val (.double dn), .second, .val (.double dl), .second, .unset, .unset] [])) by
    obtain ⟨t, o, h1, h2⟩ := hgo; exact ⟨t, o, castTop (ef_rm8_f m ob dn dl) h1, h2⟩
  show Go p e below s _ _ _ (s₁.setTop (mkF m 0 #[.val (.ref ob), .val (.double dn), .second, .val (.double dl), .second, .unset, .unset] []))
  refine Go.st (fun _ k' => XS.dloadN X0.here hx rfl (hb hby d8_0) rfl k') ?_
  show Go p e below s _ _ _ (s₁.setTop (mkF m 1 #[.val (.ref ob), .val (.double dn), .second, .val (.double dl), .second, .unset, .unset] [(.double dn)]))
  refine Go.st (fun _ k' => XS.dstore X0.here hx rfl (hb hby d8_1) rfl (l' := #[.val (.ref ob), .val (.double dn), .second, .val (.double dl), .second, .val (.double dn), .second]) rfl k') ?_
  show Go p e below s _ _ _ (s₁.setTop (mkF m 3 #[.val (.ref ob), .val (.double dn), .second, .val (.double dl), .second, .val (.double dn), .second] []))
  refine Go.st (fun _ k' => XS.dloadN X0.here hx rfl (hb hby d8_3) rfl k') ?_
  show Go p e below s _ _ _ (s₁.setTop (mkF m 4 #[.val (.ref ob), .val (.double dn), .second, .val (.double dl), .second, .val (.double dn), .second] [(.double dl)]))
  obtain ⟨_, _, ⟨T1, L1, k1, n1⟩, -, X1, ⟨Lc1, hQ1, l1, y1, z1⟩, st1⟩ := Jvm.LawKit.callS X0 hx (y := (⟨"java/lang/Double", "isNaN", "(D)Z"⟩ : MethodName)) hown (mvT hZ (wdx hw 52 rfl)) (mvT hZ (wdx hw 53 rfl)) (mvT hZ (wdx hw 54 rfl)) (mvT hZ (wdx hw 55 rfl)) (by decide) (backOf (W := 0) (rm7 l Z a0 hw [] dl h0 n0 O0 ) hZ (wdx hw 55 rfl) (wdx hw 54 rfl) (by decide) (by decide)) (g := (mkF m 4 #[.val (.ref ob), .val (.double dn), .second, .val (.double dl), .second, .val (.double dn), .second] [(.double dl)])) rfl (by rw [hml]; rfl) (argsL := [(.double dl)]) (rest := []) (lenOf pd__D_Z rfl) rfl (by show 2 * 0 + _ ≤ _; exact Nat.le_of_eq rfl) (hb hby d8_4) (fun _ _ => ⟨rfl, e0, (by exact Nat.le_of_ble_eq_true rfl), (by exact Nat.le_of_ble_eq_true rfl)⟩)
  dsimp only [Pt.U, Pt.locs, Pt.cells, Pt.slots] at X1 l1 y1 z1 st1 hQ1
  subst l1 y1 z1
  obtain ⟨rfl, Nq1, eq1⟩ := hQ1
  have N1 := Fr.app N0 Nq1
  refine Go.st st1 ?_
  show Go p e below s _ _ _ (T1.setTop (mkF m 7 #[.val (.ref ob), .val (.double dn), .second, .val (.double dl), .second, .val (.double dn), .second] [(.int (if (cmpValue (FP.dcmp dl dl) .l) = (0 : Int32) then (0 : Int32) else 1))]))
  refine Go.st (fun _ k' => XS.ifNo X1.here hx rfl (hb hby d8_7) rfl (XT.i0_ne_f (by rw [if_pos q_l])) k') ?_
  show Go p e below s _ _ _ (T1.setTop (mkF m 10 #[.val (.ref ob), .val (.double dn), .second, .val (.double dl), .second, .val (.double dn), .second] []))
  refine Go.st (fun _ k' => XS.dloadN X1.here hx rfl (hb hby d8_10) rfl k') ?_
  show Go p e below s _ _ _ (T1.setTop (mkF m 11 #[.val (.ref ob), .val (.double dn), .second, .val (.double dl), .second, .val (.double dn), .second] [(.double dn)]))
  refine Go.st (fun _ k' => XS.aloadN X1.here hx rfl (hb hby d8_11) rfl rfl k') ?_
  show Go p e below s _ _ _ (T1.setTop (mkF m 12 #[.val (.ref ob), .val (.double dn), .second, .val (.double dl), .second, .val (.double dn), .second] [(.ref ob), (.double dn)]))
  obtain ⟨T2, X2, e2, st2⟩ := getF X1 hx hZ hown (host := "") (Or.inl (wdx hw 34 rfl)) Via.refl eq1 F4 (g := (mkF m 12 #[.val (.ref ob), .val (.double dn), .second, .val (.double dl), .second, .val (.double dn), .second] [(.ref ob), (.double dn)])) rfl rfl (hb hby d8_12)
  refine Go.st st2 ?_
  show Go p e below s _ _ _ (T2.setTop (mkF m 15 #[.val (.ref ob), .val (.double dn), .second, .val (.double dl), .second, .val (.double dn), .second] [(.double dg), (.double dn)]))
  refine Go.st (fun _ k' => XS.dloadN X2.here hx rfl (hb hby d8_15) rfl k') ?_
  show Go p e below s _ _ _ (T2.setTop (mkF m 16 #[.val (.ref ob), .val (.double dn), .second, .val (.double dl), .second, .val (.double dn), .second] [(.double dn), (.double dg), (.double dn)]))
  refine Go.st (fun _ k' => XS.dmulS X2.here hx rfl (hb hby d8_16) rfl q_k.1 rfl k') ?_
  show Go p e below s _ _ _ (T2.setTop (mkF m 17 #[.val (.ref ob), .val (.double dn), .second, .val (.double dl), .second, .val (.double dn), .second] [(.double (FP.dmul dg dn)), (.double dn)]))
  refine Go.st (fun _ k' => XS.aloadN X2.here hx rfl (hb hby d8_17) rfl rfl k') ?_
  show Go p e below s _ _ _ (T2.setTop (mkF m 18 #[.val (.ref ob), .val (.double dn), .second, .val (.double dl), .second, .val (.double dn), .second] [(.ref ob), (.double (FP.dmul dg dn)), (.double dn)]))
  obtain ⟨T3, X3, e3, st3⟩ := getF X2 hx hZ hown (host := "") (Or.inl (wdx hw 30 rfl)) Via.refl e2 F2 (g := (mkF m 18 #[.val (.ref ob), .val (.double dn), .second, .val (.double dl), .second, .val (.double dn), .second] [(.ref ob), (.double (FP.dmul dg dn)), (.double dn)])) rfl rfl (hb hby d8_18)
  refine Go.st st3 ?_
  show Go p e below s _ _ _ (T3.setTop (mkF m 21 #[.val (.ref ob), .val (.double dn), .second, .val (.double dl), .second, .val (.double dn), .second] [(.double dt), (.double (FP.dmul dg dn)), (.double dn)]))
  refine Go.st (fun _ k' => XS.dloadN X3.here hx rfl (hb hby d8_21) rfl k') ?_
  show Go p e below s _ _ _ (T3.setTop (mkF m 22 #[.val (.ref ob), .val (.double dn), .second, .val (.double dl), .second, .val (.double dn), .second] [(.double dl), (.double dt), (.double (FP.dmul dg dn)), (.double dn)]))
  refine Go.st (fun _ k' => XS.dsubS X3.here hx rfl (hb hby d8_22) rfl q_k.2.1 rfl k') ?_
  show Go p e below s _ _ _ (T3.setTop (mkF m 23 #[.val (.ref ob), .val (.double dn), .second, .val (.double dl), .second, .val (.double dn), .second] [(.double (FP.dsub dt dl)), (.double (FP.dmul dg dn)), (.double dn)]))
  refine Go.st (fun _ k' => XS.dmulS X3.here hx rfl (hb hby d8_23) rfl q_k.2.2.1 rfl k') ?_
  show Go p e below s _ _ _ (T3.setTop (mkF m 24 #[.val (.ref ob), .val (.double dn), .second, .val (.double dl), .second, .val (.double dn), .second] [(.double (FP.dmul (FP.dmul dg dn) (FP.dsub dt dl))), (.double dn)]))
  refine Go.st (fun _ k' => XS.aloadN X3.here hx rfl (hb hby d8_24) rfl rfl k') ?_
  show Go p e below s _ _ _ (T3.setTop (mkF m 25 #[.val (.ref ob), .val (.double dn), .second, .val (.double dl), .second, .val (.double dn), .second] [(.ref ob), (.double (FP.dmul (FP.dmul dg dn) (FP.dsub dt dl))), (.double dn)]))
  obtain ⟨T4, X4, e4, st4⟩ := getF X3 hx hZ hown (host := "") (Or.inl (wdx hw 30 rfl)) Via.refl e3 F2 (g := (mkF m 25 #[.val (.ref ob), .val (.double dn), .second, .val (.double dl), .second, .val (.double dn), .second] [(.ref ob), (.double (FP.dmul (FP.dmul dg dn) (FP.dsub dt dl))), (.double dn)])) rfl rfl (hb hby d8_25)
  refine Go.st st4 ?_
  show Go p e below s _ _ _ (T4.setTop (mkF m 28 #[.val (.ref ob), .val (.double dn), .second, .val (.double dl), .second, .val (.double dn), .second] [(.double dt), (.double (FP.dmul (FP.dmul dg dn) (FP.dsub dt dl))), (.double dn)]))
  refine Go.st (fun _ k' => XS.ddivS X4.here hx rfl (hb hby d8_28) rfl q_k.2.2.2.1 rfl k') ?_
  show Go p e below s _ _ _ (T4.setTop (mkF m 29 #[.val (.ref ob), .val (.double dn), .second, .val (.double dl), .second, .val (.double dn), .second] [(.double (FP.ddiv (FP.dmul (FP.dmul dg dn) (FP.dsub dt dl)) dt)), (.double dn)]))
  refine Go.st (fun _ k' => XS.daddS X4.here hx rfl (hb hby d8_29) rfl q_k.2.2.2.2 rfl k') ?_
  show Go p e below s _ _ _ (T4.setTop (mkF m 30 #[.val (.ref ob), .val (.double dn), .second, .val (.double dl), .second, .val (.double dn), .second] [(.double (FP.dadd dn (FP.ddiv (FP.dmul (FP.dmul dg dn) (FP.dsub dt dl)) dt)))]))
  refine Go.st (fun _ k' => XS.dstore X4.here hx rfl (hb hby d8_30) rfl (l' := #[.val (.ref ob), .val (.double dn), .second, .val (.double dl), .second, .val (.double (FP.dadd dn (FP.ddiv (FP.dmul (FP.dmul dg dn) (FP.dsub dt dl)) dt))), .second]) rfl k') ?_
  show Go p e below s _ _ _ (T4.setTop (mkF m 32 #[.val (.ref ob), .val (.double dn), .second, .val (.double dl), .second, .val (.double (FP.dadd dn (FP.ddiv (FP.dmul (FP.dmul dg dn) (FP.dsub dt dl)) dt))), .second] []))
  refine Go.st (fun _ k' => XS.dload X4.here hx rfl (hb hby d8_32) rfl k') ?_
  show Go p e below s _ _ _ (T4.setTop (mkF m 34 #[.val (.ref ob), .val (.double dn), .second, .val (.double dl), .second, .val (.double (FP.dadd dn (FP.ddiv (FP.dmul (FP.dmul dg dn) (FP.dsub dt dl)) dt))), .second] [(.double (FP.dadd dn (FP.ddiv (FP.dmul (FP.dmul dg dn) (FP.dsub dt dl)) dt)))]))
  refine Go.ret X4 hx hlk (t := .double) Bd.returns rfl (Or.inr (Or.inr (Or.inl ⟨rfl, rfl, _, rfl⟩))) (hb hby d8_34) (by decide) (by decide) e4 ?_
  exact ⟨rfl, N1, rfl⟩
theorem d6_0 : decode prog_19_method_4_code 0 = .ok (.aload_n 0, 1) := by decide +kernel
theorem d6_1 : decode prog_19_method_4_code 1 = .ok (.getfield 40, 3) := by decide +kernel
theorem d6_4 : decode prog_19_method_4_code 4 = .ok (.lconst 0, 1) := by decide +kernel
theorem d6_5 : decode prog_19_method_4_code 5 = .ok (.lcmp, 1) := by decide +kernel
theorem d6_6 : decode prog_19_method_4_code 6 = .ok (.ifCond .ne 10, 3) := by decide +kernel
theorem d6_9 : decode prog_19_method_4_code 9 = .ok (.ldc2_w 9, 3) := by decide +kernel
theorem d6_12 : decode prog_19_method_4_code 12 = .ok (.dstore_n 2, 1) := by decide +kernel
theorem d6_13 : decode prog_19_method_4_code 13 = .ok (.goto 15, 3) := by decide +kernel
theorem d6_28 : decode prog_19_method_4_code 28 = .ok (.aload_n 0, 1) := by decide +kernel
theorem d6_29 : decode prog_19_method_4_code 29 = .ok (.lconst 0, 1) := by decide +kernel
theorem d6_30 : decode prog_19_method_4_code 30 = .ok (.putfield 37, 3) := by decide +kernel
theorem d6_33 : decode prog_19_method_4_code 33 = .ok (.aload_n 0, 1) := by decide +kernel
theorem d6_34 : decode prog_19_method_4_code 34 = .ok (.lconst 0, 1) := by decide +kernel
theorem d6_35 : decode prog_19_method_4_code 35 = .ok (.putfield 40, 3) := by decide +kernel
theorem d6_38 : decode prog_19_method_4_code 38 = .ok (.aload_n 0, 1) := by decide +kernel
theorem d6_39 : decode prog_19_method_4_code 39 = .ok (.dup, 1) := by decide +kernel
theorem d6_40 : decode prog_19_method_4_code 40 = .ok (.getfield 43, 3) := by decide +kernel
theorem d6_43 : decode prog_19_method_4_code 43 = .ok (.lconst 1, 1) := by decide +kernel
theorem d6_44 : decode prog_19_method_4_code 44 = .ok (.ladd, 1) := by decide +kernel
theorem d6_45 : decode prog_19_method_4_code 45 = .ok (.putfield 43, 3) := by decide +kernel
theorem d6_48 : decode prog_19_method_4_code 48 = .ok (.iload_n 1, 1) := by decide +kernel
theorem d6_49 : decode prog_19_method_4_code 49 = .ok (.i2d, 1) := by decide +kernel
theorem d6_50 : decode prog_19_method_4_code 50 = .ok (.dstore 4, 2) := by decide +kernel
theorem d6_52 : decode prog_19_method_4_code 52 = .ok (.aload_n 0, 1) := by decide +kernel
theorem d6_53 : decode prog_19_method_4_code 53 = .ok (.getfield 11, 3) := by decide +kernel
theorem d6_56 : decode prog_19_method_4_code 56 = .ok (.invokestatic 46, 3) := by decide +kernel
theorem d6_59 : decode prog_19_method_4_code 59 = .ok (.ifCond .ne 9, 3) := by decide +kernel
theorem d6_68 : decode prog_19_method_4_code 68 = .ok (.dconst 1, 1) := by decide +kernel
theorem d6_69 : decode prog_19_method_4_code 69 = .ok (.aload_n 0, 1) := by decide +kernel
theorem d6_70 : decode prog_19_method_4_code 70 = .ok (.dload 4, 2) := by decide +kernel
theorem d6_72 : decode prog_19_method_4_code 72 = .ok (.dload_n 2, 1) := by decide +kernel
theorem pd__DD_D : parseMethodDescriptor "(DD)D" = some ⟨[.double, .double], some .double⟩ := by decide +kernel
theorem d6_73 : decode prog_19_method_4_code 73 = .ok (.invokevirtual 50, 3) := by decide +kernel
theorem d6_76 : decode prog_19_method_4_code 76 = .ok (.invokestatic 54, 3) := by decide +kernel
theorem d6_79 : decode prog_19_method_4_code 79 = .ok (.dstore 6, 2) := by decide +kernel
theorem d6_81 : decode prog_19_method_4_code 81 = .ok (.dload 6, 2) := by decide +kernel
theorem pd__D_J : parseMethodDescriptor "(D)J" = some ⟨[.double], some .long⟩ := by decide +kernel
theorem d6_83 : decode prog_19_method_4_code 83 = .ok (.invokestatic 59, 3) := by decide +kernel
theorem d6_86 : decode prog_19_method_4_code 86 = .ok (.iload_n 1, 1) := by decide +kernel
theorem d6_87 : decode prog_19_method_4_code 87 = .ok (.i2l, 1) := by decide +kernel
theorem pd__JJ_J : parseMethodDescriptor "(JJ)J" = some ⟨[.long, .long], some .long⟩ := by decide +kernel
theorem d6_88 : decode prog_19_method_4_code 88 = .ok (.invokestatic 63, 3) := by decide +kernel
theorem d6_91 : decode prog_19_method_4_code 91 = .ok (.l2i, 1) := by decide +kernel
theorem d6_92 : decode prog_19_method_4_code 92 = .ok (.istore 8, 2) := by decide +kernel
theorem d6_94 : decode prog_19_method_4_code 94 = .ok (.iload 8, 2) := by decide +kernel
theorem d6_96 : decode prog_19_method_4_code 96 = .ok (.iload_n 1, 1) := by decide +kernel
theorem d6_97 : decode prog_19_method_4_code 97 = .ok (.if_icmp .ge 12, 3) := by decide +kernel
theorem d6_100 : decode prog_19_method_4_code 100 = .ok (.aload_n 0, 1) := by decide +kernel
theorem d6_101 : decode prog_19_method_4_code 101 = .ok (.dload 6, 2) := by decide +kernel
theorem d6_103 : decode prog_19_method_4_code 103 = .ok (.putfield 11, 3) := by decide +kernel
theorem d6_106 : decode prog_19_method_4_code 106 = .ok (.goto 10, 3) := by decide +kernel
theorem d6_116 : decode prog_19_method_4_code 116 = .ok (.iload 8, 2) := by decide +kernel
theorem d6_118 : decode prog_19_method_4_code 118 = .ok (.ireturn, 1) := by decide +kernel
theorem d6_109 : decode prog_19_method_4_code 109 = .ok (.aload_n 0, 1) := by decide +kernel
theorem d6_110 : decode prog_19_method_4_code 110 = .ok (.ldc2_w 9, 3) := by decide +kernel
theorem d6_113 : decode prog_19_method_4_code 113 = .ok (.putfield 11, 3) := by decide +kernel
theorem ef_rm6_0 (m : MethodId) (ob : Addr) (kq : Int32) : entryFrame m #[(.ref ob), (.int kq)] 9 = mkF m 0 #[.val (.ref ob), .val (.int kq), .unset, .unset, .unset, .unset, .unset, .unset, .unset] [] := by first | (simp [entryFrame, mkF, argsToLocals, Value.category]; done) | rfl
def Q6_0 (Z : State) (ob : Addr) (kq : Int32) (js : Int64) (jc : Int64) (jd : Int64) (dt : UInt64) (dg : UInt64) (h0 : Heap) (n0 : Nat) (v : Option Value) (h : Heap) (L : List Loc) : Prop := v = some (.int (fkeep (FP.i2d kq) kq)) ∧ Fr n0 L ∧ Keep h0 h [ob]
set_option maxRecDepth 65536 in
set_option maxHeartbeats 40000000 in
theorem rm6_0 (l : Launch) (Z : State) (a0 : Array Value) (hw : ∀ d ∈ tables_1, d.before a0 Z = true) (ws : List Jvm.Cond) (ob : Addr) (kq : Int32) (js : Int64) (jc : Int64) (jd : Int64) (dt : UInt64) (dg : UInt64) (h0 : Heap) (n0 : Nat) (O0 : Old Z n0 h0) (E_o : Exa Z h0 ob "com/example/spillway/spillway/runtime/LatencyController") (F1 : Fld Z h0 ob "com/example/spillway/spillway/runtime/LatencyController" "limit" "D" (.double (9221120237041090560 : UInt64))) (F2 : Fld Z h0 ob "com/example/spillway/spillway/runtime/LatencyController" "targetNanos" "D" (.double dt)) (F4 : Fld Z h0 ob "com/example/spillway/spillway/runtime/LatencyController" "gain" "D" (.double dg)) (F5 : Fld Z h0 ob "com/example/spillway/spillway/runtime/LatencyController" "latencySum" "J" (.long js)) (F6 : Fld Z h0 ob "com/example/spillway/spillway/runtime/LatencyController" "latencyCount" "J" (.long jc)) (F7 : Fld Z h0 ob "com/example/spillway/spillway/runtime/LatencyController" "decisions" "J" (.long jd)) (g_o : n0 ≤ ob) (q_c : jc = (0 : Int64)) (q_p : ¬ (fmaxD FP.dconst1 (FP.i2d kq)).toInt64 < (0 : Int64)) :
    MetFree l (⟨"com/example/spillway/spillway/runtime/LatencyController", "decide", "(I)I"⟩ : MethodName) (head1 (Jvm.Cond.code (⟨"com/example/spillway/spillway/runtime/LatencyController", "decide", "(I)I"⟩ : MethodName) prog_19_method_4_code 9 (some .int) :: ws) ({ frames := 2, cells := 0, slots := 0, locals := 36 } : Room)) (fun ay U => ay = #[(.ref ob), (.int kq)] ∧ Z.Warmed39 U.vm ∧ U.heap = h0) (fun _ _ _ _ _ => True) (fun _ U o U' => ∃ v L, o = .returned v ∧ Q6_0 Z ob kq js jc jd dt dg h0 n0 v U'.heap L ∧ FrameEnd U o U' L ({ frames := 2, cells := 0, slots := 0, locals := 36 } : Room).cells ({ frames := 2, cells := 0, slots := 0, locals := 36 } : Room).slots) := by
  refine MetFree.of_bodySF (plainFor_of_name pn_com_example_spillway_spillway_runtime_LatencyController) hisR ?_
  intro p e s m args below meth c s₁ Bd hml0 hP hK
  obtain ⟨rfl, hZ, hh⟩ := hP
  have hx := Bd.exec
  have hby := Bd.bytes
  have hlk : meth.locks = false := BodyLoose.notSynchronized Bd
  have hml : c.maxLocals = 9 := hml0
  have hown : s.vm.findClass "com/example/spillway/spillway/runtime/LatencyController" = some m.cls := findClass_of_methodNamed Bd.named
  have hnm := (name_of_methodNamed Bd.named Bd.method).1
  have X0 : Stand p l e ({ frames := 2, cells := 0, slots := 0, locals := 36 } : Room) s m #[(.ref ob), (.int kq)] below meth c s₁ [] 0 0 := Stand.of_body Bd
  have e0 : s₁.heap = h0 := by rw [← hh, Bd.state]; rfl
  have N0 := Fr.nil n0
  suffices hgo : Go p e below s 0 0 (Q6_0 Z ob kq js jc jd dt dg h0 n0) (s₁.setTop (mkF m 0 #[.val (.ref ob), .val (.int kq), .unset, .unset, .unset, .unset, .unset, .unset, .unset] [])) by
    obtain ⟨t, o, h1, h2⟩ := hgo; exact ⟨t, o, castTop (ef_rm6_0 m ob kq) h1, h2⟩
  show Go p e below s _ _ _ (s₁.setTop (mkF m 0 #[.val (.ref ob), .val (.int kq), .unset, .unset, .unset, .unset, .unset, .unset, .unset] []))
  refine Go.st (fun _ k' => XS.aloadN X0.here hx rfl (hb hby d6_0) rfl rfl k') ?_
  show Go p e below s _ _ _ (s₁.setTop (mkF m 1 #[.val (.ref ob), .val (.int kq), .unset, .unset, .unset, .unset, .unset, .unset, .unset] [(.ref ob)]))
  obtain ⟨T1, X1, e1, st1⟩ := getF X0 hx hZ hown (host := "") (Or.inl (wdx hw 43 rfl)) Via.refl e0 F6 (g := (mkF m 1 #[.val (.ref ob), .val (.int kq), .unset, .unset, .unset, .unset, .unset, .unset, .unset] [(.ref ob)])) rfl rfl (hb hby d6_1)
  refine Go.st st1 ?_
  show Go p e below s _ _ _ (T1.setTop (mkF m 4 #[.val (.ref ob), .val (.int kq), .unset, .unset, .unset, .unset, .unset, .unset, .unset] [(.long jc)]))
  refine Go.st (fun _ k' => XS.lconst X1.here hx rfl (hb hby d6_4) k') ?_
  show Go p e below s _ _ _ (T1.setTop (mkF m 5 #[.val (.ref ob), .val (.int kq), .unset, .unset, .unset, .unset, .unset, .unset, .unset] [(.long (0 : Int64)), (.long jc)]))
  refine Go.st (fun _ k' => XT.lcmp X1.here hx rfl (hb hby d6_5) rfl k') ?_
  show Go p e below s _ _ _ (T1.setTop (mkF m 6 #[.val (.ref ob), .val (.int kq), .unset, .unset, .unset, .unset, .unset, .unset, .unset] [(.int (XT.cmpL jc (0 : Int64)))]))
  refine Go.st (fun _ k' => XS.ifNo X1.here hx rfl (hb hby d6_6) rfl (XT.ll_ne_f q_c) k') ?_
  show Go p e below s _ _ _ (T1.setTop (mkF m 9 #[.val (.ref ob), .val (.int kq), .unset, .unset, .unset, .unset, .unset, .unset, .unset] []))
  refine Go.st (fun _ k' => X1.ldc2DoubleC hx hown (mvT hZ (wdx hw 16 rfl)) (g := (mkF m 9 #[.val (.ref ob), .val (.int kq), .unset, .unset, .unset, .unset, .unset, .unset, .unset] [])) rfl (hb hby d6_9) _ k') ?_
  show Go p e below s _ _ _ (T1.setTop (mkF m 12 #[.val (.ref ob), .val (.int kq), .unset, .unset, .unset, .unset, .unset, .unset, .unset] [(.double (9221120237041090560 : UInt64))]))
  refine Go.st (fun _ k' => XS.dstoreN X1.here hx rfl (hb hby d6_12) rfl (l' := #[.val (.ref ob), .val (.int kq), .val (.double (9221120237041090560 : UInt64)), .second, .unset, .unset, .unset, .unset, .unset]) rfl k') ?_
  show Go p e below s _ _ _ (T1.setTop (mkF m 13 #[.val (.ref ob), .val (.int kq), .val (.double (9221120237041090560 : UInt64)), .second, .unset, .unset, .unset, .unset, .unset] []))
  refine Go.st (fun _ k' => XS.goto X1.here hx rfl (pc0 := 13) (pc' := 28) rfl (hb hby d6_13) (by decide) (by decide) k') ?_
  show Go p e below s _ _ _ (T1.setTop (mkF m 28 #[.val (.ref ob), .val (.int kq), .val (.double (9221120237041090560 : UInt64)), .second, .unset, .unset, .unset, .unset, .unset] []))
  refine Go.st (fun _ k' => XS.aloadN X1.here hx rfl (hb hby d6_28) rfl rfl k') ?_
  show Go p e below s _ _ _ (T1.setTop (mkF m 29 #[.val (.ref ob), .val (.int kq), .val (.double (9221120237041090560 : UInt64)), .second, .unset, .unset, .unset, .unset, .unset] [(.ref ob)]))
  refine Go.st (fun _ k' => XS.lconst X1.here hx rfl (hb hby d6_29) k') ?_
  show Go p e below s _ _ _ (T1.setTop (mkF m 30 #[.val (.ref ob), .val (.int kq), .val (.double (9221120237041090560 : UInt64)), .second, .unset, .unset, .unset, .unset, .unset] [(.long (0 : Int64)), (.ref ob)]))
  obtain ⟨T2, h2, X2, e2, W2, st2⟩ := putF X1 hx hZ hown (host := "") (Or.inl (wdx hw 41 rfl)) Via.refl e1 F5 E_o (Or.inl (wdx hw 42 rfl)) (wdx hw 7 rfl) (ty := .long) (by decide) rfl rfl (g := (mkF m 30 #[.val (.ref ob), .val (.int kq), .val (.double (9221120237041090560 : UInt64)), .second, .unset, .unset, .unset, .unset, .unset] [(.long (0 : Int64)), (.ref ob)])) rfl rfl (hb hby d6_30)
  refine Go.st st2 ?_
  have f3 : Exa Z h2 ob "com/example/spillway/spillway/runtime/LatencyController" := E_o.wr W2
  have f4 : Fld Z h2 ob "com/example/spillway/spillway/runtime/LatencyController" "limit" "D" (.double (9221120237041090560 : UInt64)) := F1.other W2 (Or.inr (slot_ne (Or.inl (wdx hw 18 rfl)) (Or.inl (wdx hw 42 rfl)) (by decide) (t := .double) (t' := .long) (by decide) (by decide)))
  have f5 : Fld Z h2 ob "com/example/spillway/spillway/runtime/LatencyController" "targetNanos" "D" (.double dt) := F2.other W2 (Or.inr (slot_ne (Or.inr (wdx hw 31 rfl)) (Or.inl (wdx hw 42 rfl)) (by decide) (t := .double) (t' := .long) (by decide) (by decide)))
  have f6 : Fld Z h2 ob "com/example/spillway/spillway/runtime/LatencyController" "gain" "D" (.double dg) := F4.other W2 (Or.inr (slot_ne (Or.inr (wdx hw 35 rfl)) (Or.inl (wdx hw 42 rfl)) (by decide) (t := .double) (t' := .long) (by decide) (by decide)))
  have f7 : Fld Z h2 ob "com/example/spillway/spillway/runtime/LatencyController" "latencySum" "J" (.long (0 : Int64)) := F5.same W2
  have f8 : Fld Z h2 ob "com/example/spillway/spillway/runtime/LatencyController" "latencyCount" "J" (.long jc) := F6.other W2 (Or.inr (slot_ne (Or.inl (wdx hw 44 rfl)) (Or.inl (wdx hw 42 rfl)) (by decide) (t := .long) (t' := .long) (by decide) (by decide)))
  have f9 : Fld Z h2 ob "com/example/spillway/spillway/runtime/LatencyController" "decisions" "J" (.long jd) := F7.other W2 (Or.inr (slot_ne (Or.inl (wdx hw 51 rfl)) (Or.inl (wdx hw 42 rfl)) (by decide) (t := .long) (t' := .long) (by decide) (by decide)))
  have O2 : Old Z n0 h2 := O0.wr W2 g_o
  have N2 := Fr.snoc X2 N0 g_o
  have K2 : Keep h0 h2 [ob] := (Keep.refl h0 [ob]).wr W2 (Or.inl (by simp))
  show Go p e below s _ _ _ (T2.setTop (mkF m 33 #[.val (.ref ob), .val (.int kq), .val (.double (9221120237041090560 : UInt64)), .second, .unset, .unset, .unset, .unset, .unset] []))
  refine Go.st (fun _ k' => XS.aloadN X2.here hx rfl (hb hby d6_33) rfl rfl k') ?_
  show Go p e below s _ _ _ (T2.setTop (mkF m 34 #[.val (.ref ob), .val (.int kq), .val (.double (9221120237041090560 : UInt64)), .second, .unset, .unset, .unset, .unset, .unset] [(.ref ob)]))
  refine Go.st (fun _ k' => XS.lconst X2.here hx rfl (hb hby d6_34) k') ?_
  show Go p e below s _ _ _ (T2.setTop (mkF m 35 #[.val (.ref ob), .val (.int kq), .val (.double (9221120237041090560 : UInt64)), .second, .unset, .unset, .unset, .unset, .unset] [(.long (0 : Int64)), (.ref ob)]))
  obtain ⟨T10, h10, X10, e10, W10, st10⟩ := putF X2 hx hZ hown (host := "") (Or.inl (wdx hw 43 rfl)) Via.refl e2 f8 f3 (Or.inl (wdx hw 44 rfl)) (wdx hw 7 rfl) (ty := .long) (by decide) rfl rfl (g := (mkF m 35 #[.val (.ref ob), .val (.int kq), .val (.double (9221120237041090560 : UInt64)), .second, .unset, .unset, .unset, .unset, .unset] [(.long (0 : Int64)), (.ref ob)])) rfl rfl (hb hby d6_35)
  refine Go.st st10 ?_
  have f11 : Exa Z h10 ob "com/example/spillway/spillway/runtime/LatencyController" := f3.wr W10
  have f12 : Fld Z h10 ob "com/example/spillway/spillway/runtime/LatencyController" "limit" "D" (.double (9221120237041090560 : UInt64)) := f4.other W10 (Or.inr (slot_ne (Or.inl (wdx hw 18 rfl)) (Or.inl (wdx hw 44 rfl)) (by decide) (t := .double) (t' := .long) (by decide) (by decide)))
  have f13 : Fld Z h10 ob "com/example/spillway/spillway/runtime/LatencyController" "targetNanos" "D" (.double dt) := f5.other W10 (Or.inr (slot_ne (Or.inr (wdx hw 31 rfl)) (Or.inl (wdx hw 44 rfl)) (by decide) (t := .double) (t' := .long) (by decide) (by decide)))
  have f14 : Fld Z h10 ob "com/example/spillway/spillway/runtime/LatencyController" "gain" "D" (.double dg) := f6.other W10 (Or.inr (slot_ne (Or.inr (wdx hw 35 rfl)) (Or.inl (wdx hw 44 rfl)) (by decide) (t := .double) (t' := .long) (by decide) (by decide)))
  have f15 : Fld Z h10 ob "com/example/spillway/spillway/runtime/LatencyController" "latencySum" "J" (.long (0 : Int64)) := f7.other W10 (Or.inr (slot_ne (Or.inl (wdx hw 42 rfl)) (Or.inl (wdx hw 44 rfl)) (by decide) (t := .long) (t' := .long) (by decide) (by decide)))
  have f16 : Fld Z h10 ob "com/example/spillway/spillway/runtime/LatencyController" "latencyCount" "J" (.long (0 : Int64)) := f8.same W10
  have f17 : Fld Z h10 ob "com/example/spillway/spillway/runtime/LatencyController" "decisions" "J" (.long jd) := f9.other W10 (Or.inr (slot_ne (Or.inl (wdx hw 51 rfl)) (Or.inl (wdx hw 44 rfl)) (by decide) (t := .long) (t' := .long) (by decide) (by decide)))
  have O10 : Old Z n0 h10 := O2.wr W10 g_o
  have N10 := Fr.snoc X10 N2 g_o
  have K10 : Keep h0 h10 [ob] := K2.wr W10 (Or.inl (by simp))
  show Go p e below s _ _ _ (T10.setTop (mkF m 38 #[.val (.ref ob), .val (.int kq), .val (.double (9221120237041090560 : UInt64)), .second, .unset, .unset, .unset, .unset, .unset] []))
  refine Go.st (fun _ k' => XS.aloadN X10.here hx rfl (hb hby d6_38) rfl rfl k') ?_
  show Go p e below s _ _ _ (T10.setTop (mkF m 39 #[.val (.ref ob), .val (.int kq), .val (.double (9221120237041090560 : UInt64)), .second, .unset, .unset, .unset, .unset, .unset] [(.ref ob)]))
  refine Go.st (fun _ k' => XS.dup X10.here hx rfl (hb hby d6_39) rfl rfl k') ?_
  show Go p e below s _ _ _ (T10.setTop (mkF m 40 #[.val (.ref ob), .val (.int kq), .val (.double (9221120237041090560 : UInt64)), .second, .unset, .unset, .unset, .unset, .unset] [(.ref ob), (.ref ob)]))
  obtain ⟨T18, X18, e18, st18⟩ := getF X10 hx hZ hown (host := "") (Or.inl (wdx hw 50 rfl)) Via.refl e10 f17 (g := (mkF m 40 #[.val (.ref ob), .val (.int kq), .val (.double (9221120237041090560 : UInt64)), .second, .unset, .unset, .unset, .unset, .unset] [(.ref ob), (.ref ob)])) rfl rfl (hb hby d6_40)
  refine Go.st st18 ?_
  show Go p e below s _ _ _ (T18.setTop (mkF m 43 #[.val (.ref ob), .val (.int kq), .val (.double (9221120237041090560 : UInt64)), .second, .unset, .unset, .unset, .unset, .unset] [(.long jd), (.ref ob)]))
  refine Go.st (fun _ k' => XS.lconst X18.here hx rfl (hb hby d6_43) k') ?_
  show Go p e below s _ _ _ (T18.setTop (mkF m 44 #[.val (.ref ob), .val (.int kq), .val (.double (9221120237041090560 : UInt64)), .second, .unset, .unset, .unset, .unset, .unset] [(.long (1 : Int64)), (.long jd), (.ref ob)]))
  refine Go.st (fun _ k' => XS.ladd X18.here hx rfl (hb hby d6_44) rfl k') ?_
  show Go p e below s _ _ _ (T18.setTop (mkF m 45 #[.val (.ref ob), .val (.int kq), .val (.double (9221120237041090560 : UInt64)), .second, .unset, .unset, .unset, .unset, .unset] [(.long (jd + (1 : Int64))), (.ref ob)]))
  obtain ⟨T19, h19, X19, e19, W19, st19⟩ := putF X18 hx hZ hown (host := "") (Or.inl (wdx hw 50 rfl)) Via.refl e18 f17 f11 (Or.inl (wdx hw 51 rfl)) (wdx hw 7 rfl) (ty := .long) (by decide) rfl rfl (g := (mkF m 45 #[.val (.ref ob), .val (.int kq), .val (.double (9221120237041090560 : UInt64)), .second, .unset, .unset, .unset, .unset, .unset] [(.long (jd + (1 : Int64))), (.ref ob)])) rfl rfl (hb hby d6_45)
  refine Go.st st19 ?_
  have f20 : Exa Z h19 ob "com/example/spillway/spillway/runtime/LatencyController" := f11.wr W19
  have f21 : Fld Z h19 ob "com/example/spillway/spillway/runtime/LatencyController" "limit" "D" (.double (9221120237041090560 : UInt64)) := f12.other W19 (Or.inr (slot_ne (Or.inl (wdx hw 18 rfl)) (Or.inl (wdx hw 51 rfl)) (by decide) (t := .double) (t' := .long) (by decide) (by decide)))
  have f22 : Fld Z h19 ob "com/example/spillway/spillway/runtime/LatencyController" "targetNanos" "D" (.double dt) := f13.other W19 (Or.inr (slot_ne (Or.inr (wdx hw 31 rfl)) (Or.inl (wdx hw 51 rfl)) (by decide) (t := .double) (t' := .long) (by decide) (by decide)))
  have f23 : Fld Z h19 ob "com/example/spillway/spillway/runtime/LatencyController" "gain" "D" (.double dg) := f14.other W19 (Or.inr (slot_ne (Or.inr (wdx hw 35 rfl)) (Or.inl (wdx hw 51 rfl)) (by decide) (t := .double) (t' := .long) (by decide) (by decide)))
  have f24 : Fld Z h19 ob "com/example/spillway/spillway/runtime/LatencyController" "latencySum" "J" (.long (0 : Int64)) := f15.other W19 (Or.inr (slot_ne (Or.inl (wdx hw 42 rfl)) (Or.inl (wdx hw 51 rfl)) (by decide) (t := .long) (t' := .long) (by decide) (by decide)))
  have f25 : Fld Z h19 ob "com/example/spillway/spillway/runtime/LatencyController" "latencyCount" "J" (.long (0 : Int64)) := f16.other W19 (Or.inr (slot_ne (Or.inl (wdx hw 44 rfl)) (Or.inl (wdx hw 51 rfl)) (by decide) (t := .long) (t' := .long) (by decide) (by decide)))
  have f26 : Fld Z h19 ob "com/example/spillway/spillway/runtime/LatencyController" "decisions" "J" (.long (jd + (1 : Int64))) := f17.same W19
  have O19 : Old Z n0 h19 := O10.wr W19 g_o
  have N19 := Fr.snoc X19 N10 g_o
  have K19 : Keep h0 h19 [ob] := K10.wr W19 (Or.inl (by simp))
  show Go p e below s _ _ _ (T19.setTop (mkF m 48 #[.val (.ref ob), .val (.int kq), .val (.double (9221120237041090560 : UInt64)), .second, .unset, .unset, .unset, .unset, .unset] []))
  refine Go.st (fun _ k' => XS.iloadN X19.here hx rfl (hb hby d6_48) rfl k') ?_
  show Go p e below s _ _ _ (T19.setTop (mkF m 49 #[.val (.ref ob), .val (.int kq), .val (.double (9221120237041090560 : UInt64)), .second, .unset, .unset, .unset, .unset, .unset] [(.int kq)]))
  refine Go.st (fun _ k' => XS.i2dS X19.here hx rfl (hb hby d6_49) rfl rfl k') ?_
  show Go p e below s _ _ _ (T19.setTop (mkF m 50 #[.val (.ref ob), .val (.int kq), .val (.double (9221120237041090560 : UInt64)), .second, .unset, .unset, .unset, .unset, .unset] [(.double (FP.i2d kq))]))
  refine Go.st (fun _ k' => XS.dstore X19.here hx rfl (hb hby d6_50) rfl (l' := #[.val (.ref ob), .val (.int kq), .val (.double (9221120237041090560 : UInt64)), .second, .val (.double (FP.i2d kq)), .second, .unset, .unset, .unset]) rfl k') ?_
  show Go p e below s _ _ _ (T19.setTop (mkF m 52 #[.val (.ref ob), .val (.int kq), .val (.double (9221120237041090560 : UInt64)), .second, .val (.double (FP.i2d kq)), .second, .unset, .unset, .unset] []))
  refine Go.st (fun _ k' => XS.aloadN X19.here hx rfl (hb hby d6_52) rfl rfl k') ?_
  show Go p e below s _ _ _ (T19.setTop (mkF m 53 #[.val (.ref ob), .val (.int kq), .val (.double (9221120237041090560 : UInt64)), .second, .val (.double (FP.i2d kq)), .second, .unset, .unset, .unset] [(.ref ob)]))
  obtain ⟨T27, X27, e27, st27⟩ := getF X19 hx hZ hown (host := "") (Or.inl (wdx hw 17 rfl)) Via.refl e19 f21 (g := (mkF m 53 #[.val (.ref ob), .val (.int kq), .val (.double (9221120237041090560 : UInt64)), .second, .val (.double (FP.i2d kq)), .second, .unset, .unset, .unset] [(.ref ob)])) rfl rfl (hb hby d6_53)
  refine Go.st st27 ?_
  show Go p e below s _ _ _ (T27.setTop (mkF m 56 #[.val (.ref ob), .val (.int kq), .val (.double (9221120237041090560 : UInt64)), .second, .val (.double (FP.i2d kq)), .second, .unset, .unset, .unset] [(.double (9221120237041090560 : UInt64))]))
  obtain ⟨_, _, ⟨T28, L28, k28, n28⟩, -, X28, ⟨Lc28, hQ28, l28, y28, z28⟩, st28⟩ := Jvm.LawKit.callS X27 hx (y := (⟨"java/lang/Double", "isNaN", "(D)Z"⟩ : MethodName)) hown (mvT hZ (wdx hw 52 rfl)) (mvT hZ (wdx hw 53 rfl)) (mvT hZ (wdx hw 54 rfl)) (mvT hZ (wdx hw 55 rfl)) (by decide) (backOf (W := 0) (rm7 l Z a0 hw [] (9221120237041090560 : UInt64) h19 n0 O19 ) hZ (wdx hw 55 rfl) (wdx hw 54 rfl) (by decide) (by decide)) (g := (mkF m 56 #[.val (.ref ob), .val (.int kq), .val (.double (9221120237041090560 : UInt64)), .second, .val (.double (FP.i2d kq)), .second, .unset, .unset, .unset] [(.double (9221120237041090560 : UInt64))])) rfl (by rw [hml]; rfl) (argsL := [(.double (9221120237041090560 : UInt64))]) (rest := []) (lenOf pd__D_Z rfl) rfl (by show 2 * 0 + _ ≤ _; exact Nat.le_of_eq rfl) (hb hby d6_56) (fun _ _ => ⟨rfl, e27, (by exact Nat.le_of_ble_eq_true rfl), (by exact Nat.le_of_ble_eq_true rfl)⟩)
  dsimp only [Pt.U, Pt.locs, Pt.cells, Pt.slots] at X28 l28 y28 z28 st28 hQ28
  subst l28 y28 z28
  obtain ⟨rfl, Nq28, eq28⟩ := hQ28
  have N28 := Fr.app N19 Nq28
  refine Go.st st28 ?_
  show Go p e below s _ _ _ (T28.setTop (mkF m 59 #[.val (.ref ob), .val (.int kq), .val (.double (9221120237041090560 : UInt64)), .second, .val (.double (FP.i2d kq)), .second, .unset, .unset, .unset] [(.int (if (cmpValue (FP.dcmp (9221120237041090560 : UInt64) (9221120237041090560 : UInt64)) .l) = (0 : Int32) then (0 : Int32) else 1))]))
  refine Go.st (fun _ k' => XS.ifYes X28.here hx rfl (pc0 := 59) (pc' := 68) rfl (hb hby d6_59) rfl (XT.i0_ne_t (by rw [if_neg own_nan]; decide)) (by decide) (by decide) k') ?_
  show Go p e below s _ _ _ (T28.setTop (mkF m 68 #[.val (.ref ob), .val (.int kq), .val (.double (9221120237041090560 : UInt64)), .second, .val (.double (FP.i2d kq)), .second, .unset, .unset, .unset] []))
  refine Go.st (fun _ k' => XS.dconst1 X28.here hx rfl (hb hby d6_68) rfl k') ?_
  show Go p e below s _ _ _ (T28.setTop (mkF m 69 #[.val (.ref ob), .val (.int kq), .val (.double (9221120237041090560 : UInt64)), .second, .val (.double (FP.i2d kq)), .second, .unset, .unset, .unset] [(.double FP.dconst1)]))
  refine Go.st (fun _ k' => XS.aloadN X28.here hx rfl (hb hby d6_69) rfl rfl k') ?_
  show Go p e below s _ _ _ (T28.setTop (mkF m 70 #[.val (.ref ob), .val (.int kq), .val (.double (9221120237041090560 : UInt64)), .second, .val (.double (FP.i2d kq)), .second, .unset, .unset, .unset] [(.ref ob), (.double FP.dconst1)]))
  refine Go.st (fun _ k' => XS.dload X28.here hx rfl (hb hby d6_70) rfl k') ?_
  show Go p e below s _ _ _ (T28.setTop (mkF m 72 #[.val (.ref ob), .val (.int kq), .val (.double (9221120237041090560 : UInt64)), .second, .val (.double (FP.i2d kq)), .second, .unset, .unset, .unset] [(.double (FP.i2d kq)), (.ref ob), (.double FP.dconst1)]))
  refine Go.st (fun _ k' => XS.dloadN X28.here hx rfl (hb hby d6_72) rfl k') ?_
  show Go p e below s _ _ _ (T28.setTop (mkF m 73 #[.val (.ref ob), .val (.int kq), .val (.double (9221120237041090560 : UInt64)), .second, .val (.double (FP.i2d kq)), .second, .unset, .unset, .unset] [(.double (9221120237041090560 : UInt64)), (.double (FP.i2d kq)), (.ref ob), (.double FP.dconst1)]))
  obtain ⟨cq29, q29, q29'⟩ := f20.cell
  obtain ⟨_, _, ⟨T29, L29, k29, n29⟩, -, X29, ⟨Lc29, hQ29, l29, y29, z29⟩, st29⟩ := X28.privateBack hx (y := (⟨"com/example/spillway/spillway/runtime/LatencyController", "adjusted", "(DD)D"⟩ : MethodName)) hown (mvT hZ (wdx hw 56 rfl)) (mvT hZ (wdx hw 57 rfl)) (Jvm.Kit.selects_private (by decide) (mvT hZ (wdx hw 7 rfl)) (mvP hZ (wdx hw 58 rfl)) (mvT hZ (wdx hw 57 rfl))) (Cond.privateMethod_at (mvP hZ (wdx hw 58 rfl) (args := #[]))) (mvT hZ (wdx hw 59 rfl)) (by decide) (backOf (W := 2) (rm8_n l Z a0 hw [] ob (FP.i2d kq) (9221120237041090560 : UInt64) h19 n0 O19 own_nan) hZ (wdx hw 59 rfl) (wdx hw 8 rfl) (by decide) (by decide)) (g := (mkF m 73 #[.val (.ref ob), .val (.int kq), .val (.double (9221120237041090560 : UInt64)), .second, .val (.double (FP.i2d kq)), .second, .unset, .unset, .unset] [(.double (9221120237041090560 : UInt64)), (.double (FP.i2d kq)), (.ref ob), (.double FP.dconst1)])) rfl (by rw [hml]; rfl) (Steps.refl _) (a := ob) (by rw [eq28]; exact q29) q29' (argsL := [(.double (FP.i2d kq)), (.double (9221120237041090560 : UInt64))]) (rest := [(.double FP.dconst1)]) (lenOf pd__DD_D rfl) rfl (by show 2 * 0 + _ ≤ _; exact Nat.le_of_eq rfl) (hb hby d6_73) (fun _ _ => ⟨rfl, eq28, (by exact Nat.le_of_ble_eq_true rfl), (by exact Nat.le_of_ble_eq_true rfl)⟩)
  dsimp only [Pt.U, Pt.locs, Pt.cells, Pt.slots] at X29 l29 y29 z29 st29 hQ29
  subst l29 y29 z29
  obtain ⟨rfl, Nq29, eq29⟩ := hQ29
  have N29 := Fr.app N28 Nq29
  refine Go.tr st29 ?_
  show Go p e below s _ _ _ (T29.setTop (mkF m 76 #[.val (.ref ob), .val (.int kq), .val (.double (9221120237041090560 : UInt64)), .second, .val (.double (FP.i2d kq)), .second, .unset, .unset, .unset] [(.double (FP.i2d kq)), (.double FP.dconst1)]))
  obtain ⟨v30, vm30, B30, -, X30, ⟨ev30, eB30⟩, st30⟩ := Jvm.LawKit.callS X29 hx (y := Jvm.Free.Fl.Abs.maxDN) hown (mvT hZ (wdx hw 60 rfl)) (mvT hZ (wdx hw 61 rfl)) (mvT hZ (wdx hw 4 rfl)) (mvT hZ (own_mxb hw)) (by decide) (Jvm.Free.Fl.Abs.maxD_pays (W := 0) FP.dconst1 (FP.i2d kq) (mvT hZ (own_mxb hw)) (by decide) (by decide)) (g := (mkF m 76 #[.val (.ref ob), .val (.int kq), .val (.double (9221120237041090560 : UInt64)), .second, .val (.double (FP.i2d kq)), .second, .unset, .unset, .unset] [(.double (FP.i2d kq)), (.double FP.dconst1)])) rfl (by rw [hml]; rfl) (argsL := [(.double FP.dconst1), (.double (FP.i2d kq))]) (rest := []) (lenOf pd__DD_D rfl) rfl (by show 2 * 0 + _ ≤ _; exact Nat.le_of_eq rfl) (hb hby d6_76) (fun _ _ => ⟨(by exact Nat.le_of_ble_eq_true rfl), (by exact Nat.le_of_ble_eq_true rfl), rfl, own_nn1, (own_nni kq)⟩)
  subst ev30 eB30
  dsimp only [Pt.U, Pt.locs, Pt.cells, Pt.slots] at X30 st30
  rw [own_pick (b := (FP.i2d kq)) (own_nni kq)] at st30
  refine Go.st st30 ?_
  show Go p e below s _ _ _ ((T29.setVm vm30).setTop (mkF m 79 #[.val (.ref ob), .val (.int kq), .val (.double (9221120237041090560 : UInt64)), .second, .val (.double (FP.i2d kq)), .second, .unset, .unset, .unset] [(.double (fmaxD FP.dconst1 (FP.i2d kq)))]))
  refine Go.st (fun _ k' => XS.dstore X30.here hx rfl (hb hby d6_79) rfl (l' := #[.val (.ref ob), .val (.int kq), .val (.double (9221120237041090560 : UInt64)), .second, .val (.double (FP.i2d kq)), .second, .val (.double (fmaxD FP.dconst1 (FP.i2d kq))), .second, .unset]) rfl k') ?_
  show Go p e below s _ _ _ ((T29.setVm vm30).setTop (mkF m 81 #[.val (.ref ob), .val (.int kq), .val (.double (9221120237041090560 : UInt64)), .second, .val (.double (FP.i2d kq)), .second, .val (.double (fmaxD FP.dconst1 (FP.i2d kq))), .second, .unset] []))
  refine Go.st (fun _ k' => XS.dload X30.here hx rfl (hb hby d6_81) rfl k') ?_
  show Go p e below s _ _ _ ((T29.setVm vm30).setTop (mkF m 83 #[.val (.ref ob), .val (.int kq), .val (.double (9221120237041090560 : UInt64)), .second, .val (.double (FP.i2d kq)), .second, .val (.double (fmaxD FP.dconst1 (FP.i2d kq))), .second, .unset] [(.double (fmaxD FP.dconst1 (FP.i2d kq)))]))
  obtain ⟨_, _, ⟨T31, L31, k31, n31⟩, -, X31, ⟨Lc31, hQ31, l31, y31, z31⟩, st31⟩ := Jvm.LawKit.callS X30 hx (y := (⟨"java/lang/Math", "round", "(D)J"⟩ : MethodName)) hown (mvT hZ (wdx hw 63 rfl)) (mvT hZ (wdx hw 64 rfl)) (mvT hZ (wdx hw 4 rfl)) (mvT hZ (wdx hw 65 rfl)) (by decide) (backOf (W := 0) (rm10 l Z a0 hw [] (fmaxD FP.dconst1 (FP.i2d kq)) h19 n0 O19 q_p) hZ (wdx hw 65 rfl) (wdx hw 4 rfl) (by decide) (by decide)) (g := (mkF m 83 #[.val (.ref ob), .val (.int kq), .val (.double (9221120237041090560 : UInt64)), .second, .val (.double (FP.i2d kq)), .second, .val (.double (fmaxD FP.dconst1 (FP.i2d kq))), .second, .unset] [(.double (fmaxD FP.dconst1 (FP.i2d kq)))])) rfl (by rw [hml]; rfl) (argsL := [(.double (fmaxD FP.dconst1 (FP.i2d kq)))]) (rest := []) (lenOf pd__D_J rfl) rfl (by show 2 * 0 + _ ≤ _; exact Nat.le_of_eq rfl) (hb hby d6_83) (fun _ _ => ⟨rfl, eq29, (by exact Nat.le_of_ble_eq_true rfl), (by exact Nat.le_of_ble_eq_true rfl)⟩)
  dsimp only [Pt.U, Pt.locs, Pt.cells, Pt.slots] at X31 l31 y31 z31 st31 hQ31
  subst l31 y31 z31
  obtain ⟨rfl, Nq31, eq31⟩ := hQ31
  have N31 := Fr.app N29 Nq31
  refine Go.st st31 ?_
  show Go p e below s _ _ _ (T31.setTop (mkF m 86 #[.val (.ref ob), .val (.int kq), .val (.double (9221120237041090560 : UInt64)), .second, .val (.double (FP.i2d kq)), .second, .val (.double (fmaxD FP.dconst1 (FP.i2d kq))), .second, .unset] [(.long (fround (fmaxD FP.dconst1 (FP.i2d kq))))]))
  refine Go.st (fun _ k' => XS.iloadN X31.here hx rfl (hb hby d6_86) rfl k') ?_
  show Go p e below s _ _ _ (T31.setTop (mkF m 87 #[.val (.ref ob), .val (.int kq), .val (.double (9221120237041090560 : UInt64)), .second, .val (.double (FP.i2d kq)), .second, .val (.double (fmaxD FP.dconst1 (FP.i2d kq))), .second, .unset] [(.int kq), (.long (fround (fmaxD FP.dconst1 (FP.i2d kq))))]))
  refine Go.st (fun _ k' => XS.i2l X31.here hx rfl (hb hby d6_87) rfl k') ?_
  show Go p e below s _ _ _ (T31.setTop (mkF m 88 #[.val (.ref ob), .val (.int kq), .val (.double (9221120237041090560 : UInt64)), .second, .val (.double (FP.i2d kq)), .second, .val (.double (fmaxD FP.dconst1 (FP.i2d kq))), .second, .unset] [(.long (kq.toInt64)), (.long (fround (fmaxD FP.dconst1 (FP.i2d kq))))]))
  obtain ⟨_, _, ⟨T32, L32, k32, n32⟩, -, X32, ⟨Lc32, hQ32, l32, y32, z32⟩, st32⟩ := Jvm.LawKit.callS X31 hx (y := (⟨"java/lang/Math", "min", "(JJ)J"⟩ : MethodName)) hown (mvT hZ (wdx hw 74 rfl)) (mvT hZ (wdx hw 75 rfl)) (mvT hZ (wdx hw 4 rfl)) (mvT hZ (wdx hw 76 rfl)) (by decide) (backOf (W := 0) (rm11 l Z a0 hw [] (fround (fmaxD FP.dconst1 (FP.i2d kq))) (kq.toInt64) h19 n0 O19 ) hZ (wdx hw 76 rfl) (wdx hw 4 rfl) (by decide) (by decide)) (g := (mkF m 88 #[.val (.ref ob), .val (.int kq), .val (.double (9221120237041090560 : UInt64)), .second, .val (.double (FP.i2d kq)), .second, .val (.double (fmaxD FP.dconst1 (FP.i2d kq))), .second, .unset] [(.long (kq.toInt64)), (.long (fround (fmaxD FP.dconst1 (FP.i2d kq))))])) rfl (by rw [hml]; rfl) (argsL := [(.long (fround (fmaxD FP.dconst1 (FP.i2d kq)))), (.long (kq.toInt64))]) (rest := []) (lenOf pd__JJ_J rfl) rfl (by show 2 * 0 + _ ≤ _; exact Nat.le_of_eq rfl) (hb hby d6_88) (fun _ _ => ⟨rfl, eq31, (by exact Nat.le_of_ble_eq_true rfl), (by exact Nat.le_of_ble_eq_true rfl)⟩)
  dsimp only [Pt.U, Pt.locs, Pt.cells, Pt.slots] at X32 l32 y32 z32 st32 hQ32
  subst l32 y32 z32
  obtain ⟨rfl, Nq32, eq32⟩ := hQ32
  have N32 := Fr.app N31 Nq32
  refine Go.st st32 ?_
  show Go p e below s _ _ _ (T32.setTop (mkF m 91 #[.val (.ref ob), .val (.int kq), .val (.double (9221120237041090560 : UInt64)), .second, .val (.double (FP.i2d kq)), .second, .val (.double (fmaxD FP.dconst1 (FP.i2d kq))), .second, .unset] [(.long (fminJ (fround (fmaxD FP.dconst1 (FP.i2d kq))) (kq.toInt64)))]))
  refine Go.st (fun _ k' => XS.l2i X32.here hx rfl (hb hby d6_91) rfl k') ?_
  show Go p e below s _ _ _ (T32.setTop (mkF m 92 #[.val (.ref ob), .val (.int kq), .val (.double (9221120237041090560 : UInt64)), .second, .val (.double (FP.i2d kq)), .second, .val (.double (fmaxD FP.dconst1 (FP.i2d kq))), .second, .unset] [(.int ((fminJ (fround (fmaxD FP.dconst1 (FP.i2d kq))) (kq.toInt64)).toInt32))]))
  refine Go.st (fun _ k' => XS.istore X32.here hx rfl (hb hby d6_92) rfl (l' := #[.val (.ref ob), .val (.int kq), .val (.double (9221120237041090560 : UInt64)), .second, .val (.double (FP.i2d kq)), .second, .val (.double (fmaxD FP.dconst1 (FP.i2d kq))), .second, .val (.int ((fminJ (fround (fmaxD FP.dconst1 (FP.i2d kq))) (kq.toInt64)).toInt32))]) rfl k') ?_
  show Go p e below s _ _ _ (T32.setTop (mkF m 94 #[.val (.ref ob), .val (.int kq), .val (.double (9221120237041090560 : UInt64)), .second, .val (.double (FP.i2d kq)), .second, .val (.double (fmaxD FP.dconst1 (FP.i2d kq))), .second, .val (.int ((fminJ (fround (fmaxD FP.dconst1 (FP.i2d kq))) (kq.toInt64)).toInt32))] []))
  refine Go.st (fun _ k' => XS.iload X32.here hx rfl (hb hby d6_94) rfl k') ?_
  show Go p e below s _ _ _ (T32.setTop (mkF m 96 #[.val (.ref ob), .val (.int kq), .val (.double (9221120237041090560 : UInt64)), .second, .val (.double (FP.i2d kq)), .second, .val (.double (fmaxD FP.dconst1 (FP.i2d kq))), .second, .val (.int ((fminJ (fround (fmaxD FP.dconst1 (FP.i2d kq))) (kq.toInt64)).toInt32))] [(.int ((fminJ (fround (fmaxD FP.dconst1 (FP.i2d kq))) (kq.toInt64)).toInt32))]))
  refine Go.st (fun _ k' => XS.iloadN X32.here hx rfl (hb hby d6_96) rfl k') ?_
  show Go p e below s _ _ _ (T32.setTop (mkF m 97 #[.val (.ref ob), .val (.int kq), .val (.double (9221120237041090560 : UInt64)), .second, .val (.double (FP.i2d kq)), .second, .val (.double (fmaxD FP.dconst1 (FP.i2d kq))), .second, .val (.int ((fminJ (fround (fmaxD FP.dconst1 (FP.i2d kq))) (kq.toInt64)).toInt32))] [(.int kq), (.int ((fminJ (fround (fmaxD FP.dconst1 (FP.i2d kq))) (kq.toInt64)).toInt32))]))
  by_cases hc33 : ((fminJ (fround (fmaxD FP.dconst1 (FP.i2d kq))) (kq.toInt64)).toInt32) < kq
  · refine Go.st (fun _ k' => XS.icmpNo X32.here hx rfl (hb hby d6_97) rfl (XT.ii_ge_f hc33) k') ?_
    show Go p e below s _ _ _ (T32.setTop (mkF m 100 #[.val (.ref ob), .val (.int kq), .val (.double (9221120237041090560 : UInt64)), .second, .val (.double (FP.i2d kq)), .second, .val (.double (fmaxD FP.dconst1 (FP.i2d kq))), .second, .val (.int ((fminJ (fround (fmaxD FP.dconst1 (FP.i2d kq))) (kq.toInt64)).toInt32))] []))
    refine Go.st (fun _ k' => XS.aloadN X32.here hx rfl (hb hby d6_100) rfl rfl k') ?_
    show Go p e below s _ _ _ (T32.setTop (mkF m 101 #[.val (.ref ob), .val (.int kq), .val (.double (9221120237041090560 : UInt64)), .second, .val (.double (FP.i2d kq)), .second, .val (.double (fmaxD FP.dconst1 (FP.i2d kq))), .second, .val (.int ((fminJ (fround (fmaxD FP.dconst1 (FP.i2d kq))) (kq.toInt64)).toInt32))] [(.ref ob)]))
    refine Go.st (fun _ k' => XS.dload X32.here hx rfl (hb hby d6_101) rfl k') ?_
    show Go p e below s _ _ _ (T32.setTop (mkF m 103 #[.val (.ref ob), .val (.int kq), .val (.double (9221120237041090560 : UInt64)), .second, .val (.double (FP.i2d kq)), .second, .val (.double (fmaxD FP.dconst1 (FP.i2d kq))), .second, .val (.int ((fminJ (fround (fmaxD FP.dconst1 (FP.i2d kq))) (kq.toInt64)).toInt32))] [(.double (fmaxD FP.dconst1 (FP.i2d kq))), (.ref ob)]))
    obtain ⟨T34, h34, X34, e34, W34, st34⟩ := putF X32 hx hZ hown (host := "") (Or.inl (wdx hw 17 rfl)) Via.refl eq32 f21 f20 (Or.inl (wdx hw 18 rfl)) (wdx hw 7 rfl) (ty := .double) (by decide) rfl rfl (g := (mkF m 103 #[.val (.ref ob), .val (.int kq), .val (.double (9221120237041090560 : UInt64)), .second, .val (.double (FP.i2d kq)), .second, .val (.double (fmaxD FP.dconst1 (FP.i2d kq))), .second, .val (.int ((fminJ (fround (fmaxD FP.dconst1 (FP.i2d kq))) (kq.toInt64)).toInt32))] [(.double (fmaxD FP.dconst1 (FP.i2d kq))), (.ref ob)])) rfl rfl (hb hby d6_103)
    refine Go.st st34 ?_
    have f35 : Exa Z h34 ob "com/example/spillway/spillway/runtime/LatencyController" := f20.wr W34
    have f36 : Fld Z h34 ob "com/example/spillway/spillway/runtime/LatencyController" "limit" "D" (.double (fmaxD FP.dconst1 (FP.i2d kq))) := f21.same W34
    have f37 : Fld Z h34 ob "com/example/spillway/spillway/runtime/LatencyController" "targetNanos" "D" (.double dt) := f22.other W34 (Or.inr (slot_ne (Or.inr (wdx hw 31 rfl)) (Or.inl (wdx hw 18 rfl)) (by decide) (t := .double) (t' := .double) (by decide) (by decide)))
    have f38 : Fld Z h34 ob "com/example/spillway/spillway/runtime/LatencyController" "gain" "D" (.double dg) := f23.other W34 (Or.inr (slot_ne (Or.inr (wdx hw 35 rfl)) (Or.inl (wdx hw 18 rfl)) (by decide) (t := .double) (t' := .double) (by decide) (by decide)))
    have f39 : Fld Z h34 ob "com/example/spillway/spillway/runtime/LatencyController" "latencySum" "J" (.long (0 : Int64)) := f24.other W34 (Or.inr (slot_ne (Or.inl (wdx hw 42 rfl)) (Or.inl (wdx hw 18 rfl)) (by decide) (t := .long) (t' := .double) (by decide) (by decide)))
    have f40 : Fld Z h34 ob "com/example/spillway/spillway/runtime/LatencyController" "latencyCount" "J" (.long (0 : Int64)) := f25.other W34 (Or.inr (slot_ne (Or.inl (wdx hw 44 rfl)) (Or.inl (wdx hw 18 rfl)) (by decide) (t := .long) (t' := .double) (by decide) (by decide)))
    have f41 : Fld Z h34 ob "com/example/spillway/spillway/runtime/LatencyController" "decisions" "J" (.long (jd + (1 : Int64))) := f26.other W34 (Or.inr (slot_ne (Or.inl (wdx hw 51 rfl)) (Or.inl (wdx hw 18 rfl)) (by decide) (t := .long) (t' := .double) (by decide) (by decide)))
    have O34 : Old Z n0 h34 := O19.wr W34 g_o
    have N34 := Fr.snoc X34 N32 g_o
    have K34 : Keep h0 h34 [ob] := K19.wr W34 (Or.inl (by simp))
    show Go p e below s _ _ _ (T34.setTop (mkF m 106 #[.val (.ref ob), .val (.int kq), .val (.double (9221120237041090560 : UInt64)), .second, .val (.double (FP.i2d kq)), .second, .val (.double (fmaxD FP.dconst1 (FP.i2d kq))), .second, .val (.int ((fminJ (fround (fmaxD FP.dconst1 (FP.i2d kq))) (kq.toInt64)).toInt32))] []))
    refine Go.st (fun _ k' => XS.goto X34.here hx rfl (pc0 := 106) (pc' := 116) rfl (hb hby d6_106) (by decide) (by decide) k') ?_
    show Go p e below s _ _ _ (T34.setTop (mkF m 116 #[.val (.ref ob), .val (.int kq), .val (.double (9221120237041090560 : UInt64)), .second, .val (.double (FP.i2d kq)), .second, .val (.double (fmaxD FP.dconst1 (FP.i2d kq))), .second, .val (.int ((fminJ (fround (fmaxD FP.dconst1 (FP.i2d kq))) (kq.toInt64)).toInt32))] []))
    refine Go.st (fun _ k' => XS.iload X34.here hx rfl (hb hby d6_116) rfl k') ?_
    show Go p e below s _ _ _ (T34.setTop (mkF m 118 #[.val (.ref ob), .val (.int kq), .val (.double (9221120237041090560 : UInt64)), .second, .val (.double (FP.i2d kq)), .second, .val (.double (fmaxD FP.dconst1 (FP.i2d kq))), .second, .val (.int ((fminJ (fround (fmaxD FP.dconst1 (FP.i2d kq))) (kq.toInt64)).toInt32))] [(.int ((fminJ (fround (fmaxD FP.dconst1 (FP.i2d kq))) (kq.toInt64)).toInt32))]))
    refine Go.ret X34 hx hlk (t := .int) Bd.returns rfl (Or.inl ⟨rfl, Or.inl rfl, _, rfl⟩) (hb hby d6_118) (by decide) (by decide) e34 ?_
    exact ⟨rfl, N34, K34⟩
  · refine Go.st (fun _ k' => XS.icmpYes X32.here hx rfl (pc0 := 97) (pc' := 109) rfl (hb hby d6_97) rfl (XT.ii_ge_t hc33) (by decide) (by decide) k') ?_
    show Go p e below s _ _ _ (T32.setTop (mkF m 109 #[.val (.ref ob), .val (.int kq), .val (.double (9221120237041090560 : UInt64)), .second, .val (.double (FP.i2d kq)), .second, .val (.double (fmaxD FP.dconst1 (FP.i2d kq))), .second, .val (.int ((fminJ (fround (fmaxD FP.dconst1 (FP.i2d kq))) (kq.toInt64)).toInt32))] []))
    refine Go.st (fun _ k' => XS.aloadN X32.here hx rfl (hb hby d6_109) rfl rfl k') ?_
    show Go p e below s _ _ _ (T32.setTop (mkF m 110 #[.val (.ref ob), .val (.int kq), .val (.double (9221120237041090560 : UInt64)), .second, .val (.double (FP.i2d kq)), .second, .val (.double (fmaxD FP.dconst1 (FP.i2d kq))), .second, .val (.int ((fminJ (fround (fmaxD FP.dconst1 (FP.i2d kq))) (kq.toInt64)).toInt32))] [(.ref ob)]))
    refine Go.st (fun _ k' => X32.ldc2DoubleC hx hown (mvT hZ (wdx hw 16 rfl)) (g := (mkF m 110 #[.val (.ref ob), .val (.int kq), .val (.double (9221120237041090560 : UInt64)), .second, .val (.double (FP.i2d kq)), .second, .val (.double (fmaxD FP.dconst1 (FP.i2d kq))), .second, .val (.int ((fminJ (fround (fmaxD FP.dconst1 (FP.i2d kq))) (kq.toInt64)).toInt32))] [(.ref ob)])) rfl (hb hby d6_110) _ k') ?_
    show Go p e below s _ _ _ (T32.setTop (mkF m 113 #[.val (.ref ob), .val (.int kq), .val (.double (9221120237041090560 : UInt64)), .second, .val (.double (FP.i2d kq)), .second, .val (.double (fmaxD FP.dconst1 (FP.i2d kq))), .second, .val (.int ((fminJ (fround (fmaxD FP.dconst1 (FP.i2d kq))) (kq.toInt64)).toInt32))] [(.double (9221120237041090560 : UInt64)), (.ref ob)]))
    obtain ⟨T42, h42, X42, e42, W42, st42⟩ := putF X32 hx hZ hown (host := "") (Or.inl (wdx hw 17 rfl)) Via.refl eq32 f21 f20 (Or.inl (wdx hw 18 rfl)) (wdx hw 7 rfl) (ty := .double) (by decide) rfl rfl (g := (mkF m 113 #[.val (.ref ob), .val (.int kq), .val (.double (9221120237041090560 : UInt64)), .second, .val (.double (FP.i2d kq)), .second, .val (.double (fmaxD FP.dconst1 (FP.i2d kq))), .second, .val (.int ((fminJ (fround (fmaxD FP.dconst1 (FP.i2d kq))) (kq.toInt64)).toInt32))] [(.double (9221120237041090560 : UInt64)), (.ref ob)])) rfl rfl (hb hby d6_113)
    refine Go.st st42 ?_
    have f43 : Exa Z h42 ob "com/example/spillway/spillway/runtime/LatencyController" := f20.wr W42
    have f44 : Fld Z h42 ob "com/example/spillway/spillway/runtime/LatencyController" "limit" "D" (.double (9221120237041090560 : UInt64)) := f21.same W42
    have f45 : Fld Z h42 ob "com/example/spillway/spillway/runtime/LatencyController" "targetNanos" "D" (.double dt) := f22.other W42 (Or.inr (slot_ne (Or.inr (wdx hw 31 rfl)) (Or.inl (wdx hw 18 rfl)) (by decide) (t := .double) (t' := .double) (by decide) (by decide)))
    have f46 : Fld Z h42 ob "com/example/spillway/spillway/runtime/LatencyController" "gain" "D" (.double dg) := f23.other W42 (Or.inr (slot_ne (Or.inr (wdx hw 35 rfl)) (Or.inl (wdx hw 18 rfl)) (by decide) (t := .double) (t' := .double) (by decide) (by decide)))
    have f47 : Fld Z h42 ob "com/example/spillway/spillway/runtime/LatencyController" "latencySum" "J" (.long (0 : Int64)) := f24.other W42 (Or.inr (slot_ne (Or.inl (wdx hw 42 rfl)) (Or.inl (wdx hw 18 rfl)) (by decide) (t := .long) (t' := .double) (by decide) (by decide)))
    have f48 : Fld Z h42 ob "com/example/spillway/spillway/runtime/LatencyController" "latencyCount" "J" (.long (0 : Int64)) := f25.other W42 (Or.inr (slot_ne (Or.inl (wdx hw 44 rfl)) (Or.inl (wdx hw 18 rfl)) (by decide) (t := .long) (t' := .double) (by decide) (by decide)))
    have f49 : Fld Z h42 ob "com/example/spillway/spillway/runtime/LatencyController" "decisions" "J" (.long (jd + (1 : Int64))) := f26.other W42 (Or.inr (slot_ne (Or.inl (wdx hw 51 rfl)) (Or.inl (wdx hw 18 rfl)) (by decide) (t := .long) (t' := .double) (by decide) (by decide)))
    have O42 : Old Z n0 h42 := O19.wr W42 g_o
    have N42 := Fr.snoc X42 N32 g_o
    have K42 : Keep h0 h42 [ob] := K19.wr W42 (Or.inl (by simp))
    show Go p e below s _ _ _ (T42.setTop (mkF m 116 #[.val (.ref ob), .val (.int kq), .val (.double (9221120237041090560 : UInt64)), .second, .val (.double (FP.i2d kq)), .second, .val (.double (fmaxD FP.dconst1 (FP.i2d kq))), .second, .val (.int ((fminJ (fround (fmaxD FP.dconst1 (FP.i2d kq))) (kq.toInt64)).toInt32))] []))
    refine Go.st (fun _ k' => XS.iload X42.here hx rfl (hb hby d6_116) rfl k') ?_
    show Go p e below s _ _ _ (T42.setTop (mkF m 118 #[.val (.ref ob), .val (.int kq), .val (.double (9221120237041090560 : UInt64)), .second, .val (.double (FP.i2d kq)), .second, .val (.double (fmaxD FP.dconst1 (FP.i2d kq))), .second, .val (.int ((fminJ (fround (fmaxD FP.dconst1 (FP.i2d kq))) (kq.toInt64)).toInt32))] [(.int ((fminJ (fround (fmaxD FP.dconst1 (FP.i2d kq))) (kq.toInt64)).toInt32))]))
    refine Go.ret X42 hx hlk (t := .int) Bd.returns rfl (Or.inl ⟨rfl, Or.inl rfl, _, rfl⟩) (hb hby d6_118) (by decide) (by decide) e42 ?_
    exact ⟨rfl, N42, K42⟩
theorem d6_16 : decode prog_19_method_4_code 16 = .ok (.aload_n 0, 1) := by decide +kernel
theorem d6_17 : decode prog_19_method_4_code 17 = .ok (.getfield 37, 3) := by decide +kernel
theorem d6_20 : decode prog_19_method_4_code 20 = .ok (.l2d, 1) := by decide +kernel
theorem d6_21 : decode prog_19_method_4_code 21 = .ok (.aload_n 0, 1) := by decide +kernel
theorem d6_22 : decode prog_19_method_4_code 22 = .ok (.getfield 40, 3) := by decide +kernel
theorem d6_25 : decode prog_19_method_4_code 25 = .ok (.l2d, 1) := by decide +kernel
theorem d6_26 : decode prog_19_method_4_code 26 = .ok (.ddiv, 1) := by decide +kernel
theorem d6_27 : decode prog_19_method_4_code 27 = .ok (.dstore_n 2, 1) := by decide +kernel
theorem ef_rm6_1 (m : MethodId) (ob : Addr) (kq : Int32) : entryFrame m #[(.ref ob), (.int kq)] 9 = mkF m 0 #[.val (.ref ob), .val (.int kq), .unset, .unset, .unset, .unset, .unset, .unset, .unset] [] := by first | (simp [entryFrame, mkF, argsToLocals, Value.category]; done) | rfl
def Q6_1 (Z : State) (ob : Addr) (kq : Int32) (js : Int64) (jc : Int64) (jd : Int64) (dt : UInt64) (dg : UInt64) (h0 : Heap) (n0 : Nat) (v : Option Value) (h : Heap) (L : List Loc) : Prop := v = some (.int (fkeep (fAdj (FP.i2d kq) (FP.ddiv (FP.l2d js) (FP.l2d jc)) dg dt) kq)) ∧ Fr n0 L ∧ Keep h0 h [ob]
set_option maxRecDepth 65536 in
set_option maxHeartbeats 40000000 in
theorem rm6_1 (l : Launch) (Z : State) (a0 : Array Value) (hw : ∀ d ∈ tables_1, d.before a0 Z = true) (ws : List Jvm.Cond) (ob : Addr) (kq : Int32) (js : Int64) (jc : Int64) (jd : Int64) (dt : UInt64) (dg : UInt64) (h0 : Heap) (n0 : Nat) (O0 : Old Z n0 h0) (E_o : Exa Z h0 ob "com/example/spillway/spillway/runtime/LatencyController") (F1 : Fld Z h0 ob "com/example/spillway/spillway/runtime/LatencyController" "limit" "D" (.double (9221120237041090560 : UInt64))) (F2 : Fld Z h0 ob "com/example/spillway/spillway/runtime/LatencyController" "targetNanos" "D" (.double dt)) (F4 : Fld Z h0 ob "com/example/spillway/spillway/runtime/LatencyController" "gain" "D" (.double dg)) (F5 : Fld Z h0 ob "com/example/spillway/spillway/runtime/LatencyController" "latencySum" "J" (.long js)) (F6 : Fld Z h0 ob "com/example/spillway/spillway/runtime/LatencyController" "latencyCount" "J" (.long jc)) (F7 : Fld Z h0 ob "com/example/spillway/spillway/runtime/LatencyController" "decisions" "J" (.long jd)) (g_o : n0 ≤ ob) (q_c : ¬ jc = (0 : Int64)) (q_d : Jvm.Free.Fl.NoNaN64 (FP.ddiv (FP.l2d js) (FP.l2d jc))) (q_k : fok (FP.i2d kq) (FP.ddiv (FP.l2d js) (FP.l2d jc)) dg dt) (q_p : ¬ (fmaxD FP.dconst1 (fAdj (FP.i2d kq) (FP.ddiv (FP.l2d js) (FP.l2d jc)) dg dt)).toInt64 < (0 : Int64)) :
    MetFree l (⟨"com/example/spillway/spillway/runtime/LatencyController", "decide", "(I)I"⟩ : MethodName) (head1 (Jvm.Cond.code (⟨"com/example/spillway/spillway/runtime/LatencyController", "decide", "(I)I"⟩ : MethodName) prog_19_method_4_code 9 (some .int) :: ws) ({ frames := 2, cells := 0, slots := 0, locals := 36 } : Room)) (fun ay U => ay = #[(.ref ob), (.int kq)] ∧ Z.Warmed39 U.vm ∧ U.heap = h0) (fun _ _ _ _ _ => True) (fun _ U o U' => ∃ v L, o = .returned v ∧ Q6_1 Z ob kq js jc jd dt dg h0 n0 v U'.heap L ∧ FrameEnd U o U' L ({ frames := 2, cells := 0, slots := 0, locals := 36 } : Room).cells ({ frames := 2, cells := 0, slots := 0, locals := 36 } : Room).slots) := by
  refine MetFree.of_bodySF (plainFor_of_name pn_com_example_spillway_spillway_runtime_LatencyController) hisR ?_
  intro p e s m args below meth c s₁ Bd hml0 hP hK
  obtain ⟨rfl, hZ, hh⟩ := hP
  have hx := Bd.exec
  have hby := Bd.bytes
  have hlk : meth.locks = false := BodyLoose.notSynchronized Bd
  have hml : c.maxLocals = 9 := hml0
  have hown : s.vm.findClass "com/example/spillway/spillway/runtime/LatencyController" = some m.cls := findClass_of_methodNamed Bd.named
  have hnm := (name_of_methodNamed Bd.named Bd.method).1
  have X0 : Stand p l e ({ frames := 2, cells := 0, slots := 0, locals := 36 } : Room) s m #[(.ref ob), (.int kq)] below meth c s₁ [] 0 0 := Stand.of_body Bd
  have e0 : s₁.heap = h0 := by rw [← hh, Bd.state]; rfl
  have N0 := Fr.nil n0
  suffices hgo : Go p e below s 0 0 (Q6_1 Z ob kq js jc jd dt dg h0 n0) (s₁.setTop (mkF m 0 #[.val (.ref ob), .val (.int kq), .unset, .unset, .unset, .unset, .unset, .unset, .unset] [])) by
    obtain ⟨t, o, h1, h2⟩ := hgo; exact ⟨t, o, castTop (ef_rm6_1 m ob kq) h1, h2⟩
  show Go p e below s _ _ _ (s₁.setTop (mkF m 0 #[.val (.ref ob), .val (.int kq), .unset, .unset, .unset, .unset, .unset, .unset, .unset] []))
  refine Go.st (fun _ k' => XS.aloadN X0.here hx rfl (hb hby d6_0) rfl rfl k') ?_
  show Go p e below s _ _ _ (s₁.setTop (mkF m 1 #[.val (.ref ob), .val (.int kq), .unset, .unset, .unset, .unset, .unset, .unset, .unset] [(.ref ob)]))
  obtain ⟨T1, X1, e1, st1⟩ := getF X0 hx hZ hown (host := "") (Or.inl (wdx hw 43 rfl)) Via.refl e0 F6 (g := (mkF m 1 #[.val (.ref ob), .val (.int kq), .unset, .unset, .unset, .unset, .unset, .unset, .unset] [(.ref ob)])) rfl rfl (hb hby d6_1)
  refine Go.st st1 ?_
  show Go p e below s _ _ _ (T1.setTop (mkF m 4 #[.val (.ref ob), .val (.int kq), .unset, .unset, .unset, .unset, .unset, .unset, .unset] [(.long jc)]))
  refine Go.st (fun _ k' => XS.lconst X1.here hx rfl (hb hby d6_4) k') ?_
  show Go p e below s _ _ _ (T1.setTop (mkF m 5 #[.val (.ref ob), .val (.int kq), .unset, .unset, .unset, .unset, .unset, .unset, .unset] [(.long (0 : Int64)), (.long jc)]))
  refine Go.st (fun _ k' => XT.lcmp X1.here hx rfl (hb hby d6_5) rfl k') ?_
  show Go p e below s _ _ _ (T1.setTop (mkF m 6 #[.val (.ref ob), .val (.int kq), .unset, .unset, .unset, .unset, .unset, .unset, .unset] [(.int (XT.cmpL jc (0 : Int64)))]))
  refine Go.st (fun _ k' => XS.ifYes X1.here hx rfl (pc0 := 6) (pc' := 16) rfl (hb hby d6_6) rfl (XT.ll_ne_t q_c) (by decide) (by decide) k') ?_
  show Go p e below s _ _ _ (T1.setTop (mkF m 16 #[.val (.ref ob), .val (.int kq), .unset, .unset, .unset, .unset, .unset, .unset, .unset] []))
  refine Go.st (fun _ k' => XS.aloadN X1.here hx rfl (hb hby d6_16) rfl rfl k') ?_
  show Go p e below s _ _ _ (T1.setTop (mkF m 17 #[.val (.ref ob), .val (.int kq), .unset, .unset, .unset, .unset, .unset, .unset, .unset] [(.ref ob)]))
  obtain ⟨T2, X2, e2, st2⟩ := getF X1 hx hZ hown (host := "") (Or.inl (wdx hw 41 rfl)) Via.refl e1 F5 (g := (mkF m 17 #[.val (.ref ob), .val (.int kq), .unset, .unset, .unset, .unset, .unset, .unset, .unset] [(.ref ob)])) rfl rfl (hb hby d6_17)
  refine Go.st st2 ?_
  show Go p e below s _ _ _ (T2.setTop (mkF m 20 #[.val (.ref ob), .val (.int kq), .unset, .unset, .unset, .unset, .unset, .unset, .unset] [(.long js)]))
  refine Go.st (fun _ k' => XS.l2dS X2.here hx rfl (hb hby d6_20) rfl rfl k') ?_
  show Go p e below s _ _ _ (T2.setTop (mkF m 21 #[.val (.ref ob), .val (.int kq), .unset, .unset, .unset, .unset, .unset, .unset, .unset] [(.double (FP.l2d js))]))
  refine Go.st (fun _ k' => XS.aloadN X2.here hx rfl (hb hby d6_21) rfl rfl k') ?_
  show Go p e below s _ _ _ (T2.setTop (mkF m 22 #[.val (.ref ob), .val (.int kq), .unset, .unset, .unset, .unset, .unset, .unset, .unset] [(.ref ob), (.double (FP.l2d js))]))
  obtain ⟨T3, X3, e3, st3⟩ := getF X2 hx hZ hown (host := "") (Or.inl (wdx hw 43 rfl)) Via.refl e2 F6 (g := (mkF m 22 #[.val (.ref ob), .val (.int kq), .unset, .unset, .unset, .unset, .unset, .unset, .unset] [(.ref ob), (.double (FP.l2d js))])) rfl rfl (hb hby d6_22)
  refine Go.st st3 ?_
  show Go p e below s _ _ _ (T3.setTop (mkF m 25 #[.val (.ref ob), .val (.int kq), .unset, .unset, .unset, .unset, .unset, .unset, .unset] [(.long jc), (.double (FP.l2d js))]))
  refine Go.st (fun _ k' => XS.l2dS X3.here hx rfl (hb hby d6_25) rfl rfl k') ?_
  show Go p e below s _ _ _ (T3.setTop (mkF m 26 #[.val (.ref ob), .val (.int kq), .unset, .unset, .unset, .unset, .unset, .unset, .unset] [(.double (FP.l2d jc)), (.double (FP.l2d js))]))
  refine Go.st (fun _ k' => XS.ddivS X3.here hx rfl (hb hby d6_26) rfl q_d rfl k') ?_
  show Go p e below s _ _ _ (T3.setTop (mkF m 27 #[.val (.ref ob), .val (.int kq), .unset, .unset, .unset, .unset, .unset, .unset, .unset] [(.double (FP.ddiv (FP.l2d js) (FP.l2d jc)))]))
  refine Go.st (fun _ k' => XS.dstoreN X3.here hx rfl (hb hby d6_27) rfl (l' := #[.val (.ref ob), .val (.int kq), .val (.double (FP.ddiv (FP.l2d js) (FP.l2d jc))), .second, .unset, .unset, .unset, .unset, .unset]) rfl k') ?_
  show Go p e below s _ _ _ (T3.setTop (mkF m 28 #[.val (.ref ob), .val (.int kq), .val (.double (FP.ddiv (FP.l2d js) (FP.l2d jc))), .second, .unset, .unset, .unset, .unset, .unset] []))
  refine Go.st (fun _ k' => XS.aloadN X3.here hx rfl (hb hby d6_28) rfl rfl k') ?_
  show Go p e below s _ _ _ (T3.setTop (mkF m 29 #[.val (.ref ob), .val (.int kq), .val (.double (FP.ddiv (FP.l2d js) (FP.l2d jc))), .second, .unset, .unset, .unset, .unset, .unset] [(.ref ob)]))
  refine Go.st (fun _ k' => XS.lconst X3.here hx rfl (hb hby d6_29) k') ?_
  show Go p e below s _ _ _ (T3.setTop (mkF m 30 #[.val (.ref ob), .val (.int kq), .val (.double (FP.ddiv (FP.l2d js) (FP.l2d jc))), .second, .unset, .unset, .unset, .unset, .unset] [(.long (0 : Int64)), (.ref ob)]))
  obtain ⟨T4, h4, X4, e4, W4, st4⟩ := putF X3 hx hZ hown (host := "") (Or.inl (wdx hw 41 rfl)) Via.refl e3 F5 E_o (Or.inl (wdx hw 42 rfl)) (wdx hw 7 rfl) (ty := .long) (by decide) rfl rfl (g := (mkF m 30 #[.val (.ref ob), .val (.int kq), .val (.double (FP.ddiv (FP.l2d js) (FP.l2d jc))), .second, .unset, .unset, .unset, .unset, .unset] [(.long (0 : Int64)), (.ref ob)])) rfl rfl (hb hby d6_30)
  refine Go.st st4 ?_
  have f5 : Exa Z h4 ob "com/example/spillway/spillway/runtime/LatencyController" := E_o.wr W4
  have f6 : Fld Z h4 ob "com/example/spillway/spillway/runtime/LatencyController" "limit" "D" (.double (9221120237041090560 : UInt64)) := F1.other W4 (Or.inr (slot_ne (Or.inl (wdx hw 18 rfl)) (Or.inl (wdx hw 42 rfl)) (by decide) (t := .double) (t' := .long) (by decide) (by decide)))
  have f7 : Fld Z h4 ob "com/example/spillway/spillway/runtime/LatencyController" "targetNanos" "D" (.double dt) := F2.other W4 (Or.inr (slot_ne (Or.inr (wdx hw 31 rfl)) (Or.inl (wdx hw 42 rfl)) (by decide) (t := .double) (t' := .long) (by decide) (by decide)))
  have f8 : Fld Z h4 ob "com/example/spillway/spillway/runtime/LatencyController" "gain" "D" (.double dg) := F4.other W4 (Or.inr (slot_ne (Or.inr (wdx hw 35 rfl)) (Or.inl (wdx hw 42 rfl)) (by decide) (t := .double) (t' := .long) (by decide) (by decide)))
  have f9 : Fld Z h4 ob "com/example/spillway/spillway/runtime/LatencyController" "latencySum" "J" (.long (0 : Int64)) := F5.same W4
  have f10 : Fld Z h4 ob "com/example/spillway/spillway/runtime/LatencyController" "latencyCount" "J" (.long jc) := F6.other W4 (Or.inr (slot_ne (Or.inl (wdx hw 44 rfl)) (Or.inl (wdx hw 42 rfl)) (by decide) (t := .long) (t' := .long) (by decide) (by decide)))
  have f11 : Fld Z h4 ob "com/example/spillway/spillway/runtime/LatencyController" "decisions" "J" (.long jd) := F7.other W4 (Or.inr (slot_ne (Or.inl (wdx hw 51 rfl)) (Or.inl (wdx hw 42 rfl)) (by decide) (t := .long) (t' := .long) (by decide) (by decide)))
  have O4 : Old Z n0 h4 := O0.wr W4 g_o
  have N4 := Fr.snoc X4 N0 g_o
  have K4 : Keep h0 h4 [ob] := (Keep.refl h0 [ob]).wr W4 (Or.inl (by simp))
  show Go p e below s _ _ _ (T4.setTop (mkF m 33 #[.val (.ref ob), .val (.int kq), .val (.double (FP.ddiv (FP.l2d js) (FP.l2d jc))), .second, .unset, .unset, .unset, .unset, .unset] []))
  refine Go.st (fun _ k' => XS.aloadN X4.here hx rfl (hb hby d6_33) rfl rfl k') ?_
  show Go p e below s _ _ _ (T4.setTop (mkF m 34 #[.val (.ref ob), .val (.int kq), .val (.double (FP.ddiv (FP.l2d js) (FP.l2d jc))), .second, .unset, .unset, .unset, .unset, .unset] [(.ref ob)]))
  refine Go.st (fun _ k' => XS.lconst X4.here hx rfl (hb hby d6_34) k') ?_
  show Go p e below s _ _ _ (T4.setTop (mkF m 35 #[.val (.ref ob), .val (.int kq), .val (.double (FP.ddiv (FP.l2d js) (FP.l2d jc))), .second, .unset, .unset, .unset, .unset, .unset] [(.long (0 : Int64)), (.ref ob)]))
  obtain ⟨T12, h12, X12, e12, W12, st12⟩ := putF X4 hx hZ hown (host := "") (Or.inl (wdx hw 43 rfl)) Via.refl e4 f10 f5 (Or.inl (wdx hw 44 rfl)) (wdx hw 7 rfl) (ty := .long) (by decide) rfl rfl (g := (mkF m 35 #[.val (.ref ob), .val (.int kq), .val (.double (FP.ddiv (FP.l2d js) (FP.l2d jc))), .second, .unset, .unset, .unset, .unset, .unset] [(.long (0 : Int64)), (.ref ob)])) rfl rfl (hb hby d6_35)
  refine Go.st st12 ?_
  have f13 : Exa Z h12 ob "com/example/spillway/spillway/runtime/LatencyController" := f5.wr W12
  have f14 : Fld Z h12 ob "com/example/spillway/spillway/runtime/LatencyController" "limit" "D" (.double (9221120237041090560 : UInt64)) := f6.other W12 (Or.inr (slot_ne (Or.inl (wdx hw 18 rfl)) (Or.inl (wdx hw 44 rfl)) (by decide) (t := .double) (t' := .long) (by decide) (by decide)))
  have f15 : Fld Z h12 ob "com/example/spillway/spillway/runtime/LatencyController" "targetNanos" "D" (.double dt) := f7.other W12 (Or.inr (slot_ne (Or.inr (wdx hw 31 rfl)) (Or.inl (wdx hw 44 rfl)) (by decide) (t := .double) (t' := .long) (by decide) (by decide)))
  have f16 : Fld Z h12 ob "com/example/spillway/spillway/runtime/LatencyController" "gain" "D" (.double dg) := f8.other W12 (Or.inr (slot_ne (Or.inr (wdx hw 35 rfl)) (Or.inl (wdx hw 44 rfl)) (by decide) (t := .double) (t' := .long) (by decide) (by decide)))
  have f17 : Fld Z h12 ob "com/example/spillway/spillway/runtime/LatencyController" "latencySum" "J" (.long (0 : Int64)) := f9.other W12 (Or.inr (slot_ne (Or.inl (wdx hw 42 rfl)) (Or.inl (wdx hw 44 rfl)) (by decide) (t := .long) (t' := .long) (by decide) (by decide)))
  have f18 : Fld Z h12 ob "com/example/spillway/spillway/runtime/LatencyController" "latencyCount" "J" (.long (0 : Int64)) := f10.same W12
  have f19 : Fld Z h12 ob "com/example/spillway/spillway/runtime/LatencyController" "decisions" "J" (.long jd) := f11.other W12 (Or.inr (slot_ne (Or.inl (wdx hw 51 rfl)) (Or.inl (wdx hw 44 rfl)) (by decide) (t := .long) (t' := .long) (by decide) (by decide)))
  have O12 : Old Z n0 h12 := O4.wr W12 g_o
  have N12 := Fr.snoc X12 N4 g_o
  have K12 : Keep h0 h12 [ob] := K4.wr W12 (Or.inl (by simp))
  show Go p e below s _ _ _ (T12.setTop (mkF m 38 #[.val (.ref ob), .val (.int kq), .val (.double (FP.ddiv (FP.l2d js) (FP.l2d jc))), .second, .unset, .unset, .unset, .unset, .unset] []))
  refine Go.st (fun _ k' => XS.aloadN X12.here hx rfl (hb hby d6_38) rfl rfl k') ?_
  show Go p e below s _ _ _ (T12.setTop (mkF m 39 #[.val (.ref ob), .val (.int kq), .val (.double (FP.ddiv (FP.l2d js) (FP.l2d jc))), .second, .unset, .unset, .unset, .unset, .unset] [(.ref ob)]))
  refine Go.st (fun _ k' => XS.dup X12.here hx rfl (hb hby d6_39) rfl rfl k') ?_
  show Go p e below s _ _ _ (T12.setTop (mkF m 40 #[.val (.ref ob), .val (.int kq), .val (.double (FP.ddiv (FP.l2d js) (FP.l2d jc))), .second, .unset, .unset, .unset, .unset, .unset] [(.ref ob), (.ref ob)]))
  obtain ⟨T20, X20, e20, st20⟩ := getF X12 hx hZ hown (host := "") (Or.inl (wdx hw 50 rfl)) Via.refl e12 f19 (g := (mkF m 40 #[.val (.ref ob), .val (.int kq), .val (.double (FP.ddiv (FP.l2d js) (FP.l2d jc))), .second, .unset, .unset, .unset, .unset, .unset] [(.ref ob), (.ref ob)])) rfl rfl (hb hby d6_40)
  refine Go.st st20 ?_
  show Go p e below s _ _ _ (T20.setTop (mkF m 43 #[.val (.ref ob), .val (.int kq), .val (.double (FP.ddiv (FP.l2d js) (FP.l2d jc))), .second, .unset, .unset, .unset, .unset, .unset] [(.long jd), (.ref ob)]))
  refine Go.st (fun _ k' => XS.lconst X20.here hx rfl (hb hby d6_43) k') ?_
  show Go p e below s _ _ _ (T20.setTop (mkF m 44 #[.val (.ref ob), .val (.int kq), .val (.double (FP.ddiv (FP.l2d js) (FP.l2d jc))), .second, .unset, .unset, .unset, .unset, .unset] [(.long (1 : Int64)), (.long jd), (.ref ob)]))
  refine Go.st (fun _ k' => XS.ladd X20.here hx rfl (hb hby d6_44) rfl k') ?_
  show Go p e below s _ _ _ (T20.setTop (mkF m 45 #[.val (.ref ob), .val (.int kq), .val (.double (FP.ddiv (FP.l2d js) (FP.l2d jc))), .second, .unset, .unset, .unset, .unset, .unset] [(.long (jd + (1 : Int64))), (.ref ob)]))
  obtain ⟨T21, h21, X21, e21, W21, st21⟩ := putF X20 hx hZ hown (host := "") (Or.inl (wdx hw 50 rfl)) Via.refl e20 f19 f13 (Or.inl (wdx hw 51 rfl)) (wdx hw 7 rfl) (ty := .long) (by decide) rfl rfl (g := (mkF m 45 #[.val (.ref ob), .val (.int kq), .val (.double (FP.ddiv (FP.l2d js) (FP.l2d jc))), .second, .unset, .unset, .unset, .unset, .unset] [(.long (jd + (1 : Int64))), (.ref ob)])) rfl rfl (hb hby d6_45)
  refine Go.st st21 ?_
  have f22 : Exa Z h21 ob "com/example/spillway/spillway/runtime/LatencyController" := f13.wr W21
  have f23 : Fld Z h21 ob "com/example/spillway/spillway/runtime/LatencyController" "limit" "D" (.double (9221120237041090560 : UInt64)) := f14.other W21 (Or.inr (slot_ne (Or.inl (wdx hw 18 rfl)) (Or.inl (wdx hw 51 rfl)) (by decide) (t := .double) (t' := .long) (by decide) (by decide)))
  have f24 : Fld Z h21 ob "com/example/spillway/spillway/runtime/LatencyController" "targetNanos" "D" (.double dt) := f15.other W21 (Or.inr (slot_ne (Or.inr (wdx hw 31 rfl)) (Or.inl (wdx hw 51 rfl)) (by decide) (t := .double) (t' := .long) (by decide) (by decide)))
  have f25 : Fld Z h21 ob "com/example/spillway/spillway/runtime/LatencyController" "gain" "D" (.double dg) := f16.other W21 (Or.inr (slot_ne (Or.inr (wdx hw 35 rfl)) (Or.inl (wdx hw 51 rfl)) (by decide) (t := .double) (t' := .long) (by decide) (by decide)))
  have f26 : Fld Z h21 ob "com/example/spillway/spillway/runtime/LatencyController" "latencySum" "J" (.long (0 : Int64)) := f17.other W21 (Or.inr (slot_ne (Or.inl (wdx hw 42 rfl)) (Or.inl (wdx hw 51 rfl)) (by decide) (t := .long) (t' := .long) (by decide) (by decide)))
  have f27 : Fld Z h21 ob "com/example/spillway/spillway/runtime/LatencyController" "latencyCount" "J" (.long (0 : Int64)) := f18.other W21 (Or.inr (slot_ne (Or.inl (wdx hw 44 rfl)) (Or.inl (wdx hw 51 rfl)) (by decide) (t := .long) (t' := .long) (by decide) (by decide)))
  have f28 : Fld Z h21 ob "com/example/spillway/spillway/runtime/LatencyController" "decisions" "J" (.long (jd + (1 : Int64))) := f19.same W21
  have O21 : Old Z n0 h21 := O12.wr W21 g_o
  have N21 := Fr.snoc X21 N12 g_o
  have K21 : Keep h0 h21 [ob] := K12.wr W21 (Or.inl (by simp))
  show Go p e below s _ _ _ (T21.setTop (mkF m 48 #[.val (.ref ob), .val (.int kq), .val (.double (FP.ddiv (FP.l2d js) (FP.l2d jc))), .second, .unset, .unset, .unset, .unset, .unset] []))
  refine Go.st (fun _ k' => XS.iloadN X21.here hx rfl (hb hby d6_48) rfl k') ?_
  show Go p e below s _ _ _ (T21.setTop (mkF m 49 #[.val (.ref ob), .val (.int kq), .val (.double (FP.ddiv (FP.l2d js) (FP.l2d jc))), .second, .unset, .unset, .unset, .unset, .unset] [(.int kq)]))
  refine Go.st (fun _ k' => XS.i2dS X21.here hx rfl (hb hby d6_49) rfl rfl k') ?_
  show Go p e below s _ _ _ (T21.setTop (mkF m 50 #[.val (.ref ob), .val (.int kq), .val (.double (FP.ddiv (FP.l2d js) (FP.l2d jc))), .second, .unset, .unset, .unset, .unset, .unset] [(.double (FP.i2d kq))]))
  refine Go.st (fun _ k' => XS.dstore X21.here hx rfl (hb hby d6_50) rfl (l' := #[.val (.ref ob), .val (.int kq), .val (.double (FP.ddiv (FP.l2d js) (FP.l2d jc))), .second, .val (.double (FP.i2d kq)), .second, .unset, .unset, .unset]) rfl k') ?_
  show Go p e below s _ _ _ (T21.setTop (mkF m 52 #[.val (.ref ob), .val (.int kq), .val (.double (FP.ddiv (FP.l2d js) (FP.l2d jc))), .second, .val (.double (FP.i2d kq)), .second, .unset, .unset, .unset] []))
  refine Go.st (fun _ k' => XS.aloadN X21.here hx rfl (hb hby d6_52) rfl rfl k') ?_
  show Go p e below s _ _ _ (T21.setTop (mkF m 53 #[.val (.ref ob), .val (.int kq), .val (.double (FP.ddiv (FP.l2d js) (FP.l2d jc))), .second, .val (.double (FP.i2d kq)), .second, .unset, .unset, .unset] [(.ref ob)]))
  obtain ⟨T29, X29, e29, st29⟩ := getF X21 hx hZ hown (host := "") (Or.inl (wdx hw 17 rfl)) Via.refl e21 f23 (g := (mkF m 53 #[.val (.ref ob), .val (.int kq), .val (.double (FP.ddiv (FP.l2d js) (FP.l2d jc))), .second, .val (.double (FP.i2d kq)), .second, .unset, .unset, .unset] [(.ref ob)])) rfl rfl (hb hby d6_53)
  refine Go.st st29 ?_
  show Go p e below s _ _ _ (T29.setTop (mkF m 56 #[.val (.ref ob), .val (.int kq), .val (.double (FP.ddiv (FP.l2d js) (FP.l2d jc))), .second, .val (.double (FP.i2d kq)), .second, .unset, .unset, .unset] [(.double (9221120237041090560 : UInt64))]))
  obtain ⟨_, _, ⟨T30, L30, k30, n30⟩, -, X30, ⟨Lc30, hQ30, l30, y30, z30⟩, st30⟩ := Jvm.LawKit.callS X29 hx (y := (⟨"java/lang/Double", "isNaN", "(D)Z"⟩ : MethodName)) hown (mvT hZ (wdx hw 52 rfl)) (mvT hZ (wdx hw 53 rfl)) (mvT hZ (wdx hw 54 rfl)) (mvT hZ (wdx hw 55 rfl)) (by decide) (backOf (W := 0) (rm7 l Z a0 hw [] (9221120237041090560 : UInt64) h21 n0 O21 ) hZ (wdx hw 55 rfl) (wdx hw 54 rfl) (by decide) (by decide)) (g := (mkF m 56 #[.val (.ref ob), .val (.int kq), .val (.double (FP.ddiv (FP.l2d js) (FP.l2d jc))), .second, .val (.double (FP.i2d kq)), .second, .unset, .unset, .unset] [(.double (9221120237041090560 : UInt64))])) rfl (by rw [hml]; rfl) (argsL := [(.double (9221120237041090560 : UInt64))]) (rest := []) (lenOf pd__D_Z rfl) rfl (by show 2 * 0 + _ ≤ _; exact Nat.le_of_eq rfl) (hb hby d6_56) (fun _ _ => ⟨rfl, e29, (by exact Nat.le_of_ble_eq_true rfl), (by exact Nat.le_of_ble_eq_true rfl)⟩)
  dsimp only [Pt.U, Pt.locs, Pt.cells, Pt.slots] at X30 l30 y30 z30 st30 hQ30
  subst l30 y30 z30
  obtain ⟨rfl, Nq30, eq30⟩ := hQ30
  have N30 := Fr.app N21 Nq30
  refine Go.st st30 ?_
  show Go p e below s _ _ _ (T30.setTop (mkF m 59 #[.val (.ref ob), .val (.int kq), .val (.double (FP.ddiv (FP.l2d js) (FP.l2d jc))), .second, .val (.double (FP.i2d kq)), .second, .unset, .unset, .unset] [(.int (if (cmpValue (FP.dcmp (9221120237041090560 : UInt64) (9221120237041090560 : UInt64)) .l) = (0 : Int32) then (0 : Int32) else 1))]))
  refine Go.st (fun _ k' => XS.ifYes X30.here hx rfl (pc0 := 59) (pc' := 68) rfl (hb hby d6_59) rfl (XT.i0_ne_t (by rw [if_neg own_nan]; decide)) (by decide) (by decide) k') ?_
  show Go p e below s _ _ _ (T30.setTop (mkF m 68 #[.val (.ref ob), .val (.int kq), .val (.double (FP.ddiv (FP.l2d js) (FP.l2d jc))), .second, .val (.double (FP.i2d kq)), .second, .unset, .unset, .unset] []))
  refine Go.st (fun _ k' => XS.dconst1 X30.here hx rfl (hb hby d6_68) rfl k') ?_
  show Go p e below s _ _ _ (T30.setTop (mkF m 69 #[.val (.ref ob), .val (.int kq), .val (.double (FP.ddiv (FP.l2d js) (FP.l2d jc))), .second, .val (.double (FP.i2d kq)), .second, .unset, .unset, .unset] [(.double FP.dconst1)]))
  refine Go.st (fun _ k' => XS.aloadN X30.here hx rfl (hb hby d6_69) rfl rfl k') ?_
  show Go p e below s _ _ _ (T30.setTop (mkF m 70 #[.val (.ref ob), .val (.int kq), .val (.double (FP.ddiv (FP.l2d js) (FP.l2d jc))), .second, .val (.double (FP.i2d kq)), .second, .unset, .unset, .unset] [(.ref ob), (.double FP.dconst1)]))
  refine Go.st (fun _ k' => XS.dload X30.here hx rfl (hb hby d6_70) rfl k') ?_
  show Go p e below s _ _ _ (T30.setTop (mkF m 72 #[.val (.ref ob), .val (.int kq), .val (.double (FP.ddiv (FP.l2d js) (FP.l2d jc))), .second, .val (.double (FP.i2d kq)), .second, .unset, .unset, .unset] [(.double (FP.i2d kq)), (.ref ob), (.double FP.dconst1)]))
  refine Go.st (fun _ k' => XS.dloadN X30.here hx rfl (hb hby d6_72) rfl k') ?_
  show Go p e below s _ _ _ (T30.setTop (mkF m 73 #[.val (.ref ob), .val (.int kq), .val (.double (FP.ddiv (FP.l2d js) (FP.l2d jc))), .second, .val (.double (FP.i2d kq)), .second, .unset, .unset, .unset] [(.double (FP.ddiv (FP.l2d js) (FP.l2d jc))), (.double (FP.i2d kq)), (.ref ob), (.double FP.dconst1)]))
  obtain ⟨cq31, q31, q31'⟩ := f22.cell
  obtain ⟨_, _, ⟨T31, L31, k31, n31⟩, -, X31, ⟨Lc31, hQ31, l31, y31, z31⟩, st31⟩ := X30.privateBack hx (y := (⟨"com/example/spillway/spillway/runtime/LatencyController", "adjusted", "(DD)D"⟩ : MethodName)) hown (mvT hZ (wdx hw 56 rfl)) (mvT hZ (wdx hw 57 rfl)) (Jvm.Kit.selects_private (by decide) (mvT hZ (wdx hw 7 rfl)) (mvP hZ (wdx hw 58 rfl)) (mvT hZ (wdx hw 57 rfl))) (Cond.privateMethod_at (mvP hZ (wdx hw 58 rfl) (args := #[]))) (mvT hZ (wdx hw 59 rfl)) (by decide) (backOf (W := 2) (rm8_f l Z a0 hw [] ob (FP.i2d kq) (FP.ddiv (FP.l2d js) (FP.l2d jc)) dg dt h21 n0 O21 f24 f25 (own_self q_d) q_k) hZ (wdx hw 59 rfl) (wdx hw 8 rfl) (by decide) (by decide)) (g := (mkF m 73 #[.val (.ref ob), .val (.int kq), .val (.double (FP.ddiv (FP.l2d js) (FP.l2d jc))), .second, .val (.double (FP.i2d kq)), .second, .unset, .unset, .unset] [(.double (FP.ddiv (FP.l2d js) (FP.l2d jc))), (.double (FP.i2d kq)), (.ref ob), (.double FP.dconst1)])) rfl (by rw [hml]; rfl) (Steps.refl _) (a := ob) (by rw [eq30]; exact q31) q31' (argsL := [(.double (FP.i2d kq)), (.double (FP.ddiv (FP.l2d js) (FP.l2d jc)))]) (rest := [(.double FP.dconst1)]) (lenOf pd__DD_D rfl) rfl (by show 2 * 0 + _ ≤ _; exact Nat.le_of_eq rfl) (hb hby d6_73) (fun _ _ => ⟨rfl, eq30, (by exact Nat.le_of_ble_eq_true rfl), (by exact Nat.le_of_ble_eq_true rfl)⟩)
  dsimp only [Pt.U, Pt.locs, Pt.cells, Pt.slots] at X31 l31 y31 z31 st31 hQ31
  subst l31 y31 z31
  obtain ⟨rfl, Nq31, eq31⟩ := hQ31
  have N31 := Fr.app N30 Nq31
  refine Go.tr st31 ?_
  show Go p e below s _ _ _ (T31.setTop (mkF m 76 #[.val (.ref ob), .val (.int kq), .val (.double (FP.ddiv (FP.l2d js) (FP.l2d jc))), .second, .val (.double (FP.i2d kq)), .second, .unset, .unset, .unset] [(.double (fAdj (FP.i2d kq) (FP.ddiv (FP.l2d js) (FP.l2d jc)) dg dt)), (.double FP.dconst1)]))
  obtain ⟨v32, vm32, B32, -, X32, ⟨ev32, eB32⟩, st32⟩ := Jvm.LawKit.callS X31 hx (y := Jvm.Free.Fl.Abs.maxDN) hown (mvT hZ (wdx hw 60 rfl)) (mvT hZ (wdx hw 61 rfl)) (mvT hZ (wdx hw 4 rfl)) (mvT hZ (own_mxb hw)) (by decide) (Jvm.Free.Fl.Abs.maxD_pays (W := 0) FP.dconst1 (fAdj (FP.i2d kq) (FP.ddiv (FP.l2d js) (FP.l2d jc)) dg dt) (mvT hZ (own_mxb hw)) (by decide) (by decide)) (g := (mkF m 76 #[.val (.ref ob), .val (.int kq), .val (.double (FP.ddiv (FP.l2d js) (FP.l2d jc))), .second, .val (.double (FP.i2d kq)), .second, .unset, .unset, .unset] [(.double (fAdj (FP.i2d kq) (FP.ddiv (FP.l2d js) (FP.l2d jc)) dg dt)), (.double FP.dconst1)])) rfl (by rw [hml]; rfl) (argsL := [(.double FP.dconst1), (.double (fAdj (FP.i2d kq) (FP.ddiv (FP.l2d js) (FP.l2d jc)) dg dt))]) (rest := []) (lenOf pd__DD_D rfl) rfl (by show 2 * 0 + _ ≤ _; exact Nat.le_of_eq rfl) (hb hby d6_76) (fun _ _ => ⟨(by exact Nat.le_of_ble_eq_true rfl), (by exact Nat.le_of_ble_eq_true rfl), rfl, own_nn1, q_k.2.2.2.2⟩)
  subst ev32 eB32
  dsimp only [Pt.U, Pt.locs, Pt.cells, Pt.slots] at X32 st32
  rw [own_pick (b := (fAdj (FP.i2d kq) (FP.ddiv (FP.l2d js) (FP.l2d jc)) dg dt)) q_k.2.2.2.2] at st32
  refine Go.st st32 ?_
  show Go p e below s _ _ _ ((T31.setVm vm32).setTop (mkF m 79 #[.val (.ref ob), .val (.int kq), .val (.double (FP.ddiv (FP.l2d js) (FP.l2d jc))), .second, .val (.double (FP.i2d kq)), .second, .unset, .unset, .unset] [(.double (fmaxD FP.dconst1 (fAdj (FP.i2d kq) (FP.ddiv (FP.l2d js) (FP.l2d jc)) dg dt)))]))
  refine Go.st (fun _ k' => XS.dstore X32.here hx rfl (hb hby d6_79) rfl (l' := #[.val (.ref ob), .val (.int kq), .val (.double (FP.ddiv (FP.l2d js) (FP.l2d jc))), .second, .val (.double (FP.i2d kq)), .second, .val (.double (fmaxD FP.dconst1 (fAdj (FP.i2d kq) (FP.ddiv (FP.l2d js) (FP.l2d jc)) dg dt))), .second, .unset]) rfl k') ?_
  show Go p e below s _ _ _ ((T31.setVm vm32).setTop (mkF m 81 #[.val (.ref ob), .val (.int kq), .val (.double (FP.ddiv (FP.l2d js) (FP.l2d jc))), .second, .val (.double (FP.i2d kq)), .second, .val (.double (fmaxD FP.dconst1 (fAdj (FP.i2d kq) (FP.ddiv (FP.l2d js) (FP.l2d jc)) dg dt))), .second, .unset] []))
  refine Go.st (fun _ k' => XS.dload X32.here hx rfl (hb hby d6_81) rfl k') ?_
  show Go p e below s _ _ _ ((T31.setVm vm32).setTop (mkF m 83 #[.val (.ref ob), .val (.int kq), .val (.double (FP.ddiv (FP.l2d js) (FP.l2d jc))), .second, .val (.double (FP.i2d kq)), .second, .val (.double (fmaxD FP.dconst1 (fAdj (FP.i2d kq) (FP.ddiv (FP.l2d js) (FP.l2d jc)) dg dt))), .second, .unset] [(.double (fmaxD FP.dconst1 (fAdj (FP.i2d kq) (FP.ddiv (FP.l2d js) (FP.l2d jc)) dg dt)))]))
  obtain ⟨_, _, ⟨T33, L33, k33, n33⟩, -, X33, ⟨Lc33, hQ33, l33, y33, z33⟩, st33⟩ := Jvm.LawKit.callS X32 hx (y := (⟨"java/lang/Math", "round", "(D)J"⟩ : MethodName)) hown (mvT hZ (wdx hw 63 rfl)) (mvT hZ (wdx hw 64 rfl)) (mvT hZ (wdx hw 4 rfl)) (mvT hZ (wdx hw 65 rfl)) (by decide) (backOf (W := 0) (rm10 l Z a0 hw [] (fmaxD FP.dconst1 (fAdj (FP.i2d kq) (FP.ddiv (FP.l2d js) (FP.l2d jc)) dg dt)) h21 n0 O21 q_p) hZ (wdx hw 65 rfl) (wdx hw 4 rfl) (by decide) (by decide)) (g := (mkF m 83 #[.val (.ref ob), .val (.int kq), .val (.double (FP.ddiv (FP.l2d js) (FP.l2d jc))), .second, .val (.double (FP.i2d kq)), .second, .val (.double (fmaxD FP.dconst1 (fAdj (FP.i2d kq) (FP.ddiv (FP.l2d js) (FP.l2d jc)) dg dt))), .second, .unset] [(.double (fmaxD FP.dconst1 (fAdj (FP.i2d kq) (FP.ddiv (FP.l2d js) (FP.l2d jc)) dg dt)))])) rfl (by rw [hml]; rfl) (argsL := [(.double (fmaxD FP.dconst1 (fAdj (FP.i2d kq) (FP.ddiv (FP.l2d js) (FP.l2d jc)) dg dt)))]) (rest := []) (lenOf pd__D_J rfl) rfl (by show 2 * 0 + _ ≤ _; exact Nat.le_of_eq rfl) (hb hby d6_83) (fun _ _ => ⟨rfl, eq31, (by exact Nat.le_of_ble_eq_true rfl), (by exact Nat.le_of_ble_eq_true rfl)⟩)
  dsimp only [Pt.U, Pt.locs, Pt.cells, Pt.slots] at X33 l33 y33 z33 st33 hQ33
  subst l33 y33 z33
  obtain ⟨rfl, Nq33, eq33⟩ := hQ33
  have N33 := Fr.app N31 Nq33
  refine Go.st st33 ?_
  show Go p e below s _ _ _ (T33.setTop (mkF m 86 #[.val (.ref ob), .val (.int kq), .val (.double (FP.ddiv (FP.l2d js) (FP.l2d jc))), .second, .val (.double (FP.i2d kq)), .second, .val (.double (fmaxD FP.dconst1 (fAdj (FP.i2d kq) (FP.ddiv (FP.l2d js) (FP.l2d jc)) dg dt))), .second, .unset] [(.long (fround (fmaxD FP.dconst1 (fAdj (FP.i2d kq) (FP.ddiv (FP.l2d js) (FP.l2d jc)) dg dt))))]))
  refine Go.st (fun _ k' => XS.iloadN X33.here hx rfl (hb hby d6_86) rfl k') ?_
  show Go p e below s _ _ _ (T33.setTop (mkF m 87 #[.val (.ref ob), .val (.int kq), .val (.double (FP.ddiv (FP.l2d js) (FP.l2d jc))), .second, .val (.double (FP.i2d kq)), .second, .val (.double (fmaxD FP.dconst1 (fAdj (FP.i2d kq) (FP.ddiv (FP.l2d js) (FP.l2d jc)) dg dt))), .second, .unset] [(.int kq), (.long (fround (fmaxD FP.dconst1 (fAdj (FP.i2d kq) (FP.ddiv (FP.l2d js) (FP.l2d jc)) dg dt))))]))
  refine Go.st (fun _ k' => XS.i2l X33.here hx rfl (hb hby d6_87) rfl k') ?_
  show Go p e below s _ _ _ (T33.setTop (mkF m 88 #[.val (.ref ob), .val (.int kq), .val (.double (FP.ddiv (FP.l2d js) (FP.l2d jc))), .second, .val (.double (FP.i2d kq)), .second, .val (.double (fmaxD FP.dconst1 (fAdj (FP.i2d kq) (FP.ddiv (FP.l2d js) (FP.l2d jc)) dg dt))), .second, .unset] [(.long (kq.toInt64)), (.long (fround (fmaxD FP.dconst1 (fAdj (FP.i2d kq) (FP.ddiv (FP.l2d js) (FP.l2d jc)) dg dt))))]))
  obtain ⟨_, _, ⟨T34, L34, k34, n34⟩, -, X34, ⟨Lc34, hQ34, l34, y34, z34⟩, st34⟩ := Jvm.LawKit.callS X33 hx (y := (⟨"java/lang/Math", "min", "(JJ)J"⟩ : MethodName)) hown (mvT hZ (wdx hw 74 rfl)) (mvT hZ (wdx hw 75 rfl)) (mvT hZ (wdx hw 4 rfl)) (mvT hZ (wdx hw 76 rfl)) (by decide) (backOf (W := 0) (rm11 l Z a0 hw [] (fround (fmaxD FP.dconst1 (fAdj (FP.i2d kq) (FP.ddiv (FP.l2d js) (FP.l2d jc)) dg dt))) (kq.toInt64) h21 n0 O21 ) hZ (wdx hw 76 rfl) (wdx hw 4 rfl) (by decide) (by decide)) (g := (mkF m 88 #[.val (.ref ob), .val (.int kq), .val (.double (FP.ddiv (FP.l2d js) (FP.l2d jc))), .second, .val (.double (FP.i2d kq)), .second, .val (.double (fmaxD FP.dconst1 (fAdj (FP.i2d kq) (FP.ddiv (FP.l2d js) (FP.l2d jc)) dg dt))), .second, .unset] [(.long (kq.toInt64)), (.long (fround (fmaxD FP.dconst1 (fAdj (FP.i2d kq) (FP.ddiv (FP.l2d js) (FP.l2d jc)) dg dt))))])) rfl (by rw [hml]; rfl) (argsL := [(.long (fround (fmaxD FP.dconst1 (fAdj (FP.i2d kq) (FP.ddiv (FP.l2d js) (FP.l2d jc)) dg dt)))), (.long (kq.toInt64))]) (rest := []) (lenOf pd__JJ_J rfl) rfl (by show 2 * 0 + _ ≤ _; exact Nat.le_of_eq rfl) (hb hby d6_88) (fun _ _ => ⟨rfl, eq33, (by exact Nat.le_of_ble_eq_true rfl), (by exact Nat.le_of_ble_eq_true rfl)⟩)
  dsimp only [Pt.U, Pt.locs, Pt.cells, Pt.slots] at X34 l34 y34 z34 st34 hQ34
  subst l34 y34 z34
  obtain ⟨rfl, Nq34, eq34⟩ := hQ34
  have N34 := Fr.app N33 Nq34
  refine Go.st st34 ?_
  show Go p e below s _ _ _ (T34.setTop (mkF m 91 #[.val (.ref ob), .val (.int kq), .val (.double (FP.ddiv (FP.l2d js) (FP.l2d jc))), .second, .val (.double (FP.i2d kq)), .second, .val (.double (fmaxD FP.dconst1 (fAdj (FP.i2d kq) (FP.ddiv (FP.l2d js) (FP.l2d jc)) dg dt))), .second, .unset] [(.long (fminJ (fround (fmaxD FP.dconst1 (fAdj (FP.i2d kq) (FP.ddiv (FP.l2d js) (FP.l2d jc)) dg dt))) (kq.toInt64)))]))
  refine Go.st (fun _ k' => XS.l2i X34.here hx rfl (hb hby d6_91) rfl k') ?_
  show Go p e below s _ _ _ (T34.setTop (mkF m 92 #[.val (.ref ob), .val (.int kq), .val (.double (FP.ddiv (FP.l2d js) (FP.l2d jc))), .second, .val (.double (FP.i2d kq)), .second, .val (.double (fmaxD FP.dconst1 (fAdj (FP.i2d kq) (FP.ddiv (FP.l2d js) (FP.l2d jc)) dg dt))), .second, .unset] [(.int ((fminJ (fround (fmaxD FP.dconst1 (fAdj (FP.i2d kq) (FP.ddiv (FP.l2d js) (FP.l2d jc)) dg dt))) (kq.toInt64)).toInt32))]))
  refine Go.st (fun _ k' => XS.istore X34.here hx rfl (hb hby d6_92) rfl (l' := #[.val (.ref ob), .val (.int kq), .val (.double (FP.ddiv (FP.l2d js) (FP.l2d jc))), .second, .val (.double (FP.i2d kq)), .second, .val (.double (fmaxD FP.dconst1 (fAdj (FP.i2d kq) (FP.ddiv (FP.l2d js) (FP.l2d jc)) dg dt))), .second, .val (.int ((fminJ (fround (fmaxD FP.dconst1 (fAdj (FP.i2d kq) (FP.ddiv (FP.l2d js) (FP.l2d jc)) dg dt))) (kq.toInt64)).toInt32))]) rfl k') ?_
  show Go p e below s _ _ _ (T34.setTop (mkF m 94 #[.val (.ref ob), .val (.int kq), .val (.double (FP.ddiv (FP.l2d js) (FP.l2d jc))), .second, .val (.double (FP.i2d kq)), .second, .val (.double (fmaxD FP.dconst1 (fAdj (FP.i2d kq) (FP.ddiv (FP.l2d js) (FP.l2d jc)) dg dt))), .second, .val (.int ((fminJ (fround (fmaxD FP.dconst1 (fAdj (FP.i2d kq) (FP.ddiv (FP.l2d js) (FP.l2d jc)) dg dt))) (kq.toInt64)).toInt32))] []))
  refine Go.st (fun _ k' => XS.iload X34.here hx rfl (hb hby d6_94) rfl k') ?_
  show Go p e below s _ _ _ (T34.setTop (mkF m 96 #[.val (.ref ob), .val (.int kq), .val (.double (FP.ddiv (FP.l2d js) (FP.l2d jc))), .second, .val (.double (FP.i2d kq)), .second, .val (.double (fmaxD FP.dconst1 (fAdj (FP.i2d kq) (FP.ddiv (FP.l2d js) (FP.l2d jc)) dg dt))), .second, .val (.int ((fminJ (fround (fmaxD FP.dconst1 (fAdj (FP.i2d kq) (FP.ddiv (FP.l2d js) (FP.l2d jc)) dg dt))) (kq.toInt64)).toInt32))] [(.int ((fminJ (fround (fmaxD FP.dconst1 (fAdj (FP.i2d kq) (FP.ddiv (FP.l2d js) (FP.l2d jc)) dg dt))) (kq.toInt64)).toInt32))]))
  refine Go.st (fun _ k' => XS.iloadN X34.here hx rfl (hb hby d6_96) rfl k') ?_
  show Go p e below s _ _ _ (T34.setTop (mkF m 97 #[.val (.ref ob), .val (.int kq), .val (.double (FP.ddiv (FP.l2d js) (FP.l2d jc))), .second, .val (.double (FP.i2d kq)), .second, .val (.double (fmaxD FP.dconst1 (fAdj (FP.i2d kq) (FP.ddiv (FP.l2d js) (FP.l2d jc)) dg dt))), .second, .val (.int ((fminJ (fround (fmaxD FP.dconst1 (fAdj (FP.i2d kq) (FP.ddiv (FP.l2d js) (FP.l2d jc)) dg dt))) (kq.toInt64)).toInt32))] [(.int kq), (.int ((fminJ (fround (fmaxD FP.dconst1 (fAdj (FP.i2d kq) (FP.ddiv (FP.l2d js) (FP.l2d jc)) dg dt))) (kq.toInt64)).toInt32))]))
  by_cases hc35 : ((fminJ (fround (fmaxD FP.dconst1 (fAdj (FP.i2d kq) (FP.ddiv (FP.l2d js) (FP.l2d jc)) dg dt))) (kq.toInt64)).toInt32) < kq
  · refine Go.st (fun _ k' => XS.icmpNo X34.here hx rfl (hb hby d6_97) rfl (XT.ii_ge_f hc35) k') ?_
    show Go p e below s _ _ _ (T34.setTop (mkF m 100 #[.val (.ref ob), .val (.int kq), .val (.double (FP.ddiv (FP.l2d js) (FP.l2d jc))), .second, .val (.double (FP.i2d kq)), .second, .val (.double (fmaxD FP.dconst1 (fAdj (FP.i2d kq) (FP.ddiv (FP.l2d js) (FP.l2d jc)) dg dt))), .second, .val (.int ((fminJ (fround (fmaxD FP.dconst1 (fAdj (FP.i2d kq) (FP.ddiv (FP.l2d js) (FP.l2d jc)) dg dt))) (kq.toInt64)).toInt32))] []))
    refine Go.st (fun _ k' => XS.aloadN X34.here hx rfl (hb hby d6_100) rfl rfl k') ?_
    show Go p e below s _ _ _ (T34.setTop (mkF m 101 #[.val (.ref ob), .val (.int kq), .val (.double (FP.ddiv (FP.l2d js) (FP.l2d jc))), .second, .val (.double (FP.i2d kq)), .second, .val (.double (fmaxD FP.dconst1 (fAdj (FP.i2d kq) (FP.ddiv (FP.l2d js) (FP.l2d jc)) dg dt))), .second, .val (.int ((fminJ (fround (fmaxD FP.dconst1 (fAdj (FP.i2d kq) (FP.ddiv (FP.l2d js) (FP.l2d jc)) dg dt))) (kq.toInt64)).toInt32))] [(.ref ob)]))
    refine Go.st (fun _ k' => XS.dload X34.here hx rfl (hb hby d6_101) rfl k') ?_
    show Go p e below s _ _ _ (T34.setTop (mkF m 103 #[.val (.ref ob), .val (.int kq), .val (.double (FP.ddiv (FP.l2d js) (FP.l2d jc))), .second, .val (.double (FP.i2d kq)), .second, .val (.double (fmaxD FP.dconst1 (fAdj (FP.i2d kq) (FP.ddiv (FP.l2d js) (FP.l2d jc)) dg dt))), .second, .val (.int ((fminJ (fround (fmaxD FP.dconst1 (fAdj (FP.i2d kq) (FP.ddiv (FP.l2d js) (FP.l2d jc)) dg dt))) (kq.toInt64)).toInt32))] [(.double (fmaxD FP.dconst1 (fAdj (FP.i2d kq) (FP.ddiv (FP.l2d js) (FP.l2d jc)) dg dt))), (.ref ob)]))
    obtain ⟨T36, h36, X36, e36, W36, st36⟩ := putF X34 hx hZ hown (host := "") (Or.inl (wdx hw 17 rfl)) Via.refl eq34 f23 f22 (Or.inl (wdx hw 18 rfl)) (wdx hw 7 rfl) (ty := .double) (by decide) rfl rfl (g := (mkF m 103 #[.val (.ref ob), .val (.int kq), .val (.double (FP.ddiv (FP.l2d js) (FP.l2d jc))), .second, .val (.double (FP.i2d kq)), .second, .val (.double (fmaxD FP.dconst1 (fAdj (FP.i2d kq) (FP.ddiv (FP.l2d js) (FP.l2d jc)) dg dt))), .second, .val (.int ((fminJ (fround (fmaxD FP.dconst1 (fAdj (FP.i2d kq) (FP.ddiv (FP.l2d js) (FP.l2d jc)) dg dt))) (kq.toInt64)).toInt32))] [(.double (fmaxD FP.dconst1 (fAdj (FP.i2d kq) (FP.ddiv (FP.l2d js) (FP.l2d jc)) dg dt))), (.ref ob)])) rfl rfl (hb hby d6_103)
    refine Go.st st36 ?_
    have f37 : Exa Z h36 ob "com/example/spillway/spillway/runtime/LatencyController" := f22.wr W36
    have f38 : Fld Z h36 ob "com/example/spillway/spillway/runtime/LatencyController" "limit" "D" (.double (fmaxD FP.dconst1 (fAdj (FP.i2d kq) (FP.ddiv (FP.l2d js) (FP.l2d jc)) dg dt))) := f23.same W36
    have f39 : Fld Z h36 ob "com/example/spillway/spillway/runtime/LatencyController" "targetNanos" "D" (.double dt) := f24.other W36 (Or.inr (slot_ne (Or.inr (wdx hw 31 rfl)) (Or.inl (wdx hw 18 rfl)) (by decide) (t := .double) (t' := .double) (by decide) (by decide)))
    have f40 : Fld Z h36 ob "com/example/spillway/spillway/runtime/LatencyController" "gain" "D" (.double dg) := f25.other W36 (Or.inr (slot_ne (Or.inr (wdx hw 35 rfl)) (Or.inl (wdx hw 18 rfl)) (by decide) (t := .double) (t' := .double) (by decide) (by decide)))
    have f41 : Fld Z h36 ob "com/example/spillway/spillway/runtime/LatencyController" "latencySum" "J" (.long (0 : Int64)) := f26.other W36 (Or.inr (slot_ne (Or.inl (wdx hw 42 rfl)) (Or.inl (wdx hw 18 rfl)) (by decide) (t := .long) (t' := .double) (by decide) (by decide)))
    have f42 : Fld Z h36 ob "com/example/spillway/spillway/runtime/LatencyController" "latencyCount" "J" (.long (0 : Int64)) := f27.other W36 (Or.inr (slot_ne (Or.inl (wdx hw 44 rfl)) (Or.inl (wdx hw 18 rfl)) (by decide) (t := .long) (t' := .double) (by decide) (by decide)))
    have f43 : Fld Z h36 ob "com/example/spillway/spillway/runtime/LatencyController" "decisions" "J" (.long (jd + (1 : Int64))) := f28.other W36 (Or.inr (slot_ne (Or.inl (wdx hw 51 rfl)) (Or.inl (wdx hw 18 rfl)) (by decide) (t := .long) (t' := .double) (by decide) (by decide)))
    have O36 : Old Z n0 h36 := O21.wr W36 g_o
    have N36 := Fr.snoc X36 N34 g_o
    have K36 : Keep h0 h36 [ob] := K21.wr W36 (Or.inl (by simp))
    show Go p e below s _ _ _ (T36.setTop (mkF m 106 #[.val (.ref ob), .val (.int kq), .val (.double (FP.ddiv (FP.l2d js) (FP.l2d jc))), .second, .val (.double (FP.i2d kq)), .second, .val (.double (fmaxD FP.dconst1 (fAdj (FP.i2d kq) (FP.ddiv (FP.l2d js) (FP.l2d jc)) dg dt))), .second, .val (.int ((fminJ (fround (fmaxD FP.dconst1 (fAdj (FP.i2d kq) (FP.ddiv (FP.l2d js) (FP.l2d jc)) dg dt))) (kq.toInt64)).toInt32))] []))
    refine Go.st (fun _ k' => XS.goto X36.here hx rfl (pc0 := 106) (pc' := 116) rfl (hb hby d6_106) (by decide) (by decide) k') ?_
    show Go p e below s _ _ _ (T36.setTop (mkF m 116 #[.val (.ref ob), .val (.int kq), .val (.double (FP.ddiv (FP.l2d js) (FP.l2d jc))), .second, .val (.double (FP.i2d kq)), .second, .val (.double (fmaxD FP.dconst1 (fAdj (FP.i2d kq) (FP.ddiv (FP.l2d js) (FP.l2d jc)) dg dt))), .second, .val (.int ((fminJ (fround (fmaxD FP.dconst1 (fAdj (FP.i2d kq) (FP.ddiv (FP.l2d js) (FP.l2d jc)) dg dt))) (kq.toInt64)).toInt32))] []))
    refine Go.st (fun _ k' => XS.iload X36.here hx rfl (hb hby d6_116) rfl k') ?_
    show Go p e below s _ _ _ (T36.setTop (mkF m 118 #[.val (.ref ob), .val (.int kq), .val (.double (FP.ddiv (FP.l2d js) (FP.l2d jc))), .second, .val (.double (FP.i2d kq)), .second, .val (.double (fmaxD FP.dconst1 (fAdj (FP.i2d kq) (FP.ddiv (FP.l2d js) (FP.l2d jc)) dg dt))), .second, .val (.int ((fminJ (fround (fmaxD FP.dconst1 (fAdj (FP.i2d kq) (FP.ddiv (FP.l2d js) (FP.l2d jc)) dg dt))) (kq.toInt64)).toInt32))] [(.int ((fminJ (fround (fmaxD FP.dconst1 (fAdj (FP.i2d kq) (FP.ddiv (FP.l2d js) (FP.l2d jc)) dg dt))) (kq.toInt64)).toInt32))]))
    refine Go.ret X36 hx hlk (t := .int) Bd.returns rfl (Or.inl ⟨rfl, Or.inl rfl, _, rfl⟩) (hb hby d6_118) (by decide) (by decide) e36 ?_
    exact ⟨rfl, N36, K36⟩
  · refine Go.st (fun _ k' => XS.icmpYes X34.here hx rfl (pc0 := 97) (pc' := 109) rfl (hb hby d6_97) rfl (XT.ii_ge_t hc35) (by decide) (by decide) k') ?_
    show Go p e below s _ _ _ (T34.setTop (mkF m 109 #[.val (.ref ob), .val (.int kq), .val (.double (FP.ddiv (FP.l2d js) (FP.l2d jc))), .second, .val (.double (FP.i2d kq)), .second, .val (.double (fmaxD FP.dconst1 (fAdj (FP.i2d kq) (FP.ddiv (FP.l2d js) (FP.l2d jc)) dg dt))), .second, .val (.int ((fminJ (fround (fmaxD FP.dconst1 (fAdj (FP.i2d kq) (FP.ddiv (FP.l2d js) (FP.l2d jc)) dg dt))) (kq.toInt64)).toInt32))] []))
    refine Go.st (fun _ k' => XS.aloadN X34.here hx rfl (hb hby d6_109) rfl rfl k') ?_
    show Go p e below s _ _ _ (T34.setTop (mkF m 110 #[.val (.ref ob), .val (.int kq), .val (.double (FP.ddiv (FP.l2d js) (FP.l2d jc))), .second, .val (.double (FP.i2d kq)), .second, .val (.double (fmaxD FP.dconst1 (fAdj (FP.i2d kq) (FP.ddiv (FP.l2d js) (FP.l2d jc)) dg dt))), .second, .val (.int ((fminJ (fround (fmaxD FP.dconst1 (fAdj (FP.i2d kq) (FP.ddiv (FP.l2d js) (FP.l2d jc)) dg dt))) (kq.toInt64)).toInt32))] [(.ref ob)]))
    refine Go.st (fun _ k' => X34.ldc2DoubleC hx hown (mvT hZ (wdx hw 16 rfl)) (g := (mkF m 110 #[.val (.ref ob), .val (.int kq), .val (.double (FP.ddiv (FP.l2d js) (FP.l2d jc))), .second, .val (.double (FP.i2d kq)), .second, .val (.double (fmaxD FP.dconst1 (fAdj (FP.i2d kq) (FP.ddiv (FP.l2d js) (FP.l2d jc)) dg dt))), .second, .val (.int ((fminJ (fround (fmaxD FP.dconst1 (fAdj (FP.i2d kq) (FP.ddiv (FP.l2d js) (FP.l2d jc)) dg dt))) (kq.toInt64)).toInt32))] [(.ref ob)])) rfl (hb hby d6_110) _ k') ?_
    show Go p e below s _ _ _ (T34.setTop (mkF m 113 #[.val (.ref ob), .val (.int kq), .val (.double (FP.ddiv (FP.l2d js) (FP.l2d jc))), .second, .val (.double (FP.i2d kq)), .second, .val (.double (fmaxD FP.dconst1 (fAdj (FP.i2d kq) (FP.ddiv (FP.l2d js) (FP.l2d jc)) dg dt))), .second, .val (.int ((fminJ (fround (fmaxD FP.dconst1 (fAdj (FP.i2d kq) (FP.ddiv (FP.l2d js) (FP.l2d jc)) dg dt))) (kq.toInt64)).toInt32))] [(.double (9221120237041090560 : UInt64)), (.ref ob)]))
    obtain ⟨T44, h44, X44, e44, W44, st44⟩ := putF X34 hx hZ hown (host := "") (Or.inl (wdx hw 17 rfl)) Via.refl eq34 f23 f22 (Or.inl (wdx hw 18 rfl)) (wdx hw 7 rfl) (ty := .double) (by decide) rfl rfl (g := (mkF m 113 #[.val (.ref ob), .val (.int kq), .val (.double (FP.ddiv (FP.l2d js) (FP.l2d jc))), .second, .val (.double (FP.i2d kq)), .second, .val (.double (fmaxD FP.dconst1 (fAdj (FP.i2d kq) (FP.ddiv (FP.l2d js) (FP.l2d jc)) dg dt))), .second, .val (.int ((fminJ (fround (fmaxD FP.dconst1 (fAdj (FP.i2d kq) (FP.ddiv (FP.l2d js) (FP.l2d jc)) dg dt))) (kq.toInt64)).toInt32))] [(.double (9221120237041090560 : UInt64)), (.ref ob)])) rfl rfl (hb hby d6_113)
    refine Go.st st44 ?_
    have f45 : Exa Z h44 ob "com/example/spillway/spillway/runtime/LatencyController" := f22.wr W44
    have f46 : Fld Z h44 ob "com/example/spillway/spillway/runtime/LatencyController" "limit" "D" (.double (9221120237041090560 : UInt64)) := f23.same W44
    have f47 : Fld Z h44 ob "com/example/spillway/spillway/runtime/LatencyController" "targetNanos" "D" (.double dt) := f24.other W44 (Or.inr (slot_ne (Or.inr (wdx hw 31 rfl)) (Or.inl (wdx hw 18 rfl)) (by decide) (t := .double) (t' := .double) (by decide) (by decide)))
    have f48 : Fld Z h44 ob "com/example/spillway/spillway/runtime/LatencyController" "gain" "D" (.double dg) := f25.other W44 (Or.inr (slot_ne (Or.inr (wdx hw 35 rfl)) (Or.inl (wdx hw 18 rfl)) (by decide) (t := .double) (t' := .double) (by decide) (by decide)))
    have f49 : Fld Z h44 ob "com/example/spillway/spillway/runtime/LatencyController" "latencySum" "J" (.long (0 : Int64)) := f26.other W44 (Or.inr (slot_ne (Or.inl (wdx hw 42 rfl)) (Or.inl (wdx hw 18 rfl)) (by decide) (t := .long) (t' := .double) (by decide) (by decide)))
    have f50 : Fld Z h44 ob "com/example/spillway/spillway/runtime/LatencyController" "latencyCount" "J" (.long (0 : Int64)) := f27.other W44 (Or.inr (slot_ne (Or.inl (wdx hw 44 rfl)) (Or.inl (wdx hw 18 rfl)) (by decide) (t := .long) (t' := .double) (by decide) (by decide)))
    have f51 : Fld Z h44 ob "com/example/spillway/spillway/runtime/LatencyController" "decisions" "J" (.long (jd + (1 : Int64))) := f28.other W44 (Or.inr (slot_ne (Or.inl (wdx hw 51 rfl)) (Or.inl (wdx hw 18 rfl)) (by decide) (t := .long) (t' := .double) (by decide) (by decide)))
    have O44 : Old Z n0 h44 := O21.wr W44 g_o
    have N44 := Fr.snoc X44 N34 g_o
    have K44 : Keep h0 h44 [ob] := K21.wr W44 (Or.inl (by simp))
    show Go p e below s _ _ _ (T44.setTop (mkF m 116 #[.val (.ref ob), .val (.int kq), .val (.double (FP.ddiv (FP.l2d js) (FP.l2d jc))), .second, .val (.double (FP.i2d kq)), .second, .val (.double (fmaxD FP.dconst1 (fAdj (FP.i2d kq) (FP.ddiv (FP.l2d js) (FP.l2d jc)) dg dt))), .second, .val (.int ((fminJ (fround (fmaxD FP.dconst1 (fAdj (FP.i2d kq) (FP.ddiv (FP.l2d js) (FP.l2d jc)) dg dt))) (kq.toInt64)).toInt32))] []))
    refine Go.st (fun _ k' => XS.iload X44.here hx rfl (hb hby d6_116) rfl k') ?_
    show Go p e below s _ _ _ (T44.setTop (mkF m 118 #[.val (.ref ob), .val (.int kq), .val (.double (FP.ddiv (FP.l2d js) (FP.l2d jc))), .second, .val (.double (FP.i2d kq)), .second, .val (.double (fmaxD FP.dconst1 (fAdj (FP.i2d kq) (FP.ddiv (FP.l2d js) (FP.l2d jc)) dg dt))), .second, .val (.int ((fminJ (fround (fmaxD FP.dconst1 (fAdj (FP.i2d kq) (FP.ddiv (FP.l2d js) (FP.l2d jc)) dg dt))) (kq.toInt64)).toInt32))] [(.int ((fminJ (fround (fmaxD FP.dconst1 (fAdj (FP.i2d kq) (FP.ddiv (FP.l2d js) (FP.l2d jc)) dg dt))) (kq.toInt64)).toInt32))]))
    refine Go.ret X44 hx hlk (t := .int) Bd.returns rfl (Or.inl ⟨rfl, Or.inl rfl, _, rfl⟩) (hb hby d6_118) (by decide) (by decide) e44 ?_
    exact ⟨rfl, N44, K44⟩
theorem own_kq (u : Int32) : 1 ≤ (fmaxI (1 : Int32) u).toInt := by
  unfold fmaxI
  have e : (1 : Int32).toInt = 1 := rfl
  split
  · rename_i h; rw [Int32.lt_iff_toInt_lt] at h; omega
  · decide
theorem own_c4 (u : Int32) : u &&& (3 : Int32) = 0 ∨ u &&& (3 : Int32) = 1 ∨ u &&& (3 : Int32) = 2 ∨ u &&& (3 : Int32) = 3 := by
  have h := c_mask u 3 2 (by decide) (by decide)
  generalize u &&& (3 : Int32) = y at *
  have : y.toInt = 0 ∨ y.toInt = 1 ∨ y.toInt = 2 ∨ y.toInt = 3 := by omega
  rcases this with h | h | h | h
  · exact Or.inl (Int32.toInt_inj.mp h)
  · exact Or.inr (Or.inl (Int32.toInt_inj.mp h))
  · exact Or.inr (Or.inr (Or.inl (Int32.toInt_inj.mp h)))
  · exact Or.inr (Or.inr (Or.inr (Int32.toInt_inj.mp h)))
theorem own_ms {s : State} {args : Array Value} {C n d K : String} (hx : (Jvm.Cond.exactly (Term.static C n d) K).value args s none s [] = some true) (hi : (Jvm.Cond.initializedFor C n d).before args s = true) :
    ∃ a, (Term.static C n d).eval args s none [] s = some (.ref a) ∧ Sta s s.heap C n d (.ref a) ∧ Exa s s.heap a K := by
  obtain ⟨a, e1⟩ := exa_v hx
  exact ⟨a, e1, Sta.start e1 (Or.inl hi), Exa.start e1 hx⟩
theorem own_el {s : State} {args : Array Value} {t : Term} {a : Addr} {K f d : String} {z : Int64} (ev : t.eval args s none [] s = some (.ref a)) (h : (Jvm.Cond.eq (Term.field t K f d) (Term.long z)).value args s none s [] = some true) : Fld s s.heap a K f d (.long z) :=
  Fld.start ((fld_at ev).symm.trans (eqv_l rfl h))
theorem pd__II_I : parseMethodDescriptor "(II)I" = some ⟨[.int, .int], some .int⟩ := by decide +kernel
theorem pd__JJD_V : parseMethodDescriptor "(JJD)V" = some ⟨[.long, .long, .double], none⟩ := by decide +kernel
theorem pd__I_I : parseMethodDescriptor "(I)I" = some ⟨[.int], some .int⟩ := by decide +kernel
theorem pd__J_V : parseMethodDescriptor "(J)V" = some ⟨[.long], none⟩ := by decide +kernel
theorem pn_com_example_spillway_spillway_runtime_LatencyControllerProcessedPinLaw : plainName "com/example/spillway/spillway/runtime/LatencyControllerProcessedPinLaw" = true := by first | (simp [plainName, overriddenIn]; done) | decide +kernel
theorem ef_rm0 (m : MethodId) (jx : Int64) (jy : Int64) (jz : Int64) (kr : Int32) (kf : Int32) : entryFrame m #[(.long jx), (.long jy), (.long jz), (.int kr), (.int kf)] maxLocals = mkF m 0 #[.val (.long jx), .second, .val (.long jy), .second, .val (.long jz), .second, .val (.int kr), .val (.int kf), .unset, .unset, .unset, .unset, .unset, .unset, .unset, .unset, .unset, .unset, .unset, .unset, .unset, .unset, .unset, .unset, .unset, .unset, .unset, .unset, .unset, .unset, .unset, .unset] [] := by first | (simp [entryFrame, mkF, argsToLocals, Value.category, maxLocals]; done) | rfl
def Q0 (Z : State) (jx : Int64) (jy : Int64) (jz : Int64) (kr : Int32) (kf : Int32) (a_ms : Addr) (h0 : Heap) (n0 : Nat) (v : Option Value) (h : Heap) (L : List Loc) : Prop := v = some (.int (1 : Int32)) ∧ Fr n0 L ∧ True
set_option maxRecDepth 65536 in
set_option maxHeartbeats 40000000 in
theorem rm0 (l : Launch) (Z : State) (a0 : Array Value) (hw : ∀ d ∈ tables_1, d.before a0 Z = true) (ws : List Jvm.Cond) (jx : Int64) (jy : Int64) (jz : Int64) (kr : Int32) (kf : Int32) (a_ms : Addr) (h0 : Heap) (n0 : Nat) (O0 : Old Z n0 h0) (E_ms : Exa Z h0 a_ms "java/util/concurrent/TimeUnit") (Fs : Fld Z h0 a_ms "java/util/concurrent/TimeUnit" "scale" "J" (.long (1000000 : Int64))) (Fm : Fld Z h0 a_ms "java/util/concurrent/TimeUnit" "maxNanos" "J" (.long (9223372036854 : Int64))) (S_ms : Sta Z Z.heap "java/util/concurrent/TimeUnit" "MILLISECONDS" "Ljava/util/concurrent/TimeUnit;" (.ref a_ms)) :
    MetFree l x (head1 (Jvm.Cond.code x code maxLocals ret :: ws) room_1) (fun ay U => ay = #[(.long jx), (.long jy), (.long jz), (.int kr), (.int kf)] ∧ Z.Warmed39 U.vm ∧ U.heap = h0) (fun _ _ _ _ _ => True) (fun _ U o U' => ∃ v L, o = .returned v ∧ Q0 Z jx jy jz kr kf a_ms h0 n0 v U'.heap L ∧ FrameEnd U o U' L room_1.cells room_1.slots) := by
  refine MetFree.of_bodySF (plainFor_of_name pn_com_example_spillway_spillway_runtime_LatencyControllerProcessedPinLaw) hisR ?_
  intro p e s m args below meth c s₁ Bd hml0 hP hK
  obtain ⟨rfl, hZ, hh⟩ := hP
  have hx := Bd.exec
  have hby := Bd.bytes
  have hlk : meth.locks = false := BodyLoose.notSynchronized Bd
  have hml : c.maxLocals = 32 := hml0
  have hown : s.vm.findClass "com/example/spillway/spillway/runtime/LatencyControllerProcessedPinLaw" = some m.cls := findClass_of_methodNamed Bd.named
  have hnm := (name_of_methodNamed Bd.named Bd.method).1
  have X0 : Stand p l e room_1 s m #[(.long jx), (.long jy), (.long jz), (.int kr), (.int kf)] below meth c s₁ [] 0 0 := Stand.of_body Bd
  have e0 : s₁.heap = h0 := by rw [← hh, Bd.state]; rfl
  have N0 := Fr.nil n0
  suffices hgo : Go p e below s 16 128 (Q0 Z jx jy jz kr kf a_ms h0 n0) (s₁.setTop (mkF m 0 #[.val (.long jx), .second, .val (.long jy), .second, .val (.long jz), .second, .val (.int kr), .val (.int kf), .unset, .unset, .unset, .unset, .unset, .unset, .unset, .unset, .unset, .unset, .unset, .unset, .unset, .unset, .unset, .unset, .unset, .unset, .unset, .unset, .unset, .unset, .unset, .unset] [])) by
    obtain ⟨t, o, h1, h2⟩ := hgo; exact ⟨t, o, castTop (ef_rm0 m jx jy jz kr kf) h1, h2⟩
  show Go p e below s _ _ _ (s₁.setTop (mkF m 0 #[.val (.long jx), .second, .val (.long jy), .second, .val (.long jz), .second, .val (.int kr), .val (.int kf), .unset, .unset, .unset, .unset, .unset, .unset, .unset, .unset, .unset, .unset, .unset, .unset, .unset, .unset, .unset, .unset, .unset, .unset, .unset, .unset, .unset, .unset, .unset, .unset] []))
  refine Go.st (fun _ k' => XS.iload X0.here hx rfl (hb hby at_0) rfl k') ?_
  show Go p e below s _ _ _ (s₁.setTop (mkF m 2 #[.val (.long jx), .second, .val (.long jy), .second, .val (.long jz), .second, .val (.int kr), .val (.int kf), .unset, .unset, .unset, .unset, .unset, .unset, .unset, .unset, .unset, .unset, .unset, .unset, .unset, .unset, .unset, .unset, .unset, .unset, .unset, .unset, .unset, .unset, .unset, .unset] [(.int kf)]))
  refine Go.st (fun _ k' => XS.iconst X0.here hx rfl (hb hby at_2) k') ?_
  show Go p e below s _ _ _ (s₁.setTop (mkF m 3 #[.val (.long jx), .second, .val (.long jy), .second, .val (.long jz), .second, .val (.int kr), .val (.int kf), .unset, .unset, .unset, .unset, .unset, .unset, .unset, .unset, .unset, .unset, .unset, .unset, .unset, .unset, .unset, .unset, .unset, .unset, .unset, .unset, .unset, .unset, .unset, .unset] [(.int (3 : Int32)), (.int kf)]))
  refine Go.st (fun _ k' => XS.iand X0.here hx rfl (hb hby at_3) rfl k') ?_
  show Go p e below s _ _ _ (s₁.setTop (mkF m 4 #[.val (.long jx), .second, .val (.long jy), .second, .val (.long jz), .second, .val (.int kr), .val (.int kf), .unset, .unset, .unset, .unset, .unset, .unset, .unset, .unset, .unset, .unset, .unset, .unset, .unset, .unset, .unset, .unset, .unset, .unset, .unset, .unset, .unset, .unset, .unset, .unset] [(.int (kf &&& (3 : Int32)))]))
  refine Go.st (fun _ k' => XS.istore X0.here hx rfl (hb hby at_4) rfl (l' := #[.val (.long jx), .second, .val (.long jy), .second, .val (.long jz), .second, .val (.int kr), .val (.int kf), .val (.int (kf &&& (3 : Int32))), .unset, .unset, .unset, .unset, .unset, .unset, .unset, .unset, .unset, .unset, .unset, .unset, .unset, .unset, .unset, .unset, .unset, .unset, .unset, .unset, .unset, .unset, .unset]) rfl k') ?_
  show Go p e below s _ _ _ (s₁.setTop (mkF m 6 #[.val (.long jx), .second, .val (.long jy), .second, .val (.long jz), .second, .val (.int kr), .val (.int kf), .val (.int (kf &&& (3 : Int32))), .unset, .unset, .unset, .unset, .unset, .unset, .unset, .unset, .unset, .unset, .unset, .unset, .unset, .unset, .unset, .unset, .unset, .unset, .unset, .unset, .unset, .unset, .unset] []))
  refine Go.st (fun _ k' => XS.lconst X0.here hx rfl (hb hby at_6) k') ?_
  show Go p e below s _ _ _ (s₁.setTop (mkF m 7 #[.val (.long jx), .second, .val (.long jy), .second, .val (.long jz), .second, .val (.int kr), .val (.int kf), .val (.int (kf &&& (3 : Int32))), .unset, .unset, .unset, .unset, .unset, .unset, .unset, .unset, .unset, .unset, .unset, .unset, .unset, .unset, .unset, .unset, .unset, .unset, .unset, .unset, .unset, .unset, .unset] [(.long (1 : Int64))]))
  refine Go.st (fun _ k' => XS.iload X0.here hx rfl (hb hby at_7) rfl k') ?_
  show Go p e below s _ _ _ (s₁.setTop (mkF m 9 #[.val (.long jx), .second, .val (.long jy), .second, .val (.long jz), .second, .val (.int kr), .val (.int kf), .val (.int (kf &&& (3 : Int32))), .unset, .unset, .unset, .unset, .unset, .unset, .unset, .unset, .unset, .unset, .unset, .unset, .unset, .unset, .unset, .unset, .unset, .unset, .unset, .unset, .unset, .unset, .unset] [(.int kf), (.long (1 : Int64))]))
  refine Go.st (fun _ k' => XS.iconst X0.here hx rfl (hb hby at_9) k') ?_
  show Go p e below s _ _ _ (s₁.setTop (mkF m 10 #[.val (.long jx), .second, .val (.long jy), .second, .val (.long jz), .second, .val (.int kr), .val (.int kf), .val (.int (kf &&& (3 : Int32))), .unset, .unset, .unset, .unset, .unset, .unset, .unset, .unset, .unset, .unset, .unset, .unset, .unset, .unset, .unset, .unset, .unset, .unset, .unset, .unset, .unset, .unset, .unset] [(.int (2 : Int32)), (.int kf), (.long (1 : Int64))]))
  refine Go.st (fun _ k' => XS.iushr X0.here hx rfl (hb hby at_10) rfl k') ?_
  show Go p e below s _ _ _ (s₁.setTop (mkF m 11 #[.val (.long jx), .second, .val (.long jy), .second, .val (.long jz), .second, .val (.int kr), .val (.int kf), .val (.int (kf &&& (3 : Int32))), .unset, .unset, .unset, .unset, .unset, .unset, .unset, .unset, .unset, .unset, .unset, .unset, .unset, .unset, .unset, .unset, .unset, .unset, .unset, .unset, .unset, .unset, .unset] [(.int ((kf.toUInt32 >>> ((2 : Int32) &&& 31).toUInt32).toInt32)), (.long (1 : Int64))]))
  refine Go.st (fun _ k' => XS.bipush X0.here hx rfl (hb hby at_11) k') ?_
  show Go p e below s _ _ _ (s₁.setTop (mkF m 13 #[.val (.long jx), .second, .val (.long jy), .second, .val (.long jz), .second, .val (.int kr), .val (.int kf), .val (.int (kf &&& (3 : Int32))), .unset, .unset, .unset, .unset, .unset, .unset, .unset, .unset, .unset, .unset, .unset, .unset, .unset, .unset, .unset, .unset, .unset, .unset, .unset, .unset, .unset, .unset, .unset] [(.int (7 : Int32)), (.int ((kf.toUInt32 >>> ((2 : Int32) &&& 31).toUInt32).toInt32)), (.long (1 : Int64))]))
  refine Go.st (fun _ k' => XS.iand X0.here hx rfl (hb hby at_13) rfl k') ?_
  show Go p e below s _ _ _ (s₁.setTop (mkF m 14 #[.val (.long jx), .second, .val (.long jy), .second, .val (.long jz), .second, .val (.int kr), .val (.int kf), .val (.int (kf &&& (3 : Int32))), .unset, .unset, .unset, .unset, .unset, .unset, .unset, .unset, .unset, .unset, .unset, .unset, .unset, .unset, .unset, .unset, .unset, .unset, .unset, .unset, .unset, .unset, .unset] [(.int (((kf.toUInt32 >>> ((2 : Int32) &&& 31).toUInt32).toInt32) &&& (7 : Int32))), (.long (1 : Int64))]))
  refine Go.st (fun _ k' => XS.i2l X0.here hx rfl (hb hby at_14) rfl k') ?_
  show Go p e below s _ _ _ (s₁.setTop (mkF m 15 #[.val (.long jx), .second, .val (.long jy), .second, .val (.long jz), .second, .val (.int kr), .val (.int kf), .val (.int (kf &&& (3 : Int32))), .unset, .unset, .unset, .unset, .unset, .unset, .unset, .unset, .unset, .unset, .unset, .unset, .unset, .unset, .unset, .unset, .unset, .unset, .unset, .unset, .unset, .unset, .unset] [(.long ((((kf.toUInt32 >>> ((2 : Int32) &&& 31).toUInt32).toInt32) &&& (7 : Int32)).toInt64)), (.long (1 : Int64))]))
  refine Go.st (fun _ k' => XS.ladd X0.here hx rfl (hb hby at_15) rfl k') ?_
  show Go p e below s _ _ _ (s₁.setTop (mkF m 16 #[.val (.long jx), .second, .val (.long jy), .second, .val (.long jz), .second, .val (.int kr), .val (.int kf), .val (.int (kf &&& (3 : Int32))), .unset, .unset, .unset, .unset, .unset, .unset, .unset, .unset, .unset, .unset, .unset, .unset, .unset, .unset, .unset, .unset, .unset, .unset, .unset, .unset, .unset, .unset, .unset] [(.long ((1 : Int64) + ((((kf.toUInt32 >>> ((2 : Int32) &&& 31).toUInt32).toInt32) &&& (7 : Int32)).toInt64)))]))
  refine Go.st (fun _ k' => XS.lstore X0.here hx rfl (hb hby at_16) rfl (l' := #[.val (.long jx), .second, .val (.long jy), .second, .val (.long jz), .second, .val (.int kr), .val (.int kf), .val (.int (kf &&& (3 : Int32))), .val (.long ((1 : Int64) + ((((kf.toUInt32 >>> ((2 : Int32) &&& 31).toUInt32).toInt32) &&& (7 : Int32)).toInt64))), .second, .unset, .unset, .unset, .unset, .unset, .unset, .unset, .unset, .unset, .unset, .unset, .unset, .unset, .unset, .unset, .unset, .unset, .unset, .unset, .unset, .unset]) rfl k') ?_
  show Go p e below s _ _ _ (s₁.setTop (mkF m 18 #[.val (.long jx), .second, .val (.long jy), .second, .val (.long jz), .second, .val (.int kr), .val (.int kf), .val (.int (kf &&& (3 : Int32))), .val (.long ((1 : Int64) + ((((kf.toUInt32 >>> ((2 : Int32) &&& 31).toUInt32).toInt32) &&& (7 : Int32)).toInt64))), .second, .unset, .unset, .unset, .unset, .unset, .unset, .unset, .unset, .unset, .unset, .unset, .unset, .unset, .unset, .unset, .unset, .unset, .unset, .unset, .unset, .unset] []))
  obtain ⟨jt, hd_jt⟩ : ∃ z, z = ((1 : Int64) + ((((kf.toUInt32 >>> ((2 : Int32) &&& 31).toUInt32).toInt32) &&& (7 : Int32)).toInt64)) := ⟨_, rfl⟩
  rw [← hd_jt]
  have r_jt : 1 ≤ jt.toInt ∧ jt.toInt ≤ 8 := by rw [hd_jt]; exact own_tm _
  show Go p e below s _ _ _ (s₁.setTop (mkF m 18 #[.val (.long jx), .second, .val (.long jy), .second, .val (.long jz), .second, .val (.int kr), .val (.int kf), .val (.int (kf &&& (3 : Int32))), .val (.long jt), .second, .unset, .unset, .unset, .unset, .unset, .unset, .unset, .unset, .unset, .unset, .unset, .unset, .unset, .unset, .unset, .unset, .unset, .unset, .unset, .unset, .unset] []))
  have J1 : ∀ (jm : Int64) (r_jm : jm = (16777215 : Int64) ∨ jm = (1099511627775 : Int64)), Go p e below s 16 128 (Q0 Z jx jy jz kr kf a_ms h0 n0) (s₁.setTop (mkF m 35 #[.val (.long jx), .second, .val (.long jy), .second, .val (.long jz), .second, .val (.int kr), .val (.int kf), .val (.int (kf &&& (3 : Int32))), .val (.long jt), .second, .unset, .unset, .unset, .unset, .unset, .unset, .unset, .unset, .unset, .unset, .unset, .unset, .unset, .unset, .unset, .unset, .unset, .unset, .unset, .unset, .unset] [(.long jm)])) := by
    intro jm r_jm
    show Go p e below s _ _ _ (s₁.setTop (mkF m 35 #[.val (.long jx), .second, .val (.long jy), .second, .val (.long jz), .second, .val (.int kr), .val (.int kf), .val (.int (kf &&& (3 : Int32))), .val (.long jt), .second, .unset, .unset, .unset, .unset, .unset, .unset, .unset, .unset, .unset, .unset, .unset, .unset, .unset, .unset, .unset, .unset, .unset, .unset, .unset, .unset, .unset] [(.long jm)]))
    refine Go.st (fun _ k' => XS.lstore X0.here hx rfl (hb hby at_35) rfl (l' := #[.val (.long jx), .second, .val (.long jy), .second, .val (.long jz), .second, .val (.int kr), .val (.int kf), .val (.int (kf &&& (3 : Int32))), .val (.long jt), .second, .val (.long jm), .second, .unset, .unset, .unset, .unset, .unset, .unset, .unset, .unset, .unset, .unset, .unset, .unset, .unset, .unset, .unset, .unset, .unset, .unset, .unset]) rfl k') ?_
    show Go p e below s _ _ _ (s₁.setTop (mkF m 37 #[.val (.long jx), .second, .val (.long jy), .second, .val (.long jz), .second, .val (.int kr), .val (.int kf), .val (.int (kf &&& (3 : Int32))), .val (.long jt), .second, .val (.long jm), .second, .unset, .unset, .unset, .unset, .unset, .unset, .unset, .unset, .unset, .unset, .unset, .unset, .unset, .unset, .unset, .unset, .unset, .unset, .unset] []))
    refine Go.st (fun _ k' => XS.lloadN X0.here hx rfl (hb hby at_37) rfl k') ?_
    show Go p e below s _ _ _ (s₁.setTop (mkF m 38 #[.val (.long jx), .second, .val (.long jy), .second, .val (.long jz), .second, .val (.int kr), .val (.int kf), .val (.int (kf &&& (3 : Int32))), .val (.long jt), .second, .val (.long jm), .second, .unset, .unset, .unset, .unset, .unset, .unset, .unset, .unset, .unset, .unset, .unset, .unset, .unset, .unset, .unset, .unset, .unset, .unset, .unset] [(.long jx)]))
    refine Go.st (fun _ k' => XS.lload X0.here hx rfl (hb hby at_38) rfl k') ?_
    show Go p e below s _ _ _ (s₁.setTop (mkF m 40 #[.val (.long jx), .second, .val (.long jy), .second, .val (.long jz), .second, .val (.int kr), .val (.int kf), .val (.int (kf &&& (3 : Int32))), .val (.long jt), .second, .val (.long jm), .second, .unset, .unset, .unset, .unset, .unset, .unset, .unset, .unset, .unset, .unset, .unset, .unset, .unset, .unset, .unset, .unset, .unset, .unset, .unset] [(.long jm), (.long jx)]))
    refine Go.st (fun _ k' => XS.land X0.here hx rfl (hb hby at_40) rfl k') ?_
    show Go p e below s _ _ _ (s₁.setTop (mkF m 41 #[.val (.long jx), .second, .val (.long jy), .second, .val (.long jz), .second, .val (.int kr), .val (.int kf), .val (.int (kf &&& (3 : Int32))), .val (.long jt), .second, .val (.long jm), .second, .unset, .unset, .unset, .unset, .unset, .unset, .unset, .unset, .unset, .unset, .unset, .unset, .unset, .unset, .unset, .unset, .unset, .unset, .unset] [(.long (jx &&& jm))]))
    refine Go.st (fun _ k' => XS.lstore X0.here hx rfl (hb hby at_41) rfl (l' := #[.val (.long jx), .second, .val (.long jy), .second, .val (.long jz), .second, .val (.int kr), .val (.int kf), .val (.int (kf &&& (3 : Int32))), .val (.long jt), .second, .val (.long jm), .second, .val (.long (jx &&& jm)), .second, .unset, .unset, .unset, .unset, .unset, .unset, .unset, .unset, .unset, .unset, .unset, .unset, .unset, .unset, .unset, .unset, .unset]) rfl k') ?_
    show Go p e below s _ _ _ (s₁.setTop (mkF m 43 #[.val (.long jx), .second, .val (.long jy), .second, .val (.long jz), .second, .val (.int kr), .val (.int kf), .val (.int (kf &&& (3 : Int32))), .val (.long jt), .second, .val (.long jm), .second, .val (.long (jx &&& jm)), .second, .unset, .unset, .unset, .unset, .unset, .unset, .unset, .unset, .unset, .unset, .unset, .unset, .unset, .unset, .unset, .unset, .unset] []))
    refine Go.st (fun _ k' => XS.lloadN X0.here hx rfl (hb hby at_43) rfl k') ?_
    show Go p e below s _ _ _ (s₁.setTop (mkF m 44 #[.val (.long jx), .second, .val (.long jy), .second, .val (.long jz), .second, .val (.int kr), .val (.int kf), .val (.int (kf &&& (3 : Int32))), .val (.long jt), .second, .val (.long jm), .second, .val (.long (jx &&& jm)), .second, .unset, .unset, .unset, .unset, .unset, .unset, .unset, .unset, .unset, .unset, .unset, .unset, .unset, .unset, .unset, .unset, .unset] [(.long jy)]))
    refine Go.st (fun _ k' => XS.lload X0.here hx rfl (hb hby at_44) rfl k') ?_
    show Go p e below s _ _ _ (s₁.setTop (mkF m 46 #[.val (.long jx), .second, .val (.long jy), .second, .val (.long jz), .second, .val (.int kr), .val (.int kf), .val (.int (kf &&& (3 : Int32))), .val (.long jt), .second, .val (.long jm), .second, .val (.long (jx &&& jm)), .second, .unset, .unset, .unset, .unset, .unset, .unset, .unset, .unset, .unset, .unset, .unset, .unset, .unset, .unset, .unset, .unset, .unset] [(.long jm), (.long jy)]))
    refine Go.st (fun _ k' => XS.land X0.here hx rfl (hb hby at_46) rfl k') ?_
    show Go p e below s _ _ _ (s₁.setTop (mkF m 47 #[.val (.long jx), .second, .val (.long jy), .second, .val (.long jz), .second, .val (.int kr), .val (.int kf), .val (.int (kf &&& (3 : Int32))), .val (.long jt), .second, .val (.long jm), .second, .val (.long (jx &&& jm)), .second, .unset, .unset, .unset, .unset, .unset, .unset, .unset, .unset, .unset, .unset, .unset, .unset, .unset, .unset, .unset, .unset, .unset] [(.long (jy &&& jm))]))
    refine Go.st (fun _ k' => XS.lstore X0.here hx rfl (hb hby at_47) rfl (l' := #[.val (.long jx), .second, .val (.long jy), .second, .val (.long jz), .second, .val (.int kr), .val (.int kf), .val (.int (kf &&& (3 : Int32))), .val (.long jt), .second, .val (.long jm), .second, .val (.long (jx &&& jm)), .second, .val (.long (jy &&& jm)), .second, .unset, .unset, .unset, .unset, .unset, .unset, .unset, .unset, .unset, .unset, .unset, .unset, .unset, .unset, .unset]) rfl k') ?_
    show Go p e below s _ _ _ (s₁.setTop (mkF m 49 #[.val (.long jx), .second, .val (.long jy), .second, .val (.long jz), .second, .val (.int kr), .val (.int kf), .val (.int (kf &&& (3 : Int32))), .val (.long jt), .second, .val (.long jm), .second, .val (.long (jx &&& jm)), .second, .val (.long (jy &&& jm)), .second, .unset, .unset, .unset, .unset, .unset, .unset, .unset, .unset, .unset, .unset, .unset, .unset, .unset, .unset, .unset] []))
    refine Go.st (fun _ k' => XS.lload X0.here hx rfl (hb hby at_49) rfl k') ?_
    show Go p e below s _ _ _ (s₁.setTop (mkF m 51 #[.val (.long jx), .second, .val (.long jy), .second, .val (.long jz), .second, .val (.int kr), .val (.int kf), .val (.int (kf &&& (3 : Int32))), .val (.long jt), .second, .val (.long jm), .second, .val (.long (jx &&& jm)), .second, .val (.long (jy &&& jm)), .second, .unset, .unset, .unset, .unset, .unset, .unset, .unset, .unset, .unset, .unset, .unset, .unset, .unset, .unset, .unset] [(.long jz)]))
    refine Go.st (fun _ k' => XS.lload X0.here hx rfl (hb hby at_51) rfl k') ?_
    show Go p e below s _ _ _ (s₁.setTop (mkF m 53 #[.val (.long jx), .second, .val (.long jy), .second, .val (.long jz), .second, .val (.int kr), .val (.int kf), .val (.int (kf &&& (3 : Int32))), .val (.long jt), .second, .val (.long jm), .second, .val (.long (jx &&& jm)), .second, .val (.long (jy &&& jm)), .second, .unset, .unset, .unset, .unset, .unset, .unset, .unset, .unset, .unset, .unset, .unset, .unset, .unset, .unset, .unset] [(.long jm), (.long jz)]))
    refine Go.st (fun _ k' => XS.land X0.here hx rfl (hb hby at_53) rfl k') ?_
    show Go p e below s _ _ _ (s₁.setTop (mkF m 54 #[.val (.long jx), .second, .val (.long jy), .second, .val (.long jz), .second, .val (.int kr), .val (.int kf), .val (.int (kf &&& (3 : Int32))), .val (.long jt), .second, .val (.long jm), .second, .val (.long (jx &&& jm)), .second, .val (.long (jy &&& jm)), .second, .unset, .unset, .unset, .unset, .unset, .unset, .unset, .unset, .unset, .unset, .unset, .unset, .unset, .unset, .unset] [(.long (jz &&& jm))]))
    refine Go.st (fun _ k' => XS.lstore X0.here hx rfl (hb hby at_54) rfl (l' := #[.val (.long jx), .second, .val (.long jy), .second, .val (.long jz), .second, .val (.int kr), .val (.int kf), .val (.int (kf &&& (3 : Int32))), .val (.long jt), .second, .val (.long jm), .second, .val (.long (jx &&& jm)), .second, .val (.long (jy &&& jm)), .second, .val (.long (jz &&& jm)), .second, .unset, .unset, .unset, .unset, .unset, .unset, .unset, .unset, .unset, .unset, .unset, .unset, .unset]) rfl k') ?_
    show Go p e below s _ _ _ (s₁.setTop (mkF m 56 #[.val (.long jx), .second, .val (.long jy), .second, .val (.long jz), .second, .val (.int kr), .val (.int kf), .val (.int (kf &&& (3 : Int32))), .val (.long jt), .second, .val (.long jm), .second, .val (.long (jx &&& jm)), .second, .val (.long (jy &&& jm)), .second, .val (.long (jz &&& jm)), .second, .unset, .unset, .unset, .unset, .unset, .unset, .unset, .unset, .unset, .unset, .unset, .unset, .unset] []))
    obtain ⟨ya, hd_ya⟩ : ∃ z, z = (jx &&& jm) := ⟨_, rfl⟩
    rw [← hd_ya]
    have r_ya : 0 ≤ ya.toInt ∧ ya.toInt < 1099511627776 := by rw [hd_ya]; exact own_msk r_jm
    obtain ⟨yb, hd_yb⟩ : ∃ z, z = (jy &&& jm) := ⟨_, rfl⟩
    rw [← hd_yb]
    have r_yb : 0 ≤ yb.toInt ∧ yb.toInt < 1099511627776 := by rw [hd_yb]; exact own_msk r_jm
    obtain ⟨yd, hd_yd⟩ : ∃ z, z = (jz &&& jm) := ⟨_, rfl⟩
    rw [← hd_yd]
    have r_yd : 0 ≤ yd.toInt ∧ yd.toInt < 1099511627776 := by rw [hd_yd]; exact own_msk r_jm
    show Go p e below s _ _ _ (s₁.setTop (mkF m 56 #[.val (.long jx), .second, .val (.long jy), .second, .val (.long jz), .second, .val (.int kr), .val (.int kf), .val (.int (kf &&& (3 : Int32))), .val (.long jt), .second, .val (.long jm), .second, .val (.long ya), .second, .val (.long yb), .second, .val (.long yd), .second, .unset, .unset, .unset, .unset, .unset, .unset, .unset, .unset, .unset, .unset, .unset, .unset, .unset] []))
    refine Go.st (fun _ k' => XS.iconst X0.here hx rfl (hb hby at_56) k') ?_
    show Go p e below s _ _ _ (s₁.setTop (mkF m 57 #[.val (.long jx), .second, .val (.long jy), .second, .val (.long jz), .second, .val (.int kr), .val (.int kf), .val (.int (kf &&& (3 : Int32))), .val (.long jt), .second, .val (.long jm), .second, .val (.long ya), .second, .val (.long yb), .second, .val (.long yd), .second, .unset, .unset, .unset, .unset, .unset, .unset, .unset, .unset, .unset, .unset, .unset, .unset, .unset] [(.int (1 : Int32))]))
    refine Go.st (fun _ k' => XS.iload X0.here hx rfl (hb hby at_57) rfl k') ?_
    show Go p e below s _ _ _ (s₁.setTop (mkF m 59 #[.val (.long jx), .second, .val (.long jy), .second, .val (.long jz), .second, .val (.int kr), .val (.int kf), .val (.int (kf &&& (3 : Int32))), .val (.long jt), .second, .val (.long jm), .second, .val (.long ya), .second, .val (.long yb), .second, .val (.long yd), .second, .unset, .unset, .unset, .unset, .unset, .unset, .unset, .unset, .unset, .unset, .unset, .unset, .unset] [(.int kr), (.int (1 : Int32))]))
    refine Go.st (fun _ k' => X0.ldcI hx hown (mvT hZ (wdx hw 1 rfl)) rfl (hb hby at_59) k') ?_
    show Go p e below s _ _ _ (s₁.setTop (mkF m 61 #[.val (.long jx), .second, .val (.long jy), .second, .val (.long jz), .second, .val (.int kr), .val (.int kf), .val (.int (kf &&& (3 : Int32))), .val (.long jt), .second, .val (.long jm), .second, .val (.long ya), .second, .val (.long yb), .second, .val (.long yd), .second, .unset, .unset, .unset, .unset, .unset, .unset, .unset, .unset, .unset, .unset, .unset, .unset, .unset] [(.int (2147483647 : Int32)), (.int kr), (.int (1 : Int32))]))
    refine Go.st (fun _ k' => XS.iand X0.here hx rfl (hb hby at_61) rfl k') ?_
    show Go p e below s _ _ _ (s₁.setTop (mkF m 62 #[.val (.long jx), .second, .val (.long jy), .second, .val (.long jz), .second, .val (.int kr), .val (.int kf), .val (.int (kf &&& (3 : Int32))), .val (.long jt), .second, .val (.long jm), .second, .val (.long ya), .second, .val (.long yb), .second, .val (.long yd), .second, .unset, .unset, .unset, .unset, .unset, .unset, .unset, .unset, .unset, .unset, .unset, .unset, .unset] [(.int (kr &&& (2147483647 : Int32))), (.int (1 : Int32))]))
    obtain ⟨_, _, ⟨T2, L2, k2, n2⟩, -, X2, ⟨Lc2, hQ2, l2, y2, z2⟩, st2⟩ := Jvm.LawKit.callS X0 hx (y := (⟨"java/lang/Math", "max", "(II)I"⟩ : MethodName)) hown (mvT hZ (wdx hw 2 rfl)) (mvT hZ (wdx hw 3 rfl)) (mvT hZ (wdx hw 4 rfl)) (mvT hZ (wdx hw 5 rfl)) (by decide) (backOf (W := 0) (rm1 l Z a0 hw [] (1 : Int32) (kr &&& (2147483647 : Int32)) h0 n0 O0 ) hZ (wdx hw 5 rfl) (wdx hw 4 rfl) (by decide) (by decide)) (g := (mkF m 62 #[.val (.long jx), .second, .val (.long jy), .second, .val (.long jz), .second, .val (.int kr), .val (.int kf), .val (.int (kf &&& (3 : Int32))), .val (.long jt), .second, .val (.long jm), .second, .val (.long ya), .second, .val (.long yb), .second, .val (.long yd), .second, .unset, .unset, .unset, .unset, .unset, .unset, .unset, .unset, .unset, .unset, .unset, .unset, .unset] [(.int (kr &&& (2147483647 : Int32))), (.int (1 : Int32))])) rfl (by rw [hml]; rfl) (argsL := [(.int (1 : Int32)), (.int (kr &&& (2147483647 : Int32)))]) (rest := []) (lenOf pd__II_I rfl) rfl (by show 2 * 0 + _ ≤ _; exact Nat.le_of_eq rfl) (hb hby at_62) (fun _ _ => ⟨rfl, e0, (by exact Nat.le_of_ble_eq_true rfl), (by exact Nat.le_of_ble_eq_true rfl)⟩)
    dsimp only [Pt.U, Pt.locs, Pt.cells, Pt.slots] at X2 l2 y2 z2 st2 hQ2
    subst l2 y2 z2
    obtain ⟨rfl, Nq2, eq2⟩ := hQ2
    have N2 := Fr.app N0 Nq2
    refine Go.st st2 ?_
    show Go p e below s _ _ _ (T2.setTop (mkF m 65 #[.val (.long jx), .second, .val (.long jy), .second, .val (.long jz), .second, .val (.int kr), .val (.int kf), .val (.int (kf &&& (3 : Int32))), .val (.long jt), .second, .val (.long jm), .second, .val (.long ya), .second, .val (.long yb), .second, .val (.long yd), .second, .unset, .unset, .unset, .unset, .unset, .unset, .unset, .unset, .unset, .unset, .unset, .unset, .unset] [(.int (fmaxI (1 : Int32) (kr &&& (2147483647 : Int32))))]))
    refine Go.st (fun _ k' => XS.istore X2.here hx rfl (hb hby at_65) rfl (l' := #[.val (.long jx), .second, .val (.long jy), .second, .val (.long jz), .second, .val (.int kr), .val (.int kf), .val (.int (kf &&& (3 : Int32))), .val (.long jt), .second, .val (.long jm), .second, .val (.long ya), .second, .val (.long yb), .second, .val (.long yd), .second, .val (.int (fmaxI (1 : Int32) (kr &&& (2147483647 : Int32)))), .unset, .unset, .unset, .unset, .unset, .unset, .unset, .unset, .unset, .unset, .unset, .unset]) rfl k') ?_
    show Go p e below s _ _ _ (T2.setTop (mkF m 67 #[.val (.long jx), .second, .val (.long jy), .second, .val (.long jz), .second, .val (.int kr), .val (.int kf), .val (.int (kf &&& (3 : Int32))), .val (.long jt), .second, .val (.long jm), .second, .val (.long ya), .second, .val (.long yb), .second, .val (.long yd), .second, .val (.int (fmaxI (1 : Int32) (kr &&& (2147483647 : Int32)))), .unset, .unset, .unset, .unset, .unset, .unset, .unset, .unset, .unset, .unset, .unset, .unset] []))
    obtain ⟨kq, hd_kq⟩ : ∃ z, z = (fmaxI (1 : Int32) (kr &&& (2147483647 : Int32))) := ⟨_, rfl⟩
    rw [← hd_kq]
    have r_kq : 1 ≤ kq.toInt := by rw [hd_kq]; exact own_kq _
    show Go p e below s _ _ _ (T2.setTop (mkF m 67 #[.val (.long jx), .second, .val (.long jy), .second, .val (.long jz), .second, .val (.int kr), .val (.int kf), .val (.int (kf &&& (3 : Int32))), .val (.long jt), .second, .val (.long jm), .second, .val (.long ya), .second, .val (.long yb), .second, .val (.long yd), .second, .val (.int kq), .unset, .unset, .unset, .unset, .unset, .unset, .unset, .unset, .unset, .unset, .unset, .unset] []))
    refine Go.st (fun _ k' => XS.dconst1 X2.here hx rfl (hb hby at_67) rfl k') ?_
    show Go p e below s _ _ _ (T2.setTop (mkF m 68 #[.val (.long jx), .second, .val (.long jy), .second, .val (.long jz), .second, .val (.int kr), .val (.int kf), .val (.int (kf &&& (3 : Int32))), .val (.long jt), .second, .val (.long jm), .second, .val (.long ya), .second, .val (.long yb), .second, .val (.long yd), .second, .val (.int kq), .unset, .unset, .unset, .unset, .unset, .unset, .unset, .unset, .unset, .unset, .unset, .unset] [(.double FP.dconst1)]))
    refine Go.st (fun _ k' => XS.dstore X2.here hx rfl (hb hby at_68) rfl (l' := #[.val (.long jx), .second, .val (.long jy), .second, .val (.long jz), .second, .val (.int kr), .val (.int kf), .val (.int (kf &&& (3 : Int32))), .val (.long jt), .second, .val (.long jm), .second, .val (.long ya), .second, .val (.long yb), .second, .val (.long yd), .second, .val (.int kq), .val (.double FP.dconst1), .second, .unset, .unset, .unset, .unset, .unset, .unset, .unset, .unset, .unset, .unset]) rfl k') ?_
    show Go p e below s _ _ _ (T2.setTop (mkF m 70 #[.val (.long jx), .second, .val (.long jy), .second, .val (.long jz), .second, .val (.int kr), .val (.int kf), .val (.int (kf &&& (3 : Int32))), .val (.long jt), .second, .val (.long jm), .second, .val (.long ya), .second, .val (.long yb), .second, .val (.long yd), .second, .val (.int kq), .val (.double FP.dconst1), .second, .unset, .unset, .unset, .unset, .unset, .unset, .unset, .unset, .unset, .unset] []))
    obtain ⟨T3, h3, X3, e3, E3, A3, D3, -, st3⟩ := newO X2 hx hZ hown (wdx hw 6 rfl) (wdx hw 7 rfl) (wdx hw 8 rfl) eq2 (g := (mkF m 70 #[.val (.long jx), .second, .val (.long jy), .second, .val (.long jz), .second, .val (.int kr), .val (.int kf), .val (.int (kf &&& (3 : Int32))), .val (.long jt), .second, .val (.long jm), .second, .val (.long ya), .second, .val (.long yb), .second, .val (.long yd), .second, .val (.int kq), .val (.double FP.dconst1), .second, .unset, .unset, .unset, .unset, .unset, .unset, .unset, .unset, .unset, .unset] [])) rfl (hb hby at_70) (by decide) (by decide)
    obtain ⟨b3, g3⟩ : ∃ z, z = h0.size := ⟨_, rfl⟩
    rw [← g3] at A3 D3 st3
    refine Go.st st3 ?_
    have g_b3 : n0 ≤ b3 := Nat.le_trans (own_le O0) (Nat.le_of_eq g3.symm)
    have ne4 : a_ms ≠ b3 := Nat.ne_of_lt (Nat.lt_of_lt_of_le E_ms.lt (Nat.le_of_eq g3.symm))
    have f5 : Exa Z h3 a_ms "java/util/concurrent/TimeUnit" := E_ms.ext E3
    have f6 : Fld Z h3 a_ms "java/util/concurrent/TimeUnit" "scale" "J" (.long (1000000 : Int64)) := Fs.ext E3
    have f7 : Fld Z h3 a_ms "java/util/concurrent/TimeUnit" "maxNanos" "J" (.long (9223372036854 : Int64)) := Fm.ext E3
    have O3 : Old Z n0 h3 := O0.ext E3
    have f8 : Fld Z h3 b3 "com/example/spillway/spillway/runtime/LatencyController" "limit" "D" (.double (0 : UInt64)) := D3 (Or.inl (wdx hw 18 rfl)) (ty := .double) (by decide)
    have f9 : Fld Z h3 b3 "com/example/spillway/spillway/runtime/LatencyController" "targetNanos" "D" (.double (0 : UInt64)) := D3 (Or.inr (wdx hw 31 rfl)) (ty := .double) (by decide)
    have f10 : Fld Z h3 b3 "com/example/spillway/spillway/runtime/LatencyController" "periodNanos" "J" (.long (0 : Int64)) := D3 (Or.inr (wdx hw 33 rfl)) (ty := .long) (by decide)
    have f11 : Fld Z h3 b3 "com/example/spillway/spillway/runtime/LatencyController" "gain" "D" (.double (0 : UInt64)) := D3 (Or.inr (wdx hw 35 rfl)) (ty := .double) (by decide)
    have f12 : Fld Z h3 b3 "com/example/spillway/spillway/runtime/LatencyController" "latencySum" "J" (.long (0 : Int64)) := D3 (Or.inl (wdx hw 42 rfl)) (ty := .long) (by decide)
    have f13 : Fld Z h3 b3 "com/example/spillway/spillway/runtime/LatencyController" "latencyCount" "J" (.long (0 : Int64)) := D3 (Or.inl (wdx hw 44 rfl)) (ty := .long) (by decide)
    have f14 : Fld Z h3 b3 "com/example/spillway/spillway/runtime/LatencyController" "decisions" "J" (.long (0 : Int64)) := D3 (Or.inl (wdx hw 51 rfl)) (ty := .long) (by decide)
    show Go p e below s _ _ _ (T3.setTop (mkF m 73 #[.val (.long jx), .second, .val (.long jy), .second, .val (.long jz), .second, .val (.int kr), .val (.int kf), .val (.int (kf &&& (3 : Int32))), .val (.long jt), .second, .val (.long jm), .second, .val (.long ya), .second, .val (.long yb), .second, .val (.long yd), .second, .val (.int kq), .val (.double FP.dconst1), .second, .unset, .unset, .unset, .unset, .unset, .unset, .unset, .unset, .unset, .unset] [(.ref b3)]))
    refine Go.st (fun _ k' => XS.dup X3.here hx rfl (hb hby at_73) rfl rfl k') ?_
    show Go p e below s _ _ _ (T3.setTop (mkF m 74 #[.val (.long jx), .second, .val (.long jy), .second, .val (.long jz), .second, .val (.int kr), .val (.int kf), .val (.int (kf &&& (3 : Int32))), .val (.long jt), .second, .val (.long jm), .second, .val (.long ya), .second, .val (.long yb), .second, .val (.long yd), .second, .val (.int kq), .val (.double FP.dconst1), .second, .unset, .unset, .unset, .unset, .unset, .unset, .unset, .unset, .unset, .unset] [(.ref b3), (.ref b3)]))
    refine Go.st (fun _ k' => XS.lload X3.here hx rfl (hb hby at_74) rfl k') ?_
    show Go p e below s _ _ _ (T3.setTop (mkF m 76 #[.val (.long jx), .second, .val (.long jy), .second, .val (.long jz), .second, .val (.int kr), .val (.int kf), .val (.int (kf &&& (3 : Int32))), .val (.long jt), .second, .val (.long jm), .second, .val (.long ya), .second, .val (.long yb), .second, .val (.long yd), .second, .val (.int kq), .val (.double FP.dconst1), .second, .unset, .unset, .unset, .unset, .unset, .unset, .unset, .unset, .unset, .unset] [(.long jt), (.ref b3), (.ref b3)]))
    refine Go.st (fun _ k' => X3.ldc2J hx hown (mvT hZ (wdx hw 9 rfl)) rfl (hb hby at_76) k') ?_
    show Go p e below s _ _ _ (T3.setTop (mkF m 79 #[.val (.long jx), .second, .val (.long jy), .second, .val (.long jz), .second, .val (.int kr), .val (.int kf), .val (.int (kf &&& (3 : Int32))), .val (.long jt), .second, .val (.long jm), .second, .val (.long ya), .second, .val (.long yb), .second, .val (.long yd), .second, .val (.int kq), .val (.double FP.dconst1), .second, .unset, .unset, .unset, .unset, .unset, .unset, .unset, .unset, .unset, .unset] [(.long (1000 : Int64)), (.long jt), (.ref b3), (.ref b3)]))
    refine Go.st (fun _ k' => XS.dload X3.here hx rfl (hb hby at_79) rfl k') ?_
    show Go p e below s _ _ _ (T3.setTop (mkF m 81 #[.val (.long jx), .second, .val (.long jy), .second, .val (.long jz), .second, .val (.int kr), .val (.int kf), .val (.int (kf &&& (3 : Int32))), .val (.long jt), .second, .val (.long jm), .second, .val (.long ya), .second, .val (.long yb), .second, .val (.long yd), .second, .val (.int kq), .val (.double FP.dconst1), .second, .unset, .unset, .unset, .unset, .unset, .unset, .unset, .unset, .unset, .unset] [(.double FP.dconst1), (.long (1000 : Int64)), (.long jt), (.ref b3), (.ref b3)]))
    obtain ⟨_, _, ⟨T15, L15, k15, n15⟩, -, X15, ⟨Lc15, hQ15, l15, y15, z15⟩, st15⟩ := X3.specialBack hx (y := (⟨"com/example/spillway/spillway/runtime/LatencyController", "<init>", "(JJD)V"⟩ : MethodName)) rfl hown (mvT hZ (wdx hw 10 rfl)) (mvT hZ (wdx hw 11 rfl)) (mvT hZ (wdx hw 12 rfl)) (by decide) (backOf (W := 1) (rm2 l Z a0 hw [] b3 jt (1000 : Int64) FP.dconst1 a_ms h3 n0 O3 A3 f8 f9 f10 f11 f12 f13 f14 f5 f6 f7 S_ms g_b3 (own_ubd r_jt) (own_vbd r_jt) (by decide) (by decide)) hZ (wdx hw 12 rfl) (wdx hw 8 rfl) (by decide) (by decide)) (g := (mkF m 81 #[.val (.long jx), .second, .val (.long jy), .second, .val (.long jz), .second, .val (.int kr), .val (.int kf), .val (.int (kf &&& (3 : Int32))), .val (.long jt), .second, .val (.long jm), .second, .val (.long ya), .second, .val (.long yb), .second, .val (.long yd), .second, .val (.int kq), .val (.double FP.dconst1), .second, .unset, .unset, .unset, .unset, .unset, .unset, .unset, .unset, .unset, .unset] [(.double FP.dconst1), (.long (1000 : Int64)), (.long jt), (.ref b3), (.ref b3)])) rfl (by rw [hml]; rfl) (Steps.refl _) (a := b3) (argsL := [(.long jt), (.long (1000 : Int64)), (.double FP.dconst1)]) (rest := [(.ref b3)]) (lenOf pd__JJD_V rfl) rfl (by show 2 * 0 + _ ≤ _; exact Nat.le_of_eq rfl) (hb hby at_81) (fun _ _ => ⟨rfl, e3, (by exact Nat.le_of_ble_eq_true rfl), (by exact Nat.le_of_ble_eq_true rfl)⟩)
    dsimp only [Pt.U, Pt.locs, Pt.cells, Pt.slots] at X15 l15 y15 z15 st15 hQ15
    subst l15 y15 z15
    obtain ⟨rfl, Nq15, Kq15, f16, f17, f18, f19, f20, f21⟩ := hQ15
    have N15 := Fr.app N2 Nq15
    refine Go.tr st15 ?_
    have f22 : Exa Z T15.heap a_ms "java/util/concurrent/TimeUnit" := f5.keep Kq15
    have f23 : Fld Z T15.heap a_ms "java/util/concurrent/TimeUnit" "scale" "J" (.long (1000000 : Int64)) := f6.keep Kq15 (ninS ne4 nin0)
    have f24 : Fld Z T15.heap a_ms "java/util/concurrent/TimeUnit" "maxNanos" "J" (.long (9223372036854 : Int64)) := f7.keep Kq15 (ninS ne4 nin0)
    have f25 : Exa Z T15.heap b3 "com/example/spillway/spillway/runtime/LatencyController" := A3.keep Kq15
    have O15 : Old Z n0 T15.heap := O3.keep Kq15 (allS g_b3 all0)
    show Go p e below s _ _ _ (T15.setTop (mkF m 84 #[.val (.long jx), .second, .val (.long jy), .second, .val (.long jz), .second, .val (.int kr), .val (.int kf), .val (.int (kf &&& (3 : Int32))), .val (.long jt), .second, .val (.long jm), .second, .val (.long ya), .second, .val (.long yb), .second, .val (.long yd), .second, .val (.int kq), .val (.double FP.dconst1), .second, .unset, .unset, .unset, .unset, .unset, .unset, .unset, .unset, .unset, .unset] [(.ref b3)]))
    refine Go.st (fun _ k' => XS.astore X15.here hx rfl (hb hby at_84) rfl rfl (l' := #[.val (.long jx), .second, .val (.long jy), .second, .val (.long jz), .second, .val (.int kr), .val (.int kf), .val (.int (kf &&& (3 : Int32))), .val (.long jt), .second, .val (.long jm), .second, .val (.long ya), .second, .val (.long yb), .second, .val (.long yd), .second, .val (.int kq), .val (.double FP.dconst1), .second, .val (.ref b3), .unset, .unset, .unset, .unset, .unset, .unset, .unset, .unset, .unset]) rfl k') ?_
    show Go p e below s _ _ _ (T15.setTop (mkF m 86 #[.val (.long jx), .second, .val (.long jy), .second, .val (.long jz), .second, .val (.int kr), .val (.int kf), .val (.int (kf &&& (3 : Int32))), .val (.long jt), .second, .val (.long jm), .second, .val (.long ya), .second, .val (.long yb), .second, .val (.long yd), .second, .val (.int kq), .val (.double FP.dconst1), .second, .val (.ref b3), .unset, .unset, .unset, .unset, .unset, .unset, .unset, .unset, .unset] []))
    obtain ⟨T26, h26, X26, e26, E26, A26, D26, -, st26⟩ := newO X15 hx hZ hown (wdx hw 6 rfl) (wdx hw 7 rfl) (wdx hw 8 rfl) rfl (g := (mkF m 86 #[.val (.long jx), .second, .val (.long jy), .second, .val (.long jz), .second, .val (.int kr), .val (.int kf), .val (.int (kf &&& (3 : Int32))), .val (.long jt), .second, .val (.long jm), .second, .val (.long ya), .second, .val (.long yb), .second, .val (.long yd), .second, .val (.int kq), .val (.double FP.dconst1), .second, .val (.ref b3), .unset, .unset, .unset, .unset, .unset, .unset, .unset, .unset, .unset] [])) rfl (hb hby at_86) (by decide) (by decide)
    obtain ⟨b26, g26⟩ : ∃ z, z = T15.heap.size := ⟨_, rfl⟩
    rw [← g26] at A26 D26 st26
    refine Go.st st26 ?_
    have g_b26 : n0 ≤ b26 := Nat.le_trans (own_le O15) (Nat.le_of_eq g26.symm)
    have ne27 : a_ms ≠ b26 := Nat.ne_of_lt (Nat.lt_of_lt_of_le f22.lt (Nat.le_of_eq g26.symm))
    have ne28 : b3 ≠ b26 := Nat.ne_of_lt (Nat.lt_of_lt_of_le f25.lt (Nat.le_of_eq g26.symm))
    have f29 : Exa Z h26 a_ms "java/util/concurrent/TimeUnit" := f22.ext E26
    have f30 : Fld Z h26 a_ms "java/util/concurrent/TimeUnit" "scale" "J" (.long (1000000 : Int64)) := f23.ext E26
    have f31 : Fld Z h26 a_ms "java/util/concurrent/TimeUnit" "maxNanos" "J" (.long (9223372036854 : Int64)) := f24.ext E26
    have f32 : Exa Z h26 b3 "com/example/spillway/spillway/runtime/LatencyController" := f25.ext E26
    have f33 : Fld Z h26 b3 "com/example/spillway/spillway/runtime/LatencyController" "limit" "D" (.double (9221120237041090560 : UInt64)) := f16.ext E26
    have f34 : Fld Z h26 b3 "com/example/spillway/spillway/runtime/LatencyController" "targetNanos" "D" (.double (FP.l2d (jt * (1000000 : Int64)))) := f17.ext E26
    have f35 : Fld Z h26 b3 "com/example/spillway/spillway/runtime/LatencyController" "gain" "D" (.double FP.dconst1) := f18.ext E26
    have f36 : Fld Z h26 b3 "com/example/spillway/spillway/runtime/LatencyController" "latencySum" "J" (.long (0 : Int64)) := f19.ext E26
    have f37 : Fld Z h26 b3 "com/example/spillway/spillway/runtime/LatencyController" "latencyCount" "J" (.long (0 : Int64)) := f20.ext E26
    have f38 : Fld Z h26 b3 "com/example/spillway/spillway/runtime/LatencyController" "decisions" "J" (.long (0 : Int64)) := f21.ext E26
    have O26 : Old Z n0 h26 := O15.ext E26
    have f39 : Fld Z h26 b26 "com/example/spillway/spillway/runtime/LatencyController" "limit" "D" (.double (0 : UInt64)) := D26 (Or.inl (wdx hw 18 rfl)) (ty := .double) (by decide)
    have f40 : Fld Z h26 b26 "com/example/spillway/spillway/runtime/LatencyController" "targetNanos" "D" (.double (0 : UInt64)) := D26 (Or.inr (wdx hw 31 rfl)) (ty := .double) (by decide)
    have f41 : Fld Z h26 b26 "com/example/spillway/spillway/runtime/LatencyController" "periodNanos" "J" (.long (0 : Int64)) := D26 (Or.inr (wdx hw 33 rfl)) (ty := .long) (by decide)
    have f42 : Fld Z h26 b26 "com/example/spillway/spillway/runtime/LatencyController" "gain" "D" (.double (0 : UInt64)) := D26 (Or.inr (wdx hw 35 rfl)) (ty := .double) (by decide)
    have f43 : Fld Z h26 b26 "com/example/spillway/spillway/runtime/LatencyController" "latencySum" "J" (.long (0 : Int64)) := D26 (Or.inl (wdx hw 42 rfl)) (ty := .long) (by decide)
    have f44 : Fld Z h26 b26 "com/example/spillway/spillway/runtime/LatencyController" "latencyCount" "J" (.long (0 : Int64)) := D26 (Or.inl (wdx hw 44 rfl)) (ty := .long) (by decide)
    have f45 : Fld Z h26 b26 "com/example/spillway/spillway/runtime/LatencyController" "decisions" "J" (.long (0 : Int64)) := D26 (Or.inl (wdx hw 51 rfl)) (ty := .long) (by decide)
    show Go p e below s _ _ _ (T26.setTop (mkF m 89 #[.val (.long jx), .second, .val (.long jy), .second, .val (.long jz), .second, .val (.int kr), .val (.int kf), .val (.int (kf &&& (3 : Int32))), .val (.long jt), .second, .val (.long jm), .second, .val (.long ya), .second, .val (.long yb), .second, .val (.long yd), .second, .val (.int kq), .val (.double FP.dconst1), .second, .val (.ref b3), .unset, .unset, .unset, .unset, .unset, .unset, .unset, .unset, .unset] [(.ref b26)]))
    refine Go.st (fun _ k' => XS.dup X26.here hx rfl (hb hby at_89) rfl rfl k') ?_
    show Go p e below s _ _ _ (T26.setTop (mkF m 90 #[.val (.long jx), .second, .val (.long jy), .second, .val (.long jz), .second, .val (.int kr), .val (.int kf), .val (.int (kf &&& (3 : Int32))), .val (.long jt), .second, .val (.long jm), .second, .val (.long ya), .second, .val (.long yb), .second, .val (.long yd), .second, .val (.int kq), .val (.double FP.dconst1), .second, .val (.ref b3), .unset, .unset, .unset, .unset, .unset, .unset, .unset, .unset, .unset] [(.ref b26), (.ref b26)]))
    refine Go.st (fun _ k' => XS.lload X26.here hx rfl (hb hby at_90) rfl k') ?_
    show Go p e below s _ _ _ (T26.setTop (mkF m 92 #[.val (.long jx), .second, .val (.long jy), .second, .val (.long jz), .second, .val (.int kr), .val (.int kf), .val (.int (kf &&& (3 : Int32))), .val (.long jt), .second, .val (.long jm), .second, .val (.long ya), .second, .val (.long yb), .second, .val (.long yd), .second, .val (.int kq), .val (.double FP.dconst1), .second, .val (.ref b3), .unset, .unset, .unset, .unset, .unset, .unset, .unset, .unset, .unset] [(.long jt), (.ref b26), (.ref b26)]))
    refine Go.st (fun _ k' => X26.ldc2J hx hown (mvT hZ (wdx hw 9 rfl)) rfl (hb hby at_92) k') ?_
    show Go p e below s _ _ _ (T26.setTop (mkF m 95 #[.val (.long jx), .second, .val (.long jy), .second, .val (.long jz), .second, .val (.int kr), .val (.int kf), .val (.int (kf &&& (3 : Int32))), .val (.long jt), .second, .val (.long jm), .second, .val (.long ya), .second, .val (.long yb), .second, .val (.long yd), .second, .val (.int kq), .val (.double FP.dconst1), .second, .val (.ref b3), .unset, .unset, .unset, .unset, .unset, .unset, .unset, .unset, .unset] [(.long (1000 : Int64)), (.long jt), (.ref b26), (.ref b26)]))
    refine Go.st (fun _ k' => XS.dload X26.here hx rfl (hb hby at_95) rfl k') ?_
    show Go p e below s _ _ _ (T26.setTop (mkF m 97 #[.val (.long jx), .second, .val (.long jy), .second, .val (.long jz), .second, .val (.int kr), .val (.int kf), .val (.int (kf &&& (3 : Int32))), .val (.long jt), .second, .val (.long jm), .second, .val (.long ya), .second, .val (.long yb), .second, .val (.long yd), .second, .val (.int kq), .val (.double FP.dconst1), .second, .val (.ref b3), .unset, .unset, .unset, .unset, .unset, .unset, .unset, .unset, .unset] [(.double FP.dconst1), (.long (1000 : Int64)), (.long jt), (.ref b26), (.ref b26)]))
    obtain ⟨_, _, ⟨T46, L46, k46, n46⟩, -, X46, ⟨Lc46, hQ46, l46, y46, z46⟩, st46⟩ := X26.specialBack hx (y := (⟨"com/example/spillway/spillway/runtime/LatencyController", "<init>", "(JJD)V"⟩ : MethodName)) rfl hown (mvT hZ (wdx hw 10 rfl)) (mvT hZ (wdx hw 11 rfl)) (mvT hZ (wdx hw 12 rfl)) (by decide) (backOf (W := 1) (rm2 l Z a0 hw [] b26 jt (1000 : Int64) FP.dconst1 a_ms h26 n0 O26 A26 f39 f40 f41 f42 f43 f44 f45 f29 f30 f31 S_ms g_b26 (own_ubd r_jt) (own_vbd r_jt) (by decide) (by decide)) hZ (wdx hw 12 rfl) (wdx hw 8 rfl) (by decide) (by decide)) (g := (mkF m 97 #[.val (.long jx), .second, .val (.long jy), .second, .val (.long jz), .second, .val (.int kr), .val (.int kf), .val (.int (kf &&& (3 : Int32))), .val (.long jt), .second, .val (.long jm), .second, .val (.long ya), .second, .val (.long yb), .second, .val (.long yd), .second, .val (.int kq), .val (.double FP.dconst1), .second, .val (.ref b3), .unset, .unset, .unset, .unset, .unset, .unset, .unset, .unset, .unset] [(.double FP.dconst1), (.long (1000 : Int64)), (.long jt), (.ref b26), (.ref b26)])) rfl (by rw [hml]; rfl) (Steps.refl _) (a := b26) (argsL := [(.long jt), (.long (1000 : Int64)), (.double FP.dconst1)]) (rest := [(.ref b26)]) (lenOf pd__JJD_V rfl) rfl (by show 2 * 0 + _ ≤ _; exact Nat.le_of_eq rfl) (hb hby at_97) (fun _ _ => ⟨rfl, e26, (by exact Nat.le_of_ble_eq_true rfl), (by exact Nat.le_of_ble_eq_true rfl)⟩)
    dsimp only [Pt.U, Pt.locs, Pt.cells, Pt.slots] at X46 l46 y46 z46 st46 hQ46
    subst l46 y46 z46
    obtain ⟨rfl, Nq46, Kq46, f47, f48, f49, f50, f51, f52⟩ := hQ46
    have N46 := Fr.app N15 Nq46
    refine Go.tr st46 ?_
    have f53 : Exa Z T46.heap a_ms "java/util/concurrent/TimeUnit" := f29.keep Kq46
    have f54 : Fld Z T46.heap a_ms "java/util/concurrent/TimeUnit" "scale" "J" (.long (1000000 : Int64)) := f30.keep Kq46 (ninS ne27 nin0)
    have f55 : Fld Z T46.heap a_ms "java/util/concurrent/TimeUnit" "maxNanos" "J" (.long (9223372036854 : Int64)) := f31.keep Kq46 (ninS ne27 nin0)
    have f56 : Exa Z T46.heap b3 "com/example/spillway/spillway/runtime/LatencyController" := f32.keep Kq46
    have f57 : Fld Z T46.heap b3 "com/example/spillway/spillway/runtime/LatencyController" "limit" "D" (.double (9221120237041090560 : UInt64)) := f33.keep Kq46 (ninS ne28 nin0)
    have f58 : Fld Z T46.heap b3 "com/example/spillway/spillway/runtime/LatencyController" "targetNanos" "D" (.double (FP.l2d (jt * (1000000 : Int64)))) := f34.keep Kq46 (ninS ne28 nin0)
    have f59 : Fld Z T46.heap b3 "com/example/spillway/spillway/runtime/LatencyController" "gain" "D" (.double FP.dconst1) := f35.keep Kq46 (ninS ne28 nin0)
    have f60 : Fld Z T46.heap b3 "com/example/spillway/spillway/runtime/LatencyController" "latencySum" "J" (.long (0 : Int64)) := f36.keep Kq46 (ninS ne28 nin0)
    have f61 : Fld Z T46.heap b3 "com/example/spillway/spillway/runtime/LatencyController" "latencyCount" "J" (.long (0 : Int64)) := f37.keep Kq46 (ninS ne28 nin0)
    have f62 : Fld Z T46.heap b3 "com/example/spillway/spillway/runtime/LatencyController" "decisions" "J" (.long (0 : Int64)) := f38.keep Kq46 (ninS ne28 nin0)
    have f63 : Exa Z T46.heap b26 "com/example/spillway/spillway/runtime/LatencyController" := A26.keep Kq46
    have O46 : Old Z n0 T46.heap := O26.keep Kq46 (allS g_b26 all0)
    show Go p e below s _ _ _ (T46.setTop (mkF m 100 #[.val (.long jx), .second, .val (.long jy), .second, .val (.long jz), .second, .val (.int kr), .val (.int kf), .val (.int (kf &&& (3 : Int32))), .val (.long jt), .second, .val (.long jm), .second, .val (.long ya), .second, .val (.long yb), .second, .val (.long yd), .second, .val (.int kq), .val (.double FP.dconst1), .second, .val (.ref b3), .unset, .unset, .unset, .unset, .unset, .unset, .unset, .unset, .unset] [(.ref b26)]))
    refine Go.st (fun _ k' => XS.astore X46.here hx rfl (hb hby at_100) rfl rfl (l' := #[.val (.long jx), .second, .val (.long jy), .second, .val (.long jz), .second, .val (.int kr), .val (.int kf), .val (.int (kf &&& (3 : Int32))), .val (.long jt), .second, .val (.long jm), .second, .val (.long ya), .second, .val (.long yb), .second, .val (.long yd), .second, .val (.int kq), .val (.double FP.dconst1), .second, .val (.ref b3), .val (.ref b26), .unset, .unset, .unset, .unset, .unset, .unset, .unset, .unset]) rfl k') ?_
    show Go p e below s _ _ _ (T46.setTop (mkF m 102 #[.val (.long jx), .second, .val (.long jy), .second, .val (.long jz), .second, .val (.int kr), .val (.int kf), .val (.int (kf &&& (3 : Int32))), .val (.long jt), .second, .val (.long jm), .second, .val (.long ya), .second, .val (.long yb), .second, .val (.long yd), .second, .val (.int kq), .val (.double FP.dconst1), .second, .val (.ref b3), .val (.ref b26), .unset, .unset, .unset, .unset, .unset, .unset, .unset, .unset] []))
    refine Go.st (fun _ k' => XS.lconst X46.here hx rfl (hb hby at_102) k') ?_
    show Go p e below s _ _ _ (T46.setTop (mkF m 103 #[.val (.long jx), .second, .val (.long jy), .second, .val (.long jz), .second, .val (.int kr), .val (.int kf), .val (.int (kf &&& (3 : Int32))), .val (.long jt), .second, .val (.long jm), .second, .val (.long ya), .second, .val (.long yb), .second, .val (.long yd), .second, .val (.int kq), .val (.double FP.dconst1), .second, .val (.ref b3), .val (.ref b26), .unset, .unset, .unset, .unset, .unset, .unset, .unset, .unset] [(.long (0 : Int64))]))
    refine Go.st (fun _ k' => XS.lstore X46.here hx rfl (hb hby at_103) rfl (l' := #[.val (.long jx), .second, .val (.long jy), .second, .val (.long jz), .second, .val (.int kr), .val (.int kf), .val (.int (kf &&& (3 : Int32))), .val (.long jt), .second, .val (.long jm), .second, .val (.long ya), .second, .val (.long yb), .second, .val (.long yd), .second, .val (.int kq), .val (.double FP.dconst1), .second, .val (.ref b3), .val (.ref b26), .val (.long (0 : Int64)), .second, .unset, .unset, .unset, .unset, .unset, .unset]) rfl k') ?_
    show Go p e below s _ _ _ (T46.setTop (mkF m 105 #[.val (.long jx), .second, .val (.long jy), .second, .val (.long jz), .second, .val (.int kr), .val (.int kf), .val (.int (kf &&& (3 : Int32))), .val (.long jt), .second, .val (.long jm), .second, .val (.long ya), .second, .val (.long yb), .second, .val (.long yd), .second, .val (.int kq), .val (.double FP.dconst1), .second, .val (.ref b3), .val (.ref b26), .val (.long (0 : Int64)), .second, .unset, .unset, .unset, .unset, .unset, .unset] []))
    rcases own_c4 kf with hi | hi | hi | hi
    · rw [hi]
      show Go p e below s _ _ _ (T46.setTop (mkF m 105 #[.val (.long jx), .second, .val (.long jy), .second, .val (.long jz), .second, .val (.int kr), .val (.int kf), .val (.int (0 : Int32)), .val (.long jt), .second, .val (.long jm), .second, .val (.long ya), .second, .val (.long yb), .second, .val (.long yd), .second, .val (.int kq), .val (.double FP.dconst1), .second, .val (.ref b3), .val (.ref b26), .val (.long (0 : Int64)), .second, .unset, .unset, .unset, .unset, .unset, .unset] []))
      refine Go.st (fun _ k' => XS.iload X46.here hx rfl (hb hby at_105) rfl k') ?_
      show Go p e below s _ _ _ (T46.setTop (mkF m 107 #[.val (.long jx), .second, .val (.long jy), .second, .val (.long jz), .second, .val (.int kr), .val (.int kf), .val (.int (0 : Int32)), .val (.long jt), .second, .val (.long jm), .second, .val (.long ya), .second, .val (.long yb), .second, .val (.long yd), .second, .val (.int kq), .val (.double FP.dconst1), .second, .val (.ref b3), .val (.ref b26), .val (.long (0 : Int64)), .second, .unset, .unset, .unset, .unset, .unset, .unset] [(.int (0 : Int32))]))
      refine Go.st (fun _ k' => XS.iconst X46.here hx rfl (hb hby at_107) k') ?_
      show Go p e below s _ _ _ (T46.setTop (mkF m 108 #[.val (.long jx), .second, .val (.long jy), .second, .val (.long jz), .second, .val (.int kr), .val (.int kf), .val (.int (0 : Int32)), .val (.long jt), .second, .val (.long jm), .second, .val (.long ya), .second, .val (.long yb), .second, .val (.long yd), .second, .val (.int kq), .val (.double FP.dconst1), .second, .val (.ref b3), .val (.ref b26), .val (.long (0 : Int64)), .second, .unset, .unset, .unset, .unset, .unset, .unset] [(.int (1 : Int32)), (.int (0 : Int32))]))
      refine Go.st (fun _ k' => XS.icmpYes X46.here hx rfl (pc0 := 108) (pc' := 125) rfl (hb hby at_108) rfl (XT.ii_lt_t (by decide)) (by decide) (by decide) k') ?_
      show Go p e below s _ _ _ (T46.setTop (mkF m 125 #[.val (.long jx), .second, .val (.long jy), .second, .val (.long jz), .second, .val (.int kr), .val (.int kf), .val (.int (0 : Int32)), .val (.long jt), .second, .val (.long jm), .second, .val (.long ya), .second, .val (.long yb), .second, .val (.long yd), .second, .val (.int kq), .val (.double FP.dconst1), .second, .val (.ref b3), .val (.ref b26), .val (.long (0 : Int64)), .second, .unset, .unset, .unset, .unset, .unset, .unset] []))
      refine Go.st (fun _ k' => XS.iload X46.here hx rfl (hb hby at_125) rfl k') ?_
      show Go p e below s _ _ _ (T46.setTop (mkF m 127 #[.val (.long jx), .second, .val (.long jy), .second, .val (.long jz), .second, .val (.int kr), .val (.int kf), .val (.int (0 : Int32)), .val (.long jt), .second, .val (.long jm), .second, .val (.long ya), .second, .val (.long yb), .second, .val (.long yd), .second, .val (.int kq), .val (.double FP.dconst1), .second, .val (.ref b3), .val (.ref b26), .val (.long (0 : Int64)), .second, .unset, .unset, .unset, .unset, .unset, .unset] [(.int (0 : Int32))]))
      refine Go.st (fun _ k' => XS.iconst X46.here hx rfl (hb hby at_127) k') ?_
      show Go p e below s _ _ _ (T46.setTop (mkF m 128 #[.val (.long jx), .second, .val (.long jy), .second, .val (.long jz), .second, .val (.int kr), .val (.int kf), .val (.int (0 : Int32)), .val (.long jt), .second, .val (.long jm), .second, .val (.long ya), .second, .val (.long yb), .second, .val (.long yd), .second, .val (.int kq), .val (.double FP.dconst1), .second, .val (.ref b3), .val (.ref b26), .val (.long (0 : Int64)), .second, .unset, .unset, .unset, .unset, .unset, .unset] [(.int (2 : Int32)), (.int (0 : Int32))]))
      refine Go.st (fun _ k' => XS.icmpYes X46.here hx rfl (pc0 := 128) (pc' := 145) rfl (hb hby at_128) rfl (XT.ii_lt_t (by decide)) (by decide) (by decide) k') ?_
      show Go p e below s _ _ _ (T46.setTop (mkF m 145 #[.val (.long jx), .second, .val (.long jy), .second, .val (.long jz), .second, .val (.int kr), .val (.int kf), .val (.int (0 : Int32)), .val (.long jt), .second, .val (.long jm), .second, .val (.long ya), .second, .val (.long yb), .second, .val (.long yd), .second, .val (.int kq), .val (.double FP.dconst1), .second, .val (.ref b3), .val (.ref b26), .val (.long (0 : Int64)), .second, .unset, .unset, .unset, .unset, .unset, .unset] []))
      refine Go.st (fun _ k' => XS.iload X46.here hx rfl (hb hby at_145) rfl k') ?_
      show Go p e below s _ _ _ (T46.setTop (mkF m 147 #[.val (.long jx), .second, .val (.long jy), .second, .val (.long jz), .second, .val (.int kr), .val (.int kf), .val (.int (0 : Int32)), .val (.long jt), .second, .val (.long jm), .second, .val (.long ya), .second, .val (.long yb), .second, .val (.long yd), .second, .val (.int kq), .val (.double FP.dconst1), .second, .val (.ref b3), .val (.ref b26), .val (.long (0 : Int64)), .second, .unset, .unset, .unset, .unset, .unset, .unset] [(.int (0 : Int32))]))
      refine Go.st (fun _ k' => XS.iconst X46.here hx rfl (hb hby at_147) k') ?_
      show Go p e below s _ _ _ (T46.setTop (mkF m 148 #[.val (.long jx), .second, .val (.long jy), .second, .val (.long jz), .second, .val (.int kr), .val (.int kf), .val (.int (0 : Int32)), .val (.long jt), .second, .val (.long jm), .second, .val (.long ya), .second, .val (.long yb), .second, .val (.long yd), .second, .val (.int kq), .val (.double FP.dconst1), .second, .val (.ref b3), .val (.ref b26), .val (.long (0 : Int64)), .second, .unset, .unset, .unset, .unset, .unset, .unset] [(.int (3 : Int32)), (.int (0 : Int32))]))
      refine Go.st (fun _ k' => XS.icmpYes X46.here hx rfl (pc0 := 148) (pc' := 165) rfl (hb hby at_148) rfl (XT.ii_lt_t (by decide)) (by decide) (by decide) k') ?_
      show Go p e below s _ _ _ (T46.setTop (mkF m 165 #[.val (.long jx), .second, .val (.long jy), .second, .val (.long jz), .second, .val (.int kr), .val (.int kf), .val (.int (0 : Int32)), .val (.long jt), .second, .val (.long jm), .second, .val (.long ya), .second, .val (.long yb), .second, .val (.long yd), .second, .val (.int kq), .val (.double FP.dconst1), .second, .val (.ref b3), .val (.ref b26), .val (.long (0 : Int64)), .second, .unset, .unset, .unset, .unset, .unset, .unset] []))
      refine Go.st (fun _ k' => XS.iload X46.here hx rfl (hb hby at_165) rfl k') ?_
      show Go p e below s _ _ _ (T46.setTop (mkF m 167 #[.val (.long jx), .second, .val (.long jy), .second, .val (.long jz), .second, .val (.int kr), .val (.int kf), .val (.int (0 : Int32)), .val (.long jt), .second, .val (.long jm), .second, .val (.long ya), .second, .val (.long yb), .second, .val (.long yd), .second, .val (.int kq), .val (.double FP.dconst1), .second, .val (.ref b3), .val (.ref b26), .val (.long (0 : Int64)), .second, .unset, .unset, .unset, .unset, .unset, .unset] [(.int (0 : Int32))]))
      refine Go.st (fun _ k' => XS.iconst X46.here hx rfl (hb hby at_167) k') ?_
      show Go p e below s _ _ _ (T46.setTop (mkF m 168 #[.val (.long jx), .second, .val (.long jy), .second, .val (.long jz), .second, .val (.int kr), .val (.int kf), .val (.int (0 : Int32)), .val (.long jt), .second, .val (.long jm), .second, .val (.long ya), .second, .val (.long yb), .second, .val (.long yd), .second, .val (.int kq), .val (.double FP.dconst1), .second, .val (.ref b3), .val (.ref b26), .val (.long (0 : Int64)), .second, .unset, .unset, .unset, .unset, .unset, .unset] [(.int (1 : Int32)), (.int (0 : Int32))]))
      refine Go.st (fun _ k' => XS.icmpYes X46.here hx rfl (pc0 := 168) (pc' := 178) rfl (hb hby at_168) rfl (XT.ii_lt_t (by decide)) (by decide) (by decide) k') ?_
      show Go p e below s _ _ _ (T46.setTop (mkF m 178 #[.val (.long jx), .second, .val (.long jy), .second, .val (.long jz), .second, .val (.int kr), .val (.int kf), .val (.int (0 : Int32)), .val (.long jt), .second, .val (.long jm), .second, .val (.long ya), .second, .val (.long yb), .second, .val (.long yd), .second, .val (.int kq), .val (.double FP.dconst1), .second, .val (.ref b3), .val (.ref b26), .val (.long (0 : Int64)), .second, .unset, .unset, .unset, .unset, .unset, .unset] []))
      refine Go.st (fun _ k' => XS.iload X46.here hx rfl (hb hby at_178) rfl k') ?_
      show Go p e below s _ _ _ (T46.setTop (mkF m 180 #[.val (.long jx), .second, .val (.long jy), .second, .val (.long jz), .second, .val (.int kr), .val (.int kf), .val (.int (0 : Int32)), .val (.long jt), .second, .val (.long jm), .second, .val (.long ya), .second, .val (.long yb), .second, .val (.long yd), .second, .val (.int kq), .val (.double FP.dconst1), .second, .val (.ref b3), .val (.ref b26), .val (.long (0 : Int64)), .second, .unset, .unset, .unset, .unset, .unset, .unset] [(.int (0 : Int32))]))
      refine Go.st (fun _ k' => XS.iconst X46.here hx rfl (hb hby at_180) k') ?_
      show Go p e below s _ _ _ (T46.setTop (mkF m 181 #[.val (.long jx), .second, .val (.long jy), .second, .val (.long jz), .second, .val (.int kr), .val (.int kf), .val (.int (0 : Int32)), .val (.long jt), .second, .val (.long jm), .second, .val (.long ya), .second, .val (.long yb), .second, .val (.long yd), .second, .val (.int kq), .val (.double FP.dconst1), .second, .val (.ref b3), .val (.ref b26), .val (.long (0 : Int64)), .second, .unset, .unset, .unset, .unset, .unset, .unset] [(.int (2 : Int32)), (.int (0 : Int32))]))
      refine Go.st (fun _ k' => XS.icmpYes X46.here hx rfl (pc0 := 181) (pc' := 190) rfl (hb hby at_181) rfl (XT.ii_lt_t (by decide)) (by decide) (by decide) k') ?_
      show Go p e below s _ _ _ (T46.setTop (mkF m 190 #[.val (.long jx), .second, .val (.long jy), .second, .val (.long jz), .second, .val (.int kr), .val (.int kf), .val (.int (0 : Int32)), .val (.long jt), .second, .val (.long jm), .second, .val (.long ya), .second, .val (.long yb), .second, .val (.long yd), .second, .val (.int kq), .val (.double FP.dconst1), .second, .val (.ref b3), .val (.ref b26), .val (.long (0 : Int64)), .second, .unset, .unset, .unset, .unset, .unset, .unset] []))
      refine Go.st (fun _ k' => XS.iload X46.here hx rfl (hb hby at_190) rfl k') ?_
      show Go p e below s _ _ _ (T46.setTop (mkF m 192 #[.val (.long jx), .second, .val (.long jy), .second, .val (.long jz), .second, .val (.int kr), .val (.int kf), .val (.int (0 : Int32)), .val (.long jt), .second, .val (.long jm), .second, .val (.long ya), .second, .val (.long yb), .second, .val (.long yd), .second, .val (.int kq), .val (.double FP.dconst1), .second, .val (.ref b3), .val (.ref b26), .val (.long (0 : Int64)), .second, .unset, .unset, .unset, .unset, .unset, .unset] [(.int (0 : Int32))]))
      refine Go.st (fun _ k' => XS.iconst X46.here hx rfl (hb hby at_192) k') ?_
      show Go p e below s _ _ _ (T46.setTop (mkF m 193 #[.val (.long jx), .second, .val (.long jy), .second, .val (.long jz), .second, .val (.int kr), .val (.int kf), .val (.int (0 : Int32)), .val (.long jt), .second, .val (.long jm), .second, .val (.long ya), .second, .val (.long yb), .second, .val (.long yd), .second, .val (.int kq), .val (.double FP.dconst1), .second, .val (.ref b3), .val (.ref b26), .val (.long (0 : Int64)), .second, .unset, .unset, .unset, .unset, .unset, .unset] [(.int (3 : Int32)), (.int (0 : Int32))]))
      refine Go.st (fun _ k' => XS.icmpYes X46.here hx rfl (pc0 := 193) (pc' := 202) rfl (hb hby at_193) rfl (XT.ii_lt_t (by decide)) (by decide) (by decide) k') ?_
      show Go p e below s _ _ _ (T46.setTop (mkF m 202 #[.val (.long jx), .second, .val (.long jy), .second, .val (.long jz), .second, .val (.int kr), .val (.int kf), .val (.int (0 : Int32)), .val (.long jt), .second, .val (.long jm), .second, .val (.long ya), .second, .val (.long yb), .second, .val (.long yd), .second, .val (.int kq), .val (.double FP.dconst1), .second, .val (.ref b3), .val (.ref b26), .val (.long (0 : Int64)), .second, .unset, .unset, .unset, .unset, .unset, .unset] []))
      refine Go.st (fun _ k' => XS.aload X46.here hx rfl (hb hby at_202) rfl rfl k') ?_
      show Go p e below s _ _ _ (T46.setTop (mkF m 204 #[.val (.long jx), .second, .val (.long jy), .second, .val (.long jz), .second, .val (.int kr), .val (.int kf), .val (.int (0 : Int32)), .val (.long jt), .second, .val (.long jm), .second, .val (.long ya), .second, .val (.long yb), .second, .val (.long yd), .second, .val (.int kq), .val (.double FP.dconst1), .second, .val (.ref b3), .val (.ref b26), .val (.long (0 : Int64)), .second, .unset, .unset, .unset, .unset, .unset, .unset] [(.ref b3)]))
      refine Go.st (fun _ k' => XS.iload X46.here hx rfl (hb hby at_204) rfl k') ?_
      show Go p e below s _ _ _ (T46.setTop (mkF m 206 #[.val (.long jx), .second, .val (.long jy), .second, .val (.long jz), .second, .val (.int kr), .val (.int kf), .val (.int (0 : Int32)), .val (.long jt), .second, .val (.long jm), .second, .val (.long ya), .second, .val (.long yb), .second, .val (.long yd), .second, .val (.int kq), .val (.double FP.dconst1), .second, .val (.ref b3), .val (.ref b26), .val (.long (0 : Int64)), .second, .unset, .unset, .unset, .unset, .unset, .unset] [(.int kq), (.ref b3)]))
      obtain ⟨cq64, kq64, q64a, q64b, q64c⟩ := isOf hZ rfl f56
      obtain ⟨_, _, ⟨T64, L64, k64, n64⟩, -, X64, ⟨Lc64, hQ64, l64, y64, z64⟩, st64⟩ := X46.virtualBack hx (y := (⟨"com/example/spillway/spillway/runtime/LatencyController", "decide", "(I)I"⟩ : MethodName)) (z := (⟨"com/example/spillway/spillway/runtime/LatencyController", "decide", "(I)I"⟩ : MethodName)) hown (mvT hZ (wdx hw 45 rfl)) (mvT hZ (wdx hw 46 rfl)) (notFace_of_selects (args := #[]) (mvT hZ (wdx hw 48 rfl))) (mvT hZ (wdx hw 48 rfl)) (mvT hZ (wdx hw 47 rfl)) (by decide) (backOf (W := 0) (rm6_0 l Z a0 hw [] b3 kq (0 : Int64) (0 : Int64) (0 : Int64) (FP.l2d (jt * (1000000 : Int64))) FP.dconst1 T46.heap n0 O46 f56 f57 f58 f59 f60 f61 f62 g_b3 rfl (own_rp0 _)) hZ (wdx hw 49 rfl) (wdx hw 8 rfl) (by decide) (by decide)) q64a q64c (g := (mkF m 206 #[.val (.long jx), .second, .val (.long jy), .second, .val (.long jz), .second, .val (.int kr), .val (.int kf), .val (.int (0 : Int32)), .val (.long jt), .second, .val (.long jm), .second, .val (.long ya), .second, .val (.long yb), .second, .val (.long yd), .second, .val (.int kq), .val (.double FP.dconst1), .second, .val (.ref b3), .val (.ref b26), .val (.long (0 : Int64)), .second, .unset, .unset, .unset, .unset, .unset, .unset] [(.int kq), (.ref b3)])) rfl (by rw [hml]; rfl) (Steps.refl _) (argsL := [(.int kq)]) (rest := []) (lenOf pd__I_I rfl) rfl (by show 2 * 0 + _ ≤ _; exact Nat.le_of_eq rfl) (hb hby at_206) (fun _ _ => ⟨rfl, rfl, (by exact Nat.le_of_ble_eq_true rfl), (by exact Nat.le_of_ble_eq_true rfl)⟩)
      dsimp only [Pt.U, Pt.locs, Pt.cells, Pt.slots] at X64 l64 y64 z64 st64 hQ64
      subst l64 y64 z64
      obtain ⟨rfl, Nq64, Kq64⟩ := hQ64
      have N64 := Fr.app N46 Nq64
      refine Go.tr st64 ?_
      have f65 : Exa Z T64.heap a_ms "java/util/concurrent/TimeUnit" := f53.keep Kq64
      have f66 : Fld Z T64.heap a_ms "java/util/concurrent/TimeUnit" "scale" "J" (.long (1000000 : Int64)) := f54.keep Kq64 (ninS ne4 nin0)
      have f67 : Fld Z T64.heap a_ms "java/util/concurrent/TimeUnit" "maxNanos" "J" (.long (9223372036854 : Int64)) := f55.keep Kq64 (ninS ne4 nin0)
      have f68 : Exa Z T64.heap b3 "com/example/spillway/spillway/runtime/LatencyController" := f56.keep Kq64
      have f69 : Exa Z T64.heap b26 "com/example/spillway/spillway/runtime/LatencyController" := f63.keep Kq64
      have f70 : Fld Z T64.heap b26 "com/example/spillway/spillway/runtime/LatencyController" "limit" "D" (.double (9221120237041090560 : UInt64)) := f47.keep Kq64 (ninS (Ne.symm ne28) nin0)
      have f71 : Fld Z T64.heap b26 "com/example/spillway/spillway/runtime/LatencyController" "targetNanos" "D" (.double (FP.l2d (jt * (1000000 : Int64)))) := f48.keep Kq64 (ninS (Ne.symm ne28) nin0)
      have f72 : Fld Z T64.heap b26 "com/example/spillway/spillway/runtime/LatencyController" "gain" "D" (.double FP.dconst1) := f49.keep Kq64 (ninS (Ne.symm ne28) nin0)
      have f73 : Fld Z T64.heap b26 "com/example/spillway/spillway/runtime/LatencyController" "latencySum" "J" (.long (0 : Int64)) := f50.keep Kq64 (ninS (Ne.symm ne28) nin0)
      have f74 : Fld Z T64.heap b26 "com/example/spillway/spillway/runtime/LatencyController" "latencyCount" "J" (.long (0 : Int64)) := f51.keep Kq64 (ninS (Ne.symm ne28) nin0)
      have f75 : Fld Z T64.heap b26 "com/example/spillway/spillway/runtime/LatencyController" "decisions" "J" (.long (0 : Int64)) := f52.keep Kq64 (ninS (Ne.symm ne28) nin0)
      have O64 : Old Z n0 T64.heap := O46.keep Kq64 (allS g_b3 all0)
      show Go p e below s _ _ _ (T64.setTop (mkF m 209 #[.val (.long jx), .second, .val (.long jy), .second, .val (.long jz), .second, .val (.int kr), .val (.int kf), .val (.int (0 : Int32)), .val (.long jt), .second, .val (.long jm), .second, .val (.long ya), .second, .val (.long yb), .second, .val (.long yd), .second, .val (.int kq), .val (.double FP.dconst1), .second, .val (.ref b3), .val (.ref b26), .val (.long (0 : Int64)), .second, .unset, .unset, .unset, .unset, .unset, .unset] [(.int (fkeep (FP.i2d kq) kq))]))
      refine Go.st (fun _ k' => XS.istore X64.here hx rfl (hb hby at_209) rfl (l' := #[.val (.long jx), .second, .val (.long jy), .second, .val (.long jz), .second, .val (.int kr), .val (.int kf), .val (.int (0 : Int32)), .val (.long jt), .second, .val (.long jm), .second, .val (.long ya), .second, .val (.long yb), .second, .val (.long yd), .second, .val (.int kq), .val (.double FP.dconst1), .second, .val (.ref b3), .val (.ref b26), .val (.long (0 : Int64)), .second, .val (.int (fkeep (FP.i2d kq) kq)), .unset, .unset, .unset, .unset, .unset]) rfl k') ?_
      show Go p e below s _ _ _ (T64.setTop (mkF m 211 #[.val (.long jx), .second, .val (.long jy), .second, .val (.long jz), .second, .val (.int kr), .val (.int kf), .val (.int (0 : Int32)), .val (.long jt), .second, .val (.long jm), .second, .val (.long ya), .second, .val (.long yb), .second, .val (.long yd), .second, .val (.int kq), .val (.double FP.dconst1), .second, .val (.ref b3), .val (.ref b26), .val (.long (0 : Int64)), .second, .val (.int (fkeep (FP.i2d kq) kq)), .unset, .unset, .unset, .unset, .unset] []))
      refine Go.st (fun _ k' => XS.aload X64.here hx rfl (hb hby at_211) rfl rfl k') ?_
      show Go p e below s _ _ _ (T64.setTop (mkF m 213 #[.val (.long jx), .second, .val (.long jy), .second, .val (.long jz), .second, .val (.int kr), .val (.int kf), .val (.int (0 : Int32)), .val (.long jt), .second, .val (.long jm), .second, .val (.long ya), .second, .val (.long yb), .second, .val (.long yd), .second, .val (.int kq), .val (.double FP.dconst1), .second, .val (.ref b3), .val (.ref b26), .val (.long (0 : Int64)), .second, .val (.int (fkeep (FP.i2d kq) kq)), .unset, .unset, .unset, .unset, .unset] [(.ref b26)]))
      refine Go.st (fun _ k' => XS.iload X64.here hx rfl (hb hby at_213) rfl k') ?_
      show Go p e below s _ _ _ (T64.setTop (mkF m 215 #[.val (.long jx), .second, .val (.long jy), .second, .val (.long jz), .second, .val (.int kr), .val (.int kf), .val (.int (0 : Int32)), .val (.long jt), .second, .val (.long jm), .second, .val (.long ya), .second, .val (.long yb), .second, .val (.long yd), .second, .val (.int kq), .val (.double FP.dconst1), .second, .val (.ref b3), .val (.ref b26), .val (.long (0 : Int64)), .second, .val (.int (fkeep (FP.i2d kq) kq)), .unset, .unset, .unset, .unset, .unset] [(.int kq), (.ref b26)]))
      obtain ⟨cq76, kq76, q76a, q76b, q76c⟩ := isOf hZ rfl f69
      obtain ⟨_, _, ⟨T76, L76, k76, n76⟩, -, X76, ⟨Lc76, hQ76, l76, y76, z76⟩, st76⟩ := X64.virtualBack hx (y := (⟨"com/example/spillway/spillway/runtime/LatencyController", "decide", "(I)I"⟩ : MethodName)) (z := (⟨"com/example/spillway/spillway/runtime/LatencyController", "decide", "(I)I"⟩ : MethodName)) hown (mvT hZ (wdx hw 45 rfl)) (mvT hZ (wdx hw 46 rfl)) (notFace_of_selects (args := #[]) (mvT hZ (wdx hw 48 rfl))) (mvT hZ (wdx hw 48 rfl)) (mvT hZ (wdx hw 47 rfl)) (by decide) (backOf (W := 0) (rm6_0 l Z a0 hw [] b26 kq (0 : Int64) (0 : Int64) (0 : Int64) (FP.l2d (jt * (1000000 : Int64))) FP.dconst1 T64.heap n0 O64 f69 f70 f71 f72 f73 f74 f75 g_b26 rfl (own_rp0 _)) hZ (wdx hw 49 rfl) (wdx hw 8 rfl) (by decide) (by decide)) q76a q76c (g := (mkF m 215 #[.val (.long jx), .second, .val (.long jy), .second, .val (.long jz), .second, .val (.int kr), .val (.int kf), .val (.int (0 : Int32)), .val (.long jt), .second, .val (.long jm), .second, .val (.long ya), .second, .val (.long yb), .second, .val (.long yd), .second, .val (.int kq), .val (.double FP.dconst1), .second, .val (.ref b3), .val (.ref b26), .val (.long (0 : Int64)), .second, .val (.int (fkeep (FP.i2d kq) kq)), .unset, .unset, .unset, .unset, .unset] [(.int kq), (.ref b26)])) rfl (by rw [hml]; rfl) (Steps.refl _) (argsL := [(.int kq)]) (rest := []) (lenOf pd__I_I rfl) rfl (by show 2 * 0 + _ ≤ _; exact Nat.le_of_eq rfl) (hb hby at_215) (fun _ _ => ⟨rfl, rfl, (by exact Nat.le_of_ble_eq_true rfl), (by exact Nat.le_of_ble_eq_true rfl)⟩)
      dsimp only [Pt.U, Pt.locs, Pt.cells, Pt.slots] at X76 l76 y76 z76 st76 hQ76
      subst l76 y76 z76
      obtain ⟨rfl, Nq76, Kq76⟩ := hQ76
      have N76 := Fr.app N64 Nq76
      refine Go.tr st76 ?_
      have f77 : Exa Z T76.heap a_ms "java/util/concurrent/TimeUnit" := f65.keep Kq76
      have f78 : Fld Z T76.heap a_ms "java/util/concurrent/TimeUnit" "scale" "J" (.long (1000000 : Int64)) := f66.keep Kq76 (ninS ne27 nin0)
      have f79 : Fld Z T76.heap a_ms "java/util/concurrent/TimeUnit" "maxNanos" "J" (.long (9223372036854 : Int64)) := f67.keep Kq76 (ninS ne27 nin0)
      have f80 : Exa Z T76.heap b3 "com/example/spillway/spillway/runtime/LatencyController" := f68.keep Kq76
      have f81 : Exa Z T76.heap b26 "com/example/spillway/spillway/runtime/LatencyController" := f69.keep Kq76
      have O76 : Old Z n0 T76.heap := O64.keep Kq76 (allS g_b26 all0)
      show Go p e below s _ _ _ (T76.setTop (mkF m 218 #[.val (.long jx), .second, .val (.long jy), .second, .val (.long jz), .second, .val (.int kr), .val (.int kf), .val (.int (0 : Int32)), .val (.long jt), .second, .val (.long jm), .second, .val (.long ya), .second, .val (.long yb), .second, .val (.long yd), .second, .val (.int kq), .val (.double FP.dconst1), .second, .val (.ref b3), .val (.ref b26), .val (.long (0 : Int64)), .second, .val (.int (fkeep (FP.i2d kq) kq)), .unset, .unset, .unset, .unset, .unset] [(.int (fkeep (FP.i2d kq) kq))]))
      refine Go.st (fun _ k' => XS.istore X76.here hx rfl (hb hby at_218) rfl (l' := #[.val (.long jx), .second, .val (.long jy), .second, .val (.long jz), .second, .val (.int kr), .val (.int kf), .val (.int (0 : Int32)), .val (.long jt), .second, .val (.long jm), .second, .val (.long ya), .second, .val (.long yb), .second, .val (.long yd), .second, .val (.int kq), .val (.double FP.dconst1), .second, .val (.ref b3), .val (.ref b26), .val (.long (0 : Int64)), .second, .val (.int (fkeep (FP.i2d kq) kq)), .val (.int (fkeep (FP.i2d kq) kq)), .unset, .unset, .unset, .unset]) rfl k') ?_
      show Go p e below s _ _ _ (T76.setTop (mkF m 220 #[.val (.long jx), .second, .val (.long jy), .second, .val (.long jz), .second, .val (.int kr), .val (.int kf), .val (.int (0 : Int32)), .val (.long jt), .second, .val (.long jm), .second, .val (.long ya), .second, .val (.long yb), .second, .val (.long yd), .second, .val (.int kq), .val (.double FP.dconst1), .second, .val (.ref b3), .val (.ref b26), .val (.long (0 : Int64)), .second, .val (.int (fkeep (FP.i2d kq) kq)), .val (.int (fkeep (FP.i2d kq) kq)), .unset, .unset, .unset, .unset] []))
      have w_q := own_law0 r_kq
      have w_b : ¬ (fkeep (FP.i2d kq) kq) < (1 : Int32) := by rw [w_q]; exact own_i32.mpr r_kq
      have w_c : ¬ kq < (fkeep (FP.i2d kq) kq) := by rw [w_q]; exact own_i32.mpr (Int.le_refl _)
      show Go p e below s _ _ _ (T76.setTop (mkF m 220 #[.val (.long jx), .second, .val (.long jy), .second, .val (.long jz), .second, .val (.int kr), .val (.int kf), .val (.int (0 : Int32)), .val (.long jt), .second, .val (.long jm), .second, .val (.long ya), .second, .val (.long yb), .second, .val (.long yd), .second, .val (.int kq), .val (.double FP.dconst1), .second, .val (.ref b3), .val (.ref b26), .val (.long (0 : Int64)), .second, .val (.int (fkeep (FP.i2d kq) kq)), .val (.int (fkeep (FP.i2d kq) kq)), .unset, .unset, .unset, .unset] []))
      refine Go.st (fun _ k' => XS.iload X76.here hx rfl (hb hby at_220) rfl k') ?_
      show Go p e below s _ _ _ (T76.setTop (mkF m 222 #[.val (.long jx), .second, .val (.long jy), .second, .val (.long jz), .second, .val (.int kr), .val (.int kf), .val (.int (0 : Int32)), .val (.long jt), .second, .val (.long jm), .second, .val (.long ya), .second, .val (.long yb), .second, .val (.long yd), .second, .val (.int kq), .val (.double FP.dconst1), .second, .val (.ref b3), .val (.ref b26), .val (.long (0 : Int64)), .second, .val (.int (fkeep (FP.i2d kq) kq)), .val (.int (fkeep (FP.i2d kq) kq)), .unset, .unset, .unset, .unset] [(.int (fkeep (FP.i2d kq) kq))]))
      refine Go.st (fun _ k' => XS.iload X76.here hx rfl (hb hby at_222) rfl k') ?_
      show Go p e below s _ _ _ (T76.setTop (mkF m 224 #[.val (.long jx), .second, .val (.long jy), .second, .val (.long jz), .second, .val (.int kr), .val (.int kf), .val (.int (0 : Int32)), .val (.long jt), .second, .val (.long jm), .second, .val (.long ya), .second, .val (.long yb), .second, .val (.long yd), .second, .val (.int kq), .val (.double FP.dconst1), .second, .val (.ref b3), .val (.ref b26), .val (.long (0 : Int64)), .second, .val (.int (fkeep (FP.i2d kq) kq)), .val (.int (fkeep (FP.i2d kq) kq)), .unset, .unset, .unset, .unset] [(.int (fkeep (FP.i2d kq) kq)), (.int (fkeep (FP.i2d kq) kq))]))
      refine Go.st (fun _ k' => XS.icmpYes X76.here hx rfl (pc0 := 224) (pc' := 229) rfl (hb hby at_224) rfl (XT.ii_eq_t rfl) (by decide) (by decide) k') ?_
      show Go p e below s _ _ _ (T76.setTop (mkF m 229 #[.val (.long jx), .second, .val (.long jy), .second, .val (.long jz), .second, .val (.int kr), .val (.int kf), .val (.int (0 : Int32)), .val (.long jt), .second, .val (.long jm), .second, .val (.long ya), .second, .val (.long yb), .second, .val (.long yd), .second, .val (.int kq), .val (.double FP.dconst1), .second, .val (.ref b3), .val (.ref b26), .val (.long (0 : Int64)), .second, .val (.int (fkeep (FP.i2d kq) kq)), .val (.int (fkeep (FP.i2d kq) kq)), .unset, .unset, .unset, .unset] []))
      refine Go.st (fun _ k' => XS.iload X76.here hx rfl (hb hby at_229) rfl k') ?_
      show Go p e below s _ _ _ (T76.setTop (mkF m 231 #[.val (.long jx), .second, .val (.long jy), .second, .val (.long jz), .second, .val (.int kr), .val (.int kf), .val (.int (0 : Int32)), .val (.long jt), .second, .val (.long jm), .second, .val (.long ya), .second, .val (.long yb), .second, .val (.long yd), .second, .val (.int kq), .val (.double FP.dconst1), .second, .val (.ref b3), .val (.ref b26), .val (.long (0 : Int64)), .second, .val (.int (fkeep (FP.i2d kq) kq)), .val (.int (fkeep (FP.i2d kq) kq)), .unset, .unset, .unset, .unset] [(.int (fkeep (FP.i2d kq) kq))]))
      refine Go.st (fun _ k' => XS.iconst X76.here hx rfl (hb hby at_231) k') ?_
      show Go p e below s _ _ _ (T76.setTop (mkF m 232 #[.val (.long jx), .second, .val (.long jy), .second, .val (.long jz), .second, .val (.int kr), .val (.int kf), .val (.int (0 : Int32)), .val (.long jt), .second, .val (.long jm), .second, .val (.long ya), .second, .val (.long yb), .second, .val (.long yd), .second, .val (.int kq), .val (.double FP.dconst1), .second, .val (.ref b3), .val (.ref b26), .val (.long (0 : Int64)), .second, .val (.int (fkeep (FP.i2d kq) kq)), .val (.int (fkeep (FP.i2d kq) kq)), .unset, .unset, .unset, .unset] [(.int (1 : Int32)), (.int (fkeep (FP.i2d kq) kq))]))
      refine Go.st (fun _ k' => XS.icmpNo X76.here hx rfl (hb hby at_232) rfl (XT.ii_lt_f w_b) k') ?_
      show Go p e below s _ _ _ (T76.setTop (mkF m 235 #[.val (.long jx), .second, .val (.long jy), .second, .val (.long jz), .second, .val (.int kr), .val (.int kf), .val (.int (0 : Int32)), .val (.long jt), .second, .val (.long jm), .second, .val (.long ya), .second, .val (.long yb), .second, .val (.long yd), .second, .val (.int kq), .val (.double FP.dconst1), .second, .val (.ref b3), .val (.ref b26), .val (.long (0 : Int64)), .second, .val (.int (fkeep (FP.i2d kq) kq)), .val (.int (fkeep (FP.i2d kq) kq)), .unset, .unset, .unset, .unset] []))
      refine Go.st (fun _ k' => XS.iload X76.here hx rfl (hb hby at_235) rfl k') ?_
      show Go p e below s _ _ _ (T76.setTop (mkF m 237 #[.val (.long jx), .second, .val (.long jy), .second, .val (.long jz), .second, .val (.int kr), .val (.int kf), .val (.int (0 : Int32)), .val (.long jt), .second, .val (.long jm), .second, .val (.long ya), .second, .val (.long yb), .second, .val (.long yd), .second, .val (.int kq), .val (.double FP.dconst1), .second, .val (.ref b3), .val (.ref b26), .val (.long (0 : Int64)), .second, .val (.int (fkeep (FP.i2d kq) kq)), .val (.int (fkeep (FP.i2d kq) kq)), .unset, .unset, .unset, .unset] [(.int (fkeep (FP.i2d kq) kq))]))
      refine Go.st (fun _ k' => XS.iload X76.here hx rfl (hb hby at_237) rfl k') ?_
      show Go p e below s _ _ _ (T76.setTop (mkF m 239 #[.val (.long jx), .second, .val (.long jy), .second, .val (.long jz), .second, .val (.int kr), .val (.int kf), .val (.int (0 : Int32)), .val (.long jt), .second, .val (.long jm), .second, .val (.long ya), .second, .val (.long yb), .second, .val (.long yd), .second, .val (.int kq), .val (.double FP.dconst1), .second, .val (.ref b3), .val (.ref b26), .val (.long (0 : Int64)), .second, .val (.int (fkeep (FP.i2d kq) kq)), .val (.int (fkeep (FP.i2d kq) kq)), .unset, .unset, .unset, .unset] [(.int kq), (.int (fkeep (FP.i2d kq) kq))]))
      refine Go.st (fun _ k' => XS.icmpYes X76.here hx rfl (pc0 := 239) (pc' := 244) rfl (hb hby at_239) rfl (XT.ii_le_t w_c) (by decide) (by decide) k') ?_
      show Go p e below s _ _ _ (T76.setTop (mkF m 244 #[.val (.long jx), .second, .val (.long jy), .second, .val (.long jz), .second, .val (.int kr), .val (.int kf), .val (.int (0 : Int32)), .val (.long jt), .second, .val (.long jm), .second, .val (.long ya), .second, .val (.long yb), .second, .val (.long yd), .second, .val (.int kq), .val (.double FP.dconst1), .second, .val (.ref b3), .val (.ref b26), .val (.long (0 : Int64)), .second, .val (.int (fkeep (FP.i2d kq) kq)), .val (.int (fkeep (FP.i2d kq) kq)), .unset, .unset, .unset, .unset] []))
      refine Go.st (fun _ k' => XS.lload X76.here hx rfl (hb hby at_244) rfl k') ?_
      show Go p e below s _ _ _ (T76.setTop (mkF m 246 #[.val (.long jx), .second, .val (.long jy), .second, .val (.long jz), .second, .val (.int kr), .val (.int kf), .val (.int (0 : Int32)), .val (.long jt), .second, .val (.long jm), .second, .val (.long ya), .second, .val (.long yb), .second, .val (.long yd), .second, .val (.int kq), .val (.double FP.dconst1), .second, .val (.ref b3), .val (.ref b26), .val (.long (0 : Int64)), .second, .val (.int (fkeep (FP.i2d kq) kq)), .val (.int (fkeep (FP.i2d kq) kq)), .unset, .unset, .unset, .unset] [(.long jt)]))
      refine Go.st (fun _ k' => X76.ldc2J hx hown (mvT hZ (wdx hw 77 rfl)) rfl (hb hby at_246) k') ?_
      show Go p e below s _ _ _ (T76.setTop (mkF m 249 #[.val (.long jx), .second, .val (.long jy), .second, .val (.long jz), .second, .val (.int kr), .val (.int kf), .val (.int (0 : Int32)), .val (.long jt), .second, .val (.long jm), .second, .val (.long ya), .second, .val (.long yb), .second, .val (.long yd), .second, .val (.int kq), .val (.double FP.dconst1), .second, .val (.ref b3), .val (.ref b26), .val (.long (0 : Int64)), .second, .val (.int (fkeep (FP.i2d kq) kq)), .val (.int (fkeep (FP.i2d kq) kq)), .unset, .unset, .unset, .unset] [(.long (1000000 : Int64)), (.long jt)]))
      refine Go.st (fun _ k' => XS.lmul X76.here hx rfl (hb hby at_249) rfl k') ?_
      show Go p e below s _ _ _ (T76.setTop (mkF m 250 #[.val (.long jx), .second, .val (.long jy), .second, .val (.long jz), .second, .val (.int kr), .val (.int kf), .val (.int (0 : Int32)), .val (.long jt), .second, .val (.long jm), .second, .val (.long ya), .second, .val (.long yb), .second, .val (.long yd), .second, .val (.int kq), .val (.double FP.dconst1), .second, .val (.ref b3), .val (.ref b26), .val (.long (0 : Int64)), .second, .val (.int (fkeep (FP.i2d kq) kq)), .val (.int (fkeep (FP.i2d kq) kq)), .unset, .unset, .unset, .unset] [(.long (jt * (1000000 : Int64)))]))
      refine Go.st (fun _ k' => XS.lstore X76.here hx rfl (hb hby at_250) rfl (l' := #[.val (.long jx), .second, .val (.long jy), .second, .val (.long jz), .second, .val (.int kr), .val (.int kf), .val (.int (0 : Int32)), .val (.long jt), .second, .val (.long jm), .second, .val (.long ya), .second, .val (.long yb), .second, .val (.long yd), .second, .val (.int kq), .val (.double FP.dconst1), .second, .val (.ref b3), .val (.ref b26), .val (.long (0 : Int64)), .second, .val (.int (fkeep (FP.i2d kq) kq)), .val (.int (fkeep (FP.i2d kq) kq)), .val (.long (jt * (1000000 : Int64))), .second, .unset, .unset]) rfl k') ?_
      show Go p e below s _ _ _ (T76.setTop (mkF m 252 #[.val (.long jx), .second, .val (.long jy), .second, .val (.long jz), .second, .val (.int kr), .val (.int kf), .val (.int (0 : Int32)), .val (.long jt), .second, .val (.long jm), .second, .val (.long ya), .second, .val (.long yb), .second, .val (.long yd), .second, .val (.int kq), .val (.double FP.dconst1), .second, .val (.ref b3), .val (.ref b26), .val (.long (0 : Int64)), .second, .val (.int (fkeep (FP.i2d kq) kq)), .val (.int (fkeep (FP.i2d kq) kq)), .val (.long (jt * (1000000 : Int64))), .second, .unset, .unset] []))
      refine Go.st (fun _ k' => XS.iload X76.here hx rfl (hb hby at_252) rfl k') ?_
      show Go p e below s _ _ _ (T76.setTop (mkF m 254 #[.val (.long jx), .second, .val (.long jy), .second, .val (.long jz), .second, .val (.int kr), .val (.int kf), .val (.int (0 : Int32)), .val (.long jt), .second, .val (.long jm), .second, .val (.long ya), .second, .val (.long yb), .second, .val (.long yd), .second, .val (.int kq), .val (.double FP.dconst1), .second, .val (.ref b3), .val (.ref b26), .val (.long (0 : Int64)), .second, .val (.int (fkeep (FP.i2d kq) kq)), .val (.int (fkeep (FP.i2d kq) kq)), .val (.long (jt * (1000000 : Int64))), .second, .unset, .unset] [(.int (0 : Int32))]))
      refine Go.st (fun _ k' => XS.i2l X76.here hx rfl (hb hby at_254) rfl k') ?_
      show Go p e below s _ _ _ (T76.setTop (mkF m 255 #[.val (.long jx), .second, .val (.long jy), .second, .val (.long jz), .second, .val (.int kr), .val (.int kf), .val (.int (0 : Int32)), .val (.long jt), .second, .val (.long jm), .second, .val (.long ya), .second, .val (.long yb), .second, .val (.long yd), .second, .val (.int kq), .val (.double FP.dconst1), .second, .val (.ref b3), .val (.ref b26), .val (.long (0 : Int64)), .second, .val (.int (fkeep (FP.i2d kq) kq)), .val (.int (fkeep (FP.i2d kq) kq)), .val (.long (jt * (1000000 : Int64))), .second, .unset, .unset] [(.long ((0 : Int32).toInt64))]))
      refine Go.st (fun _ k' => XS.lstore X76.here hx rfl (hb hby at_255) rfl (l' := #[.val (.long jx), .second, .val (.long jy), .second, .val (.long jz), .second, .val (.int kr), .val (.int kf), .val (.int (0 : Int32)), .val (.long jt), .second, .val (.long jm), .second, .val (.long ya), .second, .val (.long yb), .second, .val (.long yd), .second, .val (.int kq), .val (.double FP.dconst1), .second, .val (.ref b3), .val (.ref b26), .val (.long (0 : Int64)), .second, .val (.int (fkeep (FP.i2d kq) kq)), .val (.int (fkeep (FP.i2d kq) kq)), .val (.long (jt * (1000000 : Int64))), .second, .val (.long ((0 : Int32).toInt64)), .second]) rfl k') ?_
      show Go p e below s _ _ _ (T76.setTop (mkF m 257 #[.val (.long jx), .second, .val (.long jy), .second, .val (.long jz), .second, .val (.int kr), .val (.int kf), .val (.int (0 : Int32)), .val (.long jt), .second, .val (.long jm), .second, .val (.long ya), .second, .val (.long yb), .second, .val (.long yd), .second, .val (.int kq), .val (.double FP.dconst1), .second, .val (.ref b3), .val (.ref b26), .val (.long (0 : Int64)), .second, .val (.int (fkeep (FP.i2d kq) kq)), .val (.int (fkeep (FP.i2d kq) kq)), .val (.long (jt * (1000000 : Int64))), .second, .val (.long ((0 : Int32).toInt64)), .second] []))
      refine Go.st (fun _ k' => XS.lload X76.here hx rfl (hb hby at_257) rfl k') ?_
      show Go p e below s _ _ _ (T76.setTop (mkF m 259 #[.val (.long jx), .second, .val (.long jy), .second, .val (.long jz), .second, .val (.int kr), .val (.int kf), .val (.int (0 : Int32)), .val (.long jt), .second, .val (.long jm), .second, .val (.long ya), .second, .val (.long yb), .second, .val (.long yd), .second, .val (.int kq), .val (.double FP.dconst1), .second, .val (.ref b3), .val (.ref b26), .val (.long (0 : Int64)), .second, .val (.int (fkeep (FP.i2d kq) kq)), .val (.int (fkeep (FP.i2d kq) kq)), .val (.long (jt * (1000000 : Int64))), .second, .val (.long ((0 : Int32).toInt64)), .second] [(.long (0 : Int64))]))
      refine Go.st (fun _ k' => XS.lload X76.here hx rfl (hb hby at_259) rfl k') ?_
      show Go p e below s _ _ _ (T76.setTop (mkF m 261 #[.val (.long jx), .second, .val (.long jy), .second, .val (.long jz), .second, .val (.int kr), .val (.int kf), .val (.int (0 : Int32)), .val (.long jt), .second, .val (.long jm), .second, .val (.long ya), .second, .val (.long yb), .second, .val (.long yd), .second, .val (.int kq), .val (.double FP.dconst1), .second, .val (.ref b3), .val (.ref b26), .val (.long (0 : Int64)), .second, .val (.int (fkeep (FP.i2d kq) kq)), .val (.int (fkeep (FP.i2d kq) kq)), .val (.long (jt * (1000000 : Int64))), .second, .val (.long ((0 : Int32).toInt64)), .second] [(.long ((0 : Int32).toInt64)), (.long (0 : Int64))]))
      refine Go.st (fun _ k' => XS.lload X76.here hx rfl (hb hby at_261) rfl k') ?_
      show Go p e below s _ _ _ (T76.setTop (mkF m 263 #[.val (.long jx), .second, .val (.long jy), .second, .val (.long jz), .second, .val (.int kr), .val (.int kf), .val (.int (0 : Int32)), .val (.long jt), .second, .val (.long jm), .second, .val (.long ya), .second, .val (.long yb), .second, .val (.long yd), .second, .val (.int kq), .val (.double FP.dconst1), .second, .val (.ref b3), .val (.ref b26), .val (.long (0 : Int64)), .second, .val (.int (fkeep (FP.i2d kq) kq)), .val (.int (fkeep (FP.i2d kq) kq)), .val (.long (jt * (1000000 : Int64))), .second, .val (.long ((0 : Int32).toInt64)), .second] [(.long (jt * (1000000 : Int64))), (.long ((0 : Int32).toInt64)), (.long (0 : Int64))]))
      refine Go.st (fun _ k' => XS.lmul X76.here hx rfl (hb hby at_263) rfl k') ?_
      show Go p e below s _ _ _ (T76.setTop (mkF m 264 #[.val (.long jx), .second, .val (.long jy), .second, .val (.long jz), .second, .val (.int kr), .val (.int kf), .val (.int (0 : Int32)), .val (.long jt), .second, .val (.long jm), .second, .val (.long ya), .second, .val (.long yb), .second, .val (.long yd), .second, .val (.int kq), .val (.double FP.dconst1), .second, .val (.ref b3), .val (.ref b26), .val (.long (0 : Int64)), .second, .val (.int (fkeep (FP.i2d kq) kq)), .val (.int (fkeep (FP.i2d kq) kq)), .val (.long (jt * (1000000 : Int64))), .second, .val (.long ((0 : Int32).toInt64)), .second] [(.long (((0 : Int32).toInt64) * (jt * (1000000 : Int64)))), (.long (0 : Int64))]))
      refine Go.st (fun _ k' => XT.lcmp X76.here hx rfl (hb hby at_264) rfl k') ?_
      show Go p e below s _ _ _ (T76.setTop (mkF m 265 #[.val (.long jx), .second, .val (.long jy), .second, .val (.long jz), .second, .val (.int kr), .val (.int kf), .val (.int (0 : Int32)), .val (.long jt), .second, .val (.long jm), .second, .val (.long ya), .second, .val (.long yb), .second, .val (.long yd), .second, .val (.int kq), .val (.double FP.dconst1), .second, .val (.ref b3), .val (.ref b26), .val (.long (0 : Int64)), .second, .val (.int (fkeep (FP.i2d kq) kq)), .val (.int (fkeep (FP.i2d kq) kq)), .val (.long (jt * (1000000 : Int64))), .second, .val (.long ((0 : Int32).toInt64)), .second] [(.int (XT.cmpL (0 : Int64) (((0 : Int32).toInt64) * (jt * (1000000 : Int64)))))]))
      refine Go.st (fun _ k' => XS.ifNo X76.here hx rfl (hb hby at_265) rfl (XT.ll_gt_f (own_z0 _)) k') ?_
      show Go p e below s _ _ _ (T76.setTop (mkF m 268 #[.val (.long jx), .second, .val (.long jy), .second, .val (.long jz), .second, .val (.int kr), .val (.int kf), .val (.int (0 : Int32)), .val (.long jt), .second, .val (.long jm), .second, .val (.long ya), .second, .val (.long yb), .second, .val (.long yd), .second, .val (.int kq), .val (.double FP.dconst1), .second, .val (.ref b3), .val (.ref b26), .val (.long (0 : Int64)), .second, .val (.int (fkeep (FP.i2d kq) kq)), .val (.int (fkeep (FP.i2d kq) kq)), .val (.long (jt * (1000000 : Int64))), .second, .val (.long ((0 : Int32).toInt64)), .second] []))
      refine Go.st (fun _ k' => XS.iload X76.here hx rfl (hb hby at_268) rfl k') ?_
      show Go p e below s _ _ _ (T76.setTop (mkF m 270 #[.val (.long jx), .second, .val (.long jy), .second, .val (.long jz), .second, .val (.int kr), .val (.int kf), .val (.int (0 : Int32)), .val (.long jt), .second, .val (.long jm), .second, .val (.long ya), .second, .val (.long yb), .second, .val (.long yd), .second, .val (.int kq), .val (.double FP.dconst1), .second, .val (.ref b3), .val (.ref b26), .val (.long (0 : Int64)), .second, .val (.int (fkeep (FP.i2d kq) kq)), .val (.int (fkeep (FP.i2d kq) kq)), .val (.long (jt * (1000000 : Int64))), .second, .val (.long ((0 : Int32).toInt64)), .second] [(.int (fkeep (FP.i2d kq) kq))]))
      refine Go.st (fun _ k' => XS.iload X76.here hx rfl (hb hby at_270) rfl k') ?_
      show Go p e below s _ _ _ (T76.setTop (mkF m 272 #[.val (.long jx), .second, .val (.long jy), .second, .val (.long jz), .second, .val (.int kr), .val (.int kf), .val (.int (0 : Int32)), .val (.long jt), .second, .val (.long jm), .second, .val (.long ya), .second, .val (.long yb), .second, .val (.long yd), .second, .val (.int kq), .val (.double FP.dconst1), .second, .val (.ref b3), .val (.ref b26), .val (.long (0 : Int64)), .second, .val (.int (fkeep (FP.i2d kq) kq)), .val (.int (fkeep (FP.i2d kq) kq)), .val (.long (jt * (1000000 : Int64))), .second, .val (.long ((0 : Int32).toInt64)), .second] [(.int kq), (.int (fkeep (FP.i2d kq) kq))]))
      refine Go.st (fun _ k' => XS.icmpNo X76.here hx rfl (hb hby at_272) rfl (XT.ii_ne_f w_q) k') ?_
      show Go p e below s _ _ _ (T76.setTop (mkF m 275 #[.val (.long jx), .second, .val (.long jy), .second, .val (.long jz), .second, .val (.int kr), .val (.int kf), .val (.int (0 : Int32)), .val (.long jt), .second, .val (.long jm), .second, .val (.long ya), .second, .val (.long yb), .second, .val (.long yd), .second, .val (.int kq), .val (.double FP.dconst1), .second, .val (.ref b3), .val (.ref b26), .val (.long (0 : Int64)), .second, .val (.int (fkeep (FP.i2d kq) kq)), .val (.int (fkeep (FP.i2d kq) kq)), .val (.long (jt * (1000000 : Int64))), .second, .val (.long ((0 : Int32).toInt64)), .second] []))
      refine Go.st (fun _ k' => XS.iconst X76.here hx rfl (hb hby at_275) k') ?_
      show Go p e below s _ _ _ (T76.setTop (mkF m 276 #[.val (.long jx), .second, .val (.long jy), .second, .val (.long jz), .second, .val (.int kr), .val (.int kf), .val (.int (0 : Int32)), .val (.long jt), .second, .val (.long jm), .second, .val (.long ya), .second, .val (.long yb), .second, .val (.long yd), .second, .val (.int kq), .val (.double FP.dconst1), .second, .val (.ref b3), .val (.ref b26), .val (.long (0 : Int64)), .second, .val (.int (fkeep (FP.i2d kq) kq)), .val (.int (fkeep (FP.i2d kq) kq)), .val (.long (jt * (1000000 : Int64))), .second, .val (.long ((0 : Int32).toInt64)), .second] [(.int (1 : Int32))]))
      refine Go.st (fun _ k' => XS.goto X76.here hx rfl (pc0 := 276) (pc' := 280) rfl (hb hby at_276) (by decide) (by decide) k') ?_
      show Go p e below s _ _ _ (T76.setTop (mkF m 280 #[.val (.long jx), .second, .val (.long jy), .second, .val (.long jz), .second, .val (.int kr), .val (.int kf), .val (.int (0 : Int32)), .val (.long jt), .second, .val (.long jm), .second, .val (.long ya), .second, .val (.long yb), .second, .val (.long yd), .second, .val (.int kq), .val (.double FP.dconst1), .second, .val (.ref b3), .val (.ref b26), .val (.long (0 : Int64)), .second, .val (.int (fkeep (FP.i2d kq) kq)), .val (.int (fkeep (FP.i2d kq) kq)), .val (.long (jt * (1000000 : Int64))), .second, .val (.long ((0 : Int32).toInt64)), .second] [(.int (1 : Int32))]))
      refine Go.retB X76 hx hlk (t := .boolean) Bd.returns (by simp) (hb hby at_280) (by decide) (by decide) rfl ?_
      exact ⟨rfl, N76, trivial⟩
    · rw [hi]
      show Go p e below s _ _ _ (T46.setTop (mkF m 105 #[.val (.long jx), .second, .val (.long jy), .second, .val (.long jz), .second, .val (.int kr), .val (.int kf), .val (.int (1 : Int32)), .val (.long jt), .second, .val (.long jm), .second, .val (.long ya), .second, .val (.long yb), .second, .val (.long yd), .second, .val (.int kq), .val (.double FP.dconst1), .second, .val (.ref b3), .val (.ref b26), .val (.long (0 : Int64)), .second, .unset, .unset, .unset, .unset, .unset, .unset] []))
      refine Go.st (fun _ k' => XS.iload X46.here hx rfl (hb hby at_105) rfl k') ?_
      show Go p e below s _ _ _ (T46.setTop (mkF m 107 #[.val (.long jx), .second, .val (.long jy), .second, .val (.long jz), .second, .val (.int kr), .val (.int kf), .val (.int (1 : Int32)), .val (.long jt), .second, .val (.long jm), .second, .val (.long ya), .second, .val (.long yb), .second, .val (.long yd), .second, .val (.int kq), .val (.double FP.dconst1), .second, .val (.ref b3), .val (.ref b26), .val (.long (0 : Int64)), .second, .unset, .unset, .unset, .unset, .unset, .unset] [(.int (1 : Int32))]))
      refine Go.st (fun _ k' => XS.iconst X46.here hx rfl (hb hby at_107) k') ?_
      show Go p e below s _ _ _ (T46.setTop (mkF m 108 #[.val (.long jx), .second, .val (.long jy), .second, .val (.long jz), .second, .val (.int kr), .val (.int kf), .val (.int (1 : Int32)), .val (.long jt), .second, .val (.long jm), .second, .val (.long ya), .second, .val (.long yb), .second, .val (.long yd), .second, .val (.int kq), .val (.double FP.dconst1), .second, .val (.ref b3), .val (.ref b26), .val (.long (0 : Int64)), .second, .unset, .unset, .unset, .unset, .unset, .unset] [(.int (1 : Int32)), (.int (1 : Int32))]))
      refine Go.st (fun _ k' => XS.icmpNo X46.here hx rfl (hb hby at_108) rfl (XT.ii_lt_f (by decide)) k') ?_
      show Go p e below s _ _ _ (T46.setTop (mkF m 111 #[.val (.long jx), .second, .val (.long jy), .second, .val (.long jz), .second, .val (.int kr), .val (.int kf), .val (.int (1 : Int32)), .val (.long jt), .second, .val (.long jm), .second, .val (.long ya), .second, .val (.long yb), .second, .val (.long yd), .second, .val (.int kq), .val (.double FP.dconst1), .second, .val (.ref b3), .val (.ref b26), .val (.long (0 : Int64)), .second, .unset, .unset, .unset, .unset, .unset, .unset] []))
      refine Go.st (fun _ k' => XS.aload X46.here hx rfl (hb hby at_111) rfl rfl k') ?_
      show Go p e below s _ _ _ (T46.setTop (mkF m 113 #[.val (.long jx), .second, .val (.long jy), .second, .val (.long jz), .second, .val (.int kr), .val (.int kf), .val (.int (1 : Int32)), .val (.long jt), .second, .val (.long jm), .second, .val (.long ya), .second, .val (.long yb), .second, .val (.long yd), .second, .val (.int kq), .val (.double FP.dconst1), .second, .val (.ref b3), .val (.ref b26), .val (.long (0 : Int64)), .second, .unset, .unset, .unset, .unset, .unset, .unset] [(.ref b3)]))
      refine Go.st (fun _ k' => XS.lload X46.here hx rfl (hb hby at_113) rfl k') ?_
      show Go p e below s _ _ _ (T46.setTop (mkF m 115 #[.val (.long jx), .second, .val (.long jy), .second, .val (.long jz), .second, .val (.int kr), .val (.int kf), .val (.int (1 : Int32)), .val (.long jt), .second, .val (.long jm), .second, .val (.long ya), .second, .val (.long yb), .second, .val (.long yd), .second, .val (.int kq), .val (.double FP.dconst1), .second, .val (.ref b3), .val (.ref b26), .val (.long (0 : Int64)), .second, .unset, .unset, .unset, .unset, .unset, .unset] [(.long ya), (.ref b3)]))
      obtain ⟨cq82, kq82, q82a, q82b, q82c⟩ := isOf hZ rfl f56
      obtain ⟨_, _, ⟨T82, L82, k82, n82⟩, -, X82, ⟨Lc82, hQ82, l82, y82, z82⟩, st82⟩ := X46.virtualBack hx (y := (⟨"com/example/spillway/spillway/runtime/LatencyController", "processed", "(J)V"⟩ : MethodName)) (z := (⟨"com/example/spillway/spillway/runtime/LatencyController", "processed", "(J)V"⟩ : MethodName)) hown (mvT hZ (wdx hw 36 rfl)) (mvT hZ (wdx hw 37 rfl)) (notFace_of_selects (args := #[]) (mvT hZ (wdx hw 39 rfl))) (mvT hZ (wdx hw 39 rfl)) (mvT hZ (wdx hw 38 rfl)) (by decide) (backOf (W := 0) (rm5 l Z a0 hw [] b3 ya (0 : Int64) (0 : Int64) (0 : Int64) (FP.l2d (jt * (1000000 : Int64))) FP.dconst1 T46.heap n0 O46 f56 f57 f58 f59 f60 f61 f62 g_b3) hZ (wdx hw 40 rfl) (wdx hw 8 rfl) (by decide) (by decide)) q82a q82c (g := (mkF m 115 #[.val (.long jx), .second, .val (.long jy), .second, .val (.long jz), .second, .val (.int kr), .val (.int kf), .val (.int (1 : Int32)), .val (.long jt), .second, .val (.long jm), .second, .val (.long ya), .second, .val (.long yb), .second, .val (.long yd), .second, .val (.int kq), .val (.double FP.dconst1), .second, .val (.ref b3), .val (.ref b26), .val (.long (0 : Int64)), .second, .unset, .unset, .unset, .unset, .unset, .unset] [(.long ya), (.ref b3)])) rfl (by rw [hml]; rfl) (Steps.refl _) (argsL := [(.long ya)]) (rest := []) (lenOf pd__J_V rfl) rfl (by show 2 * 0 + _ ≤ _; exact Nat.le_of_eq rfl) (hb hby at_115) (fun _ _ => ⟨rfl, rfl, (by exact Nat.le_of_ble_eq_true rfl), (by exact Nat.le_of_ble_eq_true rfl)⟩)
      dsimp only [Pt.U, Pt.locs, Pt.cells, Pt.slots] at X82 l82 y82 z82 st82 hQ82
      subst l82 y82 z82
      obtain ⟨rfl, Nq82, Kq82, f83, f84, f85, f86, f87, f88⟩ := hQ82
      have N82 := Fr.app N46 Nq82
      refine Go.tr st82 ?_
      have f89 : Exa Z T82.heap a_ms "java/util/concurrent/TimeUnit" := f53.keep Kq82
      have f90 : Fld Z T82.heap a_ms "java/util/concurrent/TimeUnit" "scale" "J" (.long (1000000 : Int64)) := f54.keep Kq82 (ninS ne4 nin0)
      have f91 : Fld Z T82.heap a_ms "java/util/concurrent/TimeUnit" "maxNanos" "J" (.long (9223372036854 : Int64)) := f55.keep Kq82 (ninS ne4 nin0)
      have f92 : Exa Z T82.heap b3 "com/example/spillway/spillway/runtime/LatencyController" := f56.keep Kq82
      have f93 : Exa Z T82.heap b26 "com/example/spillway/spillway/runtime/LatencyController" := f63.keep Kq82
      have f94 : Fld Z T82.heap b26 "com/example/spillway/spillway/runtime/LatencyController" "limit" "D" (.double (9221120237041090560 : UInt64)) := f47.keep Kq82 (ninS (Ne.symm ne28) nin0)
      have f95 : Fld Z T82.heap b26 "com/example/spillway/spillway/runtime/LatencyController" "targetNanos" "D" (.double (FP.l2d (jt * (1000000 : Int64)))) := f48.keep Kq82 (ninS (Ne.symm ne28) nin0)
      have f96 : Fld Z T82.heap b26 "com/example/spillway/spillway/runtime/LatencyController" "gain" "D" (.double FP.dconst1) := f49.keep Kq82 (ninS (Ne.symm ne28) nin0)
      have f97 : Fld Z T82.heap b26 "com/example/spillway/spillway/runtime/LatencyController" "latencySum" "J" (.long (0 : Int64)) := f50.keep Kq82 (ninS (Ne.symm ne28) nin0)
      have f98 : Fld Z T82.heap b26 "com/example/spillway/spillway/runtime/LatencyController" "latencyCount" "J" (.long (0 : Int64)) := f51.keep Kq82 (ninS (Ne.symm ne28) nin0)
      have f99 : Fld Z T82.heap b26 "com/example/spillway/spillway/runtime/LatencyController" "decisions" "J" (.long (0 : Int64)) := f52.keep Kq82 (ninS (Ne.symm ne28) nin0)
      have O82 : Old Z n0 T82.heap := O46.keep Kq82 (allS g_b3 all0)
      show Go p e below s _ _ _ (T82.setTop (mkF m 118 #[.val (.long jx), .second, .val (.long jy), .second, .val (.long jz), .second, .val (.int kr), .val (.int kf), .val (.int (1 : Int32)), .val (.long jt), .second, .val (.long jm), .second, .val (.long ya), .second, .val (.long yb), .second, .val (.long yd), .second, .val (.int kq), .val (.double FP.dconst1), .second, .val (.ref b3), .val (.ref b26), .val (.long (0 : Int64)), .second, .unset, .unset, .unset, .unset, .unset, .unset] []))
      refine Go.st (fun _ k' => XS.lload X82.here hx rfl (hb hby at_118) rfl k') ?_
      show Go p e below s _ _ _ (T82.setTop (mkF m 120 #[.val (.long jx), .second, .val (.long jy), .second, .val (.long jz), .second, .val (.int kr), .val (.int kf), .val (.int (1 : Int32)), .val (.long jt), .second, .val (.long jm), .second, .val (.long ya), .second, .val (.long yb), .second, .val (.long yd), .second, .val (.int kq), .val (.double FP.dconst1), .second, .val (.ref b3), .val (.ref b26), .val (.long (0 : Int64)), .second, .unset, .unset, .unset, .unset, .unset, .unset] [(.long (0 : Int64))]))
      refine Go.st (fun _ k' => XS.lload X82.here hx rfl (hb hby at_120) rfl k') ?_
      show Go p e below s _ _ _ (T82.setTop (mkF m 122 #[.val (.long jx), .second, .val (.long jy), .second, .val (.long jz), .second, .val (.int kr), .val (.int kf), .val (.int (1 : Int32)), .val (.long jt), .second, .val (.long jm), .second, .val (.long ya), .second, .val (.long yb), .second, .val (.long yd), .second, .val (.int kq), .val (.double FP.dconst1), .second, .val (.ref b3), .val (.ref b26), .val (.long (0 : Int64)), .second, .unset, .unset, .unset, .unset, .unset, .unset] [(.long ya), (.long (0 : Int64))]))
      refine Go.st (fun _ k' => XS.ladd X82.here hx rfl (hb hby at_122) rfl k') ?_
      show Go p e below s _ _ _ (T82.setTop (mkF m 123 #[.val (.long jx), .second, .val (.long jy), .second, .val (.long jz), .second, .val (.int kr), .val (.int kf), .val (.int (1 : Int32)), .val (.long jt), .second, .val (.long jm), .second, .val (.long ya), .second, .val (.long yb), .second, .val (.long yd), .second, .val (.int kq), .val (.double FP.dconst1), .second, .val (.ref b3), .val (.ref b26), .val (.long (0 : Int64)), .second, .unset, .unset, .unset, .unset, .unset, .unset] [(.long ((0 : Int64) + ya))]))
      refine Go.st (fun _ k' => XS.lstore X82.here hx rfl (hb hby at_123) rfl (l' := #[.val (.long jx), .second, .val (.long jy), .second, .val (.long jz), .second, .val (.int kr), .val (.int kf), .val (.int (1 : Int32)), .val (.long jt), .second, .val (.long jm), .second, .val (.long ya), .second, .val (.long yb), .second, .val (.long yd), .second, .val (.int kq), .val (.double FP.dconst1), .second, .val (.ref b3), .val (.ref b26), .val (.long ((0 : Int64) + ya)), .second, .unset, .unset, .unset, .unset, .unset, .unset]) rfl k') ?_
      show Go p e below s _ _ _ (T82.setTop (mkF m 125 #[.val (.long jx), .second, .val (.long jy), .second, .val (.long jz), .second, .val (.int kr), .val (.int kf), .val (.int (1 : Int32)), .val (.long jt), .second, .val (.long jm), .second, .val (.long ya), .second, .val (.long yb), .second, .val (.long yd), .second, .val (.int kq), .val (.double FP.dconst1), .second, .val (.ref b3), .val (.ref b26), .val (.long ((0 : Int64) + ya)), .second, .unset, .unset, .unset, .unset, .unset, .unset] []))
      refine Go.st (fun _ k' => XS.iload X82.here hx rfl (hb hby at_125) rfl k') ?_
      show Go p e below s _ _ _ (T82.setTop (mkF m 127 #[.val (.long jx), .second, .val (.long jy), .second, .val (.long jz), .second, .val (.int kr), .val (.int kf), .val (.int (1 : Int32)), .val (.long jt), .second, .val (.long jm), .second, .val (.long ya), .second, .val (.long yb), .second, .val (.long yd), .second, .val (.int kq), .val (.double FP.dconst1), .second, .val (.ref b3), .val (.ref b26), .val (.long ((0 : Int64) + ya)), .second, .unset, .unset, .unset, .unset, .unset, .unset] [(.int (1 : Int32))]))
      refine Go.st (fun _ k' => XS.iconst X82.here hx rfl (hb hby at_127) k') ?_
      show Go p e below s _ _ _ (T82.setTop (mkF m 128 #[.val (.long jx), .second, .val (.long jy), .second, .val (.long jz), .second, .val (.int kr), .val (.int kf), .val (.int (1 : Int32)), .val (.long jt), .second, .val (.long jm), .second, .val (.long ya), .second, .val (.long yb), .second, .val (.long yd), .second, .val (.int kq), .val (.double FP.dconst1), .second, .val (.ref b3), .val (.ref b26), .val (.long ((0 : Int64) + ya)), .second, .unset, .unset, .unset, .unset, .unset, .unset] [(.int (2 : Int32)), (.int (1 : Int32))]))
      refine Go.st (fun _ k' => XS.icmpYes X82.here hx rfl (pc0 := 128) (pc' := 145) rfl (hb hby at_128) rfl (XT.ii_lt_t (by decide)) (by decide) (by decide) k') ?_
      show Go p e below s _ _ _ (T82.setTop (mkF m 145 #[.val (.long jx), .second, .val (.long jy), .second, .val (.long jz), .second, .val (.int kr), .val (.int kf), .val (.int (1 : Int32)), .val (.long jt), .second, .val (.long jm), .second, .val (.long ya), .second, .val (.long yb), .second, .val (.long yd), .second, .val (.int kq), .val (.double FP.dconst1), .second, .val (.ref b3), .val (.ref b26), .val (.long ((0 : Int64) + ya)), .second, .unset, .unset, .unset, .unset, .unset, .unset] []))
      refine Go.st (fun _ k' => XS.iload X82.here hx rfl (hb hby at_145) rfl k') ?_
      show Go p e below s _ _ _ (T82.setTop (mkF m 147 #[.val (.long jx), .second, .val (.long jy), .second, .val (.long jz), .second, .val (.int kr), .val (.int kf), .val (.int (1 : Int32)), .val (.long jt), .second, .val (.long jm), .second, .val (.long ya), .second, .val (.long yb), .second, .val (.long yd), .second, .val (.int kq), .val (.double FP.dconst1), .second, .val (.ref b3), .val (.ref b26), .val (.long ((0 : Int64) + ya)), .second, .unset, .unset, .unset, .unset, .unset, .unset] [(.int (1 : Int32))]))
      refine Go.st (fun _ k' => XS.iconst X82.here hx rfl (hb hby at_147) k') ?_
      show Go p e below s _ _ _ (T82.setTop (mkF m 148 #[.val (.long jx), .second, .val (.long jy), .second, .val (.long jz), .second, .val (.int kr), .val (.int kf), .val (.int (1 : Int32)), .val (.long jt), .second, .val (.long jm), .second, .val (.long ya), .second, .val (.long yb), .second, .val (.long yd), .second, .val (.int kq), .val (.double FP.dconst1), .second, .val (.ref b3), .val (.ref b26), .val (.long ((0 : Int64) + ya)), .second, .unset, .unset, .unset, .unset, .unset, .unset] [(.int (3 : Int32)), (.int (1 : Int32))]))
      refine Go.st (fun _ k' => XS.icmpYes X82.here hx rfl (pc0 := 148) (pc' := 165) rfl (hb hby at_148) rfl (XT.ii_lt_t (by decide)) (by decide) (by decide) k') ?_
      show Go p e below s _ _ _ (T82.setTop (mkF m 165 #[.val (.long jx), .second, .val (.long jy), .second, .val (.long jz), .second, .val (.int kr), .val (.int kf), .val (.int (1 : Int32)), .val (.long jt), .second, .val (.long jm), .second, .val (.long ya), .second, .val (.long yb), .second, .val (.long yd), .second, .val (.int kq), .val (.double FP.dconst1), .second, .val (.ref b3), .val (.ref b26), .val (.long ((0 : Int64) + ya)), .second, .unset, .unset, .unset, .unset, .unset, .unset] []))
      refine Go.st (fun _ k' => XS.iload X82.here hx rfl (hb hby at_165) rfl k') ?_
      show Go p e below s _ _ _ (T82.setTop (mkF m 167 #[.val (.long jx), .second, .val (.long jy), .second, .val (.long jz), .second, .val (.int kr), .val (.int kf), .val (.int (1 : Int32)), .val (.long jt), .second, .val (.long jm), .second, .val (.long ya), .second, .val (.long yb), .second, .val (.long yd), .second, .val (.int kq), .val (.double FP.dconst1), .second, .val (.ref b3), .val (.ref b26), .val (.long ((0 : Int64) + ya)), .second, .unset, .unset, .unset, .unset, .unset, .unset] [(.int (1 : Int32))]))
      refine Go.st (fun _ k' => XS.iconst X82.here hx rfl (hb hby at_167) k') ?_
      show Go p e below s _ _ _ (T82.setTop (mkF m 168 #[.val (.long jx), .second, .val (.long jy), .second, .val (.long jz), .second, .val (.int kr), .val (.int kf), .val (.int (1 : Int32)), .val (.long jt), .second, .val (.long jm), .second, .val (.long ya), .second, .val (.long yb), .second, .val (.long yd), .second, .val (.int kq), .val (.double FP.dconst1), .second, .val (.ref b3), .val (.ref b26), .val (.long ((0 : Int64) + ya)), .second, .unset, .unset, .unset, .unset, .unset, .unset] [(.int (1 : Int32)), (.int (1 : Int32))]))
      refine Go.st (fun _ k' => XS.icmpNo X82.here hx rfl (hb hby at_168) rfl (XT.ii_lt_f (by decide)) k') ?_
      show Go p e below s _ _ _ (T82.setTop (mkF m 171 #[.val (.long jx), .second, .val (.long jy), .second, .val (.long jz), .second, .val (.int kr), .val (.int kf), .val (.int (1 : Int32)), .val (.long jt), .second, .val (.long jm), .second, .val (.long ya), .second, .val (.long yb), .second, .val (.long yd), .second, .val (.int kq), .val (.double FP.dconst1), .second, .val (.ref b3), .val (.ref b26), .val (.long ((0 : Int64) + ya)), .second, .unset, .unset, .unset, .unset, .unset, .unset] []))
      refine Go.st (fun _ k' => XS.aload X82.here hx rfl (hb hby at_171) rfl rfl k') ?_
      show Go p e below s _ _ _ (T82.setTop (mkF m 173 #[.val (.long jx), .second, .val (.long jy), .second, .val (.long jz), .second, .val (.int kr), .val (.int kf), .val (.int (1 : Int32)), .val (.long jt), .second, .val (.long jm), .second, .val (.long ya), .second, .val (.long yb), .second, .val (.long yd), .second, .val (.int kq), .val (.double FP.dconst1), .second, .val (.ref b3), .val (.ref b26), .val (.long ((0 : Int64) + ya)), .second, .unset, .unset, .unset, .unset, .unset, .unset] [(.ref b26)]))
      refine Go.st (fun _ k' => XS.lload X82.here hx rfl (hb hby at_173) rfl k') ?_
      show Go p e below s _ _ _ (T82.setTop (mkF m 175 #[.val (.long jx), .second, .val (.long jy), .second, .val (.long jz), .second, .val (.int kr), .val (.int kf), .val (.int (1 : Int32)), .val (.long jt), .second, .val (.long jm), .second, .val (.long ya), .second, .val (.long yb), .second, .val (.long yd), .second, .val (.int kq), .val (.double FP.dconst1), .second, .val (.ref b3), .val (.ref b26), .val (.long ((0 : Int64) + ya)), .second, .unset, .unset, .unset, .unset, .unset, .unset] [(.long ((0 : Int64) + ya)), (.ref b26)]))
      obtain ⟨cq100, kq100, q100a, q100b, q100c⟩ := isOf hZ rfl f93
      obtain ⟨_, _, ⟨T100, L100, k100, n100⟩, -, X100, ⟨Lc100, hQ100, l100, y100, z100⟩, st100⟩ := X82.virtualBack hx (y := (⟨"com/example/spillway/spillway/runtime/LatencyController", "processed", "(J)V"⟩ : MethodName)) (z := (⟨"com/example/spillway/spillway/runtime/LatencyController", "processed", "(J)V"⟩ : MethodName)) hown (mvT hZ (wdx hw 36 rfl)) (mvT hZ (wdx hw 37 rfl)) (notFace_of_selects (args := #[]) (mvT hZ (wdx hw 39 rfl))) (mvT hZ (wdx hw 39 rfl)) (mvT hZ (wdx hw 38 rfl)) (by decide) (backOf (W := 0) (rm5 l Z a0 hw [] b26 ((0 : Int64) + ya) (0 : Int64) (0 : Int64) (0 : Int64) (FP.l2d (jt * (1000000 : Int64))) FP.dconst1 T82.heap n0 O82 f93 f94 f95 f96 f97 f98 f99 g_b26) hZ (wdx hw 40 rfl) (wdx hw 8 rfl) (by decide) (by decide)) q100a q100c (g := (mkF m 175 #[.val (.long jx), .second, .val (.long jy), .second, .val (.long jz), .second, .val (.int kr), .val (.int kf), .val (.int (1 : Int32)), .val (.long jt), .second, .val (.long jm), .second, .val (.long ya), .second, .val (.long yb), .second, .val (.long yd), .second, .val (.int kq), .val (.double FP.dconst1), .second, .val (.ref b3), .val (.ref b26), .val (.long ((0 : Int64) + ya)), .second, .unset, .unset, .unset, .unset, .unset, .unset] [(.long ((0 : Int64) + ya)), (.ref b26)])) rfl (by rw [hml]; rfl) (Steps.refl _) (argsL := [(.long ((0 : Int64) + ya))]) (rest := []) (lenOf pd__J_V rfl) rfl (by show 2 * 0 + _ ≤ _; exact Nat.le_of_eq rfl) (hb hby at_175) (fun _ _ => ⟨rfl, rfl, (by exact Nat.le_of_ble_eq_true rfl), (by exact Nat.le_of_ble_eq_true rfl)⟩)
      dsimp only [Pt.U, Pt.locs, Pt.cells, Pt.slots] at X100 l100 y100 z100 st100 hQ100
      subst l100 y100 z100
      obtain ⟨rfl, Nq100, Kq100, f101, f102, f103, f104, f105, f106⟩ := hQ100
      have N100 := Fr.app N82 Nq100
      refine Go.tr st100 ?_
      have f107 : Exa Z T100.heap a_ms "java/util/concurrent/TimeUnit" := f89.keep Kq100
      have f108 : Fld Z T100.heap a_ms "java/util/concurrent/TimeUnit" "scale" "J" (.long (1000000 : Int64)) := f90.keep Kq100 (ninS ne27 nin0)
      have f109 : Fld Z T100.heap a_ms "java/util/concurrent/TimeUnit" "maxNanos" "J" (.long (9223372036854 : Int64)) := f91.keep Kq100 (ninS ne27 nin0)
      have f110 : Exa Z T100.heap b3 "com/example/spillway/spillway/runtime/LatencyController" := f92.keep Kq100
      have f111 : Exa Z T100.heap b26 "com/example/spillway/spillway/runtime/LatencyController" := f93.keep Kq100
      have f112 : Fld Z T100.heap b3 "com/example/spillway/spillway/runtime/LatencyController" "latencySum" "J" (.long ((0 : Int64) + ya)) := f83.keep Kq100 (ninS ne28 nin0)
      have f113 : Fld Z T100.heap b3 "com/example/spillway/spillway/runtime/LatencyController" "latencyCount" "J" (.long ((0 : Int64) + (1 : Int64))) := f84.keep Kq100 (ninS ne28 nin0)
      have f114 : Fld Z T100.heap b3 "com/example/spillway/spillway/runtime/LatencyController" "limit" "D" (.double (9221120237041090560 : UInt64)) := f85.keep Kq100 (ninS ne28 nin0)
      have f115 : Fld Z T100.heap b3 "com/example/spillway/spillway/runtime/LatencyController" "targetNanos" "D" (.double (FP.l2d (jt * (1000000 : Int64)))) := f86.keep Kq100 (ninS ne28 nin0)
      have f116 : Fld Z T100.heap b3 "com/example/spillway/spillway/runtime/LatencyController" "gain" "D" (.double FP.dconst1) := f87.keep Kq100 (ninS ne28 nin0)
      have f117 : Fld Z T100.heap b3 "com/example/spillway/spillway/runtime/LatencyController" "decisions" "J" (.long (0 : Int64)) := f88.keep Kq100 (ninS ne28 nin0)
      have O100 : Old Z n0 T100.heap := O82.keep Kq100 (allS g_b26 all0)
      show Go p e below s _ _ _ (T100.setTop (mkF m 178 #[.val (.long jx), .second, .val (.long jy), .second, .val (.long jz), .second, .val (.int kr), .val (.int kf), .val (.int (1 : Int32)), .val (.long jt), .second, .val (.long jm), .second, .val (.long ya), .second, .val (.long yb), .second, .val (.long yd), .second, .val (.int kq), .val (.double FP.dconst1), .second, .val (.ref b3), .val (.ref b26), .val (.long ((0 : Int64) + ya)), .second, .unset, .unset, .unset, .unset, .unset, .unset] []))
      refine Go.st (fun _ k' => XS.iload X100.here hx rfl (hb hby at_178) rfl k') ?_
      show Go p e below s _ _ _ (T100.setTop (mkF m 180 #[.val (.long jx), .second, .val (.long jy), .second, .val (.long jz), .second, .val (.int kr), .val (.int kf), .val (.int (1 : Int32)), .val (.long jt), .second, .val (.long jm), .second, .val (.long ya), .second, .val (.long yb), .second, .val (.long yd), .second, .val (.int kq), .val (.double FP.dconst1), .second, .val (.ref b3), .val (.ref b26), .val (.long ((0 : Int64) + ya)), .second, .unset, .unset, .unset, .unset, .unset, .unset] [(.int (1 : Int32))]))
      refine Go.st (fun _ k' => XS.iconst X100.here hx rfl (hb hby at_180) k') ?_
      show Go p e below s _ _ _ (T100.setTop (mkF m 181 #[.val (.long jx), .second, .val (.long jy), .second, .val (.long jz), .second, .val (.int kr), .val (.int kf), .val (.int (1 : Int32)), .val (.long jt), .second, .val (.long jm), .second, .val (.long ya), .second, .val (.long yb), .second, .val (.long yd), .second, .val (.int kq), .val (.double FP.dconst1), .second, .val (.ref b3), .val (.ref b26), .val (.long ((0 : Int64) + ya)), .second, .unset, .unset, .unset, .unset, .unset, .unset] [(.int (2 : Int32)), (.int (1 : Int32))]))
      refine Go.st (fun _ k' => XS.icmpYes X100.here hx rfl (pc0 := 181) (pc' := 190) rfl (hb hby at_181) rfl (XT.ii_lt_t (by decide)) (by decide) (by decide) k') ?_
      show Go p e below s _ _ _ (T100.setTop (mkF m 190 #[.val (.long jx), .second, .val (.long jy), .second, .val (.long jz), .second, .val (.int kr), .val (.int kf), .val (.int (1 : Int32)), .val (.long jt), .second, .val (.long jm), .second, .val (.long ya), .second, .val (.long yb), .second, .val (.long yd), .second, .val (.int kq), .val (.double FP.dconst1), .second, .val (.ref b3), .val (.ref b26), .val (.long ((0 : Int64) + ya)), .second, .unset, .unset, .unset, .unset, .unset, .unset] []))
      refine Go.st (fun _ k' => XS.iload X100.here hx rfl (hb hby at_190) rfl k') ?_
      show Go p e below s _ _ _ (T100.setTop (mkF m 192 #[.val (.long jx), .second, .val (.long jy), .second, .val (.long jz), .second, .val (.int kr), .val (.int kf), .val (.int (1 : Int32)), .val (.long jt), .second, .val (.long jm), .second, .val (.long ya), .second, .val (.long yb), .second, .val (.long yd), .second, .val (.int kq), .val (.double FP.dconst1), .second, .val (.ref b3), .val (.ref b26), .val (.long ((0 : Int64) + ya)), .second, .unset, .unset, .unset, .unset, .unset, .unset] [(.int (1 : Int32))]))
      refine Go.st (fun _ k' => XS.iconst X100.here hx rfl (hb hby at_192) k') ?_
      show Go p e below s _ _ _ (T100.setTop (mkF m 193 #[.val (.long jx), .second, .val (.long jy), .second, .val (.long jz), .second, .val (.int kr), .val (.int kf), .val (.int (1 : Int32)), .val (.long jt), .second, .val (.long jm), .second, .val (.long ya), .second, .val (.long yb), .second, .val (.long yd), .second, .val (.int kq), .val (.double FP.dconst1), .second, .val (.ref b3), .val (.ref b26), .val (.long ((0 : Int64) + ya)), .second, .unset, .unset, .unset, .unset, .unset, .unset] [(.int (3 : Int32)), (.int (1 : Int32))]))
      refine Go.st (fun _ k' => XS.icmpYes X100.here hx rfl (pc0 := 193) (pc' := 202) rfl (hb hby at_193) rfl (XT.ii_lt_t (by decide)) (by decide) (by decide) k') ?_
      show Go p e below s _ _ _ (T100.setTop (mkF m 202 #[.val (.long jx), .second, .val (.long jy), .second, .val (.long jz), .second, .val (.int kr), .val (.int kf), .val (.int (1 : Int32)), .val (.long jt), .second, .val (.long jm), .second, .val (.long ya), .second, .val (.long yb), .second, .val (.long yd), .second, .val (.int kq), .val (.double FP.dconst1), .second, .val (.ref b3), .val (.ref b26), .val (.long ((0 : Int64) + ya)), .second, .unset, .unset, .unset, .unset, .unset, .unset] []))
      refine Go.st (fun _ k' => XS.aload X100.here hx rfl (hb hby at_202) rfl rfl k') ?_
      show Go p e below s _ _ _ (T100.setTop (mkF m 204 #[.val (.long jx), .second, .val (.long jy), .second, .val (.long jz), .second, .val (.int kr), .val (.int kf), .val (.int (1 : Int32)), .val (.long jt), .second, .val (.long jm), .second, .val (.long ya), .second, .val (.long yb), .second, .val (.long yd), .second, .val (.int kq), .val (.double FP.dconst1), .second, .val (.ref b3), .val (.ref b26), .val (.long ((0 : Int64) + ya)), .second, .unset, .unset, .unset, .unset, .unset, .unset] [(.ref b3)]))
      refine Go.st (fun _ k' => XS.iload X100.here hx rfl (hb hby at_204) rfl k') ?_
      show Go p e below s _ _ _ (T100.setTop (mkF m 206 #[.val (.long jx), .second, .val (.long jy), .second, .val (.long jz), .second, .val (.int kr), .val (.int kf), .val (.int (1 : Int32)), .val (.long jt), .second, .val (.long jm), .second, .val (.long ya), .second, .val (.long yb), .second, .val (.long yd), .second, .val (.int kq), .val (.double FP.dconst1), .second, .val (.ref b3), .val (.ref b26), .val (.long ((0 : Int64) + ya)), .second, .unset, .unset, .unset, .unset, .unset, .unset] [(.int kq), (.ref b3)]))
      obtain ⟨cq118, kq118, q118a, q118b, q118c⟩ := isOf hZ rfl f110
      obtain ⟨_, _, ⟨T118, L118, k118, n118⟩, -, X118, ⟨Lc118, hQ118, l118, y118, z118⟩, st118⟩ := X100.virtualBack hx (y := (⟨"com/example/spillway/spillway/runtime/LatencyController", "decide", "(I)I"⟩ : MethodName)) (z := (⟨"com/example/spillway/spillway/runtime/LatencyController", "decide", "(I)I"⟩ : MethodName)) hown (mvT hZ (wdx hw 45 rfl)) (mvT hZ (wdx hw 46 rfl)) (notFace_of_selects (args := #[]) (mvT hZ (wdx hw 48 rfl))) (mvT hZ (wdx hw 48 rfl)) (mvT hZ (wdx hw 47 rfl)) (by decide) (backOf (W := 0) (rm6_1 l Z a0 hw [] b3 kq ((0 : Int64) + ya) ((0 : Int64) + (1 : Int64)) (0 : Int64) (FP.l2d (jt * (1000000 : Int64))) FP.dconst1 T100.heap n0 O100 f110 f114 f115 f116 f112 f113 f117 g_b3 (by decide) (own_fok _ _ _ kq (by decide) (own_t0 r_jt)).1 (own_fok _ _ _ kq (by decide) (own_t0 r_jt)).2.1 (own_rp (own_fok _ _ _ kq (by decide) (own_t0 r_jt)).2.2)) hZ (wdx hw 49 rfl) (wdx hw 8 rfl) (by decide) (by decide)) q118a q118c (g := (mkF m 206 #[.val (.long jx), .second, .val (.long jy), .second, .val (.long jz), .second, .val (.int kr), .val (.int kf), .val (.int (1 : Int32)), .val (.long jt), .second, .val (.long jm), .second, .val (.long ya), .second, .val (.long yb), .second, .val (.long yd), .second, .val (.int kq), .val (.double FP.dconst1), .second, .val (.ref b3), .val (.ref b26), .val (.long ((0 : Int64) + ya)), .second, .unset, .unset, .unset, .unset, .unset, .unset] [(.int kq), (.ref b3)])) rfl (by rw [hml]; rfl) (Steps.refl _) (argsL := [(.int kq)]) (rest := []) (lenOf pd__I_I rfl) rfl (by show 2 * 0 + _ ≤ _; exact Nat.le_of_eq rfl) (hb hby at_206) (fun _ _ => ⟨rfl, rfl, (by exact Nat.le_of_ble_eq_true rfl), (by exact Nat.le_of_ble_eq_true rfl)⟩)
      dsimp only [Pt.U, Pt.locs, Pt.cells, Pt.slots] at X118 l118 y118 z118 st118 hQ118
      subst l118 y118 z118
      obtain ⟨rfl, Nq118, Kq118⟩ := hQ118
      have N118 := Fr.app N100 Nq118
      refine Go.tr st118 ?_
      have f119 : Exa Z T118.heap a_ms "java/util/concurrent/TimeUnit" := f107.keep Kq118
      have f120 : Fld Z T118.heap a_ms "java/util/concurrent/TimeUnit" "scale" "J" (.long (1000000 : Int64)) := f108.keep Kq118 (ninS ne4 nin0)
      have f121 : Fld Z T118.heap a_ms "java/util/concurrent/TimeUnit" "maxNanos" "J" (.long (9223372036854 : Int64)) := f109.keep Kq118 (ninS ne4 nin0)
      have f122 : Exa Z T118.heap b3 "com/example/spillway/spillway/runtime/LatencyController" := f110.keep Kq118
      have f123 : Exa Z T118.heap b26 "com/example/spillway/spillway/runtime/LatencyController" := f111.keep Kq118
      have f124 : Fld Z T118.heap b26 "com/example/spillway/spillway/runtime/LatencyController" "latencySum" "J" (.long ((0 : Int64) + ((0 : Int64) + ya))) := f101.keep Kq118 (ninS (Ne.symm ne28) nin0)
      have f125 : Fld Z T118.heap b26 "com/example/spillway/spillway/runtime/LatencyController" "latencyCount" "J" (.long ((0 : Int64) + (1 : Int64))) := f102.keep Kq118 (ninS (Ne.symm ne28) nin0)
      have f126 : Fld Z T118.heap b26 "com/example/spillway/spillway/runtime/LatencyController" "limit" "D" (.double (9221120237041090560 : UInt64)) := f103.keep Kq118 (ninS (Ne.symm ne28) nin0)
      have f127 : Fld Z T118.heap b26 "com/example/spillway/spillway/runtime/LatencyController" "targetNanos" "D" (.double (FP.l2d (jt * (1000000 : Int64)))) := f104.keep Kq118 (ninS (Ne.symm ne28) nin0)
      have f128 : Fld Z T118.heap b26 "com/example/spillway/spillway/runtime/LatencyController" "gain" "D" (.double FP.dconst1) := f105.keep Kq118 (ninS (Ne.symm ne28) nin0)
      have f129 : Fld Z T118.heap b26 "com/example/spillway/spillway/runtime/LatencyController" "decisions" "J" (.long (0 : Int64)) := f106.keep Kq118 (ninS (Ne.symm ne28) nin0)
      have O118 : Old Z n0 T118.heap := O100.keep Kq118 (allS g_b3 all0)
      show Go p e below s _ _ _ (T118.setTop (mkF m 209 #[.val (.long jx), .second, .val (.long jy), .second, .val (.long jz), .second, .val (.int kr), .val (.int kf), .val (.int (1 : Int32)), .val (.long jt), .second, .val (.long jm), .second, .val (.long ya), .second, .val (.long yb), .second, .val (.long yd), .second, .val (.int kq), .val (.double FP.dconst1), .second, .val (.ref b3), .val (.ref b26), .val (.long ((0 : Int64) + ya)), .second, .unset, .unset, .unset, .unset, .unset, .unset] [(.int (fkeep (fAdj (FP.i2d kq) (FP.ddiv (FP.l2d ((0 : Int64) + ya)) (FP.l2d ((0 : Int64) + (1 : Int64)))) FP.dconst1 (FP.l2d (jt * (1000000 : Int64)))) kq))]))
      refine Go.st (fun _ k' => XS.istore X118.here hx rfl (hb hby at_209) rfl (l' := #[.val (.long jx), .second, .val (.long jy), .second, .val (.long jz), .second, .val (.int kr), .val (.int kf), .val (.int (1 : Int32)), .val (.long jt), .second, .val (.long jm), .second, .val (.long ya), .second, .val (.long yb), .second, .val (.long yd), .second, .val (.int kq), .val (.double FP.dconst1), .second, .val (.ref b3), .val (.ref b26), .val (.long ((0 : Int64) + ya)), .second, .val (.int (fkeep (fAdj (FP.i2d kq) (FP.ddiv (FP.l2d ((0 : Int64) + ya)) (FP.l2d ((0 : Int64) + (1 : Int64)))) FP.dconst1 (FP.l2d (jt * (1000000 : Int64)))) kq)), .unset, .unset, .unset, .unset, .unset]) rfl k') ?_
      show Go p e below s _ _ _ (T118.setTop (mkF m 211 #[.val (.long jx), .second, .val (.long jy), .second, .val (.long jz), .second, .val (.int kr), .val (.int kf), .val (.int (1 : Int32)), .val (.long jt), .second, .val (.long jm), .second, .val (.long ya), .second, .val (.long yb), .second, .val (.long yd), .second, .val (.int kq), .val (.double FP.dconst1), .second, .val (.ref b3), .val (.ref b26), .val (.long ((0 : Int64) + ya)), .second, .val (.int (fkeep (fAdj (FP.i2d kq) (FP.ddiv (FP.l2d ((0 : Int64) + ya)) (FP.l2d ((0 : Int64) + (1 : Int64)))) FP.dconst1 (FP.l2d (jt * (1000000 : Int64)))) kq)), .unset, .unset, .unset, .unset, .unset] []))
      refine Go.st (fun _ k' => XS.aload X118.here hx rfl (hb hby at_211) rfl rfl k') ?_
      show Go p e below s _ _ _ (T118.setTop (mkF m 213 #[.val (.long jx), .second, .val (.long jy), .second, .val (.long jz), .second, .val (.int kr), .val (.int kf), .val (.int (1 : Int32)), .val (.long jt), .second, .val (.long jm), .second, .val (.long ya), .second, .val (.long yb), .second, .val (.long yd), .second, .val (.int kq), .val (.double FP.dconst1), .second, .val (.ref b3), .val (.ref b26), .val (.long ((0 : Int64) + ya)), .second, .val (.int (fkeep (fAdj (FP.i2d kq) (FP.ddiv (FP.l2d ((0 : Int64) + ya)) (FP.l2d ((0 : Int64) + (1 : Int64)))) FP.dconst1 (FP.l2d (jt * (1000000 : Int64)))) kq)), .unset, .unset, .unset, .unset, .unset] [(.ref b26)]))
      refine Go.st (fun _ k' => XS.iload X118.here hx rfl (hb hby at_213) rfl k') ?_
      show Go p e below s _ _ _ (T118.setTop (mkF m 215 #[.val (.long jx), .second, .val (.long jy), .second, .val (.long jz), .second, .val (.int kr), .val (.int kf), .val (.int (1 : Int32)), .val (.long jt), .second, .val (.long jm), .second, .val (.long ya), .second, .val (.long yb), .second, .val (.long yd), .second, .val (.int kq), .val (.double FP.dconst1), .second, .val (.ref b3), .val (.ref b26), .val (.long ((0 : Int64) + ya)), .second, .val (.int (fkeep (fAdj (FP.i2d kq) (FP.ddiv (FP.l2d ((0 : Int64) + ya)) (FP.l2d ((0 : Int64) + (1 : Int64)))) FP.dconst1 (FP.l2d (jt * (1000000 : Int64)))) kq)), .unset, .unset, .unset, .unset, .unset] [(.int kq), (.ref b26)]))
      obtain ⟨cq130, kq130, q130a, q130b, q130c⟩ := isOf hZ rfl f123
      obtain ⟨_, _, ⟨T130, L130, k130, n130⟩, -, X130, ⟨Lc130, hQ130, l130, y130, z130⟩, st130⟩ := X118.virtualBack hx (y := (⟨"com/example/spillway/spillway/runtime/LatencyController", "decide", "(I)I"⟩ : MethodName)) (z := (⟨"com/example/spillway/spillway/runtime/LatencyController", "decide", "(I)I"⟩ : MethodName)) hown (mvT hZ (wdx hw 45 rfl)) (mvT hZ (wdx hw 46 rfl)) (notFace_of_selects (args := #[]) (mvT hZ (wdx hw 48 rfl))) (mvT hZ (wdx hw 48 rfl)) (mvT hZ (wdx hw 47 rfl)) (by decide) (backOf (W := 0) (rm6_1 l Z a0 hw [] b26 kq ((0 : Int64) + ((0 : Int64) + ya)) ((0 : Int64) + (1 : Int64)) (0 : Int64) (FP.l2d (jt * (1000000 : Int64))) FP.dconst1 T118.heap n0 O118 f123 f126 f127 f128 f124 f125 f129 g_b26 (by decide) (own_fok _ _ _ kq (by decide) (own_t0 r_jt)).1 (own_fok _ _ _ kq (by decide) (own_t0 r_jt)).2.1 (own_rp (own_fok _ _ _ kq (by decide) (own_t0 r_jt)).2.2)) hZ (wdx hw 49 rfl) (wdx hw 8 rfl) (by decide) (by decide)) q130a q130c (g := (mkF m 215 #[.val (.long jx), .second, .val (.long jy), .second, .val (.long jz), .second, .val (.int kr), .val (.int kf), .val (.int (1 : Int32)), .val (.long jt), .second, .val (.long jm), .second, .val (.long ya), .second, .val (.long yb), .second, .val (.long yd), .second, .val (.int kq), .val (.double FP.dconst1), .second, .val (.ref b3), .val (.ref b26), .val (.long ((0 : Int64) + ya)), .second, .val (.int (fkeep (fAdj (FP.i2d kq) (FP.ddiv (FP.l2d ((0 : Int64) + ya)) (FP.l2d ((0 : Int64) + (1 : Int64)))) FP.dconst1 (FP.l2d (jt * (1000000 : Int64)))) kq)), .unset, .unset, .unset, .unset, .unset] [(.int kq), (.ref b26)])) rfl (by rw [hml]; rfl) (Steps.refl _) (argsL := [(.int kq)]) (rest := []) (lenOf pd__I_I rfl) rfl (by show 2 * 0 + _ ≤ _; exact Nat.le_of_eq rfl) (hb hby at_215) (fun _ _ => ⟨rfl, rfl, (by exact Nat.le_of_ble_eq_true rfl), (by exact Nat.le_of_ble_eq_true rfl)⟩)
      dsimp only [Pt.U, Pt.locs, Pt.cells, Pt.slots] at X130 l130 y130 z130 st130 hQ130
      subst l130 y130 z130
      obtain ⟨rfl, Nq130, Kq130⟩ := hQ130
      have N130 := Fr.app N118 Nq130
      refine Go.tr st130 ?_
      have f131 : Exa Z T130.heap a_ms "java/util/concurrent/TimeUnit" := f119.keep Kq130
      have f132 : Fld Z T130.heap a_ms "java/util/concurrent/TimeUnit" "scale" "J" (.long (1000000 : Int64)) := f120.keep Kq130 (ninS ne27 nin0)
      have f133 : Fld Z T130.heap a_ms "java/util/concurrent/TimeUnit" "maxNanos" "J" (.long (9223372036854 : Int64)) := f121.keep Kq130 (ninS ne27 nin0)
      have f134 : Exa Z T130.heap b3 "com/example/spillway/spillway/runtime/LatencyController" := f122.keep Kq130
      have f135 : Exa Z T130.heap b26 "com/example/spillway/spillway/runtime/LatencyController" := f123.keep Kq130
      have O130 : Old Z n0 T130.heap := O118.keep Kq130 (allS g_b26 all0)
      show Go p e below s _ _ _ (T130.setTop (mkF m 218 #[.val (.long jx), .second, .val (.long jy), .second, .val (.long jz), .second, .val (.int kr), .val (.int kf), .val (.int (1 : Int32)), .val (.long jt), .second, .val (.long jm), .second, .val (.long ya), .second, .val (.long yb), .second, .val (.long yd), .second, .val (.int kq), .val (.double FP.dconst1), .second, .val (.ref b3), .val (.ref b26), .val (.long ((0 : Int64) + ya)), .second, .val (.int (fkeep (fAdj (FP.i2d kq) (FP.ddiv (FP.l2d ((0 : Int64) + ya)) (FP.l2d ((0 : Int64) + (1 : Int64)))) FP.dconst1 (FP.l2d (jt * (1000000 : Int64)))) kq)), .unset, .unset, .unset, .unset, .unset] [(.int (fkeep (fAdj (FP.i2d kq) (FP.ddiv (FP.l2d ((0 : Int64) + ((0 : Int64) + ya))) (FP.l2d ((0 : Int64) + (1 : Int64)))) FP.dconst1 (FP.l2d (jt * (1000000 : Int64)))) kq))]))
      refine Go.st (fun _ k' => XS.istore X130.here hx rfl (hb hby at_218) rfl (l' := #[.val (.long jx), .second, .val (.long jy), .second, .val (.long jz), .second, .val (.int kr), .val (.int kf), .val (.int (1 : Int32)), .val (.long jt), .second, .val (.long jm), .second, .val (.long ya), .second, .val (.long yb), .second, .val (.long yd), .second, .val (.int kq), .val (.double FP.dconst1), .second, .val (.ref b3), .val (.ref b26), .val (.long ((0 : Int64) + ya)), .second, .val (.int (fkeep (fAdj (FP.i2d kq) (FP.ddiv (FP.l2d ((0 : Int64) + ya)) (FP.l2d ((0 : Int64) + (1 : Int64)))) FP.dconst1 (FP.l2d (jt * (1000000 : Int64)))) kq)), .val (.int (fkeep (fAdj (FP.i2d kq) (FP.ddiv (FP.l2d ((0 : Int64) + ((0 : Int64) + ya))) (FP.l2d ((0 : Int64) + (1 : Int64)))) FP.dconst1 (FP.l2d (jt * (1000000 : Int64)))) kq)), .unset, .unset, .unset, .unset]) rfl k') ?_
      show Go p e below s _ _ _ (T130.setTop (mkF m 220 #[.val (.long jx), .second, .val (.long jy), .second, .val (.long jz), .second, .val (.int kr), .val (.int kf), .val (.int (1 : Int32)), .val (.long jt), .second, .val (.long jm), .second, .val (.long ya), .second, .val (.long yb), .second, .val (.long yd), .second, .val (.int kq), .val (.double FP.dconst1), .second, .val (.ref b3), .val (.ref b26), .val (.long ((0 : Int64) + ya)), .second, .val (.int (fkeep (fAdj (FP.i2d kq) (FP.ddiv (FP.l2d ((0 : Int64) + ya)) (FP.l2d ((0 : Int64) + (1 : Int64)))) FP.dconst1 (FP.l2d (jt * (1000000 : Int64)))) kq)), .val (.int (fkeep (fAdj (FP.i2d kq) (FP.ddiv (FP.l2d ((0 : Int64) + ((0 : Int64) + ya))) (FP.l2d ((0 : Int64) + (1 : Int64)))) FP.dconst1 (FP.l2d (jt * (1000000 : Int64)))) kq)), .unset, .unset, .unset, .unset] []))
      have w_a : (fkeep (fAdj (FP.i2d kq) (FP.ddiv (FP.l2d ((0 : Int64) + ya)) (FP.l2d ((0 : Int64) + (1 : Int64)))) FP.dconst1 (FP.l2d (jt * (1000000 : Int64)))) kq) = (fkeep (fAdj (FP.i2d kq) (FP.ddiv (FP.l2d ((0 : Int64) + ((0 : Int64) + ya))) (FP.l2d ((0 : Int64) + (1 : Int64)))) FP.dconst1 (FP.l2d (jt * (1000000 : Int64)))) kq) := by simp only [Int64.zero_add, Int64.add_zero]
      obtain ⟨w_b, w_c, w_d, w_e⟩ := own_law1 (S := ((0 : Int64) + ya)) (C := ((0 : Int64) + (1 : Int64))) (cl := (1 : Int32)) (have z := (own_sa r_ya); ⟨z.1, Int.lt_of_lt_of_le z.2 (by decide)⟩) (by decide) (by decide) r_jt r_kq
      show Go p e below s _ _ _ (T130.setTop (mkF m 220 #[.val (.long jx), .second, .val (.long jy), .second, .val (.long jz), .second, .val (.int kr), .val (.int kf), .val (.int (1 : Int32)), .val (.long jt), .second, .val (.long jm), .second, .val (.long ya), .second, .val (.long yb), .second, .val (.long yd), .second, .val (.int kq), .val (.double FP.dconst1), .second, .val (.ref b3), .val (.ref b26), .val (.long ((0 : Int64) + ya)), .second, .val (.int (fkeep (fAdj (FP.i2d kq) (FP.ddiv (FP.l2d ((0 : Int64) + ya)) (FP.l2d ((0 : Int64) + (1 : Int64)))) FP.dconst1 (FP.l2d (jt * (1000000 : Int64)))) kq)), .val (.int (fkeep (fAdj (FP.i2d kq) (FP.ddiv (FP.l2d ((0 : Int64) + ((0 : Int64) + ya))) (FP.l2d ((0 : Int64) + (1 : Int64)))) FP.dconst1 (FP.l2d (jt * (1000000 : Int64)))) kq)), .unset, .unset, .unset, .unset] []))
      refine Go.st (fun _ k' => XS.iload X130.here hx rfl (hb hby at_220) rfl k') ?_
      show Go p e below s _ _ _ (T130.setTop (mkF m 222 #[.val (.long jx), .second, .val (.long jy), .second, .val (.long jz), .second, .val (.int kr), .val (.int kf), .val (.int (1 : Int32)), .val (.long jt), .second, .val (.long jm), .second, .val (.long ya), .second, .val (.long yb), .second, .val (.long yd), .second, .val (.int kq), .val (.double FP.dconst1), .second, .val (.ref b3), .val (.ref b26), .val (.long ((0 : Int64) + ya)), .second, .val (.int (fkeep (fAdj (FP.i2d kq) (FP.ddiv (FP.l2d ((0 : Int64) + ya)) (FP.l2d ((0 : Int64) + (1 : Int64)))) FP.dconst1 (FP.l2d (jt * (1000000 : Int64)))) kq)), .val (.int (fkeep (fAdj (FP.i2d kq) (FP.ddiv (FP.l2d ((0 : Int64) + ((0 : Int64) + ya))) (FP.l2d ((0 : Int64) + (1 : Int64)))) FP.dconst1 (FP.l2d (jt * (1000000 : Int64)))) kq)), .unset, .unset, .unset, .unset] [(.int (fkeep (fAdj (FP.i2d kq) (FP.ddiv (FP.l2d ((0 : Int64) + ya)) (FP.l2d ((0 : Int64) + (1 : Int64)))) FP.dconst1 (FP.l2d (jt * (1000000 : Int64)))) kq))]))
      refine Go.st (fun _ k' => XS.iload X130.here hx rfl (hb hby at_222) rfl k') ?_
      show Go p e below s _ _ _ (T130.setTop (mkF m 224 #[.val (.long jx), .second, .val (.long jy), .second, .val (.long jz), .second, .val (.int kr), .val (.int kf), .val (.int (1 : Int32)), .val (.long jt), .second, .val (.long jm), .second, .val (.long ya), .second, .val (.long yb), .second, .val (.long yd), .second, .val (.int kq), .val (.double FP.dconst1), .second, .val (.ref b3), .val (.ref b26), .val (.long ((0 : Int64) + ya)), .second, .val (.int (fkeep (fAdj (FP.i2d kq) (FP.ddiv (FP.l2d ((0 : Int64) + ya)) (FP.l2d ((0 : Int64) + (1 : Int64)))) FP.dconst1 (FP.l2d (jt * (1000000 : Int64)))) kq)), .val (.int (fkeep (fAdj (FP.i2d kq) (FP.ddiv (FP.l2d ((0 : Int64) + ((0 : Int64) + ya))) (FP.l2d ((0 : Int64) + (1 : Int64)))) FP.dconst1 (FP.l2d (jt * (1000000 : Int64)))) kq)), .unset, .unset, .unset, .unset] [(.int (fkeep (fAdj (FP.i2d kq) (FP.ddiv (FP.l2d ((0 : Int64) + ((0 : Int64) + ya))) (FP.l2d ((0 : Int64) + (1 : Int64)))) FP.dconst1 (FP.l2d (jt * (1000000 : Int64)))) kq)), (.int (fkeep (fAdj (FP.i2d kq) (FP.ddiv (FP.l2d ((0 : Int64) + ya)) (FP.l2d ((0 : Int64) + (1 : Int64)))) FP.dconst1 (FP.l2d (jt * (1000000 : Int64)))) kq))]))
      refine Go.st (fun _ k' => XS.icmpYes X130.here hx rfl (pc0 := 224) (pc' := 229) rfl (hb hby at_224) rfl (XT.ii_eq_t w_a) (by decide) (by decide) k') ?_
      show Go p e below s _ _ _ (T130.setTop (mkF m 229 #[.val (.long jx), .second, .val (.long jy), .second, .val (.long jz), .second, .val (.int kr), .val (.int kf), .val (.int (1 : Int32)), .val (.long jt), .second, .val (.long jm), .second, .val (.long ya), .second, .val (.long yb), .second, .val (.long yd), .second, .val (.int kq), .val (.double FP.dconst1), .second, .val (.ref b3), .val (.ref b26), .val (.long ((0 : Int64) + ya)), .second, .val (.int (fkeep (fAdj (FP.i2d kq) (FP.ddiv (FP.l2d ((0 : Int64) + ya)) (FP.l2d ((0 : Int64) + (1 : Int64)))) FP.dconst1 (FP.l2d (jt * (1000000 : Int64)))) kq)), .val (.int (fkeep (fAdj (FP.i2d kq) (FP.ddiv (FP.l2d ((0 : Int64) + ((0 : Int64) + ya))) (FP.l2d ((0 : Int64) + (1 : Int64)))) FP.dconst1 (FP.l2d (jt * (1000000 : Int64)))) kq)), .unset, .unset, .unset, .unset] []))
      refine Go.st (fun _ k' => XS.iload X130.here hx rfl (hb hby at_229) rfl k') ?_
      show Go p e below s _ _ _ (T130.setTop (mkF m 231 #[.val (.long jx), .second, .val (.long jy), .second, .val (.long jz), .second, .val (.int kr), .val (.int kf), .val (.int (1 : Int32)), .val (.long jt), .second, .val (.long jm), .second, .val (.long ya), .second, .val (.long yb), .second, .val (.long yd), .second, .val (.int kq), .val (.double FP.dconst1), .second, .val (.ref b3), .val (.ref b26), .val (.long ((0 : Int64) + ya)), .second, .val (.int (fkeep (fAdj (FP.i2d kq) (FP.ddiv (FP.l2d ((0 : Int64) + ya)) (FP.l2d ((0 : Int64) + (1 : Int64)))) FP.dconst1 (FP.l2d (jt * (1000000 : Int64)))) kq)), .val (.int (fkeep (fAdj (FP.i2d kq) (FP.ddiv (FP.l2d ((0 : Int64) + ((0 : Int64) + ya))) (FP.l2d ((0 : Int64) + (1 : Int64)))) FP.dconst1 (FP.l2d (jt * (1000000 : Int64)))) kq)), .unset, .unset, .unset, .unset] [(.int (fkeep (fAdj (FP.i2d kq) (FP.ddiv (FP.l2d ((0 : Int64) + ya)) (FP.l2d ((0 : Int64) + (1 : Int64)))) FP.dconst1 (FP.l2d (jt * (1000000 : Int64)))) kq))]))
      refine Go.st (fun _ k' => XS.iconst X130.here hx rfl (hb hby at_231) k') ?_
      show Go p e below s _ _ _ (T130.setTop (mkF m 232 #[.val (.long jx), .second, .val (.long jy), .second, .val (.long jz), .second, .val (.int kr), .val (.int kf), .val (.int (1 : Int32)), .val (.long jt), .second, .val (.long jm), .second, .val (.long ya), .second, .val (.long yb), .second, .val (.long yd), .second, .val (.int kq), .val (.double FP.dconst1), .second, .val (.ref b3), .val (.ref b26), .val (.long ((0 : Int64) + ya)), .second, .val (.int (fkeep (fAdj (FP.i2d kq) (FP.ddiv (FP.l2d ((0 : Int64) + ya)) (FP.l2d ((0 : Int64) + (1 : Int64)))) FP.dconst1 (FP.l2d (jt * (1000000 : Int64)))) kq)), .val (.int (fkeep (fAdj (FP.i2d kq) (FP.ddiv (FP.l2d ((0 : Int64) + ((0 : Int64) + ya))) (FP.l2d ((0 : Int64) + (1 : Int64)))) FP.dconst1 (FP.l2d (jt * (1000000 : Int64)))) kq)), .unset, .unset, .unset, .unset] [(.int (1 : Int32)), (.int (fkeep (fAdj (FP.i2d kq) (FP.ddiv (FP.l2d ((0 : Int64) + ya)) (FP.l2d ((0 : Int64) + (1 : Int64)))) FP.dconst1 (FP.l2d (jt * (1000000 : Int64)))) kq))]))
      refine Go.st (fun _ k' => XS.icmpNo X130.here hx rfl (hb hby at_232) rfl (XT.ii_lt_f w_b) k') ?_
      show Go p e below s _ _ _ (T130.setTop (mkF m 235 #[.val (.long jx), .second, .val (.long jy), .second, .val (.long jz), .second, .val (.int kr), .val (.int kf), .val (.int (1 : Int32)), .val (.long jt), .second, .val (.long jm), .second, .val (.long ya), .second, .val (.long yb), .second, .val (.long yd), .second, .val (.int kq), .val (.double FP.dconst1), .second, .val (.ref b3), .val (.ref b26), .val (.long ((0 : Int64) + ya)), .second, .val (.int (fkeep (fAdj (FP.i2d kq) (FP.ddiv (FP.l2d ((0 : Int64) + ya)) (FP.l2d ((0 : Int64) + (1 : Int64)))) FP.dconst1 (FP.l2d (jt * (1000000 : Int64)))) kq)), .val (.int (fkeep (fAdj (FP.i2d kq) (FP.ddiv (FP.l2d ((0 : Int64) + ((0 : Int64) + ya))) (FP.l2d ((0 : Int64) + (1 : Int64)))) FP.dconst1 (FP.l2d (jt * (1000000 : Int64)))) kq)), .unset, .unset, .unset, .unset] []))
      refine Go.st (fun _ k' => XS.iload X130.here hx rfl (hb hby at_235) rfl k') ?_
      show Go p e below s _ _ _ (T130.setTop (mkF m 237 #[.val (.long jx), .second, .val (.long jy), .second, .val (.long jz), .second, .val (.int kr), .val (.int kf), .val (.int (1 : Int32)), .val (.long jt), .second, .val (.long jm), .second, .val (.long ya), .second, .val (.long yb), .second, .val (.long yd), .second, .val (.int kq), .val (.double FP.dconst1), .second, .val (.ref b3), .val (.ref b26), .val (.long ((0 : Int64) + ya)), .second, .val (.int (fkeep (fAdj (FP.i2d kq) (FP.ddiv (FP.l2d ((0 : Int64) + ya)) (FP.l2d ((0 : Int64) + (1 : Int64)))) FP.dconst1 (FP.l2d (jt * (1000000 : Int64)))) kq)), .val (.int (fkeep (fAdj (FP.i2d kq) (FP.ddiv (FP.l2d ((0 : Int64) + ((0 : Int64) + ya))) (FP.l2d ((0 : Int64) + (1 : Int64)))) FP.dconst1 (FP.l2d (jt * (1000000 : Int64)))) kq)), .unset, .unset, .unset, .unset] [(.int (fkeep (fAdj (FP.i2d kq) (FP.ddiv (FP.l2d ((0 : Int64) + ya)) (FP.l2d ((0 : Int64) + (1 : Int64)))) FP.dconst1 (FP.l2d (jt * (1000000 : Int64)))) kq))]))
      refine Go.st (fun _ k' => XS.iload X130.here hx rfl (hb hby at_237) rfl k') ?_
      show Go p e below s _ _ _ (T130.setTop (mkF m 239 #[.val (.long jx), .second, .val (.long jy), .second, .val (.long jz), .second, .val (.int kr), .val (.int kf), .val (.int (1 : Int32)), .val (.long jt), .second, .val (.long jm), .second, .val (.long ya), .second, .val (.long yb), .second, .val (.long yd), .second, .val (.int kq), .val (.double FP.dconst1), .second, .val (.ref b3), .val (.ref b26), .val (.long ((0 : Int64) + ya)), .second, .val (.int (fkeep (fAdj (FP.i2d kq) (FP.ddiv (FP.l2d ((0 : Int64) + ya)) (FP.l2d ((0 : Int64) + (1 : Int64)))) FP.dconst1 (FP.l2d (jt * (1000000 : Int64)))) kq)), .val (.int (fkeep (fAdj (FP.i2d kq) (FP.ddiv (FP.l2d ((0 : Int64) + ((0 : Int64) + ya))) (FP.l2d ((0 : Int64) + (1 : Int64)))) FP.dconst1 (FP.l2d (jt * (1000000 : Int64)))) kq)), .unset, .unset, .unset, .unset] [(.int kq), (.int (fkeep (fAdj (FP.i2d kq) (FP.ddiv (FP.l2d ((0 : Int64) + ya)) (FP.l2d ((0 : Int64) + (1 : Int64)))) FP.dconst1 (FP.l2d (jt * (1000000 : Int64)))) kq))]))
      refine Go.st (fun _ k' => XS.icmpYes X130.here hx rfl (pc0 := 239) (pc' := 244) rfl (hb hby at_239) rfl (XT.ii_le_t w_c) (by decide) (by decide) k') ?_
      show Go p e below s _ _ _ (T130.setTop (mkF m 244 #[.val (.long jx), .second, .val (.long jy), .second, .val (.long jz), .second, .val (.int kr), .val (.int kf), .val (.int (1 : Int32)), .val (.long jt), .second, .val (.long jm), .second, .val (.long ya), .second, .val (.long yb), .second, .val (.long yd), .second, .val (.int kq), .val (.double FP.dconst1), .second, .val (.ref b3), .val (.ref b26), .val (.long ((0 : Int64) + ya)), .second, .val (.int (fkeep (fAdj (FP.i2d kq) (FP.ddiv (FP.l2d ((0 : Int64) + ya)) (FP.l2d ((0 : Int64) + (1 : Int64)))) FP.dconst1 (FP.l2d (jt * (1000000 : Int64)))) kq)), .val (.int (fkeep (fAdj (FP.i2d kq) (FP.ddiv (FP.l2d ((0 : Int64) + ((0 : Int64) + ya))) (FP.l2d ((0 : Int64) + (1 : Int64)))) FP.dconst1 (FP.l2d (jt * (1000000 : Int64)))) kq)), .unset, .unset, .unset, .unset] []))
      refine Go.st (fun _ k' => XS.lload X130.here hx rfl (hb hby at_244) rfl k') ?_
      show Go p e below s _ _ _ (T130.setTop (mkF m 246 #[.val (.long jx), .second, .val (.long jy), .second, .val (.long jz), .second, .val (.int kr), .val (.int kf), .val (.int (1 : Int32)), .val (.long jt), .second, .val (.long jm), .second, .val (.long ya), .second, .val (.long yb), .second, .val (.long yd), .second, .val (.int kq), .val (.double FP.dconst1), .second, .val (.ref b3), .val (.ref b26), .val (.long ((0 : Int64) + ya)), .second, .val (.int (fkeep (fAdj (FP.i2d kq) (FP.ddiv (FP.l2d ((0 : Int64) + ya)) (FP.l2d ((0 : Int64) + (1 : Int64)))) FP.dconst1 (FP.l2d (jt * (1000000 : Int64)))) kq)), .val (.int (fkeep (fAdj (FP.i2d kq) (FP.ddiv (FP.l2d ((0 : Int64) + ((0 : Int64) + ya))) (FP.l2d ((0 : Int64) + (1 : Int64)))) FP.dconst1 (FP.l2d (jt * (1000000 : Int64)))) kq)), .unset, .unset, .unset, .unset] [(.long jt)]))
      refine Go.st (fun _ k' => X130.ldc2J hx hown (mvT hZ (wdx hw 77 rfl)) rfl (hb hby at_246) k') ?_
      show Go p e below s _ _ _ (T130.setTop (mkF m 249 #[.val (.long jx), .second, .val (.long jy), .second, .val (.long jz), .second, .val (.int kr), .val (.int kf), .val (.int (1 : Int32)), .val (.long jt), .second, .val (.long jm), .second, .val (.long ya), .second, .val (.long yb), .second, .val (.long yd), .second, .val (.int kq), .val (.double FP.dconst1), .second, .val (.ref b3), .val (.ref b26), .val (.long ((0 : Int64) + ya)), .second, .val (.int (fkeep (fAdj (FP.i2d kq) (FP.ddiv (FP.l2d ((0 : Int64) + ya)) (FP.l2d ((0 : Int64) + (1 : Int64)))) FP.dconst1 (FP.l2d (jt * (1000000 : Int64)))) kq)), .val (.int (fkeep (fAdj (FP.i2d kq) (FP.ddiv (FP.l2d ((0 : Int64) + ((0 : Int64) + ya))) (FP.l2d ((0 : Int64) + (1 : Int64)))) FP.dconst1 (FP.l2d (jt * (1000000 : Int64)))) kq)), .unset, .unset, .unset, .unset] [(.long (1000000 : Int64)), (.long jt)]))
      refine Go.st (fun _ k' => XS.lmul X130.here hx rfl (hb hby at_249) rfl k') ?_
      show Go p e below s _ _ _ (T130.setTop (mkF m 250 #[.val (.long jx), .second, .val (.long jy), .second, .val (.long jz), .second, .val (.int kr), .val (.int kf), .val (.int (1 : Int32)), .val (.long jt), .second, .val (.long jm), .second, .val (.long ya), .second, .val (.long yb), .second, .val (.long yd), .second, .val (.int kq), .val (.double FP.dconst1), .second, .val (.ref b3), .val (.ref b26), .val (.long ((0 : Int64) + ya)), .second, .val (.int (fkeep (fAdj (FP.i2d kq) (FP.ddiv (FP.l2d ((0 : Int64) + ya)) (FP.l2d ((0 : Int64) + (1 : Int64)))) FP.dconst1 (FP.l2d (jt * (1000000 : Int64)))) kq)), .val (.int (fkeep (fAdj (FP.i2d kq) (FP.ddiv (FP.l2d ((0 : Int64) + ((0 : Int64) + ya))) (FP.l2d ((0 : Int64) + (1 : Int64)))) FP.dconst1 (FP.l2d (jt * (1000000 : Int64)))) kq)), .unset, .unset, .unset, .unset] [(.long (jt * (1000000 : Int64)))]))
      refine Go.st (fun _ k' => XS.lstore X130.here hx rfl (hb hby at_250) rfl (l' := #[.val (.long jx), .second, .val (.long jy), .second, .val (.long jz), .second, .val (.int kr), .val (.int kf), .val (.int (1 : Int32)), .val (.long jt), .second, .val (.long jm), .second, .val (.long ya), .second, .val (.long yb), .second, .val (.long yd), .second, .val (.int kq), .val (.double FP.dconst1), .second, .val (.ref b3), .val (.ref b26), .val (.long ((0 : Int64) + ya)), .second, .val (.int (fkeep (fAdj (FP.i2d kq) (FP.ddiv (FP.l2d ((0 : Int64) + ya)) (FP.l2d ((0 : Int64) + (1 : Int64)))) FP.dconst1 (FP.l2d (jt * (1000000 : Int64)))) kq)), .val (.int (fkeep (fAdj (FP.i2d kq) (FP.ddiv (FP.l2d ((0 : Int64) + ((0 : Int64) + ya))) (FP.l2d ((0 : Int64) + (1 : Int64)))) FP.dconst1 (FP.l2d (jt * (1000000 : Int64)))) kq)), .val (.long (jt * (1000000 : Int64))), .second, .unset, .unset]) rfl k') ?_
      show Go p e below s _ _ _ (T130.setTop (mkF m 252 #[.val (.long jx), .second, .val (.long jy), .second, .val (.long jz), .second, .val (.int kr), .val (.int kf), .val (.int (1 : Int32)), .val (.long jt), .second, .val (.long jm), .second, .val (.long ya), .second, .val (.long yb), .second, .val (.long yd), .second, .val (.int kq), .val (.double FP.dconst1), .second, .val (.ref b3), .val (.ref b26), .val (.long ((0 : Int64) + ya)), .second, .val (.int (fkeep (fAdj (FP.i2d kq) (FP.ddiv (FP.l2d ((0 : Int64) + ya)) (FP.l2d ((0 : Int64) + (1 : Int64)))) FP.dconst1 (FP.l2d (jt * (1000000 : Int64)))) kq)), .val (.int (fkeep (fAdj (FP.i2d kq) (FP.ddiv (FP.l2d ((0 : Int64) + ((0 : Int64) + ya))) (FP.l2d ((0 : Int64) + (1 : Int64)))) FP.dconst1 (FP.l2d (jt * (1000000 : Int64)))) kq)), .val (.long (jt * (1000000 : Int64))), .second, .unset, .unset] []))
      refine Go.st (fun _ k' => XS.iload X130.here hx rfl (hb hby at_252) rfl k') ?_
      show Go p e below s _ _ _ (T130.setTop (mkF m 254 #[.val (.long jx), .second, .val (.long jy), .second, .val (.long jz), .second, .val (.int kr), .val (.int kf), .val (.int (1 : Int32)), .val (.long jt), .second, .val (.long jm), .second, .val (.long ya), .second, .val (.long yb), .second, .val (.long yd), .second, .val (.int kq), .val (.double FP.dconst1), .second, .val (.ref b3), .val (.ref b26), .val (.long ((0 : Int64) + ya)), .second, .val (.int (fkeep (fAdj (FP.i2d kq) (FP.ddiv (FP.l2d ((0 : Int64) + ya)) (FP.l2d ((0 : Int64) + (1 : Int64)))) FP.dconst1 (FP.l2d (jt * (1000000 : Int64)))) kq)), .val (.int (fkeep (fAdj (FP.i2d kq) (FP.ddiv (FP.l2d ((0 : Int64) + ((0 : Int64) + ya))) (FP.l2d ((0 : Int64) + (1 : Int64)))) FP.dconst1 (FP.l2d (jt * (1000000 : Int64)))) kq)), .val (.long (jt * (1000000 : Int64))), .second, .unset, .unset] [(.int (1 : Int32))]))
      refine Go.st (fun _ k' => XS.i2l X130.here hx rfl (hb hby at_254) rfl k') ?_
      show Go p e below s _ _ _ (T130.setTop (mkF m 255 #[.val (.long jx), .second, .val (.long jy), .second, .val (.long jz), .second, .val (.int kr), .val (.int kf), .val (.int (1 : Int32)), .val (.long jt), .second, .val (.long jm), .second, .val (.long ya), .second, .val (.long yb), .second, .val (.long yd), .second, .val (.int kq), .val (.double FP.dconst1), .second, .val (.ref b3), .val (.ref b26), .val (.long ((0 : Int64) + ya)), .second, .val (.int (fkeep (fAdj (FP.i2d kq) (FP.ddiv (FP.l2d ((0 : Int64) + ya)) (FP.l2d ((0 : Int64) + (1 : Int64)))) FP.dconst1 (FP.l2d (jt * (1000000 : Int64)))) kq)), .val (.int (fkeep (fAdj (FP.i2d kq) (FP.ddiv (FP.l2d ((0 : Int64) + ((0 : Int64) + ya))) (FP.l2d ((0 : Int64) + (1 : Int64)))) FP.dconst1 (FP.l2d (jt * (1000000 : Int64)))) kq)), .val (.long (jt * (1000000 : Int64))), .second, .unset, .unset] [(.long ((1 : Int32).toInt64))]))
      refine Go.st (fun _ k' => XS.lstore X130.here hx rfl (hb hby at_255) rfl (l' := #[.val (.long jx), .second, .val (.long jy), .second, .val (.long jz), .second, .val (.int kr), .val (.int kf), .val (.int (1 : Int32)), .val (.long jt), .second, .val (.long jm), .second, .val (.long ya), .second, .val (.long yb), .second, .val (.long yd), .second, .val (.int kq), .val (.double FP.dconst1), .second, .val (.ref b3), .val (.ref b26), .val (.long ((0 : Int64) + ya)), .second, .val (.int (fkeep (fAdj (FP.i2d kq) (FP.ddiv (FP.l2d ((0 : Int64) + ya)) (FP.l2d ((0 : Int64) + (1 : Int64)))) FP.dconst1 (FP.l2d (jt * (1000000 : Int64)))) kq)), .val (.int (fkeep (fAdj (FP.i2d kq) (FP.ddiv (FP.l2d ((0 : Int64) + ((0 : Int64) + ya))) (FP.l2d ((0 : Int64) + (1 : Int64)))) FP.dconst1 (FP.l2d (jt * (1000000 : Int64)))) kq)), .val (.long (jt * (1000000 : Int64))), .second, .val (.long ((1 : Int32).toInt64)), .second]) rfl k') ?_
      show Go p e below s _ _ _ (T130.setTop (mkF m 257 #[.val (.long jx), .second, .val (.long jy), .second, .val (.long jz), .second, .val (.int kr), .val (.int kf), .val (.int (1 : Int32)), .val (.long jt), .second, .val (.long jm), .second, .val (.long ya), .second, .val (.long yb), .second, .val (.long yd), .second, .val (.int kq), .val (.double FP.dconst1), .second, .val (.ref b3), .val (.ref b26), .val (.long ((0 : Int64) + ya)), .second, .val (.int (fkeep (fAdj (FP.i2d kq) (FP.ddiv (FP.l2d ((0 : Int64) + ya)) (FP.l2d ((0 : Int64) + (1 : Int64)))) FP.dconst1 (FP.l2d (jt * (1000000 : Int64)))) kq)), .val (.int (fkeep (fAdj (FP.i2d kq) (FP.ddiv (FP.l2d ((0 : Int64) + ((0 : Int64) + ya))) (FP.l2d ((0 : Int64) + (1 : Int64)))) FP.dconst1 (FP.l2d (jt * (1000000 : Int64)))) kq)), .val (.long (jt * (1000000 : Int64))), .second, .val (.long ((1 : Int32).toInt64)), .second] []))
      refine Go.st (fun _ k' => XS.lload X130.here hx rfl (hb hby at_257) rfl k') ?_
      show Go p e below s _ _ _ (T130.setTop (mkF m 259 #[.val (.long jx), .second, .val (.long jy), .second, .val (.long jz), .second, .val (.int kr), .val (.int kf), .val (.int (1 : Int32)), .val (.long jt), .second, .val (.long jm), .second, .val (.long ya), .second, .val (.long yb), .second, .val (.long yd), .second, .val (.int kq), .val (.double FP.dconst1), .second, .val (.ref b3), .val (.ref b26), .val (.long ((0 : Int64) + ya)), .second, .val (.int (fkeep (fAdj (FP.i2d kq) (FP.ddiv (FP.l2d ((0 : Int64) + ya)) (FP.l2d ((0 : Int64) + (1 : Int64)))) FP.dconst1 (FP.l2d (jt * (1000000 : Int64)))) kq)), .val (.int (fkeep (fAdj (FP.i2d kq) (FP.ddiv (FP.l2d ((0 : Int64) + ((0 : Int64) + ya))) (FP.l2d ((0 : Int64) + (1 : Int64)))) FP.dconst1 (FP.l2d (jt * (1000000 : Int64)))) kq)), .val (.long (jt * (1000000 : Int64))), .second, .val (.long ((1 : Int32).toInt64)), .second] [(.long ((0 : Int64) + ya))]))
      refine Go.st (fun _ k' => XS.lload X130.here hx rfl (hb hby at_259) rfl k') ?_
      show Go p e below s _ _ _ (T130.setTop (mkF m 261 #[.val (.long jx), .second, .val (.long jy), .second, .val (.long jz), .second, .val (.int kr), .val (.int kf), .val (.int (1 : Int32)), .val (.long jt), .second, .val (.long jm), .second, .val (.long ya), .second, .val (.long yb), .second, .val (.long yd), .second, .val (.int kq), .val (.double FP.dconst1), .second, .val (.ref b3), .val (.ref b26), .val (.long ((0 : Int64) + ya)), .second, .val (.int (fkeep (fAdj (FP.i2d kq) (FP.ddiv (FP.l2d ((0 : Int64) + ya)) (FP.l2d ((0 : Int64) + (1 : Int64)))) FP.dconst1 (FP.l2d (jt * (1000000 : Int64)))) kq)), .val (.int (fkeep (fAdj (FP.i2d kq) (FP.ddiv (FP.l2d ((0 : Int64) + ((0 : Int64) + ya))) (FP.l2d ((0 : Int64) + (1 : Int64)))) FP.dconst1 (FP.l2d (jt * (1000000 : Int64)))) kq)), .val (.long (jt * (1000000 : Int64))), .second, .val (.long ((1 : Int32).toInt64)), .second] [(.long ((1 : Int32).toInt64)), (.long ((0 : Int64) + ya))]))
      refine Go.st (fun _ k' => XS.lload X130.here hx rfl (hb hby at_261) rfl k') ?_
      show Go p e below s _ _ _ (T130.setTop (mkF m 263 #[.val (.long jx), .second, .val (.long jy), .second, .val (.long jz), .second, .val (.int kr), .val (.int kf), .val (.int (1 : Int32)), .val (.long jt), .second, .val (.long jm), .second, .val (.long ya), .second, .val (.long yb), .second, .val (.long yd), .second, .val (.int kq), .val (.double FP.dconst1), .second, .val (.ref b3), .val (.ref b26), .val (.long ((0 : Int64) + ya)), .second, .val (.int (fkeep (fAdj (FP.i2d kq) (FP.ddiv (FP.l2d ((0 : Int64) + ya)) (FP.l2d ((0 : Int64) + (1 : Int64)))) FP.dconst1 (FP.l2d (jt * (1000000 : Int64)))) kq)), .val (.int (fkeep (fAdj (FP.i2d kq) (FP.ddiv (FP.l2d ((0 : Int64) + ((0 : Int64) + ya))) (FP.l2d ((0 : Int64) + (1 : Int64)))) FP.dconst1 (FP.l2d (jt * (1000000 : Int64)))) kq)), .val (.long (jt * (1000000 : Int64))), .second, .val (.long ((1 : Int32).toInt64)), .second] [(.long (jt * (1000000 : Int64))), (.long ((1 : Int32).toInt64)), (.long ((0 : Int64) + ya))]))
      refine Go.st (fun _ k' => XS.lmul X130.here hx rfl (hb hby at_263) rfl k') ?_
      show Go p e below s _ _ _ (T130.setTop (mkF m 264 #[.val (.long jx), .second, .val (.long jy), .second, .val (.long jz), .second, .val (.int kr), .val (.int kf), .val (.int (1 : Int32)), .val (.long jt), .second, .val (.long jm), .second, .val (.long ya), .second, .val (.long yb), .second, .val (.long yd), .second, .val (.int kq), .val (.double FP.dconst1), .second, .val (.ref b3), .val (.ref b26), .val (.long ((0 : Int64) + ya)), .second, .val (.int (fkeep (fAdj (FP.i2d kq) (FP.ddiv (FP.l2d ((0 : Int64) + ya)) (FP.l2d ((0 : Int64) + (1 : Int64)))) FP.dconst1 (FP.l2d (jt * (1000000 : Int64)))) kq)), .val (.int (fkeep (fAdj (FP.i2d kq) (FP.ddiv (FP.l2d ((0 : Int64) + ((0 : Int64) + ya))) (FP.l2d ((0 : Int64) + (1 : Int64)))) FP.dconst1 (FP.l2d (jt * (1000000 : Int64)))) kq)), .val (.long (jt * (1000000 : Int64))), .second, .val (.long ((1 : Int32).toInt64)), .second] [(.long (((1 : Int32).toInt64) * (jt * (1000000 : Int64)))), (.long ((0 : Int64) + ya))]))
      refine Go.st (fun _ k' => XT.lcmp X130.here hx rfl (hb hby at_264) rfl k') ?_
      show Go p e below s _ _ _ (T130.setTop (mkF m 265 #[.val (.long jx), .second, .val (.long jy), .second, .val (.long jz), .second, .val (.int kr), .val (.int kf), .val (.int (1 : Int32)), .val (.long jt), .second, .val (.long jm), .second, .val (.long ya), .second, .val (.long yb), .second, .val (.long yd), .second, .val (.int kq), .val (.double FP.dconst1), .second, .val (.ref b3), .val (.ref b26), .val (.long ((0 : Int64) + ya)), .second, .val (.int (fkeep (fAdj (FP.i2d kq) (FP.ddiv (FP.l2d ((0 : Int64) + ya)) (FP.l2d ((0 : Int64) + (1 : Int64)))) FP.dconst1 (FP.l2d (jt * (1000000 : Int64)))) kq)), .val (.int (fkeep (fAdj (FP.i2d kq) (FP.ddiv (FP.l2d ((0 : Int64) + ((0 : Int64) + ya))) (FP.l2d ((0 : Int64) + (1 : Int64)))) FP.dconst1 (FP.l2d (jt * (1000000 : Int64)))) kq)), .val (.long (jt * (1000000 : Int64))), .second, .val (.long ((1 : Int32).toInt64)), .second] [(.int (XT.cmpL ((0 : Int64) + ya) (((1 : Int32).toInt64) * (jt * (1000000 : Int64)))))]))
      by_cases hc136 : (((1 : Int32).toInt64) * (jt * (1000000 : Int64))) < ((0 : Int64) + ya)
      · refine Go.st (fun _ k' => XS.ifYes X130.here hx rfl (pc0 := 265) (pc' := 281) rfl (hb hby at_265) rfl (XT.ll_gt_t hc136) (by decide) (by decide) k') ?_
        show Go p e below s _ _ _ (T130.setTop (mkF m 281 #[.val (.long jx), .second, .val (.long jy), .second, .val (.long jz), .second, .val (.int kr), .val (.int kf), .val (.int (1 : Int32)), .val (.long jt), .second, .val (.long jm), .second, .val (.long ya), .second, .val (.long yb), .second, .val (.long yd), .second, .val (.int kq), .val (.double FP.dconst1), .second, .val (.ref b3), .val (.ref b26), .val (.long ((0 : Int64) + ya)), .second, .val (.int (fkeep (fAdj (FP.i2d kq) (FP.ddiv (FP.l2d ((0 : Int64) + ya)) (FP.l2d ((0 : Int64) + (1 : Int64)))) FP.dconst1 (FP.l2d (jt * (1000000 : Int64)))) kq)), .val (.int (fkeep (fAdj (FP.i2d kq) (FP.ddiv (FP.l2d ((0 : Int64) + ((0 : Int64) + ya))) (FP.l2d ((0 : Int64) + (1 : Int64)))) FP.dconst1 (FP.l2d (jt * (1000000 : Int64)))) kq)), .val (.long (jt * (1000000 : Int64))), .second, .val (.long ((1 : Int32).toInt64)), .second] []))
        refine Go.st (fun _ k' => XS.lload X130.here hx rfl (hb hby at_281) rfl k') ?_
        show Go p e below s _ _ _ (T130.setTop (mkF m 283 #[.val (.long jx), .second, .val (.long jy), .second, .val (.long jz), .second, .val (.int kr), .val (.int kf), .val (.int (1 : Int32)), .val (.long jt), .second, .val (.long jm), .second, .val (.long ya), .second, .val (.long yb), .second, .val (.long yd), .second, .val (.int kq), .val (.double FP.dconst1), .second, .val (.ref b3), .val (.ref b26), .val (.long ((0 : Int64) + ya)), .second, .val (.int (fkeep (fAdj (FP.i2d kq) (FP.ddiv (FP.l2d ((0 : Int64) + ya)) (FP.l2d ((0 : Int64) + (1 : Int64)))) FP.dconst1 (FP.l2d (jt * (1000000 : Int64)))) kq)), .val (.int (fkeep (fAdj (FP.i2d kq) (FP.ddiv (FP.l2d ((0 : Int64) + ((0 : Int64) + ya))) (FP.l2d ((0 : Int64) + (1 : Int64)))) FP.dconst1 (FP.l2d (jt * (1000000 : Int64)))) kq)), .val (.long (jt * (1000000 : Int64))), .second, .val (.long ((1 : Int32).toInt64)), .second] [(.long ((0 : Int64) + ya))]))
        refine Go.st (fun _ k' => X130.ldc2J hx hown (mvT hZ (wdx hw 78 rfl)) rfl (hb hby at_283) k') ?_
        show Go p e below s _ _ _ (T130.setTop (mkF m 286 #[.val (.long jx), .second, .val (.long jy), .second, .val (.long jz), .second, .val (.int kr), .val (.int kf), .val (.int (1 : Int32)), .val (.long jt), .second, .val (.long jm), .second, .val (.long ya), .second, .val (.long yb), .second, .val (.long yd), .second, .val (.int kq), .val (.double FP.dconst1), .second, .val (.ref b3), .val (.ref b26), .val (.long ((0 : Int64) + ya)), .second, .val (.int (fkeep (fAdj (FP.i2d kq) (FP.ddiv (FP.l2d ((0 : Int64) + ya)) (FP.l2d ((0 : Int64) + (1 : Int64)))) FP.dconst1 (FP.l2d (jt * (1000000 : Int64)))) kq)), .val (.int (fkeep (fAdj (FP.i2d kq) (FP.ddiv (FP.l2d ((0 : Int64) + ((0 : Int64) + ya))) (FP.l2d ((0 : Int64) + (1 : Int64)))) FP.dconst1 (FP.l2d (jt * (1000000 : Int64)))) kq)), .val (.long (jt * (1000000 : Int64))), .second, .val (.long ((1 : Int32).toInt64)), .second] [(.long (2 : Int64)), (.long ((0 : Int64) + ya))]))
        refine Go.st (fun _ k' => XS.lload X130.here hx rfl (hb hby at_286) rfl k') ?_
        show Go p e below s _ _ _ (T130.setTop (mkF m 288 #[.val (.long jx), .second, .val (.long jy), .second, .val (.long jz), .second, .val (.int kr), .val (.int kf), .val (.int (1 : Int32)), .val (.long jt), .second, .val (.long jm), .second, .val (.long ya), .second, .val (.long yb), .second, .val (.long yd), .second, .val (.int kq), .val (.double FP.dconst1), .second, .val (.ref b3), .val (.ref b26), .val (.long ((0 : Int64) + ya)), .second, .val (.int (fkeep (fAdj (FP.i2d kq) (FP.ddiv (FP.l2d ((0 : Int64) + ya)) (FP.l2d ((0 : Int64) + (1 : Int64)))) FP.dconst1 (FP.l2d (jt * (1000000 : Int64)))) kq)), .val (.int (fkeep (fAdj (FP.i2d kq) (FP.ddiv (FP.l2d ((0 : Int64) + ((0 : Int64) + ya))) (FP.l2d ((0 : Int64) + (1 : Int64)))) FP.dconst1 (FP.l2d (jt * (1000000 : Int64)))) kq)), .val (.long (jt * (1000000 : Int64))), .second, .val (.long ((1 : Int32).toInt64)), .second] [(.long ((1 : Int32).toInt64)), (.long (2 : Int64)), (.long ((0 : Int64) + ya))]))
        refine Go.st (fun _ k' => XS.lmul X130.here hx rfl (hb hby at_288) rfl k') ?_
        show Go p e below s _ _ _ (T130.setTop (mkF m 289 #[.val (.long jx), .second, .val (.long jy), .second, .val (.long jz), .second, .val (.int kr), .val (.int kf), .val (.int (1 : Int32)), .val (.long jt), .second, .val (.long jm), .second, .val (.long ya), .second, .val (.long yb), .second, .val (.long yd), .second, .val (.int kq), .val (.double FP.dconst1), .second, .val (.ref b3), .val (.ref b26), .val (.long ((0 : Int64) + ya)), .second, .val (.int (fkeep (fAdj (FP.i2d kq) (FP.ddiv (FP.l2d ((0 : Int64) + ya)) (FP.l2d ((0 : Int64) + (1 : Int64)))) FP.dconst1 (FP.l2d (jt * (1000000 : Int64)))) kq)), .val (.int (fkeep (fAdj (FP.i2d kq) (FP.ddiv (FP.l2d ((0 : Int64) + ((0 : Int64) + ya))) (FP.l2d ((0 : Int64) + (1 : Int64)))) FP.dconst1 (FP.l2d (jt * (1000000 : Int64)))) kq)), .val (.long (jt * (1000000 : Int64))), .second, .val (.long ((1 : Int32).toInt64)), .second] [(.long ((2 : Int64) * ((1 : Int32).toInt64))), (.long ((0 : Int64) + ya))]))
        refine Go.st (fun _ k' => XS.lload X130.here hx rfl (hb hby at_289) rfl k') ?_
        show Go p e below s _ _ _ (T130.setTop (mkF m 291 #[.val (.long jx), .second, .val (.long jy), .second, .val (.long jz), .second, .val (.int kr), .val (.int kf), .val (.int (1 : Int32)), .val (.long jt), .second, .val (.long jm), .second, .val (.long ya), .second, .val (.long yb), .second, .val (.long yd), .second, .val (.int kq), .val (.double FP.dconst1), .second, .val (.ref b3), .val (.ref b26), .val (.long ((0 : Int64) + ya)), .second, .val (.int (fkeep (fAdj (FP.i2d kq) (FP.ddiv (FP.l2d ((0 : Int64) + ya)) (FP.l2d ((0 : Int64) + (1 : Int64)))) FP.dconst1 (FP.l2d (jt * (1000000 : Int64)))) kq)), .val (.int (fkeep (fAdj (FP.i2d kq) (FP.ddiv (FP.l2d ((0 : Int64) + ((0 : Int64) + ya))) (FP.l2d ((0 : Int64) + (1 : Int64)))) FP.dconst1 (FP.l2d (jt * (1000000 : Int64)))) kq)), .val (.long (jt * (1000000 : Int64))), .second, .val (.long ((1 : Int32).toInt64)), .second] [(.long (jt * (1000000 : Int64))), (.long ((2 : Int64) * ((1 : Int32).toInt64))), (.long ((0 : Int64) + ya))]))
        refine Go.st (fun _ k' => XS.lmul X130.here hx rfl (hb hby at_291) rfl k') ?_
        show Go p e below s _ _ _ (T130.setTop (mkF m 292 #[.val (.long jx), .second, .val (.long jy), .second, .val (.long jz), .second, .val (.int kr), .val (.int kf), .val (.int (1 : Int32)), .val (.long jt), .second, .val (.long jm), .second, .val (.long ya), .second, .val (.long yb), .second, .val (.long yd), .second, .val (.int kq), .val (.double FP.dconst1), .second, .val (.ref b3), .val (.ref b26), .val (.long ((0 : Int64) + ya)), .second, .val (.int (fkeep (fAdj (FP.i2d kq) (FP.ddiv (FP.l2d ((0 : Int64) + ya)) (FP.l2d ((0 : Int64) + (1 : Int64)))) FP.dconst1 (FP.l2d (jt * (1000000 : Int64)))) kq)), .val (.int (fkeep (fAdj (FP.i2d kq) (FP.ddiv (FP.l2d ((0 : Int64) + ((0 : Int64) + ya))) (FP.l2d ((0 : Int64) + (1 : Int64)))) FP.dconst1 (FP.l2d (jt * (1000000 : Int64)))) kq)), .val (.long (jt * (1000000 : Int64))), .second, .val (.long ((1 : Int32).toInt64)), .second] [(.long (((2 : Int64) * ((1 : Int32).toInt64)) * (jt * (1000000 : Int64)))), (.long ((0 : Int64) + ya))]))
        refine Go.st (fun _ k' => XT.lcmp X130.here hx rfl (hb hby at_292) rfl k') ?_
        show Go p e below s _ _ _ (T130.setTop (mkF m 293 #[.val (.long jx), .second, .val (.long jy), .second, .val (.long jz), .second, .val (.int kr), .val (.int kf), .val (.int (1 : Int32)), .val (.long jt), .second, .val (.long jm), .second, .val (.long ya), .second, .val (.long yb), .second, .val (.long yd), .second, .val (.int kq), .val (.double FP.dconst1), .second, .val (.ref b3), .val (.ref b26), .val (.long ((0 : Int64) + ya)), .second, .val (.int (fkeep (fAdj (FP.i2d kq) (FP.ddiv (FP.l2d ((0 : Int64) + ya)) (FP.l2d ((0 : Int64) + (1 : Int64)))) FP.dconst1 (FP.l2d (jt * (1000000 : Int64)))) kq)), .val (.int (fkeep (fAdj (FP.i2d kq) (FP.ddiv (FP.l2d ((0 : Int64) + ((0 : Int64) + ya))) (FP.l2d ((0 : Int64) + (1 : Int64)))) FP.dconst1 (FP.l2d (jt * (1000000 : Int64)))) kq)), .val (.long (jt * (1000000 : Int64))), .second, .val (.long ((1 : Int32).toInt64)), .second] [(.int (XT.cmpL ((0 : Int64) + ya) (((2 : Int64) * ((1 : Int32).toInt64)) * (jt * (1000000 : Int64)))))]))
        by_cases hc137 : ((0 : Int64) + ya) < (((2 : Int64) * ((1 : Int32).toInt64)) * (jt * (1000000 : Int64)))
        · refine Go.st (fun _ k' => XS.ifYes X130.here hx rfl (pc0 := 293) (pc' := 308) rfl (hb hby at_293) rfl (XT.ll_lt_t hc137) (by decide) (by decide) k') ?_
          show Go p e below s _ _ _ (T130.setTop (mkF m 308 #[.val (.long jx), .second, .val (.long jy), .second, .val (.long jz), .second, .val (.int kr), .val (.int kf), .val (.int (1 : Int32)), .val (.long jt), .second, .val (.long jm), .second, .val (.long ya), .second, .val (.long yb), .second, .val (.long yd), .second, .val (.int kq), .val (.double FP.dconst1), .second, .val (.ref b3), .val (.ref b26), .val (.long ((0 : Int64) + ya)), .second, .val (.int (fkeep (fAdj (FP.i2d kq) (FP.ddiv (FP.l2d ((0 : Int64) + ya)) (FP.l2d ((0 : Int64) + (1 : Int64)))) FP.dconst1 (FP.l2d (jt * (1000000 : Int64)))) kq)), .val (.int (fkeep (fAdj (FP.i2d kq) (FP.ddiv (FP.l2d ((0 : Int64) + ((0 : Int64) + ya))) (FP.l2d ((0 : Int64) + (1 : Int64)))) FP.dconst1 (FP.l2d (jt * (1000000 : Int64)))) kq)), .val (.long (jt * (1000000 : Int64))), .second, .val (.long ((1 : Int32).toInt64)), .second] []))
          refine Go.st (fun _ k' => XS.iconst X130.here hx rfl (hb hby at_308) k') ?_
          show Go p e below s _ _ _ (T130.setTop (mkF m 309 #[.val (.long jx), .second, .val (.long jy), .second, .val (.long jz), .second, .val (.int kr), .val (.int kf), .val (.int (1 : Int32)), .val (.long jt), .second, .val (.long jm), .second, .val (.long ya), .second, .val (.long yb), .second, .val (.long yd), .second, .val (.int kq), .val (.double FP.dconst1), .second, .val (.ref b3), .val (.ref b26), .val (.long ((0 : Int64) + ya)), .second, .val (.int (fkeep (fAdj (FP.i2d kq) (FP.ddiv (FP.l2d ((0 : Int64) + ya)) (FP.l2d ((0 : Int64) + (1 : Int64)))) FP.dconst1 (FP.l2d (jt * (1000000 : Int64)))) kq)), .val (.int (fkeep (fAdj (FP.i2d kq) (FP.ddiv (FP.l2d ((0 : Int64) + ((0 : Int64) + ya))) (FP.l2d ((0 : Int64) + (1 : Int64)))) FP.dconst1 (FP.l2d (jt * (1000000 : Int64)))) kq)), .val (.long (jt * (1000000 : Int64))), .second, .val (.long ((1 : Int32).toInt64)), .second] [(.int (1 : Int32))]))
          refine Go.retB X130 hx hlk (t := .boolean) Bd.returns (by simp) (hb hby at_309) (by decide) (by decide) rfl ?_
          exact ⟨rfl, N130, trivial⟩
        · refine Go.st (fun _ k' => XS.ifNo X130.here hx rfl (hb hby at_293) rfl (XT.ll_lt_f hc137) k') ?_
          show Go p e below s _ _ _ (T130.setTop (mkF m 296 #[.val (.long jx), .second, .val (.long jy), .second, .val (.long jz), .second, .val (.int kr), .val (.int kf), .val (.int (1 : Int32)), .val (.long jt), .second, .val (.long jm), .second, .val (.long ya), .second, .val (.long yb), .second, .val (.long yd), .second, .val (.int kq), .val (.double FP.dconst1), .second, .val (.ref b3), .val (.ref b26), .val (.long ((0 : Int64) + ya)), .second, .val (.int (fkeep (fAdj (FP.i2d kq) (FP.ddiv (FP.l2d ((0 : Int64) + ya)) (FP.l2d ((0 : Int64) + (1 : Int64)))) FP.dconst1 (FP.l2d (jt * (1000000 : Int64)))) kq)), .val (.int (fkeep (fAdj (FP.i2d kq) (FP.ddiv (FP.l2d ((0 : Int64) + ((0 : Int64) + ya))) (FP.l2d ((0 : Int64) + (1 : Int64)))) FP.dconst1 (FP.l2d (jt * (1000000 : Int64)))) kq)), .val (.long (jt * (1000000 : Int64))), .second, .val (.long ((1 : Int32).toInt64)), .second] []))
          refine Go.st (fun _ k' => XS.iload X130.here hx rfl (hb hby at_296) rfl k') ?_
          show Go p e below s _ _ _ (T130.setTop (mkF m 298 #[.val (.long jx), .second, .val (.long jy), .second, .val (.long jz), .second, .val (.int kr), .val (.int kf), .val (.int (1 : Int32)), .val (.long jt), .second, .val (.long jm), .second, .val (.long ya), .second, .val (.long yb), .second, .val (.long yd), .second, .val (.int kq), .val (.double FP.dconst1), .second, .val (.ref b3), .val (.ref b26), .val (.long ((0 : Int64) + ya)), .second, .val (.int (fkeep (fAdj (FP.i2d kq) (FP.ddiv (FP.l2d ((0 : Int64) + ya)) (FP.l2d ((0 : Int64) + (1 : Int64)))) FP.dconst1 (FP.l2d (jt * (1000000 : Int64)))) kq)), .val (.int (fkeep (fAdj (FP.i2d kq) (FP.ddiv (FP.l2d ((0 : Int64) + ((0 : Int64) + ya))) (FP.l2d ((0 : Int64) + (1 : Int64)))) FP.dconst1 (FP.l2d (jt * (1000000 : Int64)))) kq)), .val (.long (jt * (1000000 : Int64))), .second, .val (.long ((1 : Int32).toInt64)), .second] [(.int (fkeep (fAdj (FP.i2d kq) (FP.ddiv (FP.l2d ((0 : Int64) + ya)) (FP.l2d ((0 : Int64) + (1 : Int64)))) FP.dconst1 (FP.l2d (jt * (1000000 : Int64)))) kq))]))
          refine Go.st (fun _ k' => XS.iconst X130.here hx rfl (hb hby at_298) k') ?_
          show Go p e below s _ _ _ (T130.setTop (mkF m 299 #[.val (.long jx), .second, .val (.long jy), .second, .val (.long jz), .second, .val (.int kr), .val (.int kf), .val (.int (1 : Int32)), .val (.long jt), .second, .val (.long jm), .second, .val (.long ya), .second, .val (.long yb), .second, .val (.long yd), .second, .val (.int kq), .val (.double FP.dconst1), .second, .val (.ref b3), .val (.ref b26), .val (.long ((0 : Int64) + ya)), .second, .val (.int (fkeep (fAdj (FP.i2d kq) (FP.ddiv (FP.l2d ((0 : Int64) + ya)) (FP.l2d ((0 : Int64) + (1 : Int64)))) FP.dconst1 (FP.l2d (jt * (1000000 : Int64)))) kq)), .val (.int (fkeep (fAdj (FP.i2d kq) (FP.ddiv (FP.l2d ((0 : Int64) + ((0 : Int64) + ya))) (FP.l2d ((0 : Int64) + (1 : Int64)))) FP.dconst1 (FP.l2d (jt * (1000000 : Int64)))) kq)), .val (.long (jt * (1000000 : Int64))), .second, .val (.long ((1 : Int32).toInt64)), .second] [(.int (1 : Int32)), (.int (fkeep (fAdj (FP.i2d kq) (FP.ddiv (FP.l2d ((0 : Int64) + ya)) (FP.l2d ((0 : Int64) + (1 : Int64)))) FP.dconst1 (FP.l2d (jt * (1000000 : Int64)))) kq))]))
          refine Go.st (fun _ k' => XS.icmpNo X130.here hx rfl (hb hby at_299) rfl (XT.ii_ne_f (w_e hc137)) k') ?_
          show Go p e below s _ _ _ (T130.setTop (mkF m 302 #[.val (.long jx), .second, .val (.long jy), .second, .val (.long jz), .second, .val (.int kr), .val (.int kf), .val (.int (1 : Int32)), .val (.long jt), .second, .val (.long jm), .second, .val (.long ya), .second, .val (.long yb), .second, .val (.long yd), .second, .val (.int kq), .val (.double FP.dconst1), .second, .val (.ref b3), .val (.ref b26), .val (.long ((0 : Int64) + ya)), .second, .val (.int (fkeep (fAdj (FP.i2d kq) (FP.ddiv (FP.l2d ((0 : Int64) + ya)) (FP.l2d ((0 : Int64) + (1 : Int64)))) FP.dconst1 (FP.l2d (jt * (1000000 : Int64)))) kq)), .val (.int (fkeep (fAdj (FP.i2d kq) (FP.ddiv (FP.l2d ((0 : Int64) + ((0 : Int64) + ya))) (FP.l2d ((0 : Int64) + (1 : Int64)))) FP.dconst1 (FP.l2d (jt * (1000000 : Int64)))) kq)), .val (.long (jt * (1000000 : Int64))), .second, .val (.long ((1 : Int32).toInt64)), .second] []))
          refine Go.st (fun _ k' => XS.iconst X130.here hx rfl (hb hby at_302) k') ?_
          show Go p e below s _ _ _ (T130.setTop (mkF m 303 #[.val (.long jx), .second, .val (.long jy), .second, .val (.long jz), .second, .val (.int kr), .val (.int kf), .val (.int (1 : Int32)), .val (.long jt), .second, .val (.long jm), .second, .val (.long ya), .second, .val (.long yb), .second, .val (.long yd), .second, .val (.int kq), .val (.double FP.dconst1), .second, .val (.ref b3), .val (.ref b26), .val (.long ((0 : Int64) + ya)), .second, .val (.int (fkeep (fAdj (FP.i2d kq) (FP.ddiv (FP.l2d ((0 : Int64) + ya)) (FP.l2d ((0 : Int64) + (1 : Int64)))) FP.dconst1 (FP.l2d (jt * (1000000 : Int64)))) kq)), .val (.int (fkeep (fAdj (FP.i2d kq) (FP.ddiv (FP.l2d ((0 : Int64) + ((0 : Int64) + ya))) (FP.l2d ((0 : Int64) + (1 : Int64)))) FP.dconst1 (FP.l2d (jt * (1000000 : Int64)))) kq)), .val (.long (jt * (1000000 : Int64))), .second, .val (.long ((1 : Int32).toInt64)), .second] [(.int (1 : Int32))]))
          refine Go.st (fun _ k' => XS.goto X130.here hx rfl (pc0 := 303) (pc' := 307) rfl (hb hby at_303) (by decide) (by decide) k') ?_
          show Go p e below s _ _ _ (T130.setTop (mkF m 307 #[.val (.long jx), .second, .val (.long jy), .second, .val (.long jz), .second, .val (.int kr), .val (.int kf), .val (.int (1 : Int32)), .val (.long jt), .second, .val (.long jm), .second, .val (.long ya), .second, .val (.long yb), .second, .val (.long yd), .second, .val (.int kq), .val (.double FP.dconst1), .second, .val (.ref b3), .val (.ref b26), .val (.long ((0 : Int64) + ya)), .second, .val (.int (fkeep (fAdj (FP.i2d kq) (FP.ddiv (FP.l2d ((0 : Int64) + ya)) (FP.l2d ((0 : Int64) + (1 : Int64)))) FP.dconst1 (FP.l2d (jt * (1000000 : Int64)))) kq)), .val (.int (fkeep (fAdj (FP.i2d kq) (FP.ddiv (FP.l2d ((0 : Int64) + ((0 : Int64) + ya))) (FP.l2d ((0 : Int64) + (1 : Int64)))) FP.dconst1 (FP.l2d (jt * (1000000 : Int64)))) kq)), .val (.long (jt * (1000000 : Int64))), .second, .val (.long ((1 : Int32).toInt64)), .second] [(.int (1 : Int32))]))
          refine Go.retB X130 hx hlk (t := .boolean) Bd.returns (by simp) (hb hby at_307) (by decide) (by decide) rfl ?_
          exact ⟨rfl, N130, trivial⟩
      · refine Go.st (fun _ k' => XS.ifNo X130.here hx rfl (hb hby at_265) rfl (XT.ll_gt_f hc136) k') ?_
        show Go p e below s _ _ _ (T130.setTop (mkF m 268 #[.val (.long jx), .second, .val (.long jy), .second, .val (.long jz), .second, .val (.int kr), .val (.int kf), .val (.int (1 : Int32)), .val (.long jt), .second, .val (.long jm), .second, .val (.long ya), .second, .val (.long yb), .second, .val (.long yd), .second, .val (.int kq), .val (.double FP.dconst1), .second, .val (.ref b3), .val (.ref b26), .val (.long ((0 : Int64) + ya)), .second, .val (.int (fkeep (fAdj (FP.i2d kq) (FP.ddiv (FP.l2d ((0 : Int64) + ya)) (FP.l2d ((0 : Int64) + (1 : Int64)))) FP.dconst1 (FP.l2d (jt * (1000000 : Int64)))) kq)), .val (.int (fkeep (fAdj (FP.i2d kq) (FP.ddiv (FP.l2d ((0 : Int64) + ((0 : Int64) + ya))) (FP.l2d ((0 : Int64) + (1 : Int64)))) FP.dconst1 (FP.l2d (jt * (1000000 : Int64)))) kq)), .val (.long (jt * (1000000 : Int64))), .second, .val (.long ((1 : Int32).toInt64)), .second] []))
        refine Go.st (fun _ k' => XS.iload X130.here hx rfl (hb hby at_268) rfl k') ?_
        show Go p e below s _ _ _ (T130.setTop (mkF m 270 #[.val (.long jx), .second, .val (.long jy), .second, .val (.long jz), .second, .val (.int kr), .val (.int kf), .val (.int (1 : Int32)), .val (.long jt), .second, .val (.long jm), .second, .val (.long ya), .second, .val (.long yb), .second, .val (.long yd), .second, .val (.int kq), .val (.double FP.dconst1), .second, .val (.ref b3), .val (.ref b26), .val (.long ((0 : Int64) + ya)), .second, .val (.int (fkeep (fAdj (FP.i2d kq) (FP.ddiv (FP.l2d ((0 : Int64) + ya)) (FP.l2d ((0 : Int64) + (1 : Int64)))) FP.dconst1 (FP.l2d (jt * (1000000 : Int64)))) kq)), .val (.int (fkeep (fAdj (FP.i2d kq) (FP.ddiv (FP.l2d ((0 : Int64) + ((0 : Int64) + ya))) (FP.l2d ((0 : Int64) + (1 : Int64)))) FP.dconst1 (FP.l2d (jt * (1000000 : Int64)))) kq)), .val (.long (jt * (1000000 : Int64))), .second, .val (.long ((1 : Int32).toInt64)), .second] [(.int (fkeep (fAdj (FP.i2d kq) (FP.ddiv (FP.l2d ((0 : Int64) + ya)) (FP.l2d ((0 : Int64) + (1 : Int64)))) FP.dconst1 (FP.l2d (jt * (1000000 : Int64)))) kq))]))
        refine Go.st (fun _ k' => XS.iload X130.here hx rfl (hb hby at_270) rfl k') ?_
        show Go p e below s _ _ _ (T130.setTop (mkF m 272 #[.val (.long jx), .second, .val (.long jy), .second, .val (.long jz), .second, .val (.int kr), .val (.int kf), .val (.int (1 : Int32)), .val (.long jt), .second, .val (.long jm), .second, .val (.long ya), .second, .val (.long yb), .second, .val (.long yd), .second, .val (.int kq), .val (.double FP.dconst1), .second, .val (.ref b3), .val (.ref b26), .val (.long ((0 : Int64) + ya)), .second, .val (.int (fkeep (fAdj (FP.i2d kq) (FP.ddiv (FP.l2d ((0 : Int64) + ya)) (FP.l2d ((0 : Int64) + (1 : Int64)))) FP.dconst1 (FP.l2d (jt * (1000000 : Int64)))) kq)), .val (.int (fkeep (fAdj (FP.i2d kq) (FP.ddiv (FP.l2d ((0 : Int64) + ((0 : Int64) + ya))) (FP.l2d ((0 : Int64) + (1 : Int64)))) FP.dconst1 (FP.l2d (jt * (1000000 : Int64)))) kq)), .val (.long (jt * (1000000 : Int64))), .second, .val (.long ((1 : Int32).toInt64)), .second] [(.int kq), (.int (fkeep (fAdj (FP.i2d kq) (FP.ddiv (FP.l2d ((0 : Int64) + ya)) (FP.l2d ((0 : Int64) + (1 : Int64)))) FP.dconst1 (FP.l2d (jt * (1000000 : Int64)))) kq))]))
        refine Go.st (fun _ k' => XS.icmpNo X130.here hx rfl (hb hby at_272) rfl (XT.ii_ne_f (w_d hc136)) k') ?_
        show Go p e below s _ _ _ (T130.setTop (mkF m 275 #[.val (.long jx), .second, .val (.long jy), .second, .val (.long jz), .second, .val (.int kr), .val (.int kf), .val (.int (1 : Int32)), .val (.long jt), .second, .val (.long jm), .second, .val (.long ya), .second, .val (.long yb), .second, .val (.long yd), .second, .val (.int kq), .val (.double FP.dconst1), .second, .val (.ref b3), .val (.ref b26), .val (.long ((0 : Int64) + ya)), .second, .val (.int (fkeep (fAdj (FP.i2d kq) (FP.ddiv (FP.l2d ((0 : Int64) + ya)) (FP.l2d ((0 : Int64) + (1 : Int64)))) FP.dconst1 (FP.l2d (jt * (1000000 : Int64)))) kq)), .val (.int (fkeep (fAdj (FP.i2d kq) (FP.ddiv (FP.l2d ((0 : Int64) + ((0 : Int64) + ya))) (FP.l2d ((0 : Int64) + (1 : Int64)))) FP.dconst1 (FP.l2d (jt * (1000000 : Int64)))) kq)), .val (.long (jt * (1000000 : Int64))), .second, .val (.long ((1 : Int32).toInt64)), .second] []))
        refine Go.st (fun _ k' => XS.iconst X130.here hx rfl (hb hby at_275) k') ?_
        show Go p e below s _ _ _ (T130.setTop (mkF m 276 #[.val (.long jx), .second, .val (.long jy), .second, .val (.long jz), .second, .val (.int kr), .val (.int kf), .val (.int (1 : Int32)), .val (.long jt), .second, .val (.long jm), .second, .val (.long ya), .second, .val (.long yb), .second, .val (.long yd), .second, .val (.int kq), .val (.double FP.dconst1), .second, .val (.ref b3), .val (.ref b26), .val (.long ((0 : Int64) + ya)), .second, .val (.int (fkeep (fAdj (FP.i2d kq) (FP.ddiv (FP.l2d ((0 : Int64) + ya)) (FP.l2d ((0 : Int64) + (1 : Int64)))) FP.dconst1 (FP.l2d (jt * (1000000 : Int64)))) kq)), .val (.int (fkeep (fAdj (FP.i2d kq) (FP.ddiv (FP.l2d ((0 : Int64) + ((0 : Int64) + ya))) (FP.l2d ((0 : Int64) + (1 : Int64)))) FP.dconst1 (FP.l2d (jt * (1000000 : Int64)))) kq)), .val (.long (jt * (1000000 : Int64))), .second, .val (.long ((1 : Int32).toInt64)), .second] [(.int (1 : Int32))]))
        refine Go.st (fun _ k' => XS.goto X130.here hx rfl (pc0 := 276) (pc' := 280) rfl (hb hby at_276) (by decide) (by decide) k') ?_
        show Go p e below s _ _ _ (T130.setTop (mkF m 280 #[.val (.long jx), .second, .val (.long jy), .second, .val (.long jz), .second, .val (.int kr), .val (.int kf), .val (.int (1 : Int32)), .val (.long jt), .second, .val (.long jm), .second, .val (.long ya), .second, .val (.long yb), .second, .val (.long yd), .second, .val (.int kq), .val (.double FP.dconst1), .second, .val (.ref b3), .val (.ref b26), .val (.long ((0 : Int64) + ya)), .second, .val (.int (fkeep (fAdj (FP.i2d kq) (FP.ddiv (FP.l2d ((0 : Int64) + ya)) (FP.l2d ((0 : Int64) + (1 : Int64)))) FP.dconst1 (FP.l2d (jt * (1000000 : Int64)))) kq)), .val (.int (fkeep (fAdj (FP.i2d kq) (FP.ddiv (FP.l2d ((0 : Int64) + ((0 : Int64) + ya))) (FP.l2d ((0 : Int64) + (1 : Int64)))) FP.dconst1 (FP.l2d (jt * (1000000 : Int64)))) kq)), .val (.long (jt * (1000000 : Int64))), .second, .val (.long ((1 : Int32).toInt64)), .second] [(.int (1 : Int32))]))
        refine Go.retB X130 hx hlk (t := .boolean) Bd.returns (by simp) (hb hby at_280) (by decide) (by decide) rfl ?_
        exact ⟨rfl, N130, trivial⟩
    · rw [hi]
      show Go p e below s _ _ _ (T46.setTop (mkF m 105 #[.val (.long jx), .second, .val (.long jy), .second, .val (.long jz), .second, .val (.int kr), .val (.int kf), .val (.int (2 : Int32)), .val (.long jt), .second, .val (.long jm), .second, .val (.long ya), .second, .val (.long yb), .second, .val (.long yd), .second, .val (.int kq), .val (.double FP.dconst1), .second, .val (.ref b3), .val (.ref b26), .val (.long (0 : Int64)), .second, .unset, .unset, .unset, .unset, .unset, .unset] []))
      refine Go.st (fun _ k' => XS.iload X46.here hx rfl (hb hby at_105) rfl k') ?_
      show Go p e below s _ _ _ (T46.setTop (mkF m 107 #[.val (.long jx), .second, .val (.long jy), .second, .val (.long jz), .second, .val (.int kr), .val (.int kf), .val (.int (2 : Int32)), .val (.long jt), .second, .val (.long jm), .second, .val (.long ya), .second, .val (.long yb), .second, .val (.long yd), .second, .val (.int kq), .val (.double FP.dconst1), .second, .val (.ref b3), .val (.ref b26), .val (.long (0 : Int64)), .second, .unset, .unset, .unset, .unset, .unset, .unset] [(.int (2 : Int32))]))
      refine Go.st (fun _ k' => XS.iconst X46.here hx rfl (hb hby at_107) k') ?_
      show Go p e below s _ _ _ (T46.setTop (mkF m 108 #[.val (.long jx), .second, .val (.long jy), .second, .val (.long jz), .second, .val (.int kr), .val (.int kf), .val (.int (2 : Int32)), .val (.long jt), .second, .val (.long jm), .second, .val (.long ya), .second, .val (.long yb), .second, .val (.long yd), .second, .val (.int kq), .val (.double FP.dconst1), .second, .val (.ref b3), .val (.ref b26), .val (.long (0 : Int64)), .second, .unset, .unset, .unset, .unset, .unset, .unset] [(.int (1 : Int32)), (.int (2 : Int32))]))
      refine Go.st (fun _ k' => XS.icmpNo X46.here hx rfl (hb hby at_108) rfl (XT.ii_lt_f (by decide)) k') ?_
      show Go p e below s _ _ _ (T46.setTop (mkF m 111 #[.val (.long jx), .second, .val (.long jy), .second, .val (.long jz), .second, .val (.int kr), .val (.int kf), .val (.int (2 : Int32)), .val (.long jt), .second, .val (.long jm), .second, .val (.long ya), .second, .val (.long yb), .second, .val (.long yd), .second, .val (.int kq), .val (.double FP.dconst1), .second, .val (.ref b3), .val (.ref b26), .val (.long (0 : Int64)), .second, .unset, .unset, .unset, .unset, .unset, .unset] []))
      refine Go.st (fun _ k' => XS.aload X46.here hx rfl (hb hby at_111) rfl rfl k') ?_
      show Go p e below s _ _ _ (T46.setTop (mkF m 113 #[.val (.long jx), .second, .val (.long jy), .second, .val (.long jz), .second, .val (.int kr), .val (.int kf), .val (.int (2 : Int32)), .val (.long jt), .second, .val (.long jm), .second, .val (.long ya), .second, .val (.long yb), .second, .val (.long yd), .second, .val (.int kq), .val (.double FP.dconst1), .second, .val (.ref b3), .val (.ref b26), .val (.long (0 : Int64)), .second, .unset, .unset, .unset, .unset, .unset, .unset] [(.ref b3)]))
      refine Go.st (fun _ k' => XS.lload X46.here hx rfl (hb hby at_113) rfl k') ?_
      show Go p e below s _ _ _ (T46.setTop (mkF m 115 #[.val (.long jx), .second, .val (.long jy), .second, .val (.long jz), .second, .val (.int kr), .val (.int kf), .val (.int (2 : Int32)), .val (.long jt), .second, .val (.long jm), .second, .val (.long ya), .second, .val (.long yb), .second, .val (.long yd), .second, .val (.int kq), .val (.double FP.dconst1), .second, .val (.ref b3), .val (.ref b26), .val (.long (0 : Int64)), .second, .unset, .unset, .unset, .unset, .unset, .unset] [(.long ya), (.ref b3)]))
      obtain ⟨cq138, kq138, q138a, q138b, q138c⟩ := isOf hZ rfl f56
      obtain ⟨_, _, ⟨T138, L138, k138, n138⟩, -, X138, ⟨Lc138, hQ138, l138, y138, z138⟩, st138⟩ := X46.virtualBack hx (y := (⟨"com/example/spillway/spillway/runtime/LatencyController", "processed", "(J)V"⟩ : MethodName)) (z := (⟨"com/example/spillway/spillway/runtime/LatencyController", "processed", "(J)V"⟩ : MethodName)) hown (mvT hZ (wdx hw 36 rfl)) (mvT hZ (wdx hw 37 rfl)) (notFace_of_selects (args := #[]) (mvT hZ (wdx hw 39 rfl))) (mvT hZ (wdx hw 39 rfl)) (mvT hZ (wdx hw 38 rfl)) (by decide) (backOf (W := 0) (rm5 l Z a0 hw [] b3 ya (0 : Int64) (0 : Int64) (0 : Int64) (FP.l2d (jt * (1000000 : Int64))) FP.dconst1 T46.heap n0 O46 f56 f57 f58 f59 f60 f61 f62 g_b3) hZ (wdx hw 40 rfl) (wdx hw 8 rfl) (by decide) (by decide)) q138a q138c (g := (mkF m 115 #[.val (.long jx), .second, .val (.long jy), .second, .val (.long jz), .second, .val (.int kr), .val (.int kf), .val (.int (2 : Int32)), .val (.long jt), .second, .val (.long jm), .second, .val (.long ya), .second, .val (.long yb), .second, .val (.long yd), .second, .val (.int kq), .val (.double FP.dconst1), .second, .val (.ref b3), .val (.ref b26), .val (.long (0 : Int64)), .second, .unset, .unset, .unset, .unset, .unset, .unset] [(.long ya), (.ref b3)])) rfl (by rw [hml]; rfl) (Steps.refl _) (argsL := [(.long ya)]) (rest := []) (lenOf pd__J_V rfl) rfl (by show 2 * 0 + _ ≤ _; exact Nat.le_of_eq rfl) (hb hby at_115) (fun _ _ => ⟨rfl, rfl, (by exact Nat.le_of_ble_eq_true rfl), (by exact Nat.le_of_ble_eq_true rfl)⟩)
      dsimp only [Pt.U, Pt.locs, Pt.cells, Pt.slots] at X138 l138 y138 z138 st138 hQ138
      subst l138 y138 z138
      obtain ⟨rfl, Nq138, Kq138, f139, f140, f141, f142, f143, f144⟩ := hQ138
      have N138 := Fr.app N46 Nq138
      refine Go.tr st138 ?_
      have f145 : Exa Z T138.heap a_ms "java/util/concurrent/TimeUnit" := f53.keep Kq138
      have f146 : Fld Z T138.heap a_ms "java/util/concurrent/TimeUnit" "scale" "J" (.long (1000000 : Int64)) := f54.keep Kq138 (ninS ne4 nin0)
      have f147 : Fld Z T138.heap a_ms "java/util/concurrent/TimeUnit" "maxNanos" "J" (.long (9223372036854 : Int64)) := f55.keep Kq138 (ninS ne4 nin0)
      have f148 : Exa Z T138.heap b3 "com/example/spillway/spillway/runtime/LatencyController" := f56.keep Kq138
      have f149 : Exa Z T138.heap b26 "com/example/spillway/spillway/runtime/LatencyController" := f63.keep Kq138
      have f150 : Fld Z T138.heap b26 "com/example/spillway/spillway/runtime/LatencyController" "limit" "D" (.double (9221120237041090560 : UInt64)) := f47.keep Kq138 (ninS (Ne.symm ne28) nin0)
      have f151 : Fld Z T138.heap b26 "com/example/spillway/spillway/runtime/LatencyController" "targetNanos" "D" (.double (FP.l2d (jt * (1000000 : Int64)))) := f48.keep Kq138 (ninS (Ne.symm ne28) nin0)
      have f152 : Fld Z T138.heap b26 "com/example/spillway/spillway/runtime/LatencyController" "gain" "D" (.double FP.dconst1) := f49.keep Kq138 (ninS (Ne.symm ne28) nin0)
      have f153 : Fld Z T138.heap b26 "com/example/spillway/spillway/runtime/LatencyController" "latencySum" "J" (.long (0 : Int64)) := f50.keep Kq138 (ninS (Ne.symm ne28) nin0)
      have f154 : Fld Z T138.heap b26 "com/example/spillway/spillway/runtime/LatencyController" "latencyCount" "J" (.long (0 : Int64)) := f51.keep Kq138 (ninS (Ne.symm ne28) nin0)
      have f155 : Fld Z T138.heap b26 "com/example/spillway/spillway/runtime/LatencyController" "decisions" "J" (.long (0 : Int64)) := f52.keep Kq138 (ninS (Ne.symm ne28) nin0)
      have O138 : Old Z n0 T138.heap := O46.keep Kq138 (allS g_b3 all0)
      show Go p e below s _ _ _ (T138.setTop (mkF m 118 #[.val (.long jx), .second, .val (.long jy), .second, .val (.long jz), .second, .val (.int kr), .val (.int kf), .val (.int (2 : Int32)), .val (.long jt), .second, .val (.long jm), .second, .val (.long ya), .second, .val (.long yb), .second, .val (.long yd), .second, .val (.int kq), .val (.double FP.dconst1), .second, .val (.ref b3), .val (.ref b26), .val (.long (0 : Int64)), .second, .unset, .unset, .unset, .unset, .unset, .unset] []))
      refine Go.st (fun _ k' => XS.lload X138.here hx rfl (hb hby at_118) rfl k') ?_
      show Go p e below s _ _ _ (T138.setTop (mkF m 120 #[.val (.long jx), .second, .val (.long jy), .second, .val (.long jz), .second, .val (.int kr), .val (.int kf), .val (.int (2 : Int32)), .val (.long jt), .second, .val (.long jm), .second, .val (.long ya), .second, .val (.long yb), .second, .val (.long yd), .second, .val (.int kq), .val (.double FP.dconst1), .second, .val (.ref b3), .val (.ref b26), .val (.long (0 : Int64)), .second, .unset, .unset, .unset, .unset, .unset, .unset] [(.long (0 : Int64))]))
      refine Go.st (fun _ k' => XS.lload X138.here hx rfl (hb hby at_120) rfl k') ?_
      show Go p e below s _ _ _ (T138.setTop (mkF m 122 #[.val (.long jx), .second, .val (.long jy), .second, .val (.long jz), .second, .val (.int kr), .val (.int kf), .val (.int (2 : Int32)), .val (.long jt), .second, .val (.long jm), .second, .val (.long ya), .second, .val (.long yb), .second, .val (.long yd), .second, .val (.int kq), .val (.double FP.dconst1), .second, .val (.ref b3), .val (.ref b26), .val (.long (0 : Int64)), .second, .unset, .unset, .unset, .unset, .unset, .unset] [(.long ya), (.long (0 : Int64))]))
      refine Go.st (fun _ k' => XS.ladd X138.here hx rfl (hb hby at_122) rfl k') ?_
      show Go p e below s _ _ _ (T138.setTop (mkF m 123 #[.val (.long jx), .second, .val (.long jy), .second, .val (.long jz), .second, .val (.int kr), .val (.int kf), .val (.int (2 : Int32)), .val (.long jt), .second, .val (.long jm), .second, .val (.long ya), .second, .val (.long yb), .second, .val (.long yd), .second, .val (.int kq), .val (.double FP.dconst1), .second, .val (.ref b3), .val (.ref b26), .val (.long (0 : Int64)), .second, .unset, .unset, .unset, .unset, .unset, .unset] [(.long ((0 : Int64) + ya))]))
      refine Go.st (fun _ k' => XS.lstore X138.here hx rfl (hb hby at_123) rfl (l' := #[.val (.long jx), .second, .val (.long jy), .second, .val (.long jz), .second, .val (.int kr), .val (.int kf), .val (.int (2 : Int32)), .val (.long jt), .second, .val (.long jm), .second, .val (.long ya), .second, .val (.long yb), .second, .val (.long yd), .second, .val (.int kq), .val (.double FP.dconst1), .second, .val (.ref b3), .val (.ref b26), .val (.long ((0 : Int64) + ya)), .second, .unset, .unset, .unset, .unset, .unset, .unset]) rfl k') ?_
      show Go p e below s _ _ _ (T138.setTop (mkF m 125 #[.val (.long jx), .second, .val (.long jy), .second, .val (.long jz), .second, .val (.int kr), .val (.int kf), .val (.int (2 : Int32)), .val (.long jt), .second, .val (.long jm), .second, .val (.long ya), .second, .val (.long yb), .second, .val (.long yd), .second, .val (.int kq), .val (.double FP.dconst1), .second, .val (.ref b3), .val (.ref b26), .val (.long ((0 : Int64) + ya)), .second, .unset, .unset, .unset, .unset, .unset, .unset] []))
      refine Go.st (fun _ k' => XS.iload X138.here hx rfl (hb hby at_125) rfl k') ?_
      show Go p e below s _ _ _ (T138.setTop (mkF m 127 #[.val (.long jx), .second, .val (.long jy), .second, .val (.long jz), .second, .val (.int kr), .val (.int kf), .val (.int (2 : Int32)), .val (.long jt), .second, .val (.long jm), .second, .val (.long ya), .second, .val (.long yb), .second, .val (.long yd), .second, .val (.int kq), .val (.double FP.dconst1), .second, .val (.ref b3), .val (.ref b26), .val (.long ((0 : Int64) + ya)), .second, .unset, .unset, .unset, .unset, .unset, .unset] [(.int (2 : Int32))]))
      refine Go.st (fun _ k' => XS.iconst X138.here hx rfl (hb hby at_127) k') ?_
      show Go p e below s _ _ _ (T138.setTop (mkF m 128 #[.val (.long jx), .second, .val (.long jy), .second, .val (.long jz), .second, .val (.int kr), .val (.int kf), .val (.int (2 : Int32)), .val (.long jt), .second, .val (.long jm), .second, .val (.long ya), .second, .val (.long yb), .second, .val (.long yd), .second, .val (.int kq), .val (.double FP.dconst1), .second, .val (.ref b3), .val (.ref b26), .val (.long ((0 : Int64) + ya)), .second, .unset, .unset, .unset, .unset, .unset, .unset] [(.int (2 : Int32)), (.int (2 : Int32))]))
      refine Go.st (fun _ k' => XS.icmpNo X138.here hx rfl (hb hby at_128) rfl (XT.ii_lt_f (by decide)) k') ?_
      show Go p e below s _ _ _ (T138.setTop (mkF m 131 #[.val (.long jx), .second, .val (.long jy), .second, .val (.long jz), .second, .val (.int kr), .val (.int kf), .val (.int (2 : Int32)), .val (.long jt), .second, .val (.long jm), .second, .val (.long ya), .second, .val (.long yb), .second, .val (.long yd), .second, .val (.int kq), .val (.double FP.dconst1), .second, .val (.ref b3), .val (.ref b26), .val (.long ((0 : Int64) + ya)), .second, .unset, .unset, .unset, .unset, .unset, .unset] []))
      refine Go.st (fun _ k' => XS.aload X138.here hx rfl (hb hby at_131) rfl rfl k') ?_
      show Go p e below s _ _ _ (T138.setTop (mkF m 133 #[.val (.long jx), .second, .val (.long jy), .second, .val (.long jz), .second, .val (.int kr), .val (.int kf), .val (.int (2 : Int32)), .val (.long jt), .second, .val (.long jm), .second, .val (.long ya), .second, .val (.long yb), .second, .val (.long yd), .second, .val (.int kq), .val (.double FP.dconst1), .second, .val (.ref b3), .val (.ref b26), .val (.long ((0 : Int64) + ya)), .second, .unset, .unset, .unset, .unset, .unset, .unset] [(.ref b3)]))
      refine Go.st (fun _ k' => XS.lload X138.here hx rfl (hb hby at_133) rfl k') ?_
      show Go p e below s _ _ _ (T138.setTop (mkF m 135 #[.val (.long jx), .second, .val (.long jy), .second, .val (.long jz), .second, .val (.int kr), .val (.int kf), .val (.int (2 : Int32)), .val (.long jt), .second, .val (.long jm), .second, .val (.long ya), .second, .val (.long yb), .second, .val (.long yd), .second, .val (.int kq), .val (.double FP.dconst1), .second, .val (.ref b3), .val (.ref b26), .val (.long ((0 : Int64) + ya)), .second, .unset, .unset, .unset, .unset, .unset, .unset] [(.long yb), (.ref b3)]))
      obtain ⟨cq156, kq156, q156a, q156b, q156c⟩ := isOf hZ rfl f148
      obtain ⟨_, _, ⟨T156, L156, k156, n156⟩, -, X156, ⟨Lc156, hQ156, l156, y156, z156⟩, st156⟩ := X138.virtualBack hx (y := (⟨"com/example/spillway/spillway/runtime/LatencyController", "processed", "(J)V"⟩ : MethodName)) (z := (⟨"com/example/spillway/spillway/runtime/LatencyController", "processed", "(J)V"⟩ : MethodName)) hown (mvT hZ (wdx hw 36 rfl)) (mvT hZ (wdx hw 37 rfl)) (notFace_of_selects (args := #[]) (mvT hZ (wdx hw 39 rfl))) (mvT hZ (wdx hw 39 rfl)) (mvT hZ (wdx hw 38 rfl)) (by decide) (backOf (W := 0) (rm5 l Z a0 hw [] b3 yb ((0 : Int64) + ya) ((0 : Int64) + (1 : Int64)) (0 : Int64) (FP.l2d (jt * (1000000 : Int64))) FP.dconst1 T138.heap n0 O138 f148 f141 f142 f143 f139 f140 f144 g_b3) hZ (wdx hw 40 rfl) (wdx hw 8 rfl) (by decide) (by decide)) q156a q156c (g := (mkF m 135 #[.val (.long jx), .second, .val (.long jy), .second, .val (.long jz), .second, .val (.int kr), .val (.int kf), .val (.int (2 : Int32)), .val (.long jt), .second, .val (.long jm), .second, .val (.long ya), .second, .val (.long yb), .second, .val (.long yd), .second, .val (.int kq), .val (.double FP.dconst1), .second, .val (.ref b3), .val (.ref b26), .val (.long ((0 : Int64) + ya)), .second, .unset, .unset, .unset, .unset, .unset, .unset] [(.long yb), (.ref b3)])) rfl (by rw [hml]; rfl) (Steps.refl _) (argsL := [(.long yb)]) (rest := []) (lenOf pd__J_V rfl) rfl (by show 2 * 0 + _ ≤ _; exact Nat.le_of_eq rfl) (hb hby at_135) (fun _ _ => ⟨rfl, rfl, (by exact Nat.le_of_ble_eq_true rfl), (by exact Nat.le_of_ble_eq_true rfl)⟩)
      dsimp only [Pt.U, Pt.locs, Pt.cells, Pt.slots] at X156 l156 y156 z156 st156 hQ156
      subst l156 y156 z156
      obtain ⟨rfl, Nq156, Kq156, f157, f158, f159, f160, f161, f162⟩ := hQ156
      have N156 := Fr.app N138 Nq156
      refine Go.tr st156 ?_
      have f163 : Exa Z T156.heap a_ms "java/util/concurrent/TimeUnit" := f145.keep Kq156
      have f164 : Fld Z T156.heap a_ms "java/util/concurrent/TimeUnit" "scale" "J" (.long (1000000 : Int64)) := f146.keep Kq156 (ninS ne4 nin0)
      have f165 : Fld Z T156.heap a_ms "java/util/concurrent/TimeUnit" "maxNanos" "J" (.long (9223372036854 : Int64)) := f147.keep Kq156 (ninS ne4 nin0)
      have f166 : Exa Z T156.heap b3 "com/example/spillway/spillway/runtime/LatencyController" := f148.keep Kq156
      have f167 : Exa Z T156.heap b26 "com/example/spillway/spillway/runtime/LatencyController" := f149.keep Kq156
      have f168 : Fld Z T156.heap b26 "com/example/spillway/spillway/runtime/LatencyController" "limit" "D" (.double (9221120237041090560 : UInt64)) := f150.keep Kq156 (ninS (Ne.symm ne28) nin0)
      have f169 : Fld Z T156.heap b26 "com/example/spillway/spillway/runtime/LatencyController" "targetNanos" "D" (.double (FP.l2d (jt * (1000000 : Int64)))) := f151.keep Kq156 (ninS (Ne.symm ne28) nin0)
      have f170 : Fld Z T156.heap b26 "com/example/spillway/spillway/runtime/LatencyController" "gain" "D" (.double FP.dconst1) := f152.keep Kq156 (ninS (Ne.symm ne28) nin0)
      have f171 : Fld Z T156.heap b26 "com/example/spillway/spillway/runtime/LatencyController" "latencySum" "J" (.long (0 : Int64)) := f153.keep Kq156 (ninS (Ne.symm ne28) nin0)
      have f172 : Fld Z T156.heap b26 "com/example/spillway/spillway/runtime/LatencyController" "latencyCount" "J" (.long (0 : Int64)) := f154.keep Kq156 (ninS (Ne.symm ne28) nin0)
      have f173 : Fld Z T156.heap b26 "com/example/spillway/spillway/runtime/LatencyController" "decisions" "J" (.long (0 : Int64)) := f155.keep Kq156 (ninS (Ne.symm ne28) nin0)
      have O156 : Old Z n0 T156.heap := O138.keep Kq156 (allS g_b3 all0)
      show Go p e below s _ _ _ (T156.setTop (mkF m 138 #[.val (.long jx), .second, .val (.long jy), .second, .val (.long jz), .second, .val (.int kr), .val (.int kf), .val (.int (2 : Int32)), .val (.long jt), .second, .val (.long jm), .second, .val (.long ya), .second, .val (.long yb), .second, .val (.long yd), .second, .val (.int kq), .val (.double FP.dconst1), .second, .val (.ref b3), .val (.ref b26), .val (.long ((0 : Int64) + ya)), .second, .unset, .unset, .unset, .unset, .unset, .unset] []))
      refine Go.st (fun _ k' => XS.lload X156.here hx rfl (hb hby at_138) rfl k') ?_
      show Go p e below s _ _ _ (T156.setTop (mkF m 140 #[.val (.long jx), .second, .val (.long jy), .second, .val (.long jz), .second, .val (.int kr), .val (.int kf), .val (.int (2 : Int32)), .val (.long jt), .second, .val (.long jm), .second, .val (.long ya), .second, .val (.long yb), .second, .val (.long yd), .second, .val (.int kq), .val (.double FP.dconst1), .second, .val (.ref b3), .val (.ref b26), .val (.long ((0 : Int64) + ya)), .second, .unset, .unset, .unset, .unset, .unset, .unset] [(.long ((0 : Int64) + ya))]))
      refine Go.st (fun _ k' => XS.lload X156.here hx rfl (hb hby at_140) rfl k') ?_
      show Go p e below s _ _ _ (T156.setTop (mkF m 142 #[.val (.long jx), .second, .val (.long jy), .second, .val (.long jz), .second, .val (.int kr), .val (.int kf), .val (.int (2 : Int32)), .val (.long jt), .second, .val (.long jm), .second, .val (.long ya), .second, .val (.long yb), .second, .val (.long yd), .second, .val (.int kq), .val (.double FP.dconst1), .second, .val (.ref b3), .val (.ref b26), .val (.long ((0 : Int64) + ya)), .second, .unset, .unset, .unset, .unset, .unset, .unset] [(.long yb), (.long ((0 : Int64) + ya))]))
      refine Go.st (fun _ k' => XS.ladd X156.here hx rfl (hb hby at_142) rfl k') ?_
      show Go p e below s _ _ _ (T156.setTop (mkF m 143 #[.val (.long jx), .second, .val (.long jy), .second, .val (.long jz), .second, .val (.int kr), .val (.int kf), .val (.int (2 : Int32)), .val (.long jt), .second, .val (.long jm), .second, .val (.long ya), .second, .val (.long yb), .second, .val (.long yd), .second, .val (.int kq), .val (.double FP.dconst1), .second, .val (.ref b3), .val (.ref b26), .val (.long ((0 : Int64) + ya)), .second, .unset, .unset, .unset, .unset, .unset, .unset] [(.long (((0 : Int64) + ya) + yb))]))
      refine Go.st (fun _ k' => XS.lstore X156.here hx rfl (hb hby at_143) rfl (l' := #[.val (.long jx), .second, .val (.long jy), .second, .val (.long jz), .second, .val (.int kr), .val (.int kf), .val (.int (2 : Int32)), .val (.long jt), .second, .val (.long jm), .second, .val (.long ya), .second, .val (.long yb), .second, .val (.long yd), .second, .val (.int kq), .val (.double FP.dconst1), .second, .val (.ref b3), .val (.ref b26), .val (.long (((0 : Int64) + ya) + yb)), .second, .unset, .unset, .unset, .unset, .unset, .unset]) rfl k') ?_
      show Go p e below s _ _ _ (T156.setTop (mkF m 145 #[.val (.long jx), .second, .val (.long jy), .second, .val (.long jz), .second, .val (.int kr), .val (.int kf), .val (.int (2 : Int32)), .val (.long jt), .second, .val (.long jm), .second, .val (.long ya), .second, .val (.long yb), .second, .val (.long yd), .second, .val (.int kq), .val (.double FP.dconst1), .second, .val (.ref b3), .val (.ref b26), .val (.long (((0 : Int64) + ya) + yb)), .second, .unset, .unset, .unset, .unset, .unset, .unset] []))
      refine Go.st (fun _ k' => XS.iload X156.here hx rfl (hb hby at_145) rfl k') ?_
      show Go p e below s _ _ _ (T156.setTop (mkF m 147 #[.val (.long jx), .second, .val (.long jy), .second, .val (.long jz), .second, .val (.int kr), .val (.int kf), .val (.int (2 : Int32)), .val (.long jt), .second, .val (.long jm), .second, .val (.long ya), .second, .val (.long yb), .second, .val (.long yd), .second, .val (.int kq), .val (.double FP.dconst1), .second, .val (.ref b3), .val (.ref b26), .val (.long (((0 : Int64) + ya) + yb)), .second, .unset, .unset, .unset, .unset, .unset, .unset] [(.int (2 : Int32))]))
      refine Go.st (fun _ k' => XS.iconst X156.here hx rfl (hb hby at_147) k') ?_
      show Go p e below s _ _ _ (T156.setTop (mkF m 148 #[.val (.long jx), .second, .val (.long jy), .second, .val (.long jz), .second, .val (.int kr), .val (.int kf), .val (.int (2 : Int32)), .val (.long jt), .second, .val (.long jm), .second, .val (.long ya), .second, .val (.long yb), .second, .val (.long yd), .second, .val (.int kq), .val (.double FP.dconst1), .second, .val (.ref b3), .val (.ref b26), .val (.long (((0 : Int64) + ya) + yb)), .second, .unset, .unset, .unset, .unset, .unset, .unset] [(.int (3 : Int32)), (.int (2 : Int32))]))
      refine Go.st (fun _ k' => XS.icmpYes X156.here hx rfl (pc0 := 148) (pc' := 165) rfl (hb hby at_148) rfl (XT.ii_lt_t (by decide)) (by decide) (by decide) k') ?_
      show Go p e below s _ _ _ (T156.setTop (mkF m 165 #[.val (.long jx), .second, .val (.long jy), .second, .val (.long jz), .second, .val (.int kr), .val (.int kf), .val (.int (2 : Int32)), .val (.long jt), .second, .val (.long jm), .second, .val (.long ya), .second, .val (.long yb), .second, .val (.long yd), .second, .val (.int kq), .val (.double FP.dconst1), .second, .val (.ref b3), .val (.ref b26), .val (.long (((0 : Int64) + ya) + yb)), .second, .unset, .unset, .unset, .unset, .unset, .unset] []))
      refine Go.st (fun _ k' => XS.iload X156.here hx rfl (hb hby at_165) rfl k') ?_
      show Go p e below s _ _ _ (T156.setTop (mkF m 167 #[.val (.long jx), .second, .val (.long jy), .second, .val (.long jz), .second, .val (.int kr), .val (.int kf), .val (.int (2 : Int32)), .val (.long jt), .second, .val (.long jm), .second, .val (.long ya), .second, .val (.long yb), .second, .val (.long yd), .second, .val (.int kq), .val (.double FP.dconst1), .second, .val (.ref b3), .val (.ref b26), .val (.long (((0 : Int64) + ya) + yb)), .second, .unset, .unset, .unset, .unset, .unset, .unset] [(.int (2 : Int32))]))
      refine Go.st (fun _ k' => XS.iconst X156.here hx rfl (hb hby at_167) k') ?_
      show Go p e below s _ _ _ (T156.setTop (mkF m 168 #[.val (.long jx), .second, .val (.long jy), .second, .val (.long jz), .second, .val (.int kr), .val (.int kf), .val (.int (2 : Int32)), .val (.long jt), .second, .val (.long jm), .second, .val (.long ya), .second, .val (.long yb), .second, .val (.long yd), .second, .val (.int kq), .val (.double FP.dconst1), .second, .val (.ref b3), .val (.ref b26), .val (.long (((0 : Int64) + ya) + yb)), .second, .unset, .unset, .unset, .unset, .unset, .unset] [(.int (1 : Int32)), (.int (2 : Int32))]))
      refine Go.st (fun _ k' => XS.icmpNo X156.here hx rfl (hb hby at_168) rfl (XT.ii_lt_f (by decide)) k') ?_
      show Go p e below s _ _ _ (T156.setTop (mkF m 171 #[.val (.long jx), .second, .val (.long jy), .second, .val (.long jz), .second, .val (.int kr), .val (.int kf), .val (.int (2 : Int32)), .val (.long jt), .second, .val (.long jm), .second, .val (.long ya), .second, .val (.long yb), .second, .val (.long yd), .second, .val (.int kq), .val (.double FP.dconst1), .second, .val (.ref b3), .val (.ref b26), .val (.long (((0 : Int64) + ya) + yb)), .second, .unset, .unset, .unset, .unset, .unset, .unset] []))
      refine Go.st (fun _ k' => XS.aload X156.here hx rfl (hb hby at_171) rfl rfl k') ?_
      show Go p e below s _ _ _ (T156.setTop (mkF m 173 #[.val (.long jx), .second, .val (.long jy), .second, .val (.long jz), .second, .val (.int kr), .val (.int kf), .val (.int (2 : Int32)), .val (.long jt), .second, .val (.long jm), .second, .val (.long ya), .second, .val (.long yb), .second, .val (.long yd), .second, .val (.int kq), .val (.double FP.dconst1), .second, .val (.ref b3), .val (.ref b26), .val (.long (((0 : Int64) + ya) + yb)), .second, .unset, .unset, .unset, .unset, .unset, .unset] [(.ref b26)]))
      refine Go.st (fun _ k' => XS.lload X156.here hx rfl (hb hby at_173) rfl k') ?_
      show Go p e below s _ _ _ (T156.setTop (mkF m 175 #[.val (.long jx), .second, .val (.long jy), .second, .val (.long jz), .second, .val (.int kr), .val (.int kf), .val (.int (2 : Int32)), .val (.long jt), .second, .val (.long jm), .second, .val (.long ya), .second, .val (.long yb), .second, .val (.long yd), .second, .val (.int kq), .val (.double FP.dconst1), .second, .val (.ref b3), .val (.ref b26), .val (.long (((0 : Int64) + ya) + yb)), .second, .unset, .unset, .unset, .unset, .unset, .unset] [(.long (((0 : Int64) + ya) + yb)), (.ref b26)]))
      obtain ⟨cq174, kq174, q174a, q174b, q174c⟩ := isOf hZ rfl f167
      obtain ⟨_, _, ⟨T174, L174, k174, n174⟩, -, X174, ⟨Lc174, hQ174, l174, y174, z174⟩, st174⟩ := X156.virtualBack hx (y := (⟨"com/example/spillway/spillway/runtime/LatencyController", "processed", "(J)V"⟩ : MethodName)) (z := (⟨"com/example/spillway/spillway/runtime/LatencyController", "processed", "(J)V"⟩ : MethodName)) hown (mvT hZ (wdx hw 36 rfl)) (mvT hZ (wdx hw 37 rfl)) (notFace_of_selects (args := #[]) (mvT hZ (wdx hw 39 rfl))) (mvT hZ (wdx hw 39 rfl)) (mvT hZ (wdx hw 38 rfl)) (by decide) (backOf (W := 0) (rm5 l Z a0 hw [] b26 (((0 : Int64) + ya) + yb) (0 : Int64) (0 : Int64) (0 : Int64) (FP.l2d (jt * (1000000 : Int64))) FP.dconst1 T156.heap n0 O156 f167 f168 f169 f170 f171 f172 f173 g_b26) hZ (wdx hw 40 rfl) (wdx hw 8 rfl) (by decide) (by decide)) q174a q174c (g := (mkF m 175 #[.val (.long jx), .second, .val (.long jy), .second, .val (.long jz), .second, .val (.int kr), .val (.int kf), .val (.int (2 : Int32)), .val (.long jt), .second, .val (.long jm), .second, .val (.long ya), .second, .val (.long yb), .second, .val (.long yd), .second, .val (.int kq), .val (.double FP.dconst1), .second, .val (.ref b3), .val (.ref b26), .val (.long (((0 : Int64) + ya) + yb)), .second, .unset, .unset, .unset, .unset, .unset, .unset] [(.long (((0 : Int64) + ya) + yb)), (.ref b26)])) rfl (by rw [hml]; rfl) (Steps.refl _) (argsL := [(.long (((0 : Int64) + ya) + yb))]) (rest := []) (lenOf pd__J_V rfl) rfl (by show 2 * 0 + _ ≤ _; exact Nat.le_of_eq rfl) (hb hby at_175) (fun _ _ => ⟨rfl, rfl, (by exact Nat.le_of_ble_eq_true rfl), (by exact Nat.le_of_ble_eq_true rfl)⟩)
      dsimp only [Pt.U, Pt.locs, Pt.cells, Pt.slots] at X174 l174 y174 z174 st174 hQ174
      subst l174 y174 z174
      obtain ⟨rfl, Nq174, Kq174, f175, f176, f177, f178, f179, f180⟩ := hQ174
      have N174 := Fr.app N156 Nq174
      refine Go.tr st174 ?_
      have f181 : Exa Z T174.heap a_ms "java/util/concurrent/TimeUnit" := f163.keep Kq174
      have f182 : Fld Z T174.heap a_ms "java/util/concurrent/TimeUnit" "scale" "J" (.long (1000000 : Int64)) := f164.keep Kq174 (ninS ne27 nin0)
      have f183 : Fld Z T174.heap a_ms "java/util/concurrent/TimeUnit" "maxNanos" "J" (.long (9223372036854 : Int64)) := f165.keep Kq174 (ninS ne27 nin0)
      have f184 : Exa Z T174.heap b3 "com/example/spillway/spillway/runtime/LatencyController" := f166.keep Kq174
      have f185 : Exa Z T174.heap b26 "com/example/spillway/spillway/runtime/LatencyController" := f167.keep Kq174
      have f186 : Fld Z T174.heap b3 "com/example/spillway/spillway/runtime/LatencyController" "latencySum" "J" (.long (((0 : Int64) + ya) + yb)) := f157.keep Kq174 (ninS ne28 nin0)
      have f187 : Fld Z T174.heap b3 "com/example/spillway/spillway/runtime/LatencyController" "latencyCount" "J" (.long (((0 : Int64) + (1 : Int64)) + (1 : Int64))) := f158.keep Kq174 (ninS ne28 nin0)
      have f188 : Fld Z T174.heap b3 "com/example/spillway/spillway/runtime/LatencyController" "limit" "D" (.double (9221120237041090560 : UInt64)) := f159.keep Kq174 (ninS ne28 nin0)
      have f189 : Fld Z T174.heap b3 "com/example/spillway/spillway/runtime/LatencyController" "targetNanos" "D" (.double (FP.l2d (jt * (1000000 : Int64)))) := f160.keep Kq174 (ninS ne28 nin0)
      have f190 : Fld Z T174.heap b3 "com/example/spillway/spillway/runtime/LatencyController" "gain" "D" (.double FP.dconst1) := f161.keep Kq174 (ninS ne28 nin0)
      have f191 : Fld Z T174.heap b3 "com/example/spillway/spillway/runtime/LatencyController" "decisions" "J" (.long (0 : Int64)) := f162.keep Kq174 (ninS ne28 nin0)
      have O174 : Old Z n0 T174.heap := O156.keep Kq174 (allS g_b26 all0)
      show Go p e below s _ _ _ (T174.setTop (mkF m 178 #[.val (.long jx), .second, .val (.long jy), .second, .val (.long jz), .second, .val (.int kr), .val (.int kf), .val (.int (2 : Int32)), .val (.long jt), .second, .val (.long jm), .second, .val (.long ya), .second, .val (.long yb), .second, .val (.long yd), .second, .val (.int kq), .val (.double FP.dconst1), .second, .val (.ref b3), .val (.ref b26), .val (.long (((0 : Int64) + ya) + yb)), .second, .unset, .unset, .unset, .unset, .unset, .unset] []))
      refine Go.st (fun _ k' => XS.iload X174.here hx rfl (hb hby at_178) rfl k') ?_
      show Go p e below s _ _ _ (T174.setTop (mkF m 180 #[.val (.long jx), .second, .val (.long jy), .second, .val (.long jz), .second, .val (.int kr), .val (.int kf), .val (.int (2 : Int32)), .val (.long jt), .second, .val (.long jm), .second, .val (.long ya), .second, .val (.long yb), .second, .val (.long yd), .second, .val (.int kq), .val (.double FP.dconst1), .second, .val (.ref b3), .val (.ref b26), .val (.long (((0 : Int64) + ya) + yb)), .second, .unset, .unset, .unset, .unset, .unset, .unset] [(.int (2 : Int32))]))
      refine Go.st (fun _ k' => XS.iconst X174.here hx rfl (hb hby at_180) k') ?_
      show Go p e below s _ _ _ (T174.setTop (mkF m 181 #[.val (.long jx), .second, .val (.long jy), .second, .val (.long jz), .second, .val (.int kr), .val (.int kf), .val (.int (2 : Int32)), .val (.long jt), .second, .val (.long jm), .second, .val (.long ya), .second, .val (.long yb), .second, .val (.long yd), .second, .val (.int kq), .val (.double FP.dconst1), .second, .val (.ref b3), .val (.ref b26), .val (.long (((0 : Int64) + ya) + yb)), .second, .unset, .unset, .unset, .unset, .unset, .unset] [(.int (2 : Int32)), (.int (2 : Int32))]))
      refine Go.st (fun _ k' => XS.icmpNo X174.here hx rfl (hb hby at_181) rfl (XT.ii_lt_f (by decide)) k') ?_
      show Go p e below s _ _ _ (T174.setTop (mkF m 184 #[.val (.long jx), .second, .val (.long jy), .second, .val (.long jz), .second, .val (.int kr), .val (.int kf), .val (.int (2 : Int32)), .val (.long jt), .second, .val (.long jm), .second, .val (.long ya), .second, .val (.long yb), .second, .val (.long yd), .second, .val (.int kq), .val (.double FP.dconst1), .second, .val (.ref b3), .val (.ref b26), .val (.long (((0 : Int64) + ya) + yb)), .second, .unset, .unset, .unset, .unset, .unset, .unset] []))
      refine Go.st (fun _ k' => XS.aload X174.here hx rfl (hb hby at_184) rfl rfl k') ?_
      show Go p e below s _ _ _ (T174.setTop (mkF m 186 #[.val (.long jx), .second, .val (.long jy), .second, .val (.long jz), .second, .val (.int kr), .val (.int kf), .val (.int (2 : Int32)), .val (.long jt), .second, .val (.long jm), .second, .val (.long ya), .second, .val (.long yb), .second, .val (.long yd), .second, .val (.int kq), .val (.double FP.dconst1), .second, .val (.ref b3), .val (.ref b26), .val (.long (((0 : Int64) + ya) + yb)), .second, .unset, .unset, .unset, .unset, .unset, .unset] [(.ref b26)]))
      refine Go.st (fun _ k' => XS.lconst X174.here hx rfl (hb hby at_186) k') ?_
      show Go p e below s _ _ _ (T174.setTop (mkF m 187 #[.val (.long jx), .second, .val (.long jy), .second, .val (.long jz), .second, .val (.int kr), .val (.int kf), .val (.int (2 : Int32)), .val (.long jt), .second, .val (.long jm), .second, .val (.long ya), .second, .val (.long yb), .second, .val (.long yd), .second, .val (.int kq), .val (.double FP.dconst1), .second, .val (.ref b3), .val (.ref b26), .val (.long (((0 : Int64) + ya) + yb)), .second, .unset, .unset, .unset, .unset, .unset, .unset] [(.long (0 : Int64)), (.ref b26)]))
      obtain ⟨cq192, kq192, q192a, q192b, q192c⟩ := isOf hZ rfl f185
      obtain ⟨_, _, ⟨T192, L192, k192, n192⟩, -, X192, ⟨Lc192, hQ192, l192, y192, z192⟩, st192⟩ := X174.virtualBack hx (y := (⟨"com/example/spillway/spillway/runtime/LatencyController", "processed", "(J)V"⟩ : MethodName)) (z := (⟨"com/example/spillway/spillway/runtime/LatencyController", "processed", "(J)V"⟩ : MethodName)) hown (mvT hZ (wdx hw 36 rfl)) (mvT hZ (wdx hw 37 rfl)) (notFace_of_selects (args := #[]) (mvT hZ (wdx hw 39 rfl))) (mvT hZ (wdx hw 39 rfl)) (mvT hZ (wdx hw 38 rfl)) (by decide) (backOf (W := 0) (rm5 l Z a0 hw [] b26 (0 : Int64) ((0 : Int64) + (((0 : Int64) + ya) + yb)) ((0 : Int64) + (1 : Int64)) (0 : Int64) (FP.l2d (jt * (1000000 : Int64))) FP.dconst1 T174.heap n0 O174 f185 f177 f178 f179 f175 f176 f180 g_b26) hZ (wdx hw 40 rfl) (wdx hw 8 rfl) (by decide) (by decide)) q192a q192c (g := (mkF m 187 #[.val (.long jx), .second, .val (.long jy), .second, .val (.long jz), .second, .val (.int kr), .val (.int kf), .val (.int (2 : Int32)), .val (.long jt), .second, .val (.long jm), .second, .val (.long ya), .second, .val (.long yb), .second, .val (.long yd), .second, .val (.int kq), .val (.double FP.dconst1), .second, .val (.ref b3), .val (.ref b26), .val (.long (((0 : Int64) + ya) + yb)), .second, .unset, .unset, .unset, .unset, .unset, .unset] [(.long (0 : Int64)), (.ref b26)])) rfl (by rw [hml]; rfl) (Steps.refl _) (argsL := [(.long (0 : Int64))]) (rest := []) (lenOf pd__J_V rfl) rfl (by show 2 * 0 + _ ≤ _; exact Nat.le_of_eq rfl) (hb hby at_187) (fun _ _ => ⟨rfl, rfl, (by exact Nat.le_of_ble_eq_true rfl), (by exact Nat.le_of_ble_eq_true rfl)⟩)
      dsimp only [Pt.U, Pt.locs, Pt.cells, Pt.slots] at X192 l192 y192 z192 st192 hQ192
      subst l192 y192 z192
      obtain ⟨rfl, Nq192, Kq192, f193, f194, f195, f196, f197, f198⟩ := hQ192
      have N192 := Fr.app N174 Nq192
      refine Go.tr st192 ?_
      have f199 : Exa Z T192.heap a_ms "java/util/concurrent/TimeUnit" := f181.keep Kq192
      have f200 : Fld Z T192.heap a_ms "java/util/concurrent/TimeUnit" "scale" "J" (.long (1000000 : Int64)) := f182.keep Kq192 (ninS ne27 nin0)
      have f201 : Fld Z T192.heap a_ms "java/util/concurrent/TimeUnit" "maxNanos" "J" (.long (9223372036854 : Int64)) := f183.keep Kq192 (ninS ne27 nin0)
      have f202 : Exa Z T192.heap b3 "com/example/spillway/spillway/runtime/LatencyController" := f184.keep Kq192
      have f203 : Exa Z T192.heap b26 "com/example/spillway/spillway/runtime/LatencyController" := f185.keep Kq192
      have f204 : Fld Z T192.heap b3 "com/example/spillway/spillway/runtime/LatencyController" "latencySum" "J" (.long (((0 : Int64) + ya) + yb)) := f186.keep Kq192 (ninS ne28 nin0)
      have f205 : Fld Z T192.heap b3 "com/example/spillway/spillway/runtime/LatencyController" "latencyCount" "J" (.long (((0 : Int64) + (1 : Int64)) + (1 : Int64))) := f187.keep Kq192 (ninS ne28 nin0)
      have f206 : Fld Z T192.heap b3 "com/example/spillway/spillway/runtime/LatencyController" "limit" "D" (.double (9221120237041090560 : UInt64)) := f188.keep Kq192 (ninS ne28 nin0)
      have f207 : Fld Z T192.heap b3 "com/example/spillway/spillway/runtime/LatencyController" "targetNanos" "D" (.double (FP.l2d (jt * (1000000 : Int64)))) := f189.keep Kq192 (ninS ne28 nin0)
      have f208 : Fld Z T192.heap b3 "com/example/spillway/spillway/runtime/LatencyController" "gain" "D" (.double FP.dconst1) := f190.keep Kq192 (ninS ne28 nin0)
      have f209 : Fld Z T192.heap b3 "com/example/spillway/spillway/runtime/LatencyController" "decisions" "J" (.long (0 : Int64)) := f191.keep Kq192 (ninS ne28 nin0)
      have O192 : Old Z n0 T192.heap := O174.keep Kq192 (allS g_b26 all0)
      show Go p e below s _ _ _ (T192.setTop (mkF m 190 #[.val (.long jx), .second, .val (.long jy), .second, .val (.long jz), .second, .val (.int kr), .val (.int kf), .val (.int (2 : Int32)), .val (.long jt), .second, .val (.long jm), .second, .val (.long ya), .second, .val (.long yb), .second, .val (.long yd), .second, .val (.int kq), .val (.double FP.dconst1), .second, .val (.ref b3), .val (.ref b26), .val (.long (((0 : Int64) + ya) + yb)), .second, .unset, .unset, .unset, .unset, .unset, .unset] []))
      refine Go.st (fun _ k' => XS.iload X192.here hx rfl (hb hby at_190) rfl k') ?_
      show Go p e below s _ _ _ (T192.setTop (mkF m 192 #[.val (.long jx), .second, .val (.long jy), .second, .val (.long jz), .second, .val (.int kr), .val (.int kf), .val (.int (2 : Int32)), .val (.long jt), .second, .val (.long jm), .second, .val (.long ya), .second, .val (.long yb), .second, .val (.long yd), .second, .val (.int kq), .val (.double FP.dconst1), .second, .val (.ref b3), .val (.ref b26), .val (.long (((0 : Int64) + ya) + yb)), .second, .unset, .unset, .unset, .unset, .unset, .unset] [(.int (2 : Int32))]))
      refine Go.st (fun _ k' => XS.iconst X192.here hx rfl (hb hby at_192) k') ?_
      show Go p e below s _ _ _ (T192.setTop (mkF m 193 #[.val (.long jx), .second, .val (.long jy), .second, .val (.long jz), .second, .val (.int kr), .val (.int kf), .val (.int (2 : Int32)), .val (.long jt), .second, .val (.long jm), .second, .val (.long ya), .second, .val (.long yb), .second, .val (.long yd), .second, .val (.int kq), .val (.double FP.dconst1), .second, .val (.ref b3), .val (.ref b26), .val (.long (((0 : Int64) + ya) + yb)), .second, .unset, .unset, .unset, .unset, .unset, .unset] [(.int (3 : Int32)), (.int (2 : Int32))]))
      refine Go.st (fun _ k' => XS.icmpYes X192.here hx rfl (pc0 := 193) (pc' := 202) rfl (hb hby at_193) rfl (XT.ii_lt_t (by decide)) (by decide) (by decide) k') ?_
      show Go p e below s _ _ _ (T192.setTop (mkF m 202 #[.val (.long jx), .second, .val (.long jy), .second, .val (.long jz), .second, .val (.int kr), .val (.int kf), .val (.int (2 : Int32)), .val (.long jt), .second, .val (.long jm), .second, .val (.long ya), .second, .val (.long yb), .second, .val (.long yd), .second, .val (.int kq), .val (.double FP.dconst1), .second, .val (.ref b3), .val (.ref b26), .val (.long (((0 : Int64) + ya) + yb)), .second, .unset, .unset, .unset, .unset, .unset, .unset] []))
      refine Go.st (fun _ k' => XS.aload X192.here hx rfl (hb hby at_202) rfl rfl k') ?_
      show Go p e below s _ _ _ (T192.setTop (mkF m 204 #[.val (.long jx), .second, .val (.long jy), .second, .val (.long jz), .second, .val (.int kr), .val (.int kf), .val (.int (2 : Int32)), .val (.long jt), .second, .val (.long jm), .second, .val (.long ya), .second, .val (.long yb), .second, .val (.long yd), .second, .val (.int kq), .val (.double FP.dconst1), .second, .val (.ref b3), .val (.ref b26), .val (.long (((0 : Int64) + ya) + yb)), .second, .unset, .unset, .unset, .unset, .unset, .unset] [(.ref b3)]))
      refine Go.st (fun _ k' => XS.iload X192.here hx rfl (hb hby at_204) rfl k') ?_
      show Go p e below s _ _ _ (T192.setTop (mkF m 206 #[.val (.long jx), .second, .val (.long jy), .second, .val (.long jz), .second, .val (.int kr), .val (.int kf), .val (.int (2 : Int32)), .val (.long jt), .second, .val (.long jm), .second, .val (.long ya), .second, .val (.long yb), .second, .val (.long yd), .second, .val (.int kq), .val (.double FP.dconst1), .second, .val (.ref b3), .val (.ref b26), .val (.long (((0 : Int64) + ya) + yb)), .second, .unset, .unset, .unset, .unset, .unset, .unset] [(.int kq), (.ref b3)]))
      obtain ⟨cq210, kq210, q210a, q210b, q210c⟩ := isOf hZ rfl f202
      obtain ⟨_, _, ⟨T210, L210, k210, n210⟩, -, X210, ⟨Lc210, hQ210, l210, y210, z210⟩, st210⟩ := X192.virtualBack hx (y := (⟨"com/example/spillway/spillway/runtime/LatencyController", "decide", "(I)I"⟩ : MethodName)) (z := (⟨"com/example/spillway/spillway/runtime/LatencyController", "decide", "(I)I"⟩ : MethodName)) hown (mvT hZ (wdx hw 45 rfl)) (mvT hZ (wdx hw 46 rfl)) (notFace_of_selects (args := #[]) (mvT hZ (wdx hw 48 rfl))) (mvT hZ (wdx hw 48 rfl)) (mvT hZ (wdx hw 47 rfl)) (by decide) (backOf (W := 0) (rm6_1 l Z a0 hw [] b3 kq (((0 : Int64) + ya) + yb) (((0 : Int64) + (1 : Int64)) + (1 : Int64)) (0 : Int64) (FP.l2d (jt * (1000000 : Int64))) FP.dconst1 T192.heap n0 O192 f202 f206 f207 f208 f204 f205 f209 g_b3 (by decide) (own_fok _ _ _ kq (by decide) (own_t0 r_jt)).1 (own_fok _ _ _ kq (by decide) (own_t0 r_jt)).2.1 (own_rp (own_fok _ _ _ kq (by decide) (own_t0 r_jt)).2.2)) hZ (wdx hw 49 rfl) (wdx hw 8 rfl) (by decide) (by decide)) q210a q210c (g := (mkF m 206 #[.val (.long jx), .second, .val (.long jy), .second, .val (.long jz), .second, .val (.int kr), .val (.int kf), .val (.int (2 : Int32)), .val (.long jt), .second, .val (.long jm), .second, .val (.long ya), .second, .val (.long yb), .second, .val (.long yd), .second, .val (.int kq), .val (.double FP.dconst1), .second, .val (.ref b3), .val (.ref b26), .val (.long (((0 : Int64) + ya) + yb)), .second, .unset, .unset, .unset, .unset, .unset, .unset] [(.int kq), (.ref b3)])) rfl (by rw [hml]; rfl) (Steps.refl _) (argsL := [(.int kq)]) (rest := []) (lenOf pd__I_I rfl) rfl (by show 2 * 0 + _ ≤ _; exact Nat.le_of_eq rfl) (hb hby at_206) (fun _ _ => ⟨rfl, rfl, (by exact Nat.le_of_ble_eq_true rfl), (by exact Nat.le_of_ble_eq_true rfl)⟩)
      dsimp only [Pt.U, Pt.locs, Pt.cells, Pt.slots] at X210 l210 y210 z210 st210 hQ210
      subst l210 y210 z210
      obtain ⟨rfl, Nq210, Kq210⟩ := hQ210
      have N210 := Fr.app N192 Nq210
      refine Go.tr st210 ?_
      have f211 : Exa Z T210.heap a_ms "java/util/concurrent/TimeUnit" := f199.keep Kq210
      have f212 : Fld Z T210.heap a_ms "java/util/concurrent/TimeUnit" "scale" "J" (.long (1000000 : Int64)) := f200.keep Kq210 (ninS ne4 nin0)
      have f213 : Fld Z T210.heap a_ms "java/util/concurrent/TimeUnit" "maxNanos" "J" (.long (9223372036854 : Int64)) := f201.keep Kq210 (ninS ne4 nin0)
      have f214 : Exa Z T210.heap b3 "com/example/spillway/spillway/runtime/LatencyController" := f202.keep Kq210
      have f215 : Exa Z T210.heap b26 "com/example/spillway/spillway/runtime/LatencyController" := f203.keep Kq210
      have f216 : Fld Z T210.heap b26 "com/example/spillway/spillway/runtime/LatencyController" "latencySum" "J" (.long (((0 : Int64) + (((0 : Int64) + ya) + yb)) + (0 : Int64))) := f193.keep Kq210 (ninS (Ne.symm ne28) nin0)
      have f217 : Fld Z T210.heap b26 "com/example/spillway/spillway/runtime/LatencyController" "latencyCount" "J" (.long (((0 : Int64) + (1 : Int64)) + (1 : Int64))) := f194.keep Kq210 (ninS (Ne.symm ne28) nin0)
      have f218 : Fld Z T210.heap b26 "com/example/spillway/spillway/runtime/LatencyController" "limit" "D" (.double (9221120237041090560 : UInt64)) := f195.keep Kq210 (ninS (Ne.symm ne28) nin0)
      have f219 : Fld Z T210.heap b26 "com/example/spillway/spillway/runtime/LatencyController" "targetNanos" "D" (.double (FP.l2d (jt * (1000000 : Int64)))) := f196.keep Kq210 (ninS (Ne.symm ne28) nin0)
      have f220 : Fld Z T210.heap b26 "com/example/spillway/spillway/runtime/LatencyController" "gain" "D" (.double FP.dconst1) := f197.keep Kq210 (ninS (Ne.symm ne28) nin0)
      have f221 : Fld Z T210.heap b26 "com/example/spillway/spillway/runtime/LatencyController" "decisions" "J" (.long (0 : Int64)) := f198.keep Kq210 (ninS (Ne.symm ne28) nin0)
      have O210 : Old Z n0 T210.heap := O192.keep Kq210 (allS g_b3 all0)
      show Go p e below s _ _ _ (T210.setTop (mkF m 209 #[.val (.long jx), .second, .val (.long jy), .second, .val (.long jz), .second, .val (.int kr), .val (.int kf), .val (.int (2 : Int32)), .val (.long jt), .second, .val (.long jm), .second, .val (.long ya), .second, .val (.long yb), .second, .val (.long yd), .second, .val (.int kq), .val (.double FP.dconst1), .second, .val (.ref b3), .val (.ref b26), .val (.long (((0 : Int64) + ya) + yb)), .second, .unset, .unset, .unset, .unset, .unset, .unset] [(.int (fkeep (fAdj (FP.i2d kq) (FP.ddiv (FP.l2d (((0 : Int64) + ya) + yb)) (FP.l2d (((0 : Int64) + (1 : Int64)) + (1 : Int64)))) FP.dconst1 (FP.l2d (jt * (1000000 : Int64)))) kq))]))
      refine Go.st (fun _ k' => XS.istore X210.here hx rfl (hb hby at_209) rfl (l' := #[.val (.long jx), .second, .val (.long jy), .second, .val (.long jz), .second, .val (.int kr), .val (.int kf), .val (.int (2 : Int32)), .val (.long jt), .second, .val (.long jm), .second, .val (.long ya), .second, .val (.long yb), .second, .val (.long yd), .second, .val (.int kq), .val (.double FP.dconst1), .second, .val (.ref b3), .val (.ref b26), .val (.long (((0 : Int64) + ya) + yb)), .second, .val (.int (fkeep (fAdj (FP.i2d kq) (FP.ddiv (FP.l2d (((0 : Int64) + ya) + yb)) (FP.l2d (((0 : Int64) + (1 : Int64)) + (1 : Int64)))) FP.dconst1 (FP.l2d (jt * (1000000 : Int64)))) kq)), .unset, .unset, .unset, .unset, .unset]) rfl k') ?_
      show Go p e below s _ _ _ (T210.setTop (mkF m 211 #[.val (.long jx), .second, .val (.long jy), .second, .val (.long jz), .second, .val (.int kr), .val (.int kf), .val (.int (2 : Int32)), .val (.long jt), .second, .val (.long jm), .second, .val (.long ya), .second, .val (.long yb), .second, .val (.long yd), .second, .val (.int kq), .val (.double FP.dconst1), .second, .val (.ref b3), .val (.ref b26), .val (.long (((0 : Int64) + ya) + yb)), .second, .val (.int (fkeep (fAdj (FP.i2d kq) (FP.ddiv (FP.l2d (((0 : Int64) + ya) + yb)) (FP.l2d (((0 : Int64) + (1 : Int64)) + (1 : Int64)))) FP.dconst1 (FP.l2d (jt * (1000000 : Int64)))) kq)), .unset, .unset, .unset, .unset, .unset] []))
      refine Go.st (fun _ k' => XS.aload X210.here hx rfl (hb hby at_211) rfl rfl k') ?_
      show Go p e below s _ _ _ (T210.setTop (mkF m 213 #[.val (.long jx), .second, .val (.long jy), .second, .val (.long jz), .second, .val (.int kr), .val (.int kf), .val (.int (2 : Int32)), .val (.long jt), .second, .val (.long jm), .second, .val (.long ya), .second, .val (.long yb), .second, .val (.long yd), .second, .val (.int kq), .val (.double FP.dconst1), .second, .val (.ref b3), .val (.ref b26), .val (.long (((0 : Int64) + ya) + yb)), .second, .val (.int (fkeep (fAdj (FP.i2d kq) (FP.ddiv (FP.l2d (((0 : Int64) + ya) + yb)) (FP.l2d (((0 : Int64) + (1 : Int64)) + (1 : Int64)))) FP.dconst1 (FP.l2d (jt * (1000000 : Int64)))) kq)), .unset, .unset, .unset, .unset, .unset] [(.ref b26)]))
      refine Go.st (fun _ k' => XS.iload X210.here hx rfl (hb hby at_213) rfl k') ?_
      show Go p e below s _ _ _ (T210.setTop (mkF m 215 #[.val (.long jx), .second, .val (.long jy), .second, .val (.long jz), .second, .val (.int kr), .val (.int kf), .val (.int (2 : Int32)), .val (.long jt), .second, .val (.long jm), .second, .val (.long ya), .second, .val (.long yb), .second, .val (.long yd), .second, .val (.int kq), .val (.double FP.dconst1), .second, .val (.ref b3), .val (.ref b26), .val (.long (((0 : Int64) + ya) + yb)), .second, .val (.int (fkeep (fAdj (FP.i2d kq) (FP.ddiv (FP.l2d (((0 : Int64) + ya) + yb)) (FP.l2d (((0 : Int64) + (1 : Int64)) + (1 : Int64)))) FP.dconst1 (FP.l2d (jt * (1000000 : Int64)))) kq)), .unset, .unset, .unset, .unset, .unset] [(.int kq), (.ref b26)]))
      obtain ⟨cq222, kq222, q222a, q222b, q222c⟩ := isOf hZ rfl f215
      obtain ⟨_, _, ⟨T222, L222, k222, n222⟩, -, X222, ⟨Lc222, hQ222, l222, y222, z222⟩, st222⟩ := X210.virtualBack hx (y := (⟨"com/example/spillway/spillway/runtime/LatencyController", "decide", "(I)I"⟩ : MethodName)) (z := (⟨"com/example/spillway/spillway/runtime/LatencyController", "decide", "(I)I"⟩ : MethodName)) hown (mvT hZ (wdx hw 45 rfl)) (mvT hZ (wdx hw 46 rfl)) (notFace_of_selects (args := #[]) (mvT hZ (wdx hw 48 rfl))) (mvT hZ (wdx hw 48 rfl)) (mvT hZ (wdx hw 47 rfl)) (by decide) (backOf (W := 0) (rm6_1 l Z a0 hw [] b26 kq (((0 : Int64) + (((0 : Int64) + ya) + yb)) + (0 : Int64)) (((0 : Int64) + (1 : Int64)) + (1 : Int64)) (0 : Int64) (FP.l2d (jt * (1000000 : Int64))) FP.dconst1 T210.heap n0 O210 f215 f218 f219 f220 f216 f217 f221 g_b26 (by decide) (own_fok _ _ _ kq (by decide) (own_t0 r_jt)).1 (own_fok _ _ _ kq (by decide) (own_t0 r_jt)).2.1 (own_rp (own_fok _ _ _ kq (by decide) (own_t0 r_jt)).2.2)) hZ (wdx hw 49 rfl) (wdx hw 8 rfl) (by decide) (by decide)) q222a q222c (g := (mkF m 215 #[.val (.long jx), .second, .val (.long jy), .second, .val (.long jz), .second, .val (.int kr), .val (.int kf), .val (.int (2 : Int32)), .val (.long jt), .second, .val (.long jm), .second, .val (.long ya), .second, .val (.long yb), .second, .val (.long yd), .second, .val (.int kq), .val (.double FP.dconst1), .second, .val (.ref b3), .val (.ref b26), .val (.long (((0 : Int64) + ya) + yb)), .second, .val (.int (fkeep (fAdj (FP.i2d kq) (FP.ddiv (FP.l2d (((0 : Int64) + ya) + yb)) (FP.l2d (((0 : Int64) + (1 : Int64)) + (1 : Int64)))) FP.dconst1 (FP.l2d (jt * (1000000 : Int64)))) kq)), .unset, .unset, .unset, .unset, .unset] [(.int kq), (.ref b26)])) rfl (by rw [hml]; rfl) (Steps.refl _) (argsL := [(.int kq)]) (rest := []) (lenOf pd__I_I rfl) rfl (by show 2 * 0 + _ ≤ _; exact Nat.le_of_eq rfl) (hb hby at_215) (fun _ _ => ⟨rfl, rfl, (by exact Nat.le_of_ble_eq_true rfl), (by exact Nat.le_of_ble_eq_true rfl)⟩)
      dsimp only [Pt.U, Pt.locs, Pt.cells, Pt.slots] at X222 l222 y222 z222 st222 hQ222
      subst l222 y222 z222
      obtain ⟨rfl, Nq222, Kq222⟩ := hQ222
      have N222 := Fr.app N210 Nq222
      refine Go.tr st222 ?_
      have f223 : Exa Z T222.heap a_ms "java/util/concurrent/TimeUnit" := f211.keep Kq222
      have f224 : Fld Z T222.heap a_ms "java/util/concurrent/TimeUnit" "scale" "J" (.long (1000000 : Int64)) := f212.keep Kq222 (ninS ne27 nin0)
      have f225 : Fld Z T222.heap a_ms "java/util/concurrent/TimeUnit" "maxNanos" "J" (.long (9223372036854 : Int64)) := f213.keep Kq222 (ninS ne27 nin0)
      have f226 : Exa Z T222.heap b3 "com/example/spillway/spillway/runtime/LatencyController" := f214.keep Kq222
      have f227 : Exa Z T222.heap b26 "com/example/spillway/spillway/runtime/LatencyController" := f215.keep Kq222
      have O222 : Old Z n0 T222.heap := O210.keep Kq222 (allS g_b26 all0)
      show Go p e below s _ _ _ (T222.setTop (mkF m 218 #[.val (.long jx), .second, .val (.long jy), .second, .val (.long jz), .second, .val (.int kr), .val (.int kf), .val (.int (2 : Int32)), .val (.long jt), .second, .val (.long jm), .second, .val (.long ya), .second, .val (.long yb), .second, .val (.long yd), .second, .val (.int kq), .val (.double FP.dconst1), .second, .val (.ref b3), .val (.ref b26), .val (.long (((0 : Int64) + ya) + yb)), .second, .val (.int (fkeep (fAdj (FP.i2d kq) (FP.ddiv (FP.l2d (((0 : Int64) + ya) + yb)) (FP.l2d (((0 : Int64) + (1 : Int64)) + (1 : Int64)))) FP.dconst1 (FP.l2d (jt * (1000000 : Int64)))) kq)), .unset, .unset, .unset, .unset, .unset] [(.int (fkeep (fAdj (FP.i2d kq) (FP.ddiv (FP.l2d (((0 : Int64) + (((0 : Int64) + ya) + yb)) + (0 : Int64))) (FP.l2d (((0 : Int64) + (1 : Int64)) + (1 : Int64)))) FP.dconst1 (FP.l2d (jt * (1000000 : Int64)))) kq))]))
      refine Go.st (fun _ k' => XS.istore X222.here hx rfl (hb hby at_218) rfl (l' := #[.val (.long jx), .second, .val (.long jy), .second, .val (.long jz), .second, .val (.int kr), .val (.int kf), .val (.int (2 : Int32)), .val (.long jt), .second, .val (.long jm), .second, .val (.long ya), .second, .val (.long yb), .second, .val (.long yd), .second, .val (.int kq), .val (.double FP.dconst1), .second, .val (.ref b3), .val (.ref b26), .val (.long (((0 : Int64) + ya) + yb)), .second, .val (.int (fkeep (fAdj (FP.i2d kq) (FP.ddiv (FP.l2d (((0 : Int64) + ya) + yb)) (FP.l2d (((0 : Int64) + (1 : Int64)) + (1 : Int64)))) FP.dconst1 (FP.l2d (jt * (1000000 : Int64)))) kq)), .val (.int (fkeep (fAdj (FP.i2d kq) (FP.ddiv (FP.l2d (((0 : Int64) + (((0 : Int64) + ya) + yb)) + (0 : Int64))) (FP.l2d (((0 : Int64) + (1 : Int64)) + (1 : Int64)))) FP.dconst1 (FP.l2d (jt * (1000000 : Int64)))) kq)), .unset, .unset, .unset, .unset]) rfl k') ?_
      show Go p e below s _ _ _ (T222.setTop (mkF m 220 #[.val (.long jx), .second, .val (.long jy), .second, .val (.long jz), .second, .val (.int kr), .val (.int kf), .val (.int (2 : Int32)), .val (.long jt), .second, .val (.long jm), .second, .val (.long ya), .second, .val (.long yb), .second, .val (.long yd), .second, .val (.int kq), .val (.double FP.dconst1), .second, .val (.ref b3), .val (.ref b26), .val (.long (((0 : Int64) + ya) + yb)), .second, .val (.int (fkeep (fAdj (FP.i2d kq) (FP.ddiv (FP.l2d (((0 : Int64) + ya) + yb)) (FP.l2d (((0 : Int64) + (1 : Int64)) + (1 : Int64)))) FP.dconst1 (FP.l2d (jt * (1000000 : Int64)))) kq)), .val (.int (fkeep (fAdj (FP.i2d kq) (FP.ddiv (FP.l2d (((0 : Int64) + (((0 : Int64) + ya) + yb)) + (0 : Int64))) (FP.l2d (((0 : Int64) + (1 : Int64)) + (1 : Int64)))) FP.dconst1 (FP.l2d (jt * (1000000 : Int64)))) kq)), .unset, .unset, .unset, .unset] []))
      have w_a : (fkeep (fAdj (FP.i2d kq) (FP.ddiv (FP.l2d (((0 : Int64) + ya) + yb)) (FP.l2d (((0 : Int64) + (1 : Int64)) + (1 : Int64)))) FP.dconst1 (FP.l2d (jt * (1000000 : Int64)))) kq) = (fkeep (fAdj (FP.i2d kq) (FP.ddiv (FP.l2d (((0 : Int64) + (((0 : Int64) + ya) + yb)) + (0 : Int64))) (FP.l2d (((0 : Int64) + (1 : Int64)) + (1 : Int64)))) FP.dconst1 (FP.l2d (jt * (1000000 : Int64)))) kq) := by simp only [Int64.zero_add, Int64.add_zero]
      obtain ⟨w_b, w_c, w_d, w_e⟩ := own_law1 (S := (((0 : Int64) + ya) + yb)) (C := (((0 : Int64) + (1 : Int64)) + (1 : Int64))) (cl := (2 : Int32)) (have z := (own_sb r_ya r_yb); ⟨z.1, Int.lt_of_lt_of_le z.2 (by decide)⟩) (by decide) (by decide) r_jt r_kq
      show Go p e below s _ _ _ (T222.setTop (mkF m 220 #[.val (.long jx), .second, .val (.long jy), .second, .val (.long jz), .second, .val (.int kr), .val (.int kf), .val (.int (2 : Int32)), .val (.long jt), .second, .val (.long jm), .second, .val (.long ya), .second, .val (.long yb), .second, .val (.long yd), .second, .val (.int kq), .val (.double FP.dconst1), .second, .val (.ref b3), .val (.ref b26), .val (.long (((0 : Int64) + ya) + yb)), .second, .val (.int (fkeep (fAdj (FP.i2d kq) (FP.ddiv (FP.l2d (((0 : Int64) + ya) + yb)) (FP.l2d (((0 : Int64) + (1 : Int64)) + (1 : Int64)))) FP.dconst1 (FP.l2d (jt * (1000000 : Int64)))) kq)), .val (.int (fkeep (fAdj (FP.i2d kq) (FP.ddiv (FP.l2d (((0 : Int64) + (((0 : Int64) + ya) + yb)) + (0 : Int64))) (FP.l2d (((0 : Int64) + (1 : Int64)) + (1 : Int64)))) FP.dconst1 (FP.l2d (jt * (1000000 : Int64)))) kq)), .unset, .unset, .unset, .unset] []))
      refine Go.st (fun _ k' => XS.iload X222.here hx rfl (hb hby at_220) rfl k') ?_
      show Go p e below s _ _ _ (T222.setTop (mkF m 222 #[.val (.long jx), .second, .val (.long jy), .second, .val (.long jz), .second, .val (.int kr), .val (.int kf), .val (.int (2 : Int32)), .val (.long jt), .second, .val (.long jm), .second, .val (.long ya), .second, .val (.long yb), .second, .val (.long yd), .second, .val (.int kq), .val (.double FP.dconst1), .second, .val (.ref b3), .val (.ref b26), .val (.long (((0 : Int64) + ya) + yb)), .second, .val (.int (fkeep (fAdj (FP.i2d kq) (FP.ddiv (FP.l2d (((0 : Int64) + ya) + yb)) (FP.l2d (((0 : Int64) + (1 : Int64)) + (1 : Int64)))) FP.dconst1 (FP.l2d (jt * (1000000 : Int64)))) kq)), .val (.int (fkeep (fAdj (FP.i2d kq) (FP.ddiv (FP.l2d (((0 : Int64) + (((0 : Int64) + ya) + yb)) + (0 : Int64))) (FP.l2d (((0 : Int64) + (1 : Int64)) + (1 : Int64)))) FP.dconst1 (FP.l2d (jt * (1000000 : Int64)))) kq)), .unset, .unset, .unset, .unset] [(.int (fkeep (fAdj (FP.i2d kq) (FP.ddiv (FP.l2d (((0 : Int64) + ya) + yb)) (FP.l2d (((0 : Int64) + (1 : Int64)) + (1 : Int64)))) FP.dconst1 (FP.l2d (jt * (1000000 : Int64)))) kq))]))
      refine Go.st (fun _ k' => XS.iload X222.here hx rfl (hb hby at_222) rfl k') ?_
      show Go p e below s _ _ _ (T222.setTop (mkF m 224 #[.val (.long jx), .second, .val (.long jy), .second, .val (.long jz), .second, .val (.int kr), .val (.int kf), .val (.int (2 : Int32)), .val (.long jt), .second, .val (.long jm), .second, .val (.long ya), .second, .val (.long yb), .second, .val (.long yd), .second, .val (.int kq), .val (.double FP.dconst1), .second, .val (.ref b3), .val (.ref b26), .val (.long (((0 : Int64) + ya) + yb)), .second, .val (.int (fkeep (fAdj (FP.i2d kq) (FP.ddiv (FP.l2d (((0 : Int64) + ya) + yb)) (FP.l2d (((0 : Int64) + (1 : Int64)) + (1 : Int64)))) FP.dconst1 (FP.l2d (jt * (1000000 : Int64)))) kq)), .val (.int (fkeep (fAdj (FP.i2d kq) (FP.ddiv (FP.l2d (((0 : Int64) + (((0 : Int64) + ya) + yb)) + (0 : Int64))) (FP.l2d (((0 : Int64) + (1 : Int64)) + (1 : Int64)))) FP.dconst1 (FP.l2d (jt * (1000000 : Int64)))) kq)), .unset, .unset, .unset, .unset] [(.int (fkeep (fAdj (FP.i2d kq) (FP.ddiv (FP.l2d (((0 : Int64) + (((0 : Int64) + ya) + yb)) + (0 : Int64))) (FP.l2d (((0 : Int64) + (1 : Int64)) + (1 : Int64)))) FP.dconst1 (FP.l2d (jt * (1000000 : Int64)))) kq)), (.int (fkeep (fAdj (FP.i2d kq) (FP.ddiv (FP.l2d (((0 : Int64) + ya) + yb)) (FP.l2d (((0 : Int64) + (1 : Int64)) + (1 : Int64)))) FP.dconst1 (FP.l2d (jt * (1000000 : Int64)))) kq))]))
      refine Go.st (fun _ k' => XS.icmpYes X222.here hx rfl (pc0 := 224) (pc' := 229) rfl (hb hby at_224) rfl (XT.ii_eq_t w_a) (by decide) (by decide) k') ?_
      show Go p e below s _ _ _ (T222.setTop (mkF m 229 #[.val (.long jx), .second, .val (.long jy), .second, .val (.long jz), .second, .val (.int kr), .val (.int kf), .val (.int (2 : Int32)), .val (.long jt), .second, .val (.long jm), .second, .val (.long ya), .second, .val (.long yb), .second, .val (.long yd), .second, .val (.int kq), .val (.double FP.dconst1), .second, .val (.ref b3), .val (.ref b26), .val (.long (((0 : Int64) + ya) + yb)), .second, .val (.int (fkeep (fAdj (FP.i2d kq) (FP.ddiv (FP.l2d (((0 : Int64) + ya) + yb)) (FP.l2d (((0 : Int64) + (1 : Int64)) + (1 : Int64)))) FP.dconst1 (FP.l2d (jt * (1000000 : Int64)))) kq)), .val (.int (fkeep (fAdj (FP.i2d kq) (FP.ddiv (FP.l2d (((0 : Int64) + (((0 : Int64) + ya) + yb)) + (0 : Int64))) (FP.l2d (((0 : Int64) + (1 : Int64)) + (1 : Int64)))) FP.dconst1 (FP.l2d (jt * (1000000 : Int64)))) kq)), .unset, .unset, .unset, .unset] []))
      refine Go.st (fun _ k' => XS.iload X222.here hx rfl (hb hby at_229) rfl k') ?_
      show Go p e below s _ _ _ (T222.setTop (mkF m 231 #[.val (.long jx), .second, .val (.long jy), .second, .val (.long jz), .second, .val (.int kr), .val (.int kf), .val (.int (2 : Int32)), .val (.long jt), .second, .val (.long jm), .second, .val (.long ya), .second, .val (.long yb), .second, .val (.long yd), .second, .val (.int kq), .val (.double FP.dconst1), .second, .val (.ref b3), .val (.ref b26), .val (.long (((0 : Int64) + ya) + yb)), .second, .val (.int (fkeep (fAdj (FP.i2d kq) (FP.ddiv (FP.l2d (((0 : Int64) + ya) + yb)) (FP.l2d (((0 : Int64) + (1 : Int64)) + (1 : Int64)))) FP.dconst1 (FP.l2d (jt * (1000000 : Int64)))) kq)), .val (.int (fkeep (fAdj (FP.i2d kq) (FP.ddiv (FP.l2d (((0 : Int64) + (((0 : Int64) + ya) + yb)) + (0 : Int64))) (FP.l2d (((0 : Int64) + (1 : Int64)) + (1 : Int64)))) FP.dconst1 (FP.l2d (jt * (1000000 : Int64)))) kq)), .unset, .unset, .unset, .unset] [(.int (fkeep (fAdj (FP.i2d kq) (FP.ddiv (FP.l2d (((0 : Int64) + ya) + yb)) (FP.l2d (((0 : Int64) + (1 : Int64)) + (1 : Int64)))) FP.dconst1 (FP.l2d (jt * (1000000 : Int64)))) kq))]))
      refine Go.st (fun _ k' => XS.iconst X222.here hx rfl (hb hby at_231) k') ?_
      show Go p e below s _ _ _ (T222.setTop (mkF m 232 #[.val (.long jx), .second, .val (.long jy), .second, .val (.long jz), .second, .val (.int kr), .val (.int kf), .val (.int (2 : Int32)), .val (.long jt), .second, .val (.long jm), .second, .val (.long ya), .second, .val (.long yb), .second, .val (.long yd), .second, .val (.int kq), .val (.double FP.dconst1), .second, .val (.ref b3), .val (.ref b26), .val (.long (((0 : Int64) + ya) + yb)), .second, .val (.int (fkeep (fAdj (FP.i2d kq) (FP.ddiv (FP.l2d (((0 : Int64) + ya) + yb)) (FP.l2d (((0 : Int64) + (1 : Int64)) + (1 : Int64)))) FP.dconst1 (FP.l2d (jt * (1000000 : Int64)))) kq)), .val (.int (fkeep (fAdj (FP.i2d kq) (FP.ddiv (FP.l2d (((0 : Int64) + (((0 : Int64) + ya) + yb)) + (0 : Int64))) (FP.l2d (((0 : Int64) + (1 : Int64)) + (1 : Int64)))) FP.dconst1 (FP.l2d (jt * (1000000 : Int64)))) kq)), .unset, .unset, .unset, .unset] [(.int (1 : Int32)), (.int (fkeep (fAdj (FP.i2d kq) (FP.ddiv (FP.l2d (((0 : Int64) + ya) + yb)) (FP.l2d (((0 : Int64) + (1 : Int64)) + (1 : Int64)))) FP.dconst1 (FP.l2d (jt * (1000000 : Int64)))) kq))]))
      refine Go.st (fun _ k' => XS.icmpNo X222.here hx rfl (hb hby at_232) rfl (XT.ii_lt_f w_b) k') ?_
      show Go p e below s _ _ _ (T222.setTop (mkF m 235 #[.val (.long jx), .second, .val (.long jy), .second, .val (.long jz), .second, .val (.int kr), .val (.int kf), .val (.int (2 : Int32)), .val (.long jt), .second, .val (.long jm), .second, .val (.long ya), .second, .val (.long yb), .second, .val (.long yd), .second, .val (.int kq), .val (.double FP.dconst1), .second, .val (.ref b3), .val (.ref b26), .val (.long (((0 : Int64) + ya) + yb)), .second, .val (.int (fkeep (fAdj (FP.i2d kq) (FP.ddiv (FP.l2d (((0 : Int64) + ya) + yb)) (FP.l2d (((0 : Int64) + (1 : Int64)) + (1 : Int64)))) FP.dconst1 (FP.l2d (jt * (1000000 : Int64)))) kq)), .val (.int (fkeep (fAdj (FP.i2d kq) (FP.ddiv (FP.l2d (((0 : Int64) + (((0 : Int64) + ya) + yb)) + (0 : Int64))) (FP.l2d (((0 : Int64) + (1 : Int64)) + (1 : Int64)))) FP.dconst1 (FP.l2d (jt * (1000000 : Int64)))) kq)), .unset, .unset, .unset, .unset] []))
      refine Go.st (fun _ k' => XS.iload X222.here hx rfl (hb hby at_235) rfl k') ?_
      show Go p e below s _ _ _ (T222.setTop (mkF m 237 #[.val (.long jx), .second, .val (.long jy), .second, .val (.long jz), .second, .val (.int kr), .val (.int kf), .val (.int (2 : Int32)), .val (.long jt), .second, .val (.long jm), .second, .val (.long ya), .second, .val (.long yb), .second, .val (.long yd), .second, .val (.int kq), .val (.double FP.dconst1), .second, .val (.ref b3), .val (.ref b26), .val (.long (((0 : Int64) + ya) + yb)), .second, .val (.int (fkeep (fAdj (FP.i2d kq) (FP.ddiv (FP.l2d (((0 : Int64) + ya) + yb)) (FP.l2d (((0 : Int64) + (1 : Int64)) + (1 : Int64)))) FP.dconst1 (FP.l2d (jt * (1000000 : Int64)))) kq)), .val (.int (fkeep (fAdj (FP.i2d kq) (FP.ddiv (FP.l2d (((0 : Int64) + (((0 : Int64) + ya) + yb)) + (0 : Int64))) (FP.l2d (((0 : Int64) + (1 : Int64)) + (1 : Int64)))) FP.dconst1 (FP.l2d (jt * (1000000 : Int64)))) kq)), .unset, .unset, .unset, .unset] [(.int (fkeep (fAdj (FP.i2d kq) (FP.ddiv (FP.l2d (((0 : Int64) + ya) + yb)) (FP.l2d (((0 : Int64) + (1 : Int64)) + (1 : Int64)))) FP.dconst1 (FP.l2d (jt * (1000000 : Int64)))) kq))]))
      refine Go.st (fun _ k' => XS.iload X222.here hx rfl (hb hby at_237) rfl k') ?_
      show Go p e below s _ _ _ (T222.setTop (mkF m 239 #[.val (.long jx), .second, .val (.long jy), .second, .val (.long jz), .second, .val (.int kr), .val (.int kf), .val (.int (2 : Int32)), .val (.long jt), .second, .val (.long jm), .second, .val (.long ya), .second, .val (.long yb), .second, .val (.long yd), .second, .val (.int kq), .val (.double FP.dconst1), .second, .val (.ref b3), .val (.ref b26), .val (.long (((0 : Int64) + ya) + yb)), .second, .val (.int (fkeep (fAdj (FP.i2d kq) (FP.ddiv (FP.l2d (((0 : Int64) + ya) + yb)) (FP.l2d (((0 : Int64) + (1 : Int64)) + (1 : Int64)))) FP.dconst1 (FP.l2d (jt * (1000000 : Int64)))) kq)), .val (.int (fkeep (fAdj (FP.i2d kq) (FP.ddiv (FP.l2d (((0 : Int64) + (((0 : Int64) + ya) + yb)) + (0 : Int64))) (FP.l2d (((0 : Int64) + (1 : Int64)) + (1 : Int64)))) FP.dconst1 (FP.l2d (jt * (1000000 : Int64)))) kq)), .unset, .unset, .unset, .unset] [(.int kq), (.int (fkeep (fAdj (FP.i2d kq) (FP.ddiv (FP.l2d (((0 : Int64) + ya) + yb)) (FP.l2d (((0 : Int64) + (1 : Int64)) + (1 : Int64)))) FP.dconst1 (FP.l2d (jt * (1000000 : Int64)))) kq))]))
      refine Go.st (fun _ k' => XS.icmpYes X222.here hx rfl (pc0 := 239) (pc' := 244) rfl (hb hby at_239) rfl (XT.ii_le_t w_c) (by decide) (by decide) k') ?_
      show Go p e below s _ _ _ (T222.setTop (mkF m 244 #[.val (.long jx), .second, .val (.long jy), .second, .val (.long jz), .second, .val (.int kr), .val (.int kf), .val (.int (2 : Int32)), .val (.long jt), .second, .val (.long jm), .second, .val (.long ya), .second, .val (.long yb), .second, .val (.long yd), .second, .val (.int kq), .val (.double FP.dconst1), .second, .val (.ref b3), .val (.ref b26), .val (.long (((0 : Int64) + ya) + yb)), .second, .val (.int (fkeep (fAdj (FP.i2d kq) (FP.ddiv (FP.l2d (((0 : Int64) + ya) + yb)) (FP.l2d (((0 : Int64) + (1 : Int64)) + (1 : Int64)))) FP.dconst1 (FP.l2d (jt * (1000000 : Int64)))) kq)), .val (.int (fkeep (fAdj (FP.i2d kq) (FP.ddiv (FP.l2d (((0 : Int64) + (((0 : Int64) + ya) + yb)) + (0 : Int64))) (FP.l2d (((0 : Int64) + (1 : Int64)) + (1 : Int64)))) FP.dconst1 (FP.l2d (jt * (1000000 : Int64)))) kq)), .unset, .unset, .unset, .unset] []))
      refine Go.st (fun _ k' => XS.lload X222.here hx rfl (hb hby at_244) rfl k') ?_
      show Go p e below s _ _ _ (T222.setTop (mkF m 246 #[.val (.long jx), .second, .val (.long jy), .second, .val (.long jz), .second, .val (.int kr), .val (.int kf), .val (.int (2 : Int32)), .val (.long jt), .second, .val (.long jm), .second, .val (.long ya), .second, .val (.long yb), .second, .val (.long yd), .second, .val (.int kq), .val (.double FP.dconst1), .second, .val (.ref b3), .val (.ref b26), .val (.long (((0 : Int64) + ya) + yb)), .second, .val (.int (fkeep (fAdj (FP.i2d kq) (FP.ddiv (FP.l2d (((0 : Int64) + ya) + yb)) (FP.l2d (((0 : Int64) + (1 : Int64)) + (1 : Int64)))) FP.dconst1 (FP.l2d (jt * (1000000 : Int64)))) kq)), .val (.int (fkeep (fAdj (FP.i2d kq) (FP.ddiv (FP.l2d (((0 : Int64) + (((0 : Int64) + ya) + yb)) + (0 : Int64))) (FP.l2d (((0 : Int64) + (1 : Int64)) + (1 : Int64)))) FP.dconst1 (FP.l2d (jt * (1000000 : Int64)))) kq)), .unset, .unset, .unset, .unset] [(.long jt)]))
      refine Go.st (fun _ k' => X222.ldc2J hx hown (mvT hZ (wdx hw 77 rfl)) rfl (hb hby at_246) k') ?_
      show Go p e below s _ _ _ (T222.setTop (mkF m 249 #[.val (.long jx), .second, .val (.long jy), .second, .val (.long jz), .second, .val (.int kr), .val (.int kf), .val (.int (2 : Int32)), .val (.long jt), .second, .val (.long jm), .second, .val (.long ya), .second, .val (.long yb), .second, .val (.long yd), .second, .val (.int kq), .val (.double FP.dconst1), .second, .val (.ref b3), .val (.ref b26), .val (.long (((0 : Int64) + ya) + yb)), .second, .val (.int (fkeep (fAdj (FP.i2d kq) (FP.ddiv (FP.l2d (((0 : Int64) + ya) + yb)) (FP.l2d (((0 : Int64) + (1 : Int64)) + (1 : Int64)))) FP.dconst1 (FP.l2d (jt * (1000000 : Int64)))) kq)), .val (.int (fkeep (fAdj (FP.i2d kq) (FP.ddiv (FP.l2d (((0 : Int64) + (((0 : Int64) + ya) + yb)) + (0 : Int64))) (FP.l2d (((0 : Int64) + (1 : Int64)) + (1 : Int64)))) FP.dconst1 (FP.l2d (jt * (1000000 : Int64)))) kq)), .unset, .unset, .unset, .unset] [(.long (1000000 : Int64)), (.long jt)]))
      refine Go.st (fun _ k' => XS.lmul X222.here hx rfl (hb hby at_249) rfl k') ?_
      show Go p e below s _ _ _ (T222.setTop (mkF m 250 #[.val (.long jx), .second, .val (.long jy), .second, .val (.long jz), .second, .val (.int kr), .val (.int kf), .val (.int (2 : Int32)), .val (.long jt), .second, .val (.long jm), .second, .val (.long ya), .second, .val (.long yb), .second, .val (.long yd), .second, .val (.int kq), .val (.double FP.dconst1), .second, .val (.ref b3), .val (.ref b26), .val (.long (((0 : Int64) + ya) + yb)), .second, .val (.int (fkeep (fAdj (FP.i2d kq) (FP.ddiv (FP.l2d (((0 : Int64) + ya) + yb)) (FP.l2d (((0 : Int64) + (1 : Int64)) + (1 : Int64)))) FP.dconst1 (FP.l2d (jt * (1000000 : Int64)))) kq)), .val (.int (fkeep (fAdj (FP.i2d kq) (FP.ddiv (FP.l2d (((0 : Int64) + (((0 : Int64) + ya) + yb)) + (0 : Int64))) (FP.l2d (((0 : Int64) + (1 : Int64)) + (1 : Int64)))) FP.dconst1 (FP.l2d (jt * (1000000 : Int64)))) kq)), .unset, .unset, .unset, .unset] [(.long (jt * (1000000 : Int64)))]))
      refine Go.st (fun _ k' => XS.lstore X222.here hx rfl (hb hby at_250) rfl (l' := #[.val (.long jx), .second, .val (.long jy), .second, .val (.long jz), .second, .val (.int kr), .val (.int kf), .val (.int (2 : Int32)), .val (.long jt), .second, .val (.long jm), .second, .val (.long ya), .second, .val (.long yb), .second, .val (.long yd), .second, .val (.int kq), .val (.double FP.dconst1), .second, .val (.ref b3), .val (.ref b26), .val (.long (((0 : Int64) + ya) + yb)), .second, .val (.int (fkeep (fAdj (FP.i2d kq) (FP.ddiv (FP.l2d (((0 : Int64) + ya) + yb)) (FP.l2d (((0 : Int64) + (1 : Int64)) + (1 : Int64)))) FP.dconst1 (FP.l2d (jt * (1000000 : Int64)))) kq)), .val (.int (fkeep (fAdj (FP.i2d kq) (FP.ddiv (FP.l2d (((0 : Int64) + (((0 : Int64) + ya) + yb)) + (0 : Int64))) (FP.l2d (((0 : Int64) + (1 : Int64)) + (1 : Int64)))) FP.dconst1 (FP.l2d (jt * (1000000 : Int64)))) kq)), .val (.long (jt * (1000000 : Int64))), .second, .unset, .unset]) rfl k') ?_
      show Go p e below s _ _ _ (T222.setTop (mkF m 252 #[.val (.long jx), .second, .val (.long jy), .second, .val (.long jz), .second, .val (.int kr), .val (.int kf), .val (.int (2 : Int32)), .val (.long jt), .second, .val (.long jm), .second, .val (.long ya), .second, .val (.long yb), .second, .val (.long yd), .second, .val (.int kq), .val (.double FP.dconst1), .second, .val (.ref b3), .val (.ref b26), .val (.long (((0 : Int64) + ya) + yb)), .second, .val (.int (fkeep (fAdj (FP.i2d kq) (FP.ddiv (FP.l2d (((0 : Int64) + ya) + yb)) (FP.l2d (((0 : Int64) + (1 : Int64)) + (1 : Int64)))) FP.dconst1 (FP.l2d (jt * (1000000 : Int64)))) kq)), .val (.int (fkeep (fAdj (FP.i2d kq) (FP.ddiv (FP.l2d (((0 : Int64) + (((0 : Int64) + ya) + yb)) + (0 : Int64))) (FP.l2d (((0 : Int64) + (1 : Int64)) + (1 : Int64)))) FP.dconst1 (FP.l2d (jt * (1000000 : Int64)))) kq)), .val (.long (jt * (1000000 : Int64))), .second, .unset, .unset] []))
      refine Go.st (fun _ k' => XS.iload X222.here hx rfl (hb hby at_252) rfl k') ?_
      show Go p e below s _ _ _ (T222.setTop (mkF m 254 #[.val (.long jx), .second, .val (.long jy), .second, .val (.long jz), .second, .val (.int kr), .val (.int kf), .val (.int (2 : Int32)), .val (.long jt), .second, .val (.long jm), .second, .val (.long ya), .second, .val (.long yb), .second, .val (.long yd), .second, .val (.int kq), .val (.double FP.dconst1), .second, .val (.ref b3), .val (.ref b26), .val (.long (((0 : Int64) + ya) + yb)), .second, .val (.int (fkeep (fAdj (FP.i2d kq) (FP.ddiv (FP.l2d (((0 : Int64) + ya) + yb)) (FP.l2d (((0 : Int64) + (1 : Int64)) + (1 : Int64)))) FP.dconst1 (FP.l2d (jt * (1000000 : Int64)))) kq)), .val (.int (fkeep (fAdj (FP.i2d kq) (FP.ddiv (FP.l2d (((0 : Int64) + (((0 : Int64) + ya) + yb)) + (0 : Int64))) (FP.l2d (((0 : Int64) + (1 : Int64)) + (1 : Int64)))) FP.dconst1 (FP.l2d (jt * (1000000 : Int64)))) kq)), .val (.long (jt * (1000000 : Int64))), .second, .unset, .unset] [(.int (2 : Int32))]))
      refine Go.st (fun _ k' => XS.i2l X222.here hx rfl (hb hby at_254) rfl k') ?_
      show Go p e below s _ _ _ (T222.setTop (mkF m 255 #[.val (.long jx), .second, .val (.long jy), .second, .val (.long jz), .second, .val (.int kr), .val (.int kf), .val (.int (2 : Int32)), .val (.long jt), .second, .val (.long jm), .second, .val (.long ya), .second, .val (.long yb), .second, .val (.long yd), .second, .val (.int kq), .val (.double FP.dconst1), .second, .val (.ref b3), .val (.ref b26), .val (.long (((0 : Int64) + ya) + yb)), .second, .val (.int (fkeep (fAdj (FP.i2d kq) (FP.ddiv (FP.l2d (((0 : Int64) + ya) + yb)) (FP.l2d (((0 : Int64) + (1 : Int64)) + (1 : Int64)))) FP.dconst1 (FP.l2d (jt * (1000000 : Int64)))) kq)), .val (.int (fkeep (fAdj (FP.i2d kq) (FP.ddiv (FP.l2d (((0 : Int64) + (((0 : Int64) + ya) + yb)) + (0 : Int64))) (FP.l2d (((0 : Int64) + (1 : Int64)) + (1 : Int64)))) FP.dconst1 (FP.l2d (jt * (1000000 : Int64)))) kq)), .val (.long (jt * (1000000 : Int64))), .second, .unset, .unset] [(.long ((2 : Int32).toInt64))]))
      refine Go.st (fun _ k' => XS.lstore X222.here hx rfl (hb hby at_255) rfl (l' := #[.val (.long jx), .second, .val (.long jy), .second, .val (.long jz), .second, .val (.int kr), .val (.int kf), .val (.int (2 : Int32)), .val (.long jt), .second, .val (.long jm), .second, .val (.long ya), .second, .val (.long yb), .second, .val (.long yd), .second, .val (.int kq), .val (.double FP.dconst1), .second, .val (.ref b3), .val (.ref b26), .val (.long (((0 : Int64) + ya) + yb)), .second, .val (.int (fkeep (fAdj (FP.i2d kq) (FP.ddiv (FP.l2d (((0 : Int64) + ya) + yb)) (FP.l2d (((0 : Int64) + (1 : Int64)) + (1 : Int64)))) FP.dconst1 (FP.l2d (jt * (1000000 : Int64)))) kq)), .val (.int (fkeep (fAdj (FP.i2d kq) (FP.ddiv (FP.l2d (((0 : Int64) + (((0 : Int64) + ya) + yb)) + (0 : Int64))) (FP.l2d (((0 : Int64) + (1 : Int64)) + (1 : Int64)))) FP.dconst1 (FP.l2d (jt * (1000000 : Int64)))) kq)), .val (.long (jt * (1000000 : Int64))), .second, .val (.long ((2 : Int32).toInt64)), .second]) rfl k') ?_
      show Go p e below s _ _ _ (T222.setTop (mkF m 257 #[.val (.long jx), .second, .val (.long jy), .second, .val (.long jz), .second, .val (.int kr), .val (.int kf), .val (.int (2 : Int32)), .val (.long jt), .second, .val (.long jm), .second, .val (.long ya), .second, .val (.long yb), .second, .val (.long yd), .second, .val (.int kq), .val (.double FP.dconst1), .second, .val (.ref b3), .val (.ref b26), .val (.long (((0 : Int64) + ya) + yb)), .second, .val (.int (fkeep (fAdj (FP.i2d kq) (FP.ddiv (FP.l2d (((0 : Int64) + ya) + yb)) (FP.l2d (((0 : Int64) + (1 : Int64)) + (1 : Int64)))) FP.dconst1 (FP.l2d (jt * (1000000 : Int64)))) kq)), .val (.int (fkeep (fAdj (FP.i2d kq) (FP.ddiv (FP.l2d (((0 : Int64) + (((0 : Int64) + ya) + yb)) + (0 : Int64))) (FP.l2d (((0 : Int64) + (1 : Int64)) + (1 : Int64)))) FP.dconst1 (FP.l2d (jt * (1000000 : Int64)))) kq)), .val (.long (jt * (1000000 : Int64))), .second, .val (.long ((2 : Int32).toInt64)), .second] []))
      refine Go.st (fun _ k' => XS.lload X222.here hx rfl (hb hby at_257) rfl k') ?_
      show Go p e below s _ _ _ (T222.setTop (mkF m 259 #[.val (.long jx), .second, .val (.long jy), .second, .val (.long jz), .second, .val (.int kr), .val (.int kf), .val (.int (2 : Int32)), .val (.long jt), .second, .val (.long jm), .second, .val (.long ya), .second, .val (.long yb), .second, .val (.long yd), .second, .val (.int kq), .val (.double FP.dconst1), .second, .val (.ref b3), .val (.ref b26), .val (.long (((0 : Int64) + ya) + yb)), .second, .val (.int (fkeep (fAdj (FP.i2d kq) (FP.ddiv (FP.l2d (((0 : Int64) + ya) + yb)) (FP.l2d (((0 : Int64) + (1 : Int64)) + (1 : Int64)))) FP.dconst1 (FP.l2d (jt * (1000000 : Int64)))) kq)), .val (.int (fkeep (fAdj (FP.i2d kq) (FP.ddiv (FP.l2d (((0 : Int64) + (((0 : Int64) + ya) + yb)) + (0 : Int64))) (FP.l2d (((0 : Int64) + (1 : Int64)) + (1 : Int64)))) FP.dconst1 (FP.l2d (jt * (1000000 : Int64)))) kq)), .val (.long (jt * (1000000 : Int64))), .second, .val (.long ((2 : Int32).toInt64)), .second] [(.long (((0 : Int64) + ya) + yb))]))
      refine Go.st (fun _ k' => XS.lload X222.here hx rfl (hb hby at_259) rfl k') ?_
      show Go p e below s _ _ _ (T222.setTop (mkF m 261 #[.val (.long jx), .second, .val (.long jy), .second, .val (.long jz), .second, .val (.int kr), .val (.int kf), .val (.int (2 : Int32)), .val (.long jt), .second, .val (.long jm), .second, .val (.long ya), .second, .val (.long yb), .second, .val (.long yd), .second, .val (.int kq), .val (.double FP.dconst1), .second, .val (.ref b3), .val (.ref b26), .val (.long (((0 : Int64) + ya) + yb)), .second, .val (.int (fkeep (fAdj (FP.i2d kq) (FP.ddiv (FP.l2d (((0 : Int64) + ya) + yb)) (FP.l2d (((0 : Int64) + (1 : Int64)) + (1 : Int64)))) FP.dconst1 (FP.l2d (jt * (1000000 : Int64)))) kq)), .val (.int (fkeep (fAdj (FP.i2d kq) (FP.ddiv (FP.l2d (((0 : Int64) + (((0 : Int64) + ya) + yb)) + (0 : Int64))) (FP.l2d (((0 : Int64) + (1 : Int64)) + (1 : Int64)))) FP.dconst1 (FP.l2d (jt * (1000000 : Int64)))) kq)), .val (.long (jt * (1000000 : Int64))), .second, .val (.long ((2 : Int32).toInt64)), .second] [(.long ((2 : Int32).toInt64)), (.long (((0 : Int64) + ya) + yb))]))
      refine Go.st (fun _ k' => XS.lload X222.here hx rfl (hb hby at_261) rfl k') ?_
      show Go p e below s _ _ _ (T222.setTop (mkF m 263 #[.val (.long jx), .second, .val (.long jy), .second, .val (.long jz), .second, .val (.int kr), .val (.int kf), .val (.int (2 : Int32)), .val (.long jt), .second, .val (.long jm), .second, .val (.long ya), .second, .val (.long yb), .second, .val (.long yd), .second, .val (.int kq), .val (.double FP.dconst1), .second, .val (.ref b3), .val (.ref b26), .val (.long (((0 : Int64) + ya) + yb)), .second, .val (.int (fkeep (fAdj (FP.i2d kq) (FP.ddiv (FP.l2d (((0 : Int64) + ya) + yb)) (FP.l2d (((0 : Int64) + (1 : Int64)) + (1 : Int64)))) FP.dconst1 (FP.l2d (jt * (1000000 : Int64)))) kq)), .val (.int (fkeep (fAdj (FP.i2d kq) (FP.ddiv (FP.l2d (((0 : Int64) + (((0 : Int64) + ya) + yb)) + (0 : Int64))) (FP.l2d (((0 : Int64) + (1 : Int64)) + (1 : Int64)))) FP.dconst1 (FP.l2d (jt * (1000000 : Int64)))) kq)), .val (.long (jt * (1000000 : Int64))), .second, .val (.long ((2 : Int32).toInt64)), .second] [(.long (jt * (1000000 : Int64))), (.long ((2 : Int32).toInt64)), (.long (((0 : Int64) + ya) + yb))]))
      refine Go.st (fun _ k' => XS.lmul X222.here hx rfl (hb hby at_263) rfl k') ?_
      show Go p e below s _ _ _ (T222.setTop (mkF m 264 #[.val (.long jx), .second, .val (.long jy), .second, .val (.long jz), .second, .val (.int kr), .val (.int kf), .val (.int (2 : Int32)), .val (.long jt), .second, .val (.long jm), .second, .val (.long ya), .second, .val (.long yb), .second, .val (.long yd), .second, .val (.int kq), .val (.double FP.dconst1), .second, .val (.ref b3), .val (.ref b26), .val (.long (((0 : Int64) + ya) + yb)), .second, .val (.int (fkeep (fAdj (FP.i2d kq) (FP.ddiv (FP.l2d (((0 : Int64) + ya) + yb)) (FP.l2d (((0 : Int64) + (1 : Int64)) + (1 : Int64)))) FP.dconst1 (FP.l2d (jt * (1000000 : Int64)))) kq)), .val (.int (fkeep (fAdj (FP.i2d kq) (FP.ddiv (FP.l2d (((0 : Int64) + (((0 : Int64) + ya) + yb)) + (0 : Int64))) (FP.l2d (((0 : Int64) + (1 : Int64)) + (1 : Int64)))) FP.dconst1 (FP.l2d (jt * (1000000 : Int64)))) kq)), .val (.long (jt * (1000000 : Int64))), .second, .val (.long ((2 : Int32).toInt64)), .second] [(.long (((2 : Int32).toInt64) * (jt * (1000000 : Int64)))), (.long (((0 : Int64) + ya) + yb))]))
      refine Go.st (fun _ k' => XT.lcmp X222.here hx rfl (hb hby at_264) rfl k') ?_
      show Go p e below s _ _ _ (T222.setTop (mkF m 265 #[.val (.long jx), .second, .val (.long jy), .second, .val (.long jz), .second, .val (.int kr), .val (.int kf), .val (.int (2 : Int32)), .val (.long jt), .second, .val (.long jm), .second, .val (.long ya), .second, .val (.long yb), .second, .val (.long yd), .second, .val (.int kq), .val (.double FP.dconst1), .second, .val (.ref b3), .val (.ref b26), .val (.long (((0 : Int64) + ya) + yb)), .second, .val (.int (fkeep (fAdj (FP.i2d kq) (FP.ddiv (FP.l2d (((0 : Int64) + ya) + yb)) (FP.l2d (((0 : Int64) + (1 : Int64)) + (1 : Int64)))) FP.dconst1 (FP.l2d (jt * (1000000 : Int64)))) kq)), .val (.int (fkeep (fAdj (FP.i2d kq) (FP.ddiv (FP.l2d (((0 : Int64) + (((0 : Int64) + ya) + yb)) + (0 : Int64))) (FP.l2d (((0 : Int64) + (1 : Int64)) + (1 : Int64)))) FP.dconst1 (FP.l2d (jt * (1000000 : Int64)))) kq)), .val (.long (jt * (1000000 : Int64))), .second, .val (.long ((2 : Int32).toInt64)), .second] [(.int (XT.cmpL (((0 : Int64) + ya) + yb) (((2 : Int32).toInt64) * (jt * (1000000 : Int64)))))]))
      by_cases hc228 : (((2 : Int32).toInt64) * (jt * (1000000 : Int64))) < (((0 : Int64) + ya) + yb)
      · refine Go.st (fun _ k' => XS.ifYes X222.here hx rfl (pc0 := 265) (pc' := 281) rfl (hb hby at_265) rfl (XT.ll_gt_t hc228) (by decide) (by decide) k') ?_
        show Go p e below s _ _ _ (T222.setTop (mkF m 281 #[.val (.long jx), .second, .val (.long jy), .second, .val (.long jz), .second, .val (.int kr), .val (.int kf), .val (.int (2 : Int32)), .val (.long jt), .second, .val (.long jm), .second, .val (.long ya), .second, .val (.long yb), .second, .val (.long yd), .second, .val (.int kq), .val (.double FP.dconst1), .second, .val (.ref b3), .val (.ref b26), .val (.long (((0 : Int64) + ya) + yb)), .second, .val (.int (fkeep (fAdj (FP.i2d kq) (FP.ddiv (FP.l2d (((0 : Int64) + ya) + yb)) (FP.l2d (((0 : Int64) + (1 : Int64)) + (1 : Int64)))) FP.dconst1 (FP.l2d (jt * (1000000 : Int64)))) kq)), .val (.int (fkeep (fAdj (FP.i2d kq) (FP.ddiv (FP.l2d (((0 : Int64) + (((0 : Int64) + ya) + yb)) + (0 : Int64))) (FP.l2d (((0 : Int64) + (1 : Int64)) + (1 : Int64)))) FP.dconst1 (FP.l2d (jt * (1000000 : Int64)))) kq)), .val (.long (jt * (1000000 : Int64))), .second, .val (.long ((2 : Int32).toInt64)), .second] []))
        refine Go.st (fun _ k' => XS.lload X222.here hx rfl (hb hby at_281) rfl k') ?_
        show Go p e below s _ _ _ (T222.setTop (mkF m 283 #[.val (.long jx), .second, .val (.long jy), .second, .val (.long jz), .second, .val (.int kr), .val (.int kf), .val (.int (2 : Int32)), .val (.long jt), .second, .val (.long jm), .second, .val (.long ya), .second, .val (.long yb), .second, .val (.long yd), .second, .val (.int kq), .val (.double FP.dconst1), .second, .val (.ref b3), .val (.ref b26), .val (.long (((0 : Int64) + ya) + yb)), .second, .val (.int (fkeep (fAdj (FP.i2d kq) (FP.ddiv (FP.l2d (((0 : Int64) + ya) + yb)) (FP.l2d (((0 : Int64) + (1 : Int64)) + (1 : Int64)))) FP.dconst1 (FP.l2d (jt * (1000000 : Int64)))) kq)), .val (.int (fkeep (fAdj (FP.i2d kq) (FP.ddiv (FP.l2d (((0 : Int64) + (((0 : Int64) + ya) + yb)) + (0 : Int64))) (FP.l2d (((0 : Int64) + (1 : Int64)) + (1 : Int64)))) FP.dconst1 (FP.l2d (jt * (1000000 : Int64)))) kq)), .val (.long (jt * (1000000 : Int64))), .second, .val (.long ((2 : Int32).toInt64)), .second] [(.long (((0 : Int64) + ya) + yb))]))
        refine Go.st (fun _ k' => X222.ldc2J hx hown (mvT hZ (wdx hw 78 rfl)) rfl (hb hby at_283) k') ?_
        show Go p e below s _ _ _ (T222.setTop (mkF m 286 #[.val (.long jx), .second, .val (.long jy), .second, .val (.long jz), .second, .val (.int kr), .val (.int kf), .val (.int (2 : Int32)), .val (.long jt), .second, .val (.long jm), .second, .val (.long ya), .second, .val (.long yb), .second, .val (.long yd), .second, .val (.int kq), .val (.double FP.dconst1), .second, .val (.ref b3), .val (.ref b26), .val (.long (((0 : Int64) + ya) + yb)), .second, .val (.int (fkeep (fAdj (FP.i2d kq) (FP.ddiv (FP.l2d (((0 : Int64) + ya) + yb)) (FP.l2d (((0 : Int64) + (1 : Int64)) + (1 : Int64)))) FP.dconst1 (FP.l2d (jt * (1000000 : Int64)))) kq)), .val (.int (fkeep (fAdj (FP.i2d kq) (FP.ddiv (FP.l2d (((0 : Int64) + (((0 : Int64) + ya) + yb)) + (0 : Int64))) (FP.l2d (((0 : Int64) + (1 : Int64)) + (1 : Int64)))) FP.dconst1 (FP.l2d (jt * (1000000 : Int64)))) kq)), .val (.long (jt * (1000000 : Int64))), .second, .val (.long ((2 : Int32).toInt64)), .second] [(.long (2 : Int64)), (.long (((0 : Int64) + ya) + yb))]))
        refine Go.st (fun _ k' => XS.lload X222.here hx rfl (hb hby at_286) rfl k') ?_
        show Go p e below s _ _ _ (T222.setTop (mkF m 288 #[.val (.long jx), .second, .val (.long jy), .second, .val (.long jz), .second, .val (.int kr), .val (.int kf), .val (.int (2 : Int32)), .val (.long jt), .second, .val (.long jm), .second, .val (.long ya), .second, .val (.long yb), .second, .val (.long yd), .second, .val (.int kq), .val (.double FP.dconst1), .second, .val (.ref b3), .val (.ref b26), .val (.long (((0 : Int64) + ya) + yb)), .second, .val (.int (fkeep (fAdj (FP.i2d kq) (FP.ddiv (FP.l2d (((0 : Int64) + ya) + yb)) (FP.l2d (((0 : Int64) + (1 : Int64)) + (1 : Int64)))) FP.dconst1 (FP.l2d (jt * (1000000 : Int64)))) kq)), .val (.int (fkeep (fAdj (FP.i2d kq) (FP.ddiv (FP.l2d (((0 : Int64) + (((0 : Int64) + ya) + yb)) + (0 : Int64))) (FP.l2d (((0 : Int64) + (1 : Int64)) + (1 : Int64)))) FP.dconst1 (FP.l2d (jt * (1000000 : Int64)))) kq)), .val (.long (jt * (1000000 : Int64))), .second, .val (.long ((2 : Int32).toInt64)), .second] [(.long ((2 : Int32).toInt64)), (.long (2 : Int64)), (.long (((0 : Int64) + ya) + yb))]))
        refine Go.st (fun _ k' => XS.lmul X222.here hx rfl (hb hby at_288) rfl k') ?_
        show Go p e below s _ _ _ (T222.setTop (mkF m 289 #[.val (.long jx), .second, .val (.long jy), .second, .val (.long jz), .second, .val (.int kr), .val (.int kf), .val (.int (2 : Int32)), .val (.long jt), .second, .val (.long jm), .second, .val (.long ya), .second, .val (.long yb), .second, .val (.long yd), .second, .val (.int kq), .val (.double FP.dconst1), .second, .val (.ref b3), .val (.ref b26), .val (.long (((0 : Int64) + ya) + yb)), .second, .val (.int (fkeep (fAdj (FP.i2d kq) (FP.ddiv (FP.l2d (((0 : Int64) + ya) + yb)) (FP.l2d (((0 : Int64) + (1 : Int64)) + (1 : Int64)))) FP.dconst1 (FP.l2d (jt * (1000000 : Int64)))) kq)), .val (.int (fkeep (fAdj (FP.i2d kq) (FP.ddiv (FP.l2d (((0 : Int64) + (((0 : Int64) + ya) + yb)) + (0 : Int64))) (FP.l2d (((0 : Int64) + (1 : Int64)) + (1 : Int64)))) FP.dconst1 (FP.l2d (jt * (1000000 : Int64)))) kq)), .val (.long (jt * (1000000 : Int64))), .second, .val (.long ((2 : Int32).toInt64)), .second] [(.long ((2 : Int64) * ((2 : Int32).toInt64))), (.long (((0 : Int64) + ya) + yb))]))
        refine Go.st (fun _ k' => XS.lload X222.here hx rfl (hb hby at_289) rfl k') ?_
        show Go p e below s _ _ _ (T222.setTop (mkF m 291 #[.val (.long jx), .second, .val (.long jy), .second, .val (.long jz), .second, .val (.int kr), .val (.int kf), .val (.int (2 : Int32)), .val (.long jt), .second, .val (.long jm), .second, .val (.long ya), .second, .val (.long yb), .second, .val (.long yd), .second, .val (.int kq), .val (.double FP.dconst1), .second, .val (.ref b3), .val (.ref b26), .val (.long (((0 : Int64) + ya) + yb)), .second, .val (.int (fkeep (fAdj (FP.i2d kq) (FP.ddiv (FP.l2d (((0 : Int64) + ya) + yb)) (FP.l2d (((0 : Int64) + (1 : Int64)) + (1 : Int64)))) FP.dconst1 (FP.l2d (jt * (1000000 : Int64)))) kq)), .val (.int (fkeep (fAdj (FP.i2d kq) (FP.ddiv (FP.l2d (((0 : Int64) + (((0 : Int64) + ya) + yb)) + (0 : Int64))) (FP.l2d (((0 : Int64) + (1 : Int64)) + (1 : Int64)))) FP.dconst1 (FP.l2d (jt * (1000000 : Int64)))) kq)), .val (.long (jt * (1000000 : Int64))), .second, .val (.long ((2 : Int32).toInt64)), .second] [(.long (jt * (1000000 : Int64))), (.long ((2 : Int64) * ((2 : Int32).toInt64))), (.long (((0 : Int64) + ya) + yb))]))
        refine Go.st (fun _ k' => XS.lmul X222.here hx rfl (hb hby at_291) rfl k') ?_
        show Go p e below s _ _ _ (T222.setTop (mkF m 292 #[.val (.long jx), .second, .val (.long jy), .second, .val (.long jz), .second, .val (.int kr), .val (.int kf), .val (.int (2 : Int32)), .val (.long jt), .second, .val (.long jm), .second, .val (.long ya), .second, .val (.long yb), .second, .val (.long yd), .second, .val (.int kq), .val (.double FP.dconst1), .second, .val (.ref b3), .val (.ref b26), .val (.long (((0 : Int64) + ya) + yb)), .second, .val (.int (fkeep (fAdj (FP.i2d kq) (FP.ddiv (FP.l2d (((0 : Int64) + ya) + yb)) (FP.l2d (((0 : Int64) + (1 : Int64)) + (1 : Int64)))) FP.dconst1 (FP.l2d (jt * (1000000 : Int64)))) kq)), .val (.int (fkeep (fAdj (FP.i2d kq) (FP.ddiv (FP.l2d (((0 : Int64) + (((0 : Int64) + ya) + yb)) + (0 : Int64))) (FP.l2d (((0 : Int64) + (1 : Int64)) + (1 : Int64)))) FP.dconst1 (FP.l2d (jt * (1000000 : Int64)))) kq)), .val (.long (jt * (1000000 : Int64))), .second, .val (.long ((2 : Int32).toInt64)), .second] [(.long (((2 : Int64) * ((2 : Int32).toInt64)) * (jt * (1000000 : Int64)))), (.long (((0 : Int64) + ya) + yb))]))
        refine Go.st (fun _ k' => XT.lcmp X222.here hx rfl (hb hby at_292) rfl k') ?_
        show Go p e below s _ _ _ (T222.setTop (mkF m 293 #[.val (.long jx), .second, .val (.long jy), .second, .val (.long jz), .second, .val (.int kr), .val (.int kf), .val (.int (2 : Int32)), .val (.long jt), .second, .val (.long jm), .second, .val (.long ya), .second, .val (.long yb), .second, .val (.long yd), .second, .val (.int kq), .val (.double FP.dconst1), .second, .val (.ref b3), .val (.ref b26), .val (.long (((0 : Int64) + ya) + yb)), .second, .val (.int (fkeep (fAdj (FP.i2d kq) (FP.ddiv (FP.l2d (((0 : Int64) + ya) + yb)) (FP.l2d (((0 : Int64) + (1 : Int64)) + (1 : Int64)))) FP.dconst1 (FP.l2d (jt * (1000000 : Int64)))) kq)), .val (.int (fkeep (fAdj (FP.i2d kq) (FP.ddiv (FP.l2d (((0 : Int64) + (((0 : Int64) + ya) + yb)) + (0 : Int64))) (FP.l2d (((0 : Int64) + (1 : Int64)) + (1 : Int64)))) FP.dconst1 (FP.l2d (jt * (1000000 : Int64)))) kq)), .val (.long (jt * (1000000 : Int64))), .second, .val (.long ((2 : Int32).toInt64)), .second] [(.int (XT.cmpL (((0 : Int64) + ya) + yb) (((2 : Int64) * ((2 : Int32).toInt64)) * (jt * (1000000 : Int64)))))]))
        by_cases hc229 : (((0 : Int64) + ya) + yb) < (((2 : Int64) * ((2 : Int32).toInt64)) * (jt * (1000000 : Int64)))
        · refine Go.st (fun _ k' => XS.ifYes X222.here hx rfl (pc0 := 293) (pc' := 308) rfl (hb hby at_293) rfl (XT.ll_lt_t hc229) (by decide) (by decide) k') ?_
          show Go p e below s _ _ _ (T222.setTop (mkF m 308 #[.val (.long jx), .second, .val (.long jy), .second, .val (.long jz), .second, .val (.int kr), .val (.int kf), .val (.int (2 : Int32)), .val (.long jt), .second, .val (.long jm), .second, .val (.long ya), .second, .val (.long yb), .second, .val (.long yd), .second, .val (.int kq), .val (.double FP.dconst1), .second, .val (.ref b3), .val (.ref b26), .val (.long (((0 : Int64) + ya) + yb)), .second, .val (.int (fkeep (fAdj (FP.i2d kq) (FP.ddiv (FP.l2d (((0 : Int64) + ya) + yb)) (FP.l2d (((0 : Int64) + (1 : Int64)) + (1 : Int64)))) FP.dconst1 (FP.l2d (jt * (1000000 : Int64)))) kq)), .val (.int (fkeep (fAdj (FP.i2d kq) (FP.ddiv (FP.l2d (((0 : Int64) + (((0 : Int64) + ya) + yb)) + (0 : Int64))) (FP.l2d (((0 : Int64) + (1 : Int64)) + (1 : Int64)))) FP.dconst1 (FP.l2d (jt * (1000000 : Int64)))) kq)), .val (.long (jt * (1000000 : Int64))), .second, .val (.long ((2 : Int32).toInt64)), .second] []))
          refine Go.st (fun _ k' => XS.iconst X222.here hx rfl (hb hby at_308) k') ?_
          show Go p e below s _ _ _ (T222.setTop (mkF m 309 #[.val (.long jx), .second, .val (.long jy), .second, .val (.long jz), .second, .val (.int kr), .val (.int kf), .val (.int (2 : Int32)), .val (.long jt), .second, .val (.long jm), .second, .val (.long ya), .second, .val (.long yb), .second, .val (.long yd), .second, .val (.int kq), .val (.double FP.dconst1), .second, .val (.ref b3), .val (.ref b26), .val (.long (((0 : Int64) + ya) + yb)), .second, .val (.int (fkeep (fAdj (FP.i2d kq) (FP.ddiv (FP.l2d (((0 : Int64) + ya) + yb)) (FP.l2d (((0 : Int64) + (1 : Int64)) + (1 : Int64)))) FP.dconst1 (FP.l2d (jt * (1000000 : Int64)))) kq)), .val (.int (fkeep (fAdj (FP.i2d kq) (FP.ddiv (FP.l2d (((0 : Int64) + (((0 : Int64) + ya) + yb)) + (0 : Int64))) (FP.l2d (((0 : Int64) + (1 : Int64)) + (1 : Int64)))) FP.dconst1 (FP.l2d (jt * (1000000 : Int64)))) kq)), .val (.long (jt * (1000000 : Int64))), .second, .val (.long ((2 : Int32).toInt64)), .second] [(.int (1 : Int32))]))
          refine Go.retB X222 hx hlk (t := .boolean) Bd.returns (by simp) (hb hby at_309) (by decide) (by decide) rfl ?_
          exact ⟨rfl, N222, trivial⟩
        · refine Go.st (fun _ k' => XS.ifNo X222.here hx rfl (hb hby at_293) rfl (XT.ll_lt_f hc229) k') ?_
          show Go p e below s _ _ _ (T222.setTop (mkF m 296 #[.val (.long jx), .second, .val (.long jy), .second, .val (.long jz), .second, .val (.int kr), .val (.int kf), .val (.int (2 : Int32)), .val (.long jt), .second, .val (.long jm), .second, .val (.long ya), .second, .val (.long yb), .second, .val (.long yd), .second, .val (.int kq), .val (.double FP.dconst1), .second, .val (.ref b3), .val (.ref b26), .val (.long (((0 : Int64) + ya) + yb)), .second, .val (.int (fkeep (fAdj (FP.i2d kq) (FP.ddiv (FP.l2d (((0 : Int64) + ya) + yb)) (FP.l2d (((0 : Int64) + (1 : Int64)) + (1 : Int64)))) FP.dconst1 (FP.l2d (jt * (1000000 : Int64)))) kq)), .val (.int (fkeep (fAdj (FP.i2d kq) (FP.ddiv (FP.l2d (((0 : Int64) + (((0 : Int64) + ya) + yb)) + (0 : Int64))) (FP.l2d (((0 : Int64) + (1 : Int64)) + (1 : Int64)))) FP.dconst1 (FP.l2d (jt * (1000000 : Int64)))) kq)), .val (.long (jt * (1000000 : Int64))), .second, .val (.long ((2 : Int32).toInt64)), .second] []))
          refine Go.st (fun _ k' => XS.iload X222.here hx rfl (hb hby at_296) rfl k') ?_
          show Go p e below s _ _ _ (T222.setTop (mkF m 298 #[.val (.long jx), .second, .val (.long jy), .second, .val (.long jz), .second, .val (.int kr), .val (.int kf), .val (.int (2 : Int32)), .val (.long jt), .second, .val (.long jm), .second, .val (.long ya), .second, .val (.long yb), .second, .val (.long yd), .second, .val (.int kq), .val (.double FP.dconst1), .second, .val (.ref b3), .val (.ref b26), .val (.long (((0 : Int64) + ya) + yb)), .second, .val (.int (fkeep (fAdj (FP.i2d kq) (FP.ddiv (FP.l2d (((0 : Int64) + ya) + yb)) (FP.l2d (((0 : Int64) + (1 : Int64)) + (1 : Int64)))) FP.dconst1 (FP.l2d (jt * (1000000 : Int64)))) kq)), .val (.int (fkeep (fAdj (FP.i2d kq) (FP.ddiv (FP.l2d (((0 : Int64) + (((0 : Int64) + ya) + yb)) + (0 : Int64))) (FP.l2d (((0 : Int64) + (1 : Int64)) + (1 : Int64)))) FP.dconst1 (FP.l2d (jt * (1000000 : Int64)))) kq)), .val (.long (jt * (1000000 : Int64))), .second, .val (.long ((2 : Int32).toInt64)), .second] [(.int (fkeep (fAdj (FP.i2d kq) (FP.ddiv (FP.l2d (((0 : Int64) + ya) + yb)) (FP.l2d (((0 : Int64) + (1 : Int64)) + (1 : Int64)))) FP.dconst1 (FP.l2d (jt * (1000000 : Int64)))) kq))]))
          refine Go.st (fun _ k' => XS.iconst X222.here hx rfl (hb hby at_298) k') ?_
          show Go p e below s _ _ _ (T222.setTop (mkF m 299 #[.val (.long jx), .second, .val (.long jy), .second, .val (.long jz), .second, .val (.int kr), .val (.int kf), .val (.int (2 : Int32)), .val (.long jt), .second, .val (.long jm), .second, .val (.long ya), .second, .val (.long yb), .second, .val (.long yd), .second, .val (.int kq), .val (.double FP.dconst1), .second, .val (.ref b3), .val (.ref b26), .val (.long (((0 : Int64) + ya) + yb)), .second, .val (.int (fkeep (fAdj (FP.i2d kq) (FP.ddiv (FP.l2d (((0 : Int64) + ya) + yb)) (FP.l2d (((0 : Int64) + (1 : Int64)) + (1 : Int64)))) FP.dconst1 (FP.l2d (jt * (1000000 : Int64)))) kq)), .val (.int (fkeep (fAdj (FP.i2d kq) (FP.ddiv (FP.l2d (((0 : Int64) + (((0 : Int64) + ya) + yb)) + (0 : Int64))) (FP.l2d (((0 : Int64) + (1 : Int64)) + (1 : Int64)))) FP.dconst1 (FP.l2d (jt * (1000000 : Int64)))) kq)), .val (.long (jt * (1000000 : Int64))), .second, .val (.long ((2 : Int32).toInt64)), .second] [(.int (1 : Int32)), (.int (fkeep (fAdj (FP.i2d kq) (FP.ddiv (FP.l2d (((0 : Int64) + ya) + yb)) (FP.l2d (((0 : Int64) + (1 : Int64)) + (1 : Int64)))) FP.dconst1 (FP.l2d (jt * (1000000 : Int64)))) kq))]))
          refine Go.st (fun _ k' => XS.icmpNo X222.here hx rfl (hb hby at_299) rfl (XT.ii_ne_f (w_e hc229)) k') ?_
          show Go p e below s _ _ _ (T222.setTop (mkF m 302 #[.val (.long jx), .second, .val (.long jy), .second, .val (.long jz), .second, .val (.int kr), .val (.int kf), .val (.int (2 : Int32)), .val (.long jt), .second, .val (.long jm), .second, .val (.long ya), .second, .val (.long yb), .second, .val (.long yd), .second, .val (.int kq), .val (.double FP.dconst1), .second, .val (.ref b3), .val (.ref b26), .val (.long (((0 : Int64) + ya) + yb)), .second, .val (.int (fkeep (fAdj (FP.i2d kq) (FP.ddiv (FP.l2d (((0 : Int64) + ya) + yb)) (FP.l2d (((0 : Int64) + (1 : Int64)) + (1 : Int64)))) FP.dconst1 (FP.l2d (jt * (1000000 : Int64)))) kq)), .val (.int (fkeep (fAdj (FP.i2d kq) (FP.ddiv (FP.l2d (((0 : Int64) + (((0 : Int64) + ya) + yb)) + (0 : Int64))) (FP.l2d (((0 : Int64) + (1 : Int64)) + (1 : Int64)))) FP.dconst1 (FP.l2d (jt * (1000000 : Int64)))) kq)), .val (.long (jt * (1000000 : Int64))), .second, .val (.long ((2 : Int32).toInt64)), .second] []))
          refine Go.st (fun _ k' => XS.iconst X222.here hx rfl (hb hby at_302) k') ?_
          show Go p e below s _ _ _ (T222.setTop (mkF m 303 #[.val (.long jx), .second, .val (.long jy), .second, .val (.long jz), .second, .val (.int kr), .val (.int kf), .val (.int (2 : Int32)), .val (.long jt), .second, .val (.long jm), .second, .val (.long ya), .second, .val (.long yb), .second, .val (.long yd), .second, .val (.int kq), .val (.double FP.dconst1), .second, .val (.ref b3), .val (.ref b26), .val (.long (((0 : Int64) + ya) + yb)), .second, .val (.int (fkeep (fAdj (FP.i2d kq) (FP.ddiv (FP.l2d (((0 : Int64) + ya) + yb)) (FP.l2d (((0 : Int64) + (1 : Int64)) + (1 : Int64)))) FP.dconst1 (FP.l2d (jt * (1000000 : Int64)))) kq)), .val (.int (fkeep (fAdj (FP.i2d kq) (FP.ddiv (FP.l2d (((0 : Int64) + (((0 : Int64) + ya) + yb)) + (0 : Int64))) (FP.l2d (((0 : Int64) + (1 : Int64)) + (1 : Int64)))) FP.dconst1 (FP.l2d (jt * (1000000 : Int64)))) kq)), .val (.long (jt * (1000000 : Int64))), .second, .val (.long ((2 : Int32).toInt64)), .second] [(.int (1 : Int32))]))
          refine Go.st (fun _ k' => XS.goto X222.here hx rfl (pc0 := 303) (pc' := 307) rfl (hb hby at_303) (by decide) (by decide) k') ?_
          show Go p e below s _ _ _ (T222.setTop (mkF m 307 #[.val (.long jx), .second, .val (.long jy), .second, .val (.long jz), .second, .val (.int kr), .val (.int kf), .val (.int (2 : Int32)), .val (.long jt), .second, .val (.long jm), .second, .val (.long ya), .second, .val (.long yb), .second, .val (.long yd), .second, .val (.int kq), .val (.double FP.dconst1), .second, .val (.ref b3), .val (.ref b26), .val (.long (((0 : Int64) + ya) + yb)), .second, .val (.int (fkeep (fAdj (FP.i2d kq) (FP.ddiv (FP.l2d (((0 : Int64) + ya) + yb)) (FP.l2d (((0 : Int64) + (1 : Int64)) + (1 : Int64)))) FP.dconst1 (FP.l2d (jt * (1000000 : Int64)))) kq)), .val (.int (fkeep (fAdj (FP.i2d kq) (FP.ddiv (FP.l2d (((0 : Int64) + (((0 : Int64) + ya) + yb)) + (0 : Int64))) (FP.l2d (((0 : Int64) + (1 : Int64)) + (1 : Int64)))) FP.dconst1 (FP.l2d (jt * (1000000 : Int64)))) kq)), .val (.long (jt * (1000000 : Int64))), .second, .val (.long ((2 : Int32).toInt64)), .second] [(.int (1 : Int32))]))
          refine Go.retB X222 hx hlk (t := .boolean) Bd.returns (by simp) (hb hby at_307) (by decide) (by decide) rfl ?_
          exact ⟨rfl, N222, trivial⟩
      · refine Go.st (fun _ k' => XS.ifNo X222.here hx rfl (hb hby at_265) rfl (XT.ll_gt_f hc228) k') ?_
        show Go p e below s _ _ _ (T222.setTop (mkF m 268 #[.val (.long jx), .second, .val (.long jy), .second, .val (.long jz), .second, .val (.int kr), .val (.int kf), .val (.int (2 : Int32)), .val (.long jt), .second, .val (.long jm), .second, .val (.long ya), .second, .val (.long yb), .second, .val (.long yd), .second, .val (.int kq), .val (.double FP.dconst1), .second, .val (.ref b3), .val (.ref b26), .val (.long (((0 : Int64) + ya) + yb)), .second, .val (.int (fkeep (fAdj (FP.i2d kq) (FP.ddiv (FP.l2d (((0 : Int64) + ya) + yb)) (FP.l2d (((0 : Int64) + (1 : Int64)) + (1 : Int64)))) FP.dconst1 (FP.l2d (jt * (1000000 : Int64)))) kq)), .val (.int (fkeep (fAdj (FP.i2d kq) (FP.ddiv (FP.l2d (((0 : Int64) + (((0 : Int64) + ya) + yb)) + (0 : Int64))) (FP.l2d (((0 : Int64) + (1 : Int64)) + (1 : Int64)))) FP.dconst1 (FP.l2d (jt * (1000000 : Int64)))) kq)), .val (.long (jt * (1000000 : Int64))), .second, .val (.long ((2 : Int32).toInt64)), .second] []))
        refine Go.st (fun _ k' => XS.iload X222.here hx rfl (hb hby at_268) rfl k') ?_
        show Go p e below s _ _ _ (T222.setTop (mkF m 270 #[.val (.long jx), .second, .val (.long jy), .second, .val (.long jz), .second, .val (.int kr), .val (.int kf), .val (.int (2 : Int32)), .val (.long jt), .second, .val (.long jm), .second, .val (.long ya), .second, .val (.long yb), .second, .val (.long yd), .second, .val (.int kq), .val (.double FP.dconst1), .second, .val (.ref b3), .val (.ref b26), .val (.long (((0 : Int64) + ya) + yb)), .second, .val (.int (fkeep (fAdj (FP.i2d kq) (FP.ddiv (FP.l2d (((0 : Int64) + ya) + yb)) (FP.l2d (((0 : Int64) + (1 : Int64)) + (1 : Int64)))) FP.dconst1 (FP.l2d (jt * (1000000 : Int64)))) kq)), .val (.int (fkeep (fAdj (FP.i2d kq) (FP.ddiv (FP.l2d (((0 : Int64) + (((0 : Int64) + ya) + yb)) + (0 : Int64))) (FP.l2d (((0 : Int64) + (1 : Int64)) + (1 : Int64)))) FP.dconst1 (FP.l2d (jt * (1000000 : Int64)))) kq)), .val (.long (jt * (1000000 : Int64))), .second, .val (.long ((2 : Int32).toInt64)), .second] [(.int (fkeep (fAdj (FP.i2d kq) (FP.ddiv (FP.l2d (((0 : Int64) + ya) + yb)) (FP.l2d (((0 : Int64) + (1 : Int64)) + (1 : Int64)))) FP.dconst1 (FP.l2d (jt * (1000000 : Int64)))) kq))]))
        refine Go.st (fun _ k' => XS.iload X222.here hx rfl (hb hby at_270) rfl k') ?_
        show Go p e below s _ _ _ (T222.setTop (mkF m 272 #[.val (.long jx), .second, .val (.long jy), .second, .val (.long jz), .second, .val (.int kr), .val (.int kf), .val (.int (2 : Int32)), .val (.long jt), .second, .val (.long jm), .second, .val (.long ya), .second, .val (.long yb), .second, .val (.long yd), .second, .val (.int kq), .val (.double FP.dconst1), .second, .val (.ref b3), .val (.ref b26), .val (.long (((0 : Int64) + ya) + yb)), .second, .val (.int (fkeep (fAdj (FP.i2d kq) (FP.ddiv (FP.l2d (((0 : Int64) + ya) + yb)) (FP.l2d (((0 : Int64) + (1 : Int64)) + (1 : Int64)))) FP.dconst1 (FP.l2d (jt * (1000000 : Int64)))) kq)), .val (.int (fkeep (fAdj (FP.i2d kq) (FP.ddiv (FP.l2d (((0 : Int64) + (((0 : Int64) + ya) + yb)) + (0 : Int64))) (FP.l2d (((0 : Int64) + (1 : Int64)) + (1 : Int64)))) FP.dconst1 (FP.l2d (jt * (1000000 : Int64)))) kq)), .val (.long (jt * (1000000 : Int64))), .second, .val (.long ((2 : Int32).toInt64)), .second] [(.int kq), (.int (fkeep (fAdj (FP.i2d kq) (FP.ddiv (FP.l2d (((0 : Int64) + ya) + yb)) (FP.l2d (((0 : Int64) + (1 : Int64)) + (1 : Int64)))) FP.dconst1 (FP.l2d (jt * (1000000 : Int64)))) kq))]))
        refine Go.st (fun _ k' => XS.icmpNo X222.here hx rfl (hb hby at_272) rfl (XT.ii_ne_f (w_d hc228)) k') ?_
        show Go p e below s _ _ _ (T222.setTop (mkF m 275 #[.val (.long jx), .second, .val (.long jy), .second, .val (.long jz), .second, .val (.int kr), .val (.int kf), .val (.int (2 : Int32)), .val (.long jt), .second, .val (.long jm), .second, .val (.long ya), .second, .val (.long yb), .second, .val (.long yd), .second, .val (.int kq), .val (.double FP.dconst1), .second, .val (.ref b3), .val (.ref b26), .val (.long (((0 : Int64) + ya) + yb)), .second, .val (.int (fkeep (fAdj (FP.i2d kq) (FP.ddiv (FP.l2d (((0 : Int64) + ya) + yb)) (FP.l2d (((0 : Int64) + (1 : Int64)) + (1 : Int64)))) FP.dconst1 (FP.l2d (jt * (1000000 : Int64)))) kq)), .val (.int (fkeep (fAdj (FP.i2d kq) (FP.ddiv (FP.l2d (((0 : Int64) + (((0 : Int64) + ya) + yb)) + (0 : Int64))) (FP.l2d (((0 : Int64) + (1 : Int64)) + (1 : Int64)))) FP.dconst1 (FP.l2d (jt * (1000000 : Int64)))) kq)), .val (.long (jt * (1000000 : Int64))), .second, .val (.long ((2 : Int32).toInt64)), .second] []))
        refine Go.st (fun _ k' => XS.iconst X222.here hx rfl (hb hby at_275) k') ?_
        show Go p e below s _ _ _ (T222.setTop (mkF m 276 #[.val (.long jx), .second, .val (.long jy), .second, .val (.long jz), .second, .val (.int kr), .val (.int kf), .val (.int (2 : Int32)), .val (.long jt), .second, .val (.long jm), .second, .val (.long ya), .second, .val (.long yb), .second, .val (.long yd), .second, .val (.int kq), .val (.double FP.dconst1), .second, .val (.ref b3), .val (.ref b26), .val (.long (((0 : Int64) + ya) + yb)), .second, .val (.int (fkeep (fAdj (FP.i2d kq) (FP.ddiv (FP.l2d (((0 : Int64) + ya) + yb)) (FP.l2d (((0 : Int64) + (1 : Int64)) + (1 : Int64)))) FP.dconst1 (FP.l2d (jt * (1000000 : Int64)))) kq)), .val (.int (fkeep (fAdj (FP.i2d kq) (FP.ddiv (FP.l2d (((0 : Int64) + (((0 : Int64) + ya) + yb)) + (0 : Int64))) (FP.l2d (((0 : Int64) + (1 : Int64)) + (1 : Int64)))) FP.dconst1 (FP.l2d (jt * (1000000 : Int64)))) kq)), .val (.long (jt * (1000000 : Int64))), .second, .val (.long ((2 : Int32).toInt64)), .second] [(.int (1 : Int32))]))
        refine Go.st (fun _ k' => XS.goto X222.here hx rfl (pc0 := 276) (pc' := 280) rfl (hb hby at_276) (by decide) (by decide) k') ?_
        show Go p e below s _ _ _ (T222.setTop (mkF m 280 #[.val (.long jx), .second, .val (.long jy), .second, .val (.long jz), .second, .val (.int kr), .val (.int kf), .val (.int (2 : Int32)), .val (.long jt), .second, .val (.long jm), .second, .val (.long ya), .second, .val (.long yb), .second, .val (.long yd), .second, .val (.int kq), .val (.double FP.dconst1), .second, .val (.ref b3), .val (.ref b26), .val (.long (((0 : Int64) + ya) + yb)), .second, .val (.int (fkeep (fAdj (FP.i2d kq) (FP.ddiv (FP.l2d (((0 : Int64) + ya) + yb)) (FP.l2d (((0 : Int64) + (1 : Int64)) + (1 : Int64)))) FP.dconst1 (FP.l2d (jt * (1000000 : Int64)))) kq)), .val (.int (fkeep (fAdj (FP.i2d kq) (FP.ddiv (FP.l2d (((0 : Int64) + (((0 : Int64) + ya) + yb)) + (0 : Int64))) (FP.l2d (((0 : Int64) + (1 : Int64)) + (1 : Int64)))) FP.dconst1 (FP.l2d (jt * (1000000 : Int64)))) kq)), .val (.long (jt * (1000000 : Int64))), .second, .val (.long ((2 : Int32).toInt64)), .second] [(.int (1 : Int32))]))
        refine Go.retB X222 hx hlk (t := .boolean) Bd.returns (by simp) (hb hby at_280) (by decide) (by decide) rfl ?_
        exact ⟨rfl, N222, trivial⟩
    · rw [hi]
      show Go p e below s _ _ _ (T46.setTop (mkF m 105 #[.val (.long jx), .second, .val (.long jy), .second, .val (.long jz), .second, .val (.int kr), .val (.int kf), .val (.int (3 : Int32)), .val (.long jt), .second, .val (.long jm), .second, .val (.long ya), .second, .val (.long yb), .second, .val (.long yd), .second, .val (.int kq), .val (.double FP.dconst1), .second, .val (.ref b3), .val (.ref b26), .val (.long (0 : Int64)), .second, .unset, .unset, .unset, .unset, .unset, .unset] []))
      refine Go.st (fun _ k' => XS.iload X46.here hx rfl (hb hby at_105) rfl k') ?_
      show Go p e below s _ _ _ (T46.setTop (mkF m 107 #[.val (.long jx), .second, .val (.long jy), .second, .val (.long jz), .second, .val (.int kr), .val (.int kf), .val (.int (3 : Int32)), .val (.long jt), .second, .val (.long jm), .second, .val (.long ya), .second, .val (.long yb), .second, .val (.long yd), .second, .val (.int kq), .val (.double FP.dconst1), .second, .val (.ref b3), .val (.ref b26), .val (.long (0 : Int64)), .second, .unset, .unset, .unset, .unset, .unset, .unset] [(.int (3 : Int32))]))
      refine Go.st (fun _ k' => XS.iconst X46.here hx rfl (hb hby at_107) k') ?_
      show Go p e below s _ _ _ (T46.setTop (mkF m 108 #[.val (.long jx), .second, .val (.long jy), .second, .val (.long jz), .second, .val (.int kr), .val (.int kf), .val (.int (3 : Int32)), .val (.long jt), .second, .val (.long jm), .second, .val (.long ya), .second, .val (.long yb), .second, .val (.long yd), .second, .val (.int kq), .val (.double FP.dconst1), .second, .val (.ref b3), .val (.ref b26), .val (.long (0 : Int64)), .second, .unset, .unset, .unset, .unset, .unset, .unset] [(.int (1 : Int32)), (.int (3 : Int32))]))
      refine Go.st (fun _ k' => XS.icmpNo X46.here hx rfl (hb hby at_108) rfl (XT.ii_lt_f (by decide)) k') ?_
      show Go p e below s _ _ _ (T46.setTop (mkF m 111 #[.val (.long jx), .second, .val (.long jy), .second, .val (.long jz), .second, .val (.int kr), .val (.int kf), .val (.int (3 : Int32)), .val (.long jt), .second, .val (.long jm), .second, .val (.long ya), .second, .val (.long yb), .second, .val (.long yd), .second, .val (.int kq), .val (.double FP.dconst1), .second, .val (.ref b3), .val (.ref b26), .val (.long (0 : Int64)), .second, .unset, .unset, .unset, .unset, .unset, .unset] []))
      refine Go.st (fun _ k' => XS.aload X46.here hx rfl (hb hby at_111) rfl rfl k') ?_
      show Go p e below s _ _ _ (T46.setTop (mkF m 113 #[.val (.long jx), .second, .val (.long jy), .second, .val (.long jz), .second, .val (.int kr), .val (.int kf), .val (.int (3 : Int32)), .val (.long jt), .second, .val (.long jm), .second, .val (.long ya), .second, .val (.long yb), .second, .val (.long yd), .second, .val (.int kq), .val (.double FP.dconst1), .second, .val (.ref b3), .val (.ref b26), .val (.long (0 : Int64)), .second, .unset, .unset, .unset, .unset, .unset, .unset] [(.ref b3)]))
      refine Go.st (fun _ k' => XS.lload X46.here hx rfl (hb hby at_113) rfl k') ?_
      show Go p e below s _ _ _ (T46.setTop (mkF m 115 #[.val (.long jx), .second, .val (.long jy), .second, .val (.long jz), .second, .val (.int kr), .val (.int kf), .val (.int (3 : Int32)), .val (.long jt), .second, .val (.long jm), .second, .val (.long ya), .second, .val (.long yb), .second, .val (.long yd), .second, .val (.int kq), .val (.double FP.dconst1), .second, .val (.ref b3), .val (.ref b26), .val (.long (0 : Int64)), .second, .unset, .unset, .unset, .unset, .unset, .unset] [(.long ya), (.ref b3)]))
      obtain ⟨cq230, kq230, q230a, q230b, q230c⟩ := isOf hZ rfl f56
      obtain ⟨_, _, ⟨T230, L230, k230, n230⟩, -, X230, ⟨Lc230, hQ230, l230, y230, z230⟩, st230⟩ := X46.virtualBack hx (y := (⟨"com/example/spillway/spillway/runtime/LatencyController", "processed", "(J)V"⟩ : MethodName)) (z := (⟨"com/example/spillway/spillway/runtime/LatencyController", "processed", "(J)V"⟩ : MethodName)) hown (mvT hZ (wdx hw 36 rfl)) (mvT hZ (wdx hw 37 rfl)) (notFace_of_selects (args := #[]) (mvT hZ (wdx hw 39 rfl))) (mvT hZ (wdx hw 39 rfl)) (mvT hZ (wdx hw 38 rfl)) (by decide) (backOf (W := 0) (rm5 l Z a0 hw [] b3 ya (0 : Int64) (0 : Int64) (0 : Int64) (FP.l2d (jt * (1000000 : Int64))) FP.dconst1 T46.heap n0 O46 f56 f57 f58 f59 f60 f61 f62 g_b3) hZ (wdx hw 40 rfl) (wdx hw 8 rfl) (by decide) (by decide)) q230a q230c (g := (mkF m 115 #[.val (.long jx), .second, .val (.long jy), .second, .val (.long jz), .second, .val (.int kr), .val (.int kf), .val (.int (3 : Int32)), .val (.long jt), .second, .val (.long jm), .second, .val (.long ya), .second, .val (.long yb), .second, .val (.long yd), .second, .val (.int kq), .val (.double FP.dconst1), .second, .val (.ref b3), .val (.ref b26), .val (.long (0 : Int64)), .second, .unset, .unset, .unset, .unset, .unset, .unset] [(.long ya), (.ref b3)])) rfl (by rw [hml]; rfl) (Steps.refl _) (argsL := [(.long ya)]) (rest := []) (lenOf pd__J_V rfl) rfl (by show 2 * 0 + _ ≤ _; exact Nat.le_of_eq rfl) (hb hby at_115) (fun _ _ => ⟨rfl, rfl, (by exact Nat.le_of_ble_eq_true rfl), (by exact Nat.le_of_ble_eq_true rfl)⟩)
      dsimp only [Pt.U, Pt.locs, Pt.cells, Pt.slots] at X230 l230 y230 z230 st230 hQ230
      subst l230 y230 z230
      obtain ⟨rfl, Nq230, Kq230, f231, f232, f233, f234, f235, f236⟩ := hQ230
      have N230 := Fr.app N46 Nq230
      refine Go.tr st230 ?_
      have f237 : Exa Z T230.heap a_ms "java/util/concurrent/TimeUnit" := f53.keep Kq230
      have f238 : Fld Z T230.heap a_ms "java/util/concurrent/TimeUnit" "scale" "J" (.long (1000000 : Int64)) := f54.keep Kq230 (ninS ne4 nin0)
      have f239 : Fld Z T230.heap a_ms "java/util/concurrent/TimeUnit" "maxNanos" "J" (.long (9223372036854 : Int64)) := f55.keep Kq230 (ninS ne4 nin0)
      have f240 : Exa Z T230.heap b3 "com/example/spillway/spillway/runtime/LatencyController" := f56.keep Kq230
      have f241 : Exa Z T230.heap b26 "com/example/spillway/spillway/runtime/LatencyController" := f63.keep Kq230
      have f242 : Fld Z T230.heap b26 "com/example/spillway/spillway/runtime/LatencyController" "limit" "D" (.double (9221120237041090560 : UInt64)) := f47.keep Kq230 (ninS (Ne.symm ne28) nin0)
      have f243 : Fld Z T230.heap b26 "com/example/spillway/spillway/runtime/LatencyController" "targetNanos" "D" (.double (FP.l2d (jt * (1000000 : Int64)))) := f48.keep Kq230 (ninS (Ne.symm ne28) nin0)
      have f244 : Fld Z T230.heap b26 "com/example/spillway/spillway/runtime/LatencyController" "gain" "D" (.double FP.dconst1) := f49.keep Kq230 (ninS (Ne.symm ne28) nin0)
      have f245 : Fld Z T230.heap b26 "com/example/spillway/spillway/runtime/LatencyController" "latencySum" "J" (.long (0 : Int64)) := f50.keep Kq230 (ninS (Ne.symm ne28) nin0)
      have f246 : Fld Z T230.heap b26 "com/example/spillway/spillway/runtime/LatencyController" "latencyCount" "J" (.long (0 : Int64)) := f51.keep Kq230 (ninS (Ne.symm ne28) nin0)
      have f247 : Fld Z T230.heap b26 "com/example/spillway/spillway/runtime/LatencyController" "decisions" "J" (.long (0 : Int64)) := f52.keep Kq230 (ninS (Ne.symm ne28) nin0)
      have O230 : Old Z n0 T230.heap := O46.keep Kq230 (allS g_b3 all0)
      show Go p e below s _ _ _ (T230.setTop (mkF m 118 #[.val (.long jx), .second, .val (.long jy), .second, .val (.long jz), .second, .val (.int kr), .val (.int kf), .val (.int (3 : Int32)), .val (.long jt), .second, .val (.long jm), .second, .val (.long ya), .second, .val (.long yb), .second, .val (.long yd), .second, .val (.int kq), .val (.double FP.dconst1), .second, .val (.ref b3), .val (.ref b26), .val (.long (0 : Int64)), .second, .unset, .unset, .unset, .unset, .unset, .unset] []))
      refine Go.st (fun _ k' => XS.lload X230.here hx rfl (hb hby at_118) rfl k') ?_
      show Go p e below s _ _ _ (T230.setTop (mkF m 120 #[.val (.long jx), .second, .val (.long jy), .second, .val (.long jz), .second, .val (.int kr), .val (.int kf), .val (.int (3 : Int32)), .val (.long jt), .second, .val (.long jm), .second, .val (.long ya), .second, .val (.long yb), .second, .val (.long yd), .second, .val (.int kq), .val (.double FP.dconst1), .second, .val (.ref b3), .val (.ref b26), .val (.long (0 : Int64)), .second, .unset, .unset, .unset, .unset, .unset, .unset] [(.long (0 : Int64))]))
      refine Go.st (fun _ k' => XS.lload X230.here hx rfl (hb hby at_120) rfl k') ?_
      show Go p e below s _ _ _ (T230.setTop (mkF m 122 #[.val (.long jx), .second, .val (.long jy), .second, .val (.long jz), .second, .val (.int kr), .val (.int kf), .val (.int (3 : Int32)), .val (.long jt), .second, .val (.long jm), .second, .val (.long ya), .second, .val (.long yb), .second, .val (.long yd), .second, .val (.int kq), .val (.double FP.dconst1), .second, .val (.ref b3), .val (.ref b26), .val (.long (0 : Int64)), .second, .unset, .unset, .unset, .unset, .unset, .unset] [(.long ya), (.long (0 : Int64))]))
      refine Go.st (fun _ k' => XS.ladd X230.here hx rfl (hb hby at_122) rfl k') ?_
      show Go p e below s _ _ _ (T230.setTop (mkF m 123 #[.val (.long jx), .second, .val (.long jy), .second, .val (.long jz), .second, .val (.int kr), .val (.int kf), .val (.int (3 : Int32)), .val (.long jt), .second, .val (.long jm), .second, .val (.long ya), .second, .val (.long yb), .second, .val (.long yd), .second, .val (.int kq), .val (.double FP.dconst1), .second, .val (.ref b3), .val (.ref b26), .val (.long (0 : Int64)), .second, .unset, .unset, .unset, .unset, .unset, .unset] [(.long ((0 : Int64) + ya))]))
      refine Go.st (fun _ k' => XS.lstore X230.here hx rfl (hb hby at_123) rfl (l' := #[.val (.long jx), .second, .val (.long jy), .second, .val (.long jz), .second, .val (.int kr), .val (.int kf), .val (.int (3 : Int32)), .val (.long jt), .second, .val (.long jm), .second, .val (.long ya), .second, .val (.long yb), .second, .val (.long yd), .second, .val (.int kq), .val (.double FP.dconst1), .second, .val (.ref b3), .val (.ref b26), .val (.long ((0 : Int64) + ya)), .second, .unset, .unset, .unset, .unset, .unset, .unset]) rfl k') ?_
      show Go p e below s _ _ _ (T230.setTop (mkF m 125 #[.val (.long jx), .second, .val (.long jy), .second, .val (.long jz), .second, .val (.int kr), .val (.int kf), .val (.int (3 : Int32)), .val (.long jt), .second, .val (.long jm), .second, .val (.long ya), .second, .val (.long yb), .second, .val (.long yd), .second, .val (.int kq), .val (.double FP.dconst1), .second, .val (.ref b3), .val (.ref b26), .val (.long ((0 : Int64) + ya)), .second, .unset, .unset, .unset, .unset, .unset, .unset] []))
      refine Go.st (fun _ k' => XS.iload X230.here hx rfl (hb hby at_125) rfl k') ?_
      show Go p e below s _ _ _ (T230.setTop (mkF m 127 #[.val (.long jx), .second, .val (.long jy), .second, .val (.long jz), .second, .val (.int kr), .val (.int kf), .val (.int (3 : Int32)), .val (.long jt), .second, .val (.long jm), .second, .val (.long ya), .second, .val (.long yb), .second, .val (.long yd), .second, .val (.int kq), .val (.double FP.dconst1), .second, .val (.ref b3), .val (.ref b26), .val (.long ((0 : Int64) + ya)), .second, .unset, .unset, .unset, .unset, .unset, .unset] [(.int (3 : Int32))]))
      refine Go.st (fun _ k' => XS.iconst X230.here hx rfl (hb hby at_127) k') ?_
      show Go p e below s _ _ _ (T230.setTop (mkF m 128 #[.val (.long jx), .second, .val (.long jy), .second, .val (.long jz), .second, .val (.int kr), .val (.int kf), .val (.int (3 : Int32)), .val (.long jt), .second, .val (.long jm), .second, .val (.long ya), .second, .val (.long yb), .second, .val (.long yd), .second, .val (.int kq), .val (.double FP.dconst1), .second, .val (.ref b3), .val (.ref b26), .val (.long ((0 : Int64) + ya)), .second, .unset, .unset, .unset, .unset, .unset, .unset] [(.int (2 : Int32)), (.int (3 : Int32))]))
      refine Go.st (fun _ k' => XS.icmpNo X230.here hx rfl (hb hby at_128) rfl (XT.ii_lt_f (by decide)) k') ?_
      show Go p e below s _ _ _ (T230.setTop (mkF m 131 #[.val (.long jx), .second, .val (.long jy), .second, .val (.long jz), .second, .val (.int kr), .val (.int kf), .val (.int (3 : Int32)), .val (.long jt), .second, .val (.long jm), .second, .val (.long ya), .second, .val (.long yb), .second, .val (.long yd), .second, .val (.int kq), .val (.double FP.dconst1), .second, .val (.ref b3), .val (.ref b26), .val (.long ((0 : Int64) + ya)), .second, .unset, .unset, .unset, .unset, .unset, .unset] []))
      refine Go.st (fun _ k' => XS.aload X230.here hx rfl (hb hby at_131) rfl rfl k') ?_
      show Go p e below s _ _ _ (T230.setTop (mkF m 133 #[.val (.long jx), .second, .val (.long jy), .second, .val (.long jz), .second, .val (.int kr), .val (.int kf), .val (.int (3 : Int32)), .val (.long jt), .second, .val (.long jm), .second, .val (.long ya), .second, .val (.long yb), .second, .val (.long yd), .second, .val (.int kq), .val (.double FP.dconst1), .second, .val (.ref b3), .val (.ref b26), .val (.long ((0 : Int64) + ya)), .second, .unset, .unset, .unset, .unset, .unset, .unset] [(.ref b3)]))
      refine Go.st (fun _ k' => XS.lload X230.here hx rfl (hb hby at_133) rfl k') ?_
      show Go p e below s _ _ _ (T230.setTop (mkF m 135 #[.val (.long jx), .second, .val (.long jy), .second, .val (.long jz), .second, .val (.int kr), .val (.int kf), .val (.int (3 : Int32)), .val (.long jt), .second, .val (.long jm), .second, .val (.long ya), .second, .val (.long yb), .second, .val (.long yd), .second, .val (.int kq), .val (.double FP.dconst1), .second, .val (.ref b3), .val (.ref b26), .val (.long ((0 : Int64) + ya)), .second, .unset, .unset, .unset, .unset, .unset, .unset] [(.long yb), (.ref b3)]))
      obtain ⟨cq248, kq248, q248a, q248b, q248c⟩ := isOf hZ rfl f240
      obtain ⟨_, _, ⟨T248, L248, k248, n248⟩, -, X248, ⟨Lc248, hQ248, l248, y248, z248⟩, st248⟩ := X230.virtualBack hx (y := (⟨"com/example/spillway/spillway/runtime/LatencyController", "processed", "(J)V"⟩ : MethodName)) (z := (⟨"com/example/spillway/spillway/runtime/LatencyController", "processed", "(J)V"⟩ : MethodName)) hown (mvT hZ (wdx hw 36 rfl)) (mvT hZ (wdx hw 37 rfl)) (notFace_of_selects (args := #[]) (mvT hZ (wdx hw 39 rfl))) (mvT hZ (wdx hw 39 rfl)) (mvT hZ (wdx hw 38 rfl)) (by decide) (backOf (W := 0) (rm5 l Z a0 hw [] b3 yb ((0 : Int64) + ya) ((0 : Int64) + (1 : Int64)) (0 : Int64) (FP.l2d (jt * (1000000 : Int64))) FP.dconst1 T230.heap n0 O230 f240 f233 f234 f235 f231 f232 f236 g_b3) hZ (wdx hw 40 rfl) (wdx hw 8 rfl) (by decide) (by decide)) q248a q248c (g := (mkF m 135 #[.val (.long jx), .second, .val (.long jy), .second, .val (.long jz), .second, .val (.int kr), .val (.int kf), .val (.int (3 : Int32)), .val (.long jt), .second, .val (.long jm), .second, .val (.long ya), .second, .val (.long yb), .second, .val (.long yd), .second, .val (.int kq), .val (.double FP.dconst1), .second, .val (.ref b3), .val (.ref b26), .val (.long ((0 : Int64) + ya)), .second, .unset, .unset, .unset, .unset, .unset, .unset] [(.long yb), (.ref b3)])) rfl (by rw [hml]; rfl) (Steps.refl _) (argsL := [(.long yb)]) (rest := []) (lenOf pd__J_V rfl) rfl (by show 2 * 0 + _ ≤ _; exact Nat.le_of_eq rfl) (hb hby at_135) (fun _ _ => ⟨rfl, rfl, (by exact Nat.le_of_ble_eq_true rfl), (by exact Nat.le_of_ble_eq_true rfl)⟩)
      dsimp only [Pt.U, Pt.locs, Pt.cells, Pt.slots] at X248 l248 y248 z248 st248 hQ248
      subst l248 y248 z248
      obtain ⟨rfl, Nq248, Kq248, f249, f250, f251, f252, f253, f254⟩ := hQ248
      have N248 := Fr.app N230 Nq248
      refine Go.tr st248 ?_
      have f255 : Exa Z T248.heap a_ms "java/util/concurrent/TimeUnit" := f237.keep Kq248
      have f256 : Fld Z T248.heap a_ms "java/util/concurrent/TimeUnit" "scale" "J" (.long (1000000 : Int64)) := f238.keep Kq248 (ninS ne4 nin0)
      have f257 : Fld Z T248.heap a_ms "java/util/concurrent/TimeUnit" "maxNanos" "J" (.long (9223372036854 : Int64)) := f239.keep Kq248 (ninS ne4 nin0)
      have f258 : Exa Z T248.heap b3 "com/example/spillway/spillway/runtime/LatencyController" := f240.keep Kq248
      have f259 : Exa Z T248.heap b26 "com/example/spillway/spillway/runtime/LatencyController" := f241.keep Kq248
      have f260 : Fld Z T248.heap b26 "com/example/spillway/spillway/runtime/LatencyController" "limit" "D" (.double (9221120237041090560 : UInt64)) := f242.keep Kq248 (ninS (Ne.symm ne28) nin0)
      have f261 : Fld Z T248.heap b26 "com/example/spillway/spillway/runtime/LatencyController" "targetNanos" "D" (.double (FP.l2d (jt * (1000000 : Int64)))) := f243.keep Kq248 (ninS (Ne.symm ne28) nin0)
      have f262 : Fld Z T248.heap b26 "com/example/spillway/spillway/runtime/LatencyController" "gain" "D" (.double FP.dconst1) := f244.keep Kq248 (ninS (Ne.symm ne28) nin0)
      have f263 : Fld Z T248.heap b26 "com/example/spillway/spillway/runtime/LatencyController" "latencySum" "J" (.long (0 : Int64)) := f245.keep Kq248 (ninS (Ne.symm ne28) nin0)
      have f264 : Fld Z T248.heap b26 "com/example/spillway/spillway/runtime/LatencyController" "latencyCount" "J" (.long (0 : Int64)) := f246.keep Kq248 (ninS (Ne.symm ne28) nin0)
      have f265 : Fld Z T248.heap b26 "com/example/spillway/spillway/runtime/LatencyController" "decisions" "J" (.long (0 : Int64)) := f247.keep Kq248 (ninS (Ne.symm ne28) nin0)
      have O248 : Old Z n0 T248.heap := O230.keep Kq248 (allS g_b3 all0)
      show Go p e below s _ _ _ (T248.setTop (mkF m 138 #[.val (.long jx), .second, .val (.long jy), .second, .val (.long jz), .second, .val (.int kr), .val (.int kf), .val (.int (3 : Int32)), .val (.long jt), .second, .val (.long jm), .second, .val (.long ya), .second, .val (.long yb), .second, .val (.long yd), .second, .val (.int kq), .val (.double FP.dconst1), .second, .val (.ref b3), .val (.ref b26), .val (.long ((0 : Int64) + ya)), .second, .unset, .unset, .unset, .unset, .unset, .unset] []))
      refine Go.st (fun _ k' => XS.lload X248.here hx rfl (hb hby at_138) rfl k') ?_
      show Go p e below s _ _ _ (T248.setTop (mkF m 140 #[.val (.long jx), .second, .val (.long jy), .second, .val (.long jz), .second, .val (.int kr), .val (.int kf), .val (.int (3 : Int32)), .val (.long jt), .second, .val (.long jm), .second, .val (.long ya), .second, .val (.long yb), .second, .val (.long yd), .second, .val (.int kq), .val (.double FP.dconst1), .second, .val (.ref b3), .val (.ref b26), .val (.long ((0 : Int64) + ya)), .second, .unset, .unset, .unset, .unset, .unset, .unset] [(.long ((0 : Int64) + ya))]))
      refine Go.st (fun _ k' => XS.lload X248.here hx rfl (hb hby at_140) rfl k') ?_
      show Go p e below s _ _ _ (T248.setTop (mkF m 142 #[.val (.long jx), .second, .val (.long jy), .second, .val (.long jz), .second, .val (.int kr), .val (.int kf), .val (.int (3 : Int32)), .val (.long jt), .second, .val (.long jm), .second, .val (.long ya), .second, .val (.long yb), .second, .val (.long yd), .second, .val (.int kq), .val (.double FP.dconst1), .second, .val (.ref b3), .val (.ref b26), .val (.long ((0 : Int64) + ya)), .second, .unset, .unset, .unset, .unset, .unset, .unset] [(.long yb), (.long ((0 : Int64) + ya))]))
      refine Go.st (fun _ k' => XS.ladd X248.here hx rfl (hb hby at_142) rfl k') ?_
      show Go p e below s _ _ _ (T248.setTop (mkF m 143 #[.val (.long jx), .second, .val (.long jy), .second, .val (.long jz), .second, .val (.int kr), .val (.int kf), .val (.int (3 : Int32)), .val (.long jt), .second, .val (.long jm), .second, .val (.long ya), .second, .val (.long yb), .second, .val (.long yd), .second, .val (.int kq), .val (.double FP.dconst1), .second, .val (.ref b3), .val (.ref b26), .val (.long ((0 : Int64) + ya)), .second, .unset, .unset, .unset, .unset, .unset, .unset] [(.long (((0 : Int64) + ya) + yb))]))
      refine Go.st (fun _ k' => XS.lstore X248.here hx rfl (hb hby at_143) rfl (l' := #[.val (.long jx), .second, .val (.long jy), .second, .val (.long jz), .second, .val (.int kr), .val (.int kf), .val (.int (3 : Int32)), .val (.long jt), .second, .val (.long jm), .second, .val (.long ya), .second, .val (.long yb), .second, .val (.long yd), .second, .val (.int kq), .val (.double FP.dconst1), .second, .val (.ref b3), .val (.ref b26), .val (.long (((0 : Int64) + ya) + yb)), .second, .unset, .unset, .unset, .unset, .unset, .unset]) rfl k') ?_
      show Go p e below s _ _ _ (T248.setTop (mkF m 145 #[.val (.long jx), .second, .val (.long jy), .second, .val (.long jz), .second, .val (.int kr), .val (.int kf), .val (.int (3 : Int32)), .val (.long jt), .second, .val (.long jm), .second, .val (.long ya), .second, .val (.long yb), .second, .val (.long yd), .second, .val (.int kq), .val (.double FP.dconst1), .second, .val (.ref b3), .val (.ref b26), .val (.long (((0 : Int64) + ya) + yb)), .second, .unset, .unset, .unset, .unset, .unset, .unset] []))
      refine Go.st (fun _ k' => XS.iload X248.here hx rfl (hb hby at_145) rfl k') ?_
      show Go p e below s _ _ _ (T248.setTop (mkF m 147 #[.val (.long jx), .second, .val (.long jy), .second, .val (.long jz), .second, .val (.int kr), .val (.int kf), .val (.int (3 : Int32)), .val (.long jt), .second, .val (.long jm), .second, .val (.long ya), .second, .val (.long yb), .second, .val (.long yd), .second, .val (.int kq), .val (.double FP.dconst1), .second, .val (.ref b3), .val (.ref b26), .val (.long (((0 : Int64) + ya) + yb)), .second, .unset, .unset, .unset, .unset, .unset, .unset] [(.int (3 : Int32))]))
      refine Go.st (fun _ k' => XS.iconst X248.here hx rfl (hb hby at_147) k') ?_
      show Go p e below s _ _ _ (T248.setTop (mkF m 148 #[.val (.long jx), .second, .val (.long jy), .second, .val (.long jz), .second, .val (.int kr), .val (.int kf), .val (.int (3 : Int32)), .val (.long jt), .second, .val (.long jm), .second, .val (.long ya), .second, .val (.long yb), .second, .val (.long yd), .second, .val (.int kq), .val (.double FP.dconst1), .second, .val (.ref b3), .val (.ref b26), .val (.long (((0 : Int64) + ya) + yb)), .second, .unset, .unset, .unset, .unset, .unset, .unset] [(.int (3 : Int32)), (.int (3 : Int32))]))
      refine Go.st (fun _ k' => XS.icmpNo X248.here hx rfl (hb hby at_148) rfl (XT.ii_lt_f (by decide)) k') ?_
      show Go p e below s _ _ _ (T248.setTop (mkF m 151 #[.val (.long jx), .second, .val (.long jy), .second, .val (.long jz), .second, .val (.int kr), .val (.int kf), .val (.int (3 : Int32)), .val (.long jt), .second, .val (.long jm), .second, .val (.long ya), .second, .val (.long yb), .second, .val (.long yd), .second, .val (.int kq), .val (.double FP.dconst1), .second, .val (.ref b3), .val (.ref b26), .val (.long (((0 : Int64) + ya) + yb)), .second, .unset, .unset, .unset, .unset, .unset, .unset] []))
      refine Go.st (fun _ k' => XS.aload X248.here hx rfl (hb hby at_151) rfl rfl k') ?_
      show Go p e below s _ _ _ (T248.setTop (mkF m 153 #[.val (.long jx), .second, .val (.long jy), .second, .val (.long jz), .second, .val (.int kr), .val (.int kf), .val (.int (3 : Int32)), .val (.long jt), .second, .val (.long jm), .second, .val (.long ya), .second, .val (.long yb), .second, .val (.long yd), .second, .val (.int kq), .val (.double FP.dconst1), .second, .val (.ref b3), .val (.ref b26), .val (.long (((0 : Int64) + ya) + yb)), .second, .unset, .unset, .unset, .unset, .unset, .unset] [(.ref b3)]))
      refine Go.st (fun _ k' => XS.lload X248.here hx rfl (hb hby at_153) rfl k') ?_
      show Go p e below s _ _ _ (T248.setTop (mkF m 155 #[.val (.long jx), .second, .val (.long jy), .second, .val (.long jz), .second, .val (.int kr), .val (.int kf), .val (.int (3 : Int32)), .val (.long jt), .second, .val (.long jm), .second, .val (.long ya), .second, .val (.long yb), .second, .val (.long yd), .second, .val (.int kq), .val (.double FP.dconst1), .second, .val (.ref b3), .val (.ref b26), .val (.long (((0 : Int64) + ya) + yb)), .second, .unset, .unset, .unset, .unset, .unset, .unset] [(.long yd), (.ref b3)]))
      obtain ⟨cq266, kq266, q266a, q266b, q266c⟩ := isOf hZ rfl f258
      obtain ⟨_, _, ⟨T266, L266, k266, n266⟩, -, X266, ⟨Lc266, hQ266, l266, y266, z266⟩, st266⟩ := X248.virtualBack hx (y := (⟨"com/example/spillway/spillway/runtime/LatencyController", "processed", "(J)V"⟩ : MethodName)) (z := (⟨"com/example/spillway/spillway/runtime/LatencyController", "processed", "(J)V"⟩ : MethodName)) hown (mvT hZ (wdx hw 36 rfl)) (mvT hZ (wdx hw 37 rfl)) (notFace_of_selects (args := #[]) (mvT hZ (wdx hw 39 rfl))) (mvT hZ (wdx hw 39 rfl)) (mvT hZ (wdx hw 38 rfl)) (by decide) (backOf (W := 0) (rm5 l Z a0 hw [] b3 yd (((0 : Int64) + ya) + yb) (((0 : Int64) + (1 : Int64)) + (1 : Int64)) (0 : Int64) (FP.l2d (jt * (1000000 : Int64))) FP.dconst1 T248.heap n0 O248 f258 f251 f252 f253 f249 f250 f254 g_b3) hZ (wdx hw 40 rfl) (wdx hw 8 rfl) (by decide) (by decide)) q266a q266c (g := (mkF m 155 #[.val (.long jx), .second, .val (.long jy), .second, .val (.long jz), .second, .val (.int kr), .val (.int kf), .val (.int (3 : Int32)), .val (.long jt), .second, .val (.long jm), .second, .val (.long ya), .second, .val (.long yb), .second, .val (.long yd), .second, .val (.int kq), .val (.double FP.dconst1), .second, .val (.ref b3), .val (.ref b26), .val (.long (((0 : Int64) + ya) + yb)), .second, .unset, .unset, .unset, .unset, .unset, .unset] [(.long yd), (.ref b3)])) rfl (by rw [hml]; rfl) (Steps.refl _) (argsL := [(.long yd)]) (rest := []) (lenOf pd__J_V rfl) rfl (by show 2 * 0 + _ ≤ _; exact Nat.le_of_eq rfl) (hb hby at_155) (fun _ _ => ⟨rfl, rfl, (by exact Nat.le_of_ble_eq_true rfl), (by exact Nat.le_of_ble_eq_true rfl)⟩)
      dsimp only [Pt.U, Pt.locs, Pt.cells, Pt.slots] at X266 l266 y266 z266 st266 hQ266
      subst l266 y266 z266
      obtain ⟨rfl, Nq266, Kq266, f267, f268, f269, f270, f271, f272⟩ := hQ266
      have N266 := Fr.app N248 Nq266
      refine Go.tr st266 ?_
      have f273 : Exa Z T266.heap a_ms "java/util/concurrent/TimeUnit" := f255.keep Kq266
      have f274 : Fld Z T266.heap a_ms "java/util/concurrent/TimeUnit" "scale" "J" (.long (1000000 : Int64)) := f256.keep Kq266 (ninS ne4 nin0)
      have f275 : Fld Z T266.heap a_ms "java/util/concurrent/TimeUnit" "maxNanos" "J" (.long (9223372036854 : Int64)) := f257.keep Kq266 (ninS ne4 nin0)
      have f276 : Exa Z T266.heap b3 "com/example/spillway/spillway/runtime/LatencyController" := f258.keep Kq266
      have f277 : Exa Z T266.heap b26 "com/example/spillway/spillway/runtime/LatencyController" := f259.keep Kq266
      have f278 : Fld Z T266.heap b26 "com/example/spillway/spillway/runtime/LatencyController" "limit" "D" (.double (9221120237041090560 : UInt64)) := f260.keep Kq266 (ninS (Ne.symm ne28) nin0)
      have f279 : Fld Z T266.heap b26 "com/example/spillway/spillway/runtime/LatencyController" "targetNanos" "D" (.double (FP.l2d (jt * (1000000 : Int64)))) := f261.keep Kq266 (ninS (Ne.symm ne28) nin0)
      have f280 : Fld Z T266.heap b26 "com/example/spillway/spillway/runtime/LatencyController" "gain" "D" (.double FP.dconst1) := f262.keep Kq266 (ninS (Ne.symm ne28) nin0)
      have f281 : Fld Z T266.heap b26 "com/example/spillway/spillway/runtime/LatencyController" "latencySum" "J" (.long (0 : Int64)) := f263.keep Kq266 (ninS (Ne.symm ne28) nin0)
      have f282 : Fld Z T266.heap b26 "com/example/spillway/spillway/runtime/LatencyController" "latencyCount" "J" (.long (0 : Int64)) := f264.keep Kq266 (ninS (Ne.symm ne28) nin0)
      have f283 : Fld Z T266.heap b26 "com/example/spillway/spillway/runtime/LatencyController" "decisions" "J" (.long (0 : Int64)) := f265.keep Kq266 (ninS (Ne.symm ne28) nin0)
      have O266 : Old Z n0 T266.heap := O248.keep Kq266 (allS g_b3 all0)
      show Go p e below s _ _ _ (T266.setTop (mkF m 158 #[.val (.long jx), .second, .val (.long jy), .second, .val (.long jz), .second, .val (.int kr), .val (.int kf), .val (.int (3 : Int32)), .val (.long jt), .second, .val (.long jm), .second, .val (.long ya), .second, .val (.long yb), .second, .val (.long yd), .second, .val (.int kq), .val (.double FP.dconst1), .second, .val (.ref b3), .val (.ref b26), .val (.long (((0 : Int64) + ya) + yb)), .second, .unset, .unset, .unset, .unset, .unset, .unset] []))
      refine Go.st (fun _ k' => XS.lload X266.here hx rfl (hb hby at_158) rfl k') ?_
      show Go p e below s _ _ _ (T266.setTop (mkF m 160 #[.val (.long jx), .second, .val (.long jy), .second, .val (.long jz), .second, .val (.int kr), .val (.int kf), .val (.int (3 : Int32)), .val (.long jt), .second, .val (.long jm), .second, .val (.long ya), .second, .val (.long yb), .second, .val (.long yd), .second, .val (.int kq), .val (.double FP.dconst1), .second, .val (.ref b3), .val (.ref b26), .val (.long (((0 : Int64) + ya) + yb)), .second, .unset, .unset, .unset, .unset, .unset, .unset] [(.long (((0 : Int64) + ya) + yb))]))
      refine Go.st (fun _ k' => XS.lload X266.here hx rfl (hb hby at_160) rfl k') ?_
      show Go p e below s _ _ _ (T266.setTop (mkF m 162 #[.val (.long jx), .second, .val (.long jy), .second, .val (.long jz), .second, .val (.int kr), .val (.int kf), .val (.int (3 : Int32)), .val (.long jt), .second, .val (.long jm), .second, .val (.long ya), .second, .val (.long yb), .second, .val (.long yd), .second, .val (.int kq), .val (.double FP.dconst1), .second, .val (.ref b3), .val (.ref b26), .val (.long (((0 : Int64) + ya) + yb)), .second, .unset, .unset, .unset, .unset, .unset, .unset] [(.long yd), (.long (((0 : Int64) + ya) + yb))]))
      refine Go.st (fun _ k' => XS.ladd X266.here hx rfl (hb hby at_162) rfl k') ?_
      show Go p e below s _ _ _ (T266.setTop (mkF m 163 #[.val (.long jx), .second, .val (.long jy), .second, .val (.long jz), .second, .val (.int kr), .val (.int kf), .val (.int (3 : Int32)), .val (.long jt), .second, .val (.long jm), .second, .val (.long ya), .second, .val (.long yb), .second, .val (.long yd), .second, .val (.int kq), .val (.double FP.dconst1), .second, .val (.ref b3), .val (.ref b26), .val (.long (((0 : Int64) + ya) + yb)), .second, .unset, .unset, .unset, .unset, .unset, .unset] [(.long ((((0 : Int64) + ya) + yb) + yd))]))
      refine Go.st (fun _ k' => XS.lstore X266.here hx rfl (hb hby at_163) rfl (l' := #[.val (.long jx), .second, .val (.long jy), .second, .val (.long jz), .second, .val (.int kr), .val (.int kf), .val (.int (3 : Int32)), .val (.long jt), .second, .val (.long jm), .second, .val (.long ya), .second, .val (.long yb), .second, .val (.long yd), .second, .val (.int kq), .val (.double FP.dconst1), .second, .val (.ref b3), .val (.ref b26), .val (.long ((((0 : Int64) + ya) + yb) + yd)), .second, .unset, .unset, .unset, .unset, .unset, .unset]) rfl k') ?_
      show Go p e below s _ _ _ (T266.setTop (mkF m 165 #[.val (.long jx), .second, .val (.long jy), .second, .val (.long jz), .second, .val (.int kr), .val (.int kf), .val (.int (3 : Int32)), .val (.long jt), .second, .val (.long jm), .second, .val (.long ya), .second, .val (.long yb), .second, .val (.long yd), .second, .val (.int kq), .val (.double FP.dconst1), .second, .val (.ref b3), .val (.ref b26), .val (.long ((((0 : Int64) + ya) + yb) + yd)), .second, .unset, .unset, .unset, .unset, .unset, .unset] []))
      refine Go.st (fun _ k' => XS.iload X266.here hx rfl (hb hby at_165) rfl k') ?_
      show Go p e below s _ _ _ (T266.setTop (mkF m 167 #[.val (.long jx), .second, .val (.long jy), .second, .val (.long jz), .second, .val (.int kr), .val (.int kf), .val (.int (3 : Int32)), .val (.long jt), .second, .val (.long jm), .second, .val (.long ya), .second, .val (.long yb), .second, .val (.long yd), .second, .val (.int kq), .val (.double FP.dconst1), .second, .val (.ref b3), .val (.ref b26), .val (.long ((((0 : Int64) + ya) + yb) + yd)), .second, .unset, .unset, .unset, .unset, .unset, .unset] [(.int (3 : Int32))]))
      refine Go.st (fun _ k' => XS.iconst X266.here hx rfl (hb hby at_167) k') ?_
      show Go p e below s _ _ _ (T266.setTop (mkF m 168 #[.val (.long jx), .second, .val (.long jy), .second, .val (.long jz), .second, .val (.int kr), .val (.int kf), .val (.int (3 : Int32)), .val (.long jt), .second, .val (.long jm), .second, .val (.long ya), .second, .val (.long yb), .second, .val (.long yd), .second, .val (.int kq), .val (.double FP.dconst1), .second, .val (.ref b3), .val (.ref b26), .val (.long ((((0 : Int64) + ya) + yb) + yd)), .second, .unset, .unset, .unset, .unset, .unset, .unset] [(.int (1 : Int32)), (.int (3 : Int32))]))
      refine Go.st (fun _ k' => XS.icmpNo X266.here hx rfl (hb hby at_168) rfl (XT.ii_lt_f (by decide)) k') ?_
      show Go p e below s _ _ _ (T266.setTop (mkF m 171 #[.val (.long jx), .second, .val (.long jy), .second, .val (.long jz), .second, .val (.int kr), .val (.int kf), .val (.int (3 : Int32)), .val (.long jt), .second, .val (.long jm), .second, .val (.long ya), .second, .val (.long yb), .second, .val (.long yd), .second, .val (.int kq), .val (.double FP.dconst1), .second, .val (.ref b3), .val (.ref b26), .val (.long ((((0 : Int64) + ya) + yb) + yd)), .second, .unset, .unset, .unset, .unset, .unset, .unset] []))
      refine Go.st (fun _ k' => XS.aload X266.here hx rfl (hb hby at_171) rfl rfl k') ?_
      show Go p e below s _ _ _ (T266.setTop (mkF m 173 #[.val (.long jx), .second, .val (.long jy), .second, .val (.long jz), .second, .val (.int kr), .val (.int kf), .val (.int (3 : Int32)), .val (.long jt), .second, .val (.long jm), .second, .val (.long ya), .second, .val (.long yb), .second, .val (.long yd), .second, .val (.int kq), .val (.double FP.dconst1), .second, .val (.ref b3), .val (.ref b26), .val (.long ((((0 : Int64) + ya) + yb) + yd)), .second, .unset, .unset, .unset, .unset, .unset, .unset] [(.ref b26)]))
      refine Go.st (fun _ k' => XS.lload X266.here hx rfl (hb hby at_173) rfl k') ?_
      show Go p e below s _ _ _ (T266.setTop (mkF m 175 #[.val (.long jx), .second, .val (.long jy), .second, .val (.long jz), .second, .val (.int kr), .val (.int kf), .val (.int (3 : Int32)), .val (.long jt), .second, .val (.long jm), .second, .val (.long ya), .second, .val (.long yb), .second, .val (.long yd), .second, .val (.int kq), .val (.double FP.dconst1), .second, .val (.ref b3), .val (.ref b26), .val (.long ((((0 : Int64) + ya) + yb) + yd)), .second, .unset, .unset, .unset, .unset, .unset, .unset] [(.long ((((0 : Int64) + ya) + yb) + yd)), (.ref b26)]))
      obtain ⟨cq284, kq284, q284a, q284b, q284c⟩ := isOf hZ rfl f277
      obtain ⟨_, _, ⟨T284, L284, k284, n284⟩, -, X284, ⟨Lc284, hQ284, l284, y284, z284⟩, st284⟩ := X266.virtualBack hx (y := (⟨"com/example/spillway/spillway/runtime/LatencyController", "processed", "(J)V"⟩ : MethodName)) (z := (⟨"com/example/spillway/spillway/runtime/LatencyController", "processed", "(J)V"⟩ : MethodName)) hown (mvT hZ (wdx hw 36 rfl)) (mvT hZ (wdx hw 37 rfl)) (notFace_of_selects (args := #[]) (mvT hZ (wdx hw 39 rfl))) (mvT hZ (wdx hw 39 rfl)) (mvT hZ (wdx hw 38 rfl)) (by decide) (backOf (W := 0) (rm5 l Z a0 hw [] b26 ((((0 : Int64) + ya) + yb) + yd) (0 : Int64) (0 : Int64) (0 : Int64) (FP.l2d (jt * (1000000 : Int64))) FP.dconst1 T266.heap n0 O266 f277 f278 f279 f280 f281 f282 f283 g_b26) hZ (wdx hw 40 rfl) (wdx hw 8 rfl) (by decide) (by decide)) q284a q284c (g := (mkF m 175 #[.val (.long jx), .second, .val (.long jy), .second, .val (.long jz), .second, .val (.int kr), .val (.int kf), .val (.int (3 : Int32)), .val (.long jt), .second, .val (.long jm), .second, .val (.long ya), .second, .val (.long yb), .second, .val (.long yd), .second, .val (.int kq), .val (.double FP.dconst1), .second, .val (.ref b3), .val (.ref b26), .val (.long ((((0 : Int64) + ya) + yb) + yd)), .second, .unset, .unset, .unset, .unset, .unset, .unset] [(.long ((((0 : Int64) + ya) + yb) + yd)), (.ref b26)])) rfl (by rw [hml]; rfl) (Steps.refl _) (argsL := [(.long ((((0 : Int64) + ya) + yb) + yd))]) (rest := []) (lenOf pd__J_V rfl) rfl (by show 2 * 0 + _ ≤ _; exact Nat.le_of_eq rfl) (hb hby at_175) (fun _ _ => ⟨rfl, rfl, (by exact Nat.le_of_ble_eq_true rfl), (by exact Nat.le_of_ble_eq_true rfl)⟩)
      dsimp only [Pt.U, Pt.locs, Pt.cells, Pt.slots] at X284 l284 y284 z284 st284 hQ284
      subst l284 y284 z284
      obtain ⟨rfl, Nq284, Kq284, f285, f286, f287, f288, f289, f290⟩ := hQ284
      have N284 := Fr.app N266 Nq284
      refine Go.tr st284 ?_
      have f291 : Exa Z T284.heap a_ms "java/util/concurrent/TimeUnit" := f273.keep Kq284
      have f292 : Fld Z T284.heap a_ms "java/util/concurrent/TimeUnit" "scale" "J" (.long (1000000 : Int64)) := f274.keep Kq284 (ninS ne27 nin0)
      have f293 : Fld Z T284.heap a_ms "java/util/concurrent/TimeUnit" "maxNanos" "J" (.long (9223372036854 : Int64)) := f275.keep Kq284 (ninS ne27 nin0)
      have f294 : Exa Z T284.heap b3 "com/example/spillway/spillway/runtime/LatencyController" := f276.keep Kq284
      have f295 : Exa Z T284.heap b26 "com/example/spillway/spillway/runtime/LatencyController" := f277.keep Kq284
      have f296 : Fld Z T284.heap b3 "com/example/spillway/spillway/runtime/LatencyController" "latencySum" "J" (.long ((((0 : Int64) + ya) + yb) + yd)) := f267.keep Kq284 (ninS ne28 nin0)
      have f297 : Fld Z T284.heap b3 "com/example/spillway/spillway/runtime/LatencyController" "latencyCount" "J" (.long ((((0 : Int64) + (1 : Int64)) + (1 : Int64)) + (1 : Int64))) := f268.keep Kq284 (ninS ne28 nin0)
      have f298 : Fld Z T284.heap b3 "com/example/spillway/spillway/runtime/LatencyController" "limit" "D" (.double (9221120237041090560 : UInt64)) := f269.keep Kq284 (ninS ne28 nin0)
      have f299 : Fld Z T284.heap b3 "com/example/spillway/spillway/runtime/LatencyController" "targetNanos" "D" (.double (FP.l2d (jt * (1000000 : Int64)))) := f270.keep Kq284 (ninS ne28 nin0)
      have f300 : Fld Z T284.heap b3 "com/example/spillway/spillway/runtime/LatencyController" "gain" "D" (.double FP.dconst1) := f271.keep Kq284 (ninS ne28 nin0)
      have f301 : Fld Z T284.heap b3 "com/example/spillway/spillway/runtime/LatencyController" "decisions" "J" (.long (0 : Int64)) := f272.keep Kq284 (ninS ne28 nin0)
      have O284 : Old Z n0 T284.heap := O266.keep Kq284 (allS g_b26 all0)
      show Go p e below s _ _ _ (T284.setTop (mkF m 178 #[.val (.long jx), .second, .val (.long jy), .second, .val (.long jz), .second, .val (.int kr), .val (.int kf), .val (.int (3 : Int32)), .val (.long jt), .second, .val (.long jm), .second, .val (.long ya), .second, .val (.long yb), .second, .val (.long yd), .second, .val (.int kq), .val (.double FP.dconst1), .second, .val (.ref b3), .val (.ref b26), .val (.long ((((0 : Int64) + ya) + yb) + yd)), .second, .unset, .unset, .unset, .unset, .unset, .unset] []))
      refine Go.st (fun _ k' => XS.iload X284.here hx rfl (hb hby at_178) rfl k') ?_
      show Go p e below s _ _ _ (T284.setTop (mkF m 180 #[.val (.long jx), .second, .val (.long jy), .second, .val (.long jz), .second, .val (.int kr), .val (.int kf), .val (.int (3 : Int32)), .val (.long jt), .second, .val (.long jm), .second, .val (.long ya), .second, .val (.long yb), .second, .val (.long yd), .second, .val (.int kq), .val (.double FP.dconst1), .second, .val (.ref b3), .val (.ref b26), .val (.long ((((0 : Int64) + ya) + yb) + yd)), .second, .unset, .unset, .unset, .unset, .unset, .unset] [(.int (3 : Int32))]))
      refine Go.st (fun _ k' => XS.iconst X284.here hx rfl (hb hby at_180) k') ?_
      show Go p e below s _ _ _ (T284.setTop (mkF m 181 #[.val (.long jx), .second, .val (.long jy), .second, .val (.long jz), .second, .val (.int kr), .val (.int kf), .val (.int (3 : Int32)), .val (.long jt), .second, .val (.long jm), .second, .val (.long ya), .second, .val (.long yb), .second, .val (.long yd), .second, .val (.int kq), .val (.double FP.dconst1), .second, .val (.ref b3), .val (.ref b26), .val (.long ((((0 : Int64) + ya) + yb) + yd)), .second, .unset, .unset, .unset, .unset, .unset, .unset] [(.int (2 : Int32)), (.int (3 : Int32))]))
      refine Go.st (fun _ k' => XS.icmpNo X284.here hx rfl (hb hby at_181) rfl (XT.ii_lt_f (by decide)) k') ?_
      show Go p e below s _ _ _ (T284.setTop (mkF m 184 #[.val (.long jx), .second, .val (.long jy), .second, .val (.long jz), .second, .val (.int kr), .val (.int kf), .val (.int (3 : Int32)), .val (.long jt), .second, .val (.long jm), .second, .val (.long ya), .second, .val (.long yb), .second, .val (.long yd), .second, .val (.int kq), .val (.double FP.dconst1), .second, .val (.ref b3), .val (.ref b26), .val (.long ((((0 : Int64) + ya) + yb) + yd)), .second, .unset, .unset, .unset, .unset, .unset, .unset] []))
      refine Go.st (fun _ k' => XS.aload X284.here hx rfl (hb hby at_184) rfl rfl k') ?_
      show Go p e below s _ _ _ (T284.setTop (mkF m 186 #[.val (.long jx), .second, .val (.long jy), .second, .val (.long jz), .second, .val (.int kr), .val (.int kf), .val (.int (3 : Int32)), .val (.long jt), .second, .val (.long jm), .second, .val (.long ya), .second, .val (.long yb), .second, .val (.long yd), .second, .val (.int kq), .val (.double FP.dconst1), .second, .val (.ref b3), .val (.ref b26), .val (.long ((((0 : Int64) + ya) + yb) + yd)), .second, .unset, .unset, .unset, .unset, .unset, .unset] [(.ref b26)]))
      refine Go.st (fun _ k' => XS.lconst X284.here hx rfl (hb hby at_186) k') ?_
      show Go p e below s _ _ _ (T284.setTop (mkF m 187 #[.val (.long jx), .second, .val (.long jy), .second, .val (.long jz), .second, .val (.int kr), .val (.int kf), .val (.int (3 : Int32)), .val (.long jt), .second, .val (.long jm), .second, .val (.long ya), .second, .val (.long yb), .second, .val (.long yd), .second, .val (.int kq), .val (.double FP.dconst1), .second, .val (.ref b3), .val (.ref b26), .val (.long ((((0 : Int64) + ya) + yb) + yd)), .second, .unset, .unset, .unset, .unset, .unset, .unset] [(.long (0 : Int64)), (.ref b26)]))
      obtain ⟨cq302, kq302, q302a, q302b, q302c⟩ := isOf hZ rfl f295
      obtain ⟨_, _, ⟨T302, L302, k302, n302⟩, -, X302, ⟨Lc302, hQ302, l302, y302, z302⟩, st302⟩ := X284.virtualBack hx (y := (⟨"com/example/spillway/spillway/runtime/LatencyController", "processed", "(J)V"⟩ : MethodName)) (z := (⟨"com/example/spillway/spillway/runtime/LatencyController", "processed", "(J)V"⟩ : MethodName)) hown (mvT hZ (wdx hw 36 rfl)) (mvT hZ (wdx hw 37 rfl)) (notFace_of_selects (args := #[]) (mvT hZ (wdx hw 39 rfl))) (mvT hZ (wdx hw 39 rfl)) (mvT hZ (wdx hw 38 rfl)) (by decide) (backOf (W := 0) (rm5 l Z a0 hw [] b26 (0 : Int64) ((0 : Int64) + ((((0 : Int64) + ya) + yb) + yd)) ((0 : Int64) + (1 : Int64)) (0 : Int64) (FP.l2d (jt * (1000000 : Int64))) FP.dconst1 T284.heap n0 O284 f295 f287 f288 f289 f285 f286 f290 g_b26) hZ (wdx hw 40 rfl) (wdx hw 8 rfl) (by decide) (by decide)) q302a q302c (g := (mkF m 187 #[.val (.long jx), .second, .val (.long jy), .second, .val (.long jz), .second, .val (.int kr), .val (.int kf), .val (.int (3 : Int32)), .val (.long jt), .second, .val (.long jm), .second, .val (.long ya), .second, .val (.long yb), .second, .val (.long yd), .second, .val (.int kq), .val (.double FP.dconst1), .second, .val (.ref b3), .val (.ref b26), .val (.long ((((0 : Int64) + ya) + yb) + yd)), .second, .unset, .unset, .unset, .unset, .unset, .unset] [(.long (0 : Int64)), (.ref b26)])) rfl (by rw [hml]; rfl) (Steps.refl _) (argsL := [(.long (0 : Int64))]) (rest := []) (lenOf pd__J_V rfl) rfl (by show 2 * 0 + _ ≤ _; exact Nat.le_of_eq rfl) (hb hby at_187) (fun _ _ => ⟨rfl, rfl, (by exact Nat.le_of_ble_eq_true rfl), (by exact Nat.le_of_ble_eq_true rfl)⟩)
      dsimp only [Pt.U, Pt.locs, Pt.cells, Pt.slots] at X302 l302 y302 z302 st302 hQ302
      subst l302 y302 z302
      obtain ⟨rfl, Nq302, Kq302, f303, f304, f305, f306, f307, f308⟩ := hQ302
      have N302 := Fr.app N284 Nq302
      refine Go.tr st302 ?_
      have f309 : Exa Z T302.heap a_ms "java/util/concurrent/TimeUnit" := f291.keep Kq302
      have f310 : Fld Z T302.heap a_ms "java/util/concurrent/TimeUnit" "scale" "J" (.long (1000000 : Int64)) := f292.keep Kq302 (ninS ne27 nin0)
      have f311 : Fld Z T302.heap a_ms "java/util/concurrent/TimeUnit" "maxNanos" "J" (.long (9223372036854 : Int64)) := f293.keep Kq302 (ninS ne27 nin0)
      have f312 : Exa Z T302.heap b3 "com/example/spillway/spillway/runtime/LatencyController" := f294.keep Kq302
      have f313 : Exa Z T302.heap b26 "com/example/spillway/spillway/runtime/LatencyController" := f295.keep Kq302
      have f314 : Fld Z T302.heap b3 "com/example/spillway/spillway/runtime/LatencyController" "latencySum" "J" (.long ((((0 : Int64) + ya) + yb) + yd)) := f296.keep Kq302 (ninS ne28 nin0)
      have f315 : Fld Z T302.heap b3 "com/example/spillway/spillway/runtime/LatencyController" "latencyCount" "J" (.long ((((0 : Int64) + (1 : Int64)) + (1 : Int64)) + (1 : Int64))) := f297.keep Kq302 (ninS ne28 nin0)
      have f316 : Fld Z T302.heap b3 "com/example/spillway/spillway/runtime/LatencyController" "limit" "D" (.double (9221120237041090560 : UInt64)) := f298.keep Kq302 (ninS ne28 nin0)
      have f317 : Fld Z T302.heap b3 "com/example/spillway/spillway/runtime/LatencyController" "targetNanos" "D" (.double (FP.l2d (jt * (1000000 : Int64)))) := f299.keep Kq302 (ninS ne28 nin0)
      have f318 : Fld Z T302.heap b3 "com/example/spillway/spillway/runtime/LatencyController" "gain" "D" (.double FP.dconst1) := f300.keep Kq302 (ninS ne28 nin0)
      have f319 : Fld Z T302.heap b3 "com/example/spillway/spillway/runtime/LatencyController" "decisions" "J" (.long (0 : Int64)) := f301.keep Kq302 (ninS ne28 nin0)
      have O302 : Old Z n0 T302.heap := O284.keep Kq302 (allS g_b26 all0)
      show Go p e below s _ _ _ (T302.setTop (mkF m 190 #[.val (.long jx), .second, .val (.long jy), .second, .val (.long jz), .second, .val (.int kr), .val (.int kf), .val (.int (3 : Int32)), .val (.long jt), .second, .val (.long jm), .second, .val (.long ya), .second, .val (.long yb), .second, .val (.long yd), .second, .val (.int kq), .val (.double FP.dconst1), .second, .val (.ref b3), .val (.ref b26), .val (.long ((((0 : Int64) + ya) + yb) + yd)), .second, .unset, .unset, .unset, .unset, .unset, .unset] []))
      refine Go.st (fun _ k' => XS.iload X302.here hx rfl (hb hby at_190) rfl k') ?_
      show Go p e below s _ _ _ (T302.setTop (mkF m 192 #[.val (.long jx), .second, .val (.long jy), .second, .val (.long jz), .second, .val (.int kr), .val (.int kf), .val (.int (3 : Int32)), .val (.long jt), .second, .val (.long jm), .second, .val (.long ya), .second, .val (.long yb), .second, .val (.long yd), .second, .val (.int kq), .val (.double FP.dconst1), .second, .val (.ref b3), .val (.ref b26), .val (.long ((((0 : Int64) + ya) + yb) + yd)), .second, .unset, .unset, .unset, .unset, .unset, .unset] [(.int (3 : Int32))]))
      refine Go.st (fun _ k' => XS.iconst X302.here hx rfl (hb hby at_192) k') ?_
      show Go p e below s _ _ _ (T302.setTop (mkF m 193 #[.val (.long jx), .second, .val (.long jy), .second, .val (.long jz), .second, .val (.int kr), .val (.int kf), .val (.int (3 : Int32)), .val (.long jt), .second, .val (.long jm), .second, .val (.long ya), .second, .val (.long yb), .second, .val (.long yd), .second, .val (.int kq), .val (.double FP.dconst1), .second, .val (.ref b3), .val (.ref b26), .val (.long ((((0 : Int64) + ya) + yb) + yd)), .second, .unset, .unset, .unset, .unset, .unset, .unset] [(.int (3 : Int32)), (.int (3 : Int32))]))
      refine Go.st (fun _ k' => XS.icmpNo X302.here hx rfl (hb hby at_193) rfl (XT.ii_lt_f (by decide)) k') ?_
      show Go p e below s _ _ _ (T302.setTop (mkF m 196 #[.val (.long jx), .second, .val (.long jy), .second, .val (.long jz), .second, .val (.int kr), .val (.int kf), .val (.int (3 : Int32)), .val (.long jt), .second, .val (.long jm), .second, .val (.long ya), .second, .val (.long yb), .second, .val (.long yd), .second, .val (.int kq), .val (.double FP.dconst1), .second, .val (.ref b3), .val (.ref b26), .val (.long ((((0 : Int64) + ya) + yb) + yd)), .second, .unset, .unset, .unset, .unset, .unset, .unset] []))
      refine Go.st (fun _ k' => XS.aload X302.here hx rfl (hb hby at_196) rfl rfl k') ?_
      show Go p e below s _ _ _ (T302.setTop (mkF m 198 #[.val (.long jx), .second, .val (.long jy), .second, .val (.long jz), .second, .val (.int kr), .val (.int kf), .val (.int (3 : Int32)), .val (.long jt), .second, .val (.long jm), .second, .val (.long ya), .second, .val (.long yb), .second, .val (.long yd), .second, .val (.int kq), .val (.double FP.dconst1), .second, .val (.ref b3), .val (.ref b26), .val (.long ((((0 : Int64) + ya) + yb) + yd)), .second, .unset, .unset, .unset, .unset, .unset, .unset] [(.ref b26)]))
      refine Go.st (fun _ k' => XS.lconst X302.here hx rfl (hb hby at_198) k') ?_
      show Go p e below s _ _ _ (T302.setTop (mkF m 199 #[.val (.long jx), .second, .val (.long jy), .second, .val (.long jz), .second, .val (.int kr), .val (.int kf), .val (.int (3 : Int32)), .val (.long jt), .second, .val (.long jm), .second, .val (.long ya), .second, .val (.long yb), .second, .val (.long yd), .second, .val (.int kq), .val (.double FP.dconst1), .second, .val (.ref b3), .val (.ref b26), .val (.long ((((0 : Int64) + ya) + yb) + yd)), .second, .unset, .unset, .unset, .unset, .unset, .unset] [(.long (0 : Int64)), (.ref b26)]))
      obtain ⟨cq320, kq320, q320a, q320b, q320c⟩ := isOf hZ rfl f313
      obtain ⟨_, _, ⟨T320, L320, k320, n320⟩, -, X320, ⟨Lc320, hQ320, l320, y320, z320⟩, st320⟩ := X302.virtualBack hx (y := (⟨"com/example/spillway/spillway/runtime/LatencyController", "processed", "(J)V"⟩ : MethodName)) (z := (⟨"com/example/spillway/spillway/runtime/LatencyController", "processed", "(J)V"⟩ : MethodName)) hown (mvT hZ (wdx hw 36 rfl)) (mvT hZ (wdx hw 37 rfl)) (notFace_of_selects (args := #[]) (mvT hZ (wdx hw 39 rfl))) (mvT hZ (wdx hw 39 rfl)) (mvT hZ (wdx hw 38 rfl)) (by decide) (backOf (W := 0) (rm5 l Z a0 hw [] b26 (0 : Int64) (((0 : Int64) + ((((0 : Int64) + ya) + yb) + yd)) + (0 : Int64)) (((0 : Int64) + (1 : Int64)) + (1 : Int64)) (0 : Int64) (FP.l2d (jt * (1000000 : Int64))) FP.dconst1 T302.heap n0 O302 f313 f305 f306 f307 f303 f304 f308 g_b26) hZ (wdx hw 40 rfl) (wdx hw 8 rfl) (by decide) (by decide)) q320a q320c (g := (mkF m 199 #[.val (.long jx), .second, .val (.long jy), .second, .val (.long jz), .second, .val (.int kr), .val (.int kf), .val (.int (3 : Int32)), .val (.long jt), .second, .val (.long jm), .second, .val (.long ya), .second, .val (.long yb), .second, .val (.long yd), .second, .val (.int kq), .val (.double FP.dconst1), .second, .val (.ref b3), .val (.ref b26), .val (.long ((((0 : Int64) + ya) + yb) + yd)), .second, .unset, .unset, .unset, .unset, .unset, .unset] [(.long (0 : Int64)), (.ref b26)])) rfl (by rw [hml]; rfl) (Steps.refl _) (argsL := [(.long (0 : Int64))]) (rest := []) (lenOf pd__J_V rfl) rfl (by show 2 * 0 + _ ≤ _; exact Nat.le_of_eq rfl) (hb hby at_199) (fun _ _ => ⟨rfl, rfl, (by exact Nat.le_of_ble_eq_true rfl), (by exact Nat.le_of_ble_eq_true rfl)⟩)
      dsimp only [Pt.U, Pt.locs, Pt.cells, Pt.slots] at X320 l320 y320 z320 st320 hQ320
      subst l320 y320 z320
      obtain ⟨rfl, Nq320, Kq320, f321, f322, f323, f324, f325, f326⟩ := hQ320
      have N320 := Fr.app N302 Nq320
      refine Go.tr st320 ?_
      have f327 : Exa Z T320.heap a_ms "java/util/concurrent/TimeUnit" := f309.keep Kq320
      have f328 : Fld Z T320.heap a_ms "java/util/concurrent/TimeUnit" "scale" "J" (.long (1000000 : Int64)) := f310.keep Kq320 (ninS ne27 nin0)
      have f329 : Fld Z T320.heap a_ms "java/util/concurrent/TimeUnit" "maxNanos" "J" (.long (9223372036854 : Int64)) := f311.keep Kq320 (ninS ne27 nin0)
      have f330 : Exa Z T320.heap b3 "com/example/spillway/spillway/runtime/LatencyController" := f312.keep Kq320
      have f331 : Exa Z T320.heap b26 "com/example/spillway/spillway/runtime/LatencyController" := f313.keep Kq320
      have f332 : Fld Z T320.heap b3 "com/example/spillway/spillway/runtime/LatencyController" "latencySum" "J" (.long ((((0 : Int64) + ya) + yb) + yd)) := f314.keep Kq320 (ninS ne28 nin0)
      have f333 : Fld Z T320.heap b3 "com/example/spillway/spillway/runtime/LatencyController" "latencyCount" "J" (.long ((((0 : Int64) + (1 : Int64)) + (1 : Int64)) + (1 : Int64))) := f315.keep Kq320 (ninS ne28 nin0)
      have f334 : Fld Z T320.heap b3 "com/example/spillway/spillway/runtime/LatencyController" "limit" "D" (.double (9221120237041090560 : UInt64)) := f316.keep Kq320 (ninS ne28 nin0)
      have f335 : Fld Z T320.heap b3 "com/example/spillway/spillway/runtime/LatencyController" "targetNanos" "D" (.double (FP.l2d (jt * (1000000 : Int64)))) := f317.keep Kq320 (ninS ne28 nin0)
      have f336 : Fld Z T320.heap b3 "com/example/spillway/spillway/runtime/LatencyController" "gain" "D" (.double FP.dconst1) := f318.keep Kq320 (ninS ne28 nin0)
      have f337 : Fld Z T320.heap b3 "com/example/spillway/spillway/runtime/LatencyController" "decisions" "J" (.long (0 : Int64)) := f319.keep Kq320 (ninS ne28 nin0)
      have O320 : Old Z n0 T320.heap := O302.keep Kq320 (allS g_b26 all0)
      show Go p e below s _ _ _ (T320.setTop (mkF m 202 #[.val (.long jx), .second, .val (.long jy), .second, .val (.long jz), .second, .val (.int kr), .val (.int kf), .val (.int (3 : Int32)), .val (.long jt), .second, .val (.long jm), .second, .val (.long ya), .second, .val (.long yb), .second, .val (.long yd), .second, .val (.int kq), .val (.double FP.dconst1), .second, .val (.ref b3), .val (.ref b26), .val (.long ((((0 : Int64) + ya) + yb) + yd)), .second, .unset, .unset, .unset, .unset, .unset, .unset] []))
      refine Go.st (fun _ k' => XS.aload X320.here hx rfl (hb hby at_202) rfl rfl k') ?_
      show Go p e below s _ _ _ (T320.setTop (mkF m 204 #[.val (.long jx), .second, .val (.long jy), .second, .val (.long jz), .second, .val (.int kr), .val (.int kf), .val (.int (3 : Int32)), .val (.long jt), .second, .val (.long jm), .second, .val (.long ya), .second, .val (.long yb), .second, .val (.long yd), .second, .val (.int kq), .val (.double FP.dconst1), .second, .val (.ref b3), .val (.ref b26), .val (.long ((((0 : Int64) + ya) + yb) + yd)), .second, .unset, .unset, .unset, .unset, .unset, .unset] [(.ref b3)]))
      refine Go.st (fun _ k' => XS.iload X320.here hx rfl (hb hby at_204) rfl k') ?_
      show Go p e below s _ _ _ (T320.setTop (mkF m 206 #[.val (.long jx), .second, .val (.long jy), .second, .val (.long jz), .second, .val (.int kr), .val (.int kf), .val (.int (3 : Int32)), .val (.long jt), .second, .val (.long jm), .second, .val (.long ya), .second, .val (.long yb), .second, .val (.long yd), .second, .val (.int kq), .val (.double FP.dconst1), .second, .val (.ref b3), .val (.ref b26), .val (.long ((((0 : Int64) + ya) + yb) + yd)), .second, .unset, .unset, .unset, .unset, .unset, .unset] [(.int kq), (.ref b3)]))
      obtain ⟨cq338, kq338, q338a, q338b, q338c⟩ := isOf hZ rfl f330
      obtain ⟨_, _, ⟨T338, L338, k338, n338⟩, -, X338, ⟨Lc338, hQ338, l338, y338, z338⟩, st338⟩ := X320.virtualBack hx (y := (⟨"com/example/spillway/spillway/runtime/LatencyController", "decide", "(I)I"⟩ : MethodName)) (z := (⟨"com/example/spillway/spillway/runtime/LatencyController", "decide", "(I)I"⟩ : MethodName)) hown (mvT hZ (wdx hw 45 rfl)) (mvT hZ (wdx hw 46 rfl)) (notFace_of_selects (args := #[]) (mvT hZ (wdx hw 48 rfl))) (mvT hZ (wdx hw 48 rfl)) (mvT hZ (wdx hw 47 rfl)) (by decide) (backOf (W := 0) (rm6_1 l Z a0 hw [] b3 kq ((((0 : Int64) + ya) + yb) + yd) ((((0 : Int64) + (1 : Int64)) + (1 : Int64)) + (1 : Int64)) (0 : Int64) (FP.l2d (jt * (1000000 : Int64))) FP.dconst1 T320.heap n0 O320 f330 f334 f335 f336 f332 f333 f337 g_b3 (by decide) (own_fok _ _ _ kq (by decide) (own_t0 r_jt)).1 (own_fok _ _ _ kq (by decide) (own_t0 r_jt)).2.1 (own_rp (own_fok _ _ _ kq (by decide) (own_t0 r_jt)).2.2)) hZ (wdx hw 49 rfl) (wdx hw 8 rfl) (by decide) (by decide)) q338a q338c (g := (mkF m 206 #[.val (.long jx), .second, .val (.long jy), .second, .val (.long jz), .second, .val (.int kr), .val (.int kf), .val (.int (3 : Int32)), .val (.long jt), .second, .val (.long jm), .second, .val (.long ya), .second, .val (.long yb), .second, .val (.long yd), .second, .val (.int kq), .val (.double FP.dconst1), .second, .val (.ref b3), .val (.ref b26), .val (.long ((((0 : Int64) + ya) + yb) + yd)), .second, .unset, .unset, .unset, .unset, .unset, .unset] [(.int kq), (.ref b3)])) rfl (by rw [hml]; rfl) (Steps.refl _) (argsL := [(.int kq)]) (rest := []) (lenOf pd__I_I rfl) rfl (by show 2 * 0 + _ ≤ _; exact Nat.le_of_eq rfl) (hb hby at_206) (fun _ _ => ⟨rfl, rfl, (by exact Nat.le_of_ble_eq_true rfl), (by exact Nat.le_of_ble_eq_true rfl)⟩)
      dsimp only [Pt.U, Pt.locs, Pt.cells, Pt.slots] at X338 l338 y338 z338 st338 hQ338
      subst l338 y338 z338
      obtain ⟨rfl, Nq338, Kq338⟩ := hQ338
      have N338 := Fr.app N320 Nq338
      refine Go.tr st338 ?_
      have f339 : Exa Z T338.heap a_ms "java/util/concurrent/TimeUnit" := f327.keep Kq338
      have f340 : Fld Z T338.heap a_ms "java/util/concurrent/TimeUnit" "scale" "J" (.long (1000000 : Int64)) := f328.keep Kq338 (ninS ne4 nin0)
      have f341 : Fld Z T338.heap a_ms "java/util/concurrent/TimeUnit" "maxNanos" "J" (.long (9223372036854 : Int64)) := f329.keep Kq338 (ninS ne4 nin0)
      have f342 : Exa Z T338.heap b3 "com/example/spillway/spillway/runtime/LatencyController" := f330.keep Kq338
      have f343 : Exa Z T338.heap b26 "com/example/spillway/spillway/runtime/LatencyController" := f331.keep Kq338
      have f344 : Fld Z T338.heap b26 "com/example/spillway/spillway/runtime/LatencyController" "latencySum" "J" (.long ((((0 : Int64) + ((((0 : Int64) + ya) + yb) + yd)) + (0 : Int64)) + (0 : Int64))) := f321.keep Kq338 (ninS (Ne.symm ne28) nin0)
      have f345 : Fld Z T338.heap b26 "com/example/spillway/spillway/runtime/LatencyController" "latencyCount" "J" (.long ((((0 : Int64) + (1 : Int64)) + (1 : Int64)) + (1 : Int64))) := f322.keep Kq338 (ninS (Ne.symm ne28) nin0)
      have f346 : Fld Z T338.heap b26 "com/example/spillway/spillway/runtime/LatencyController" "limit" "D" (.double (9221120237041090560 : UInt64)) := f323.keep Kq338 (ninS (Ne.symm ne28) nin0)
      have f347 : Fld Z T338.heap b26 "com/example/spillway/spillway/runtime/LatencyController" "targetNanos" "D" (.double (FP.l2d (jt * (1000000 : Int64)))) := f324.keep Kq338 (ninS (Ne.symm ne28) nin0)
      have f348 : Fld Z T338.heap b26 "com/example/spillway/spillway/runtime/LatencyController" "gain" "D" (.double FP.dconst1) := f325.keep Kq338 (ninS (Ne.symm ne28) nin0)
      have f349 : Fld Z T338.heap b26 "com/example/spillway/spillway/runtime/LatencyController" "decisions" "J" (.long (0 : Int64)) := f326.keep Kq338 (ninS (Ne.symm ne28) nin0)
      have O338 : Old Z n0 T338.heap := O320.keep Kq338 (allS g_b3 all0)
      show Go p e below s _ _ _ (T338.setTop (mkF m 209 #[.val (.long jx), .second, .val (.long jy), .second, .val (.long jz), .second, .val (.int kr), .val (.int kf), .val (.int (3 : Int32)), .val (.long jt), .second, .val (.long jm), .second, .val (.long ya), .second, .val (.long yb), .second, .val (.long yd), .second, .val (.int kq), .val (.double FP.dconst1), .second, .val (.ref b3), .val (.ref b26), .val (.long ((((0 : Int64) + ya) + yb) + yd)), .second, .unset, .unset, .unset, .unset, .unset, .unset] [(.int (fkeep (fAdj (FP.i2d kq) (FP.ddiv (FP.l2d ((((0 : Int64) + ya) + yb) + yd)) (FP.l2d ((((0 : Int64) + (1 : Int64)) + (1 : Int64)) + (1 : Int64)))) FP.dconst1 (FP.l2d (jt * (1000000 : Int64)))) kq))]))
      refine Go.st (fun _ k' => XS.istore X338.here hx rfl (hb hby at_209) rfl (l' := #[.val (.long jx), .second, .val (.long jy), .second, .val (.long jz), .second, .val (.int kr), .val (.int kf), .val (.int (3 : Int32)), .val (.long jt), .second, .val (.long jm), .second, .val (.long ya), .second, .val (.long yb), .second, .val (.long yd), .second, .val (.int kq), .val (.double FP.dconst1), .second, .val (.ref b3), .val (.ref b26), .val (.long ((((0 : Int64) + ya) + yb) + yd)), .second, .val (.int (fkeep (fAdj (FP.i2d kq) (FP.ddiv (FP.l2d ((((0 : Int64) + ya) + yb) + yd)) (FP.l2d ((((0 : Int64) + (1 : Int64)) + (1 : Int64)) + (1 : Int64)))) FP.dconst1 (FP.l2d (jt * (1000000 : Int64)))) kq)), .unset, .unset, .unset, .unset, .unset]) rfl k') ?_
      show Go p e below s _ _ _ (T338.setTop (mkF m 211 #[.val (.long jx), .second, .val (.long jy), .second, .val (.long jz), .second, .val (.int kr), .val (.int kf), .val (.int (3 : Int32)), .val (.long jt), .second, .val (.long jm), .second, .val (.long ya), .second, .val (.long yb), .second, .val (.long yd), .second, .val (.int kq), .val (.double FP.dconst1), .second, .val (.ref b3), .val (.ref b26), .val (.long ((((0 : Int64) + ya) + yb) + yd)), .second, .val (.int (fkeep (fAdj (FP.i2d kq) (FP.ddiv (FP.l2d ((((0 : Int64) + ya) + yb) + yd)) (FP.l2d ((((0 : Int64) + (1 : Int64)) + (1 : Int64)) + (1 : Int64)))) FP.dconst1 (FP.l2d (jt * (1000000 : Int64)))) kq)), .unset, .unset, .unset, .unset, .unset] []))
      refine Go.st (fun _ k' => XS.aload X338.here hx rfl (hb hby at_211) rfl rfl k') ?_
      show Go p e below s _ _ _ (T338.setTop (mkF m 213 #[.val (.long jx), .second, .val (.long jy), .second, .val (.long jz), .second, .val (.int kr), .val (.int kf), .val (.int (3 : Int32)), .val (.long jt), .second, .val (.long jm), .second, .val (.long ya), .second, .val (.long yb), .second, .val (.long yd), .second, .val (.int kq), .val (.double FP.dconst1), .second, .val (.ref b3), .val (.ref b26), .val (.long ((((0 : Int64) + ya) + yb) + yd)), .second, .val (.int (fkeep (fAdj (FP.i2d kq) (FP.ddiv (FP.l2d ((((0 : Int64) + ya) + yb) + yd)) (FP.l2d ((((0 : Int64) + (1 : Int64)) + (1 : Int64)) + (1 : Int64)))) FP.dconst1 (FP.l2d (jt * (1000000 : Int64)))) kq)), .unset, .unset, .unset, .unset, .unset] [(.ref b26)]))
      refine Go.st (fun _ k' => XS.iload X338.here hx rfl (hb hby at_213) rfl k') ?_
      show Go p e below s _ _ _ (T338.setTop (mkF m 215 #[.val (.long jx), .second, .val (.long jy), .second, .val (.long jz), .second, .val (.int kr), .val (.int kf), .val (.int (3 : Int32)), .val (.long jt), .second, .val (.long jm), .second, .val (.long ya), .second, .val (.long yb), .second, .val (.long yd), .second, .val (.int kq), .val (.double FP.dconst1), .second, .val (.ref b3), .val (.ref b26), .val (.long ((((0 : Int64) + ya) + yb) + yd)), .second, .val (.int (fkeep (fAdj (FP.i2d kq) (FP.ddiv (FP.l2d ((((0 : Int64) + ya) + yb) + yd)) (FP.l2d ((((0 : Int64) + (1 : Int64)) + (1 : Int64)) + (1 : Int64)))) FP.dconst1 (FP.l2d (jt * (1000000 : Int64)))) kq)), .unset, .unset, .unset, .unset, .unset] [(.int kq), (.ref b26)]))
      obtain ⟨cq350, kq350, q350a, q350b, q350c⟩ := isOf hZ rfl f343
      obtain ⟨_, _, ⟨T350, L350, k350, n350⟩, -, X350, ⟨Lc350, hQ350, l350, y350, z350⟩, st350⟩ := X338.virtualBack hx (y := (⟨"com/example/spillway/spillway/runtime/LatencyController", "decide", "(I)I"⟩ : MethodName)) (z := (⟨"com/example/spillway/spillway/runtime/LatencyController", "decide", "(I)I"⟩ : MethodName)) hown (mvT hZ (wdx hw 45 rfl)) (mvT hZ (wdx hw 46 rfl)) (notFace_of_selects (args := #[]) (mvT hZ (wdx hw 48 rfl))) (mvT hZ (wdx hw 48 rfl)) (mvT hZ (wdx hw 47 rfl)) (by decide) (backOf (W := 0) (rm6_1 l Z a0 hw [] b26 kq ((((0 : Int64) + ((((0 : Int64) + ya) + yb) + yd)) + (0 : Int64)) + (0 : Int64)) ((((0 : Int64) + (1 : Int64)) + (1 : Int64)) + (1 : Int64)) (0 : Int64) (FP.l2d (jt * (1000000 : Int64))) FP.dconst1 T338.heap n0 O338 f343 f346 f347 f348 f344 f345 f349 g_b26 (by decide) (own_fok _ _ _ kq (by decide) (own_t0 r_jt)).1 (own_fok _ _ _ kq (by decide) (own_t0 r_jt)).2.1 (own_rp (own_fok _ _ _ kq (by decide) (own_t0 r_jt)).2.2)) hZ (wdx hw 49 rfl) (wdx hw 8 rfl) (by decide) (by decide)) q350a q350c (g := (mkF m 215 #[.val (.long jx), .second, .val (.long jy), .second, .val (.long jz), .second, .val (.int kr), .val (.int kf), .val (.int (3 : Int32)), .val (.long jt), .second, .val (.long jm), .second, .val (.long ya), .second, .val (.long yb), .second, .val (.long yd), .second, .val (.int kq), .val (.double FP.dconst1), .second, .val (.ref b3), .val (.ref b26), .val (.long ((((0 : Int64) + ya) + yb) + yd)), .second, .val (.int (fkeep (fAdj (FP.i2d kq) (FP.ddiv (FP.l2d ((((0 : Int64) + ya) + yb) + yd)) (FP.l2d ((((0 : Int64) + (1 : Int64)) + (1 : Int64)) + (1 : Int64)))) FP.dconst1 (FP.l2d (jt * (1000000 : Int64)))) kq)), .unset, .unset, .unset, .unset, .unset] [(.int kq), (.ref b26)])) rfl (by rw [hml]; rfl) (Steps.refl _) (argsL := [(.int kq)]) (rest := []) (lenOf pd__I_I rfl) rfl (by show 2 * 0 + _ ≤ _; exact Nat.le_of_eq rfl) (hb hby at_215) (fun _ _ => ⟨rfl, rfl, (by exact Nat.le_of_ble_eq_true rfl), (by exact Nat.le_of_ble_eq_true rfl)⟩)
      dsimp only [Pt.U, Pt.locs, Pt.cells, Pt.slots] at X350 l350 y350 z350 st350 hQ350
      subst l350 y350 z350
      obtain ⟨rfl, Nq350, Kq350⟩ := hQ350
      have N350 := Fr.app N338 Nq350
      refine Go.tr st350 ?_
      have f351 : Exa Z T350.heap a_ms "java/util/concurrent/TimeUnit" := f339.keep Kq350
      have f352 : Fld Z T350.heap a_ms "java/util/concurrent/TimeUnit" "scale" "J" (.long (1000000 : Int64)) := f340.keep Kq350 (ninS ne27 nin0)
      have f353 : Fld Z T350.heap a_ms "java/util/concurrent/TimeUnit" "maxNanos" "J" (.long (9223372036854 : Int64)) := f341.keep Kq350 (ninS ne27 nin0)
      have f354 : Exa Z T350.heap b3 "com/example/spillway/spillway/runtime/LatencyController" := f342.keep Kq350
      have f355 : Exa Z T350.heap b26 "com/example/spillway/spillway/runtime/LatencyController" := f343.keep Kq350
      have O350 : Old Z n0 T350.heap := O338.keep Kq350 (allS g_b26 all0)
      show Go p e below s _ _ _ (T350.setTop (mkF m 218 #[.val (.long jx), .second, .val (.long jy), .second, .val (.long jz), .second, .val (.int kr), .val (.int kf), .val (.int (3 : Int32)), .val (.long jt), .second, .val (.long jm), .second, .val (.long ya), .second, .val (.long yb), .second, .val (.long yd), .second, .val (.int kq), .val (.double FP.dconst1), .second, .val (.ref b3), .val (.ref b26), .val (.long ((((0 : Int64) + ya) + yb) + yd)), .second, .val (.int (fkeep (fAdj (FP.i2d kq) (FP.ddiv (FP.l2d ((((0 : Int64) + ya) + yb) + yd)) (FP.l2d ((((0 : Int64) + (1 : Int64)) + (1 : Int64)) + (1 : Int64)))) FP.dconst1 (FP.l2d (jt * (1000000 : Int64)))) kq)), .unset, .unset, .unset, .unset, .unset] [(.int (fkeep (fAdj (FP.i2d kq) (FP.ddiv (FP.l2d ((((0 : Int64) + ((((0 : Int64) + ya) + yb) + yd)) + (0 : Int64)) + (0 : Int64))) (FP.l2d ((((0 : Int64) + (1 : Int64)) + (1 : Int64)) + (1 : Int64)))) FP.dconst1 (FP.l2d (jt * (1000000 : Int64)))) kq))]))
      refine Go.st (fun _ k' => XS.istore X350.here hx rfl (hb hby at_218) rfl (l' := #[.val (.long jx), .second, .val (.long jy), .second, .val (.long jz), .second, .val (.int kr), .val (.int kf), .val (.int (3 : Int32)), .val (.long jt), .second, .val (.long jm), .second, .val (.long ya), .second, .val (.long yb), .second, .val (.long yd), .second, .val (.int kq), .val (.double FP.dconst1), .second, .val (.ref b3), .val (.ref b26), .val (.long ((((0 : Int64) + ya) + yb) + yd)), .second, .val (.int (fkeep (fAdj (FP.i2d kq) (FP.ddiv (FP.l2d ((((0 : Int64) + ya) + yb) + yd)) (FP.l2d ((((0 : Int64) + (1 : Int64)) + (1 : Int64)) + (1 : Int64)))) FP.dconst1 (FP.l2d (jt * (1000000 : Int64)))) kq)), .val (.int (fkeep (fAdj (FP.i2d kq) (FP.ddiv (FP.l2d ((((0 : Int64) + ((((0 : Int64) + ya) + yb) + yd)) + (0 : Int64)) + (0 : Int64))) (FP.l2d ((((0 : Int64) + (1 : Int64)) + (1 : Int64)) + (1 : Int64)))) FP.dconst1 (FP.l2d (jt * (1000000 : Int64)))) kq)), .unset, .unset, .unset, .unset]) rfl k') ?_
      show Go p e below s _ _ _ (T350.setTop (mkF m 220 #[.val (.long jx), .second, .val (.long jy), .second, .val (.long jz), .second, .val (.int kr), .val (.int kf), .val (.int (3 : Int32)), .val (.long jt), .second, .val (.long jm), .second, .val (.long ya), .second, .val (.long yb), .second, .val (.long yd), .second, .val (.int kq), .val (.double FP.dconst1), .second, .val (.ref b3), .val (.ref b26), .val (.long ((((0 : Int64) + ya) + yb) + yd)), .second, .val (.int (fkeep (fAdj (FP.i2d kq) (FP.ddiv (FP.l2d ((((0 : Int64) + ya) + yb) + yd)) (FP.l2d ((((0 : Int64) + (1 : Int64)) + (1 : Int64)) + (1 : Int64)))) FP.dconst1 (FP.l2d (jt * (1000000 : Int64)))) kq)), .val (.int (fkeep (fAdj (FP.i2d kq) (FP.ddiv (FP.l2d ((((0 : Int64) + ((((0 : Int64) + ya) + yb) + yd)) + (0 : Int64)) + (0 : Int64))) (FP.l2d ((((0 : Int64) + (1 : Int64)) + (1 : Int64)) + (1 : Int64)))) FP.dconst1 (FP.l2d (jt * (1000000 : Int64)))) kq)), .unset, .unset, .unset, .unset] []))
      have w_a : (fkeep (fAdj (FP.i2d kq) (FP.ddiv (FP.l2d ((((0 : Int64) + ya) + yb) + yd)) (FP.l2d ((((0 : Int64) + (1 : Int64)) + (1 : Int64)) + (1 : Int64)))) FP.dconst1 (FP.l2d (jt * (1000000 : Int64)))) kq) = (fkeep (fAdj (FP.i2d kq) (FP.ddiv (FP.l2d ((((0 : Int64) + ((((0 : Int64) + ya) + yb) + yd)) + (0 : Int64)) + (0 : Int64))) (FP.l2d ((((0 : Int64) + (1 : Int64)) + (1 : Int64)) + (1 : Int64)))) FP.dconst1 (FP.l2d (jt * (1000000 : Int64)))) kq) := by simp only [Int64.zero_add, Int64.add_zero]
      obtain ⟨w_b, w_c, w_d, w_e⟩ := own_law1 (S := ((((0 : Int64) + ya) + yb) + yd)) (C := ((((0 : Int64) + (1 : Int64)) + (1 : Int64)) + (1 : Int64))) (cl := (3 : Int32)) (have z := (own_sd r_ya r_yb r_yd); ⟨z.1, Int.lt_of_lt_of_le z.2 (by decide)⟩) (by decide) (by decide) r_jt r_kq
      show Go p e below s _ _ _ (T350.setTop (mkF m 220 #[.val (.long jx), .second, .val (.long jy), .second, .val (.long jz), .second, .val (.int kr), .val (.int kf), .val (.int (3 : Int32)), .val (.long jt), .second, .val (.long jm), .second, .val (.long ya), .second, .val (.long yb), .second, .val (.long yd), .second, .val (.int kq), .val (.double FP.dconst1), .second, .val (.ref b3), .val (.ref b26), .val (.long ((((0 : Int64) + ya) + yb) + yd)), .second, .val (.int (fkeep (fAdj (FP.i2d kq) (FP.ddiv (FP.l2d ((((0 : Int64) + ya) + yb) + yd)) (FP.l2d ((((0 : Int64) + (1 : Int64)) + (1 : Int64)) + (1 : Int64)))) FP.dconst1 (FP.l2d (jt * (1000000 : Int64)))) kq)), .val (.int (fkeep (fAdj (FP.i2d kq) (FP.ddiv (FP.l2d ((((0 : Int64) + ((((0 : Int64) + ya) + yb) + yd)) + (0 : Int64)) + (0 : Int64))) (FP.l2d ((((0 : Int64) + (1 : Int64)) + (1 : Int64)) + (1 : Int64)))) FP.dconst1 (FP.l2d (jt * (1000000 : Int64)))) kq)), .unset, .unset, .unset, .unset] []))
      refine Go.st (fun _ k' => XS.iload X350.here hx rfl (hb hby at_220) rfl k') ?_
      show Go p e below s _ _ _ (T350.setTop (mkF m 222 #[.val (.long jx), .second, .val (.long jy), .second, .val (.long jz), .second, .val (.int kr), .val (.int kf), .val (.int (3 : Int32)), .val (.long jt), .second, .val (.long jm), .second, .val (.long ya), .second, .val (.long yb), .second, .val (.long yd), .second, .val (.int kq), .val (.double FP.dconst1), .second, .val (.ref b3), .val (.ref b26), .val (.long ((((0 : Int64) + ya) + yb) + yd)), .second, .val (.int (fkeep (fAdj (FP.i2d kq) (FP.ddiv (FP.l2d ((((0 : Int64) + ya) + yb) + yd)) (FP.l2d ((((0 : Int64) + (1 : Int64)) + (1 : Int64)) + (1 : Int64)))) FP.dconst1 (FP.l2d (jt * (1000000 : Int64)))) kq)), .val (.int (fkeep (fAdj (FP.i2d kq) (FP.ddiv (FP.l2d ((((0 : Int64) + ((((0 : Int64) + ya) + yb) + yd)) + (0 : Int64)) + (0 : Int64))) (FP.l2d ((((0 : Int64) + (1 : Int64)) + (1 : Int64)) + (1 : Int64)))) FP.dconst1 (FP.l2d (jt * (1000000 : Int64)))) kq)), .unset, .unset, .unset, .unset] [(.int (fkeep (fAdj (FP.i2d kq) (FP.ddiv (FP.l2d ((((0 : Int64) + ya) + yb) + yd)) (FP.l2d ((((0 : Int64) + (1 : Int64)) + (1 : Int64)) + (1 : Int64)))) FP.dconst1 (FP.l2d (jt * (1000000 : Int64)))) kq))]))
      refine Go.st (fun _ k' => XS.iload X350.here hx rfl (hb hby at_222) rfl k') ?_
      show Go p e below s _ _ _ (T350.setTop (mkF m 224 #[.val (.long jx), .second, .val (.long jy), .second, .val (.long jz), .second, .val (.int kr), .val (.int kf), .val (.int (3 : Int32)), .val (.long jt), .second, .val (.long jm), .second, .val (.long ya), .second, .val (.long yb), .second, .val (.long yd), .second, .val (.int kq), .val (.double FP.dconst1), .second, .val (.ref b3), .val (.ref b26), .val (.long ((((0 : Int64) + ya) + yb) + yd)), .second, .val (.int (fkeep (fAdj (FP.i2d kq) (FP.ddiv (FP.l2d ((((0 : Int64) + ya) + yb) + yd)) (FP.l2d ((((0 : Int64) + (1 : Int64)) + (1 : Int64)) + (1 : Int64)))) FP.dconst1 (FP.l2d (jt * (1000000 : Int64)))) kq)), .val (.int (fkeep (fAdj (FP.i2d kq) (FP.ddiv (FP.l2d ((((0 : Int64) + ((((0 : Int64) + ya) + yb) + yd)) + (0 : Int64)) + (0 : Int64))) (FP.l2d ((((0 : Int64) + (1 : Int64)) + (1 : Int64)) + (1 : Int64)))) FP.dconst1 (FP.l2d (jt * (1000000 : Int64)))) kq)), .unset, .unset, .unset, .unset] [(.int (fkeep (fAdj (FP.i2d kq) (FP.ddiv (FP.l2d ((((0 : Int64) + ((((0 : Int64) + ya) + yb) + yd)) + (0 : Int64)) + (0 : Int64))) (FP.l2d ((((0 : Int64) + (1 : Int64)) + (1 : Int64)) + (1 : Int64)))) FP.dconst1 (FP.l2d (jt * (1000000 : Int64)))) kq)), (.int (fkeep (fAdj (FP.i2d kq) (FP.ddiv (FP.l2d ((((0 : Int64) + ya) + yb) + yd)) (FP.l2d ((((0 : Int64) + (1 : Int64)) + (1 : Int64)) + (1 : Int64)))) FP.dconst1 (FP.l2d (jt * (1000000 : Int64)))) kq))]))
      refine Go.st (fun _ k' => XS.icmpYes X350.here hx rfl (pc0 := 224) (pc' := 229) rfl (hb hby at_224) rfl (XT.ii_eq_t w_a) (by decide) (by decide) k') ?_
      show Go p e below s _ _ _ (T350.setTop (mkF m 229 #[.val (.long jx), .second, .val (.long jy), .second, .val (.long jz), .second, .val (.int kr), .val (.int kf), .val (.int (3 : Int32)), .val (.long jt), .second, .val (.long jm), .second, .val (.long ya), .second, .val (.long yb), .second, .val (.long yd), .second, .val (.int kq), .val (.double FP.dconst1), .second, .val (.ref b3), .val (.ref b26), .val (.long ((((0 : Int64) + ya) + yb) + yd)), .second, .val (.int (fkeep (fAdj (FP.i2d kq) (FP.ddiv (FP.l2d ((((0 : Int64) + ya) + yb) + yd)) (FP.l2d ((((0 : Int64) + (1 : Int64)) + (1 : Int64)) + (1 : Int64)))) FP.dconst1 (FP.l2d (jt * (1000000 : Int64)))) kq)), .val (.int (fkeep (fAdj (FP.i2d kq) (FP.ddiv (FP.l2d ((((0 : Int64) + ((((0 : Int64) + ya) + yb) + yd)) + (0 : Int64)) + (0 : Int64))) (FP.l2d ((((0 : Int64) + (1 : Int64)) + (1 : Int64)) + (1 : Int64)))) FP.dconst1 (FP.l2d (jt * (1000000 : Int64)))) kq)), .unset, .unset, .unset, .unset] []))
      refine Go.st (fun _ k' => XS.iload X350.here hx rfl (hb hby at_229) rfl k') ?_
      show Go p e below s _ _ _ (T350.setTop (mkF m 231 #[.val (.long jx), .second, .val (.long jy), .second, .val (.long jz), .second, .val (.int kr), .val (.int kf), .val (.int (3 : Int32)), .val (.long jt), .second, .val (.long jm), .second, .val (.long ya), .second, .val (.long yb), .second, .val (.long yd), .second, .val (.int kq), .val (.double FP.dconst1), .second, .val (.ref b3), .val (.ref b26), .val (.long ((((0 : Int64) + ya) + yb) + yd)), .second, .val (.int (fkeep (fAdj (FP.i2d kq) (FP.ddiv (FP.l2d ((((0 : Int64) + ya) + yb) + yd)) (FP.l2d ((((0 : Int64) + (1 : Int64)) + (1 : Int64)) + (1 : Int64)))) FP.dconst1 (FP.l2d (jt * (1000000 : Int64)))) kq)), .val (.int (fkeep (fAdj (FP.i2d kq) (FP.ddiv (FP.l2d ((((0 : Int64) + ((((0 : Int64) + ya) + yb) + yd)) + (0 : Int64)) + (0 : Int64))) (FP.l2d ((((0 : Int64) + (1 : Int64)) + (1 : Int64)) + (1 : Int64)))) FP.dconst1 (FP.l2d (jt * (1000000 : Int64)))) kq)), .unset, .unset, .unset, .unset] [(.int (fkeep (fAdj (FP.i2d kq) (FP.ddiv (FP.l2d ((((0 : Int64) + ya) + yb) + yd)) (FP.l2d ((((0 : Int64) + (1 : Int64)) + (1 : Int64)) + (1 : Int64)))) FP.dconst1 (FP.l2d (jt * (1000000 : Int64)))) kq))]))
      refine Go.st (fun _ k' => XS.iconst X350.here hx rfl (hb hby at_231) k') ?_
      show Go p e below s _ _ _ (T350.setTop (mkF m 232 #[.val (.long jx), .second, .val (.long jy), .second, .val (.long jz), .second, .val (.int kr), .val (.int kf), .val (.int (3 : Int32)), .val (.long jt), .second, .val (.long jm), .second, .val (.long ya), .second, .val (.long yb), .second, .val (.long yd), .second, .val (.int kq), .val (.double FP.dconst1), .second, .val (.ref b3), .val (.ref b26), .val (.long ((((0 : Int64) + ya) + yb) + yd)), .second, .val (.int (fkeep (fAdj (FP.i2d kq) (FP.ddiv (FP.l2d ((((0 : Int64) + ya) + yb) + yd)) (FP.l2d ((((0 : Int64) + (1 : Int64)) + (1 : Int64)) + (1 : Int64)))) FP.dconst1 (FP.l2d (jt * (1000000 : Int64)))) kq)), .val (.int (fkeep (fAdj (FP.i2d kq) (FP.ddiv (FP.l2d ((((0 : Int64) + ((((0 : Int64) + ya) + yb) + yd)) + (0 : Int64)) + (0 : Int64))) (FP.l2d ((((0 : Int64) + (1 : Int64)) + (1 : Int64)) + (1 : Int64)))) FP.dconst1 (FP.l2d (jt * (1000000 : Int64)))) kq)), .unset, .unset, .unset, .unset] [(.int (1 : Int32)), (.int (fkeep (fAdj (FP.i2d kq) (FP.ddiv (FP.l2d ((((0 : Int64) + ya) + yb) + yd)) (FP.l2d ((((0 : Int64) + (1 : Int64)) + (1 : Int64)) + (1 : Int64)))) FP.dconst1 (FP.l2d (jt * (1000000 : Int64)))) kq))]))
      refine Go.st (fun _ k' => XS.icmpNo X350.here hx rfl (hb hby at_232) rfl (XT.ii_lt_f w_b) k') ?_
      show Go p e below s _ _ _ (T350.setTop (mkF m 235 #[.val (.long jx), .second, .val (.long jy), .second, .val (.long jz), .second, .val (.int kr), .val (.int kf), .val (.int (3 : Int32)), .val (.long jt), .second, .val (.long jm), .second, .val (.long ya), .second, .val (.long yb), .second, .val (.long yd), .second, .val (.int kq), .val (.double FP.dconst1), .second, .val (.ref b3), .val (.ref b26), .val (.long ((((0 : Int64) + ya) + yb) + yd)), .second, .val (.int (fkeep (fAdj (FP.i2d kq) (FP.ddiv (FP.l2d ((((0 : Int64) + ya) + yb) + yd)) (FP.l2d ((((0 : Int64) + (1 : Int64)) + (1 : Int64)) + (1 : Int64)))) FP.dconst1 (FP.l2d (jt * (1000000 : Int64)))) kq)), .val (.int (fkeep (fAdj (FP.i2d kq) (FP.ddiv (FP.l2d ((((0 : Int64) + ((((0 : Int64) + ya) + yb) + yd)) + (0 : Int64)) + (0 : Int64))) (FP.l2d ((((0 : Int64) + (1 : Int64)) + (1 : Int64)) + (1 : Int64)))) FP.dconst1 (FP.l2d (jt * (1000000 : Int64)))) kq)), .unset, .unset, .unset, .unset] []))
      refine Go.st (fun _ k' => XS.iload X350.here hx rfl (hb hby at_235) rfl k') ?_
      show Go p e below s _ _ _ (T350.setTop (mkF m 237 #[.val (.long jx), .second, .val (.long jy), .second, .val (.long jz), .second, .val (.int kr), .val (.int kf), .val (.int (3 : Int32)), .val (.long jt), .second, .val (.long jm), .second, .val (.long ya), .second, .val (.long yb), .second, .val (.long yd), .second, .val (.int kq), .val (.double FP.dconst1), .second, .val (.ref b3), .val (.ref b26), .val (.long ((((0 : Int64) + ya) + yb) + yd)), .second, .val (.int (fkeep (fAdj (FP.i2d kq) (FP.ddiv (FP.l2d ((((0 : Int64) + ya) + yb) + yd)) (FP.l2d ((((0 : Int64) + (1 : Int64)) + (1 : Int64)) + (1 : Int64)))) FP.dconst1 (FP.l2d (jt * (1000000 : Int64)))) kq)), .val (.int (fkeep (fAdj (FP.i2d kq) (FP.ddiv (FP.l2d ((((0 : Int64) + ((((0 : Int64) + ya) + yb) + yd)) + (0 : Int64)) + (0 : Int64))) (FP.l2d ((((0 : Int64) + (1 : Int64)) + (1 : Int64)) + (1 : Int64)))) FP.dconst1 (FP.l2d (jt * (1000000 : Int64)))) kq)), .unset, .unset, .unset, .unset] [(.int (fkeep (fAdj (FP.i2d kq) (FP.ddiv (FP.l2d ((((0 : Int64) + ya) + yb) + yd)) (FP.l2d ((((0 : Int64) + (1 : Int64)) + (1 : Int64)) + (1 : Int64)))) FP.dconst1 (FP.l2d (jt * (1000000 : Int64)))) kq))]))
      refine Go.st (fun _ k' => XS.iload X350.here hx rfl (hb hby at_237) rfl k') ?_
      show Go p e below s _ _ _ (T350.setTop (mkF m 239 #[.val (.long jx), .second, .val (.long jy), .second, .val (.long jz), .second, .val (.int kr), .val (.int kf), .val (.int (3 : Int32)), .val (.long jt), .second, .val (.long jm), .second, .val (.long ya), .second, .val (.long yb), .second, .val (.long yd), .second, .val (.int kq), .val (.double FP.dconst1), .second, .val (.ref b3), .val (.ref b26), .val (.long ((((0 : Int64) + ya) + yb) + yd)), .second, .val (.int (fkeep (fAdj (FP.i2d kq) (FP.ddiv (FP.l2d ((((0 : Int64) + ya) + yb) + yd)) (FP.l2d ((((0 : Int64) + (1 : Int64)) + (1 : Int64)) + (1 : Int64)))) FP.dconst1 (FP.l2d (jt * (1000000 : Int64)))) kq)), .val (.int (fkeep (fAdj (FP.i2d kq) (FP.ddiv (FP.l2d ((((0 : Int64) + ((((0 : Int64) + ya) + yb) + yd)) + (0 : Int64)) + (0 : Int64))) (FP.l2d ((((0 : Int64) + (1 : Int64)) + (1 : Int64)) + (1 : Int64)))) FP.dconst1 (FP.l2d (jt * (1000000 : Int64)))) kq)), .unset, .unset, .unset, .unset] [(.int kq), (.int (fkeep (fAdj (FP.i2d kq) (FP.ddiv (FP.l2d ((((0 : Int64) + ya) + yb) + yd)) (FP.l2d ((((0 : Int64) + (1 : Int64)) + (1 : Int64)) + (1 : Int64)))) FP.dconst1 (FP.l2d (jt * (1000000 : Int64)))) kq))]))
      refine Go.st (fun _ k' => XS.icmpYes X350.here hx rfl (pc0 := 239) (pc' := 244) rfl (hb hby at_239) rfl (XT.ii_le_t w_c) (by decide) (by decide) k') ?_
      show Go p e below s _ _ _ (T350.setTop (mkF m 244 #[.val (.long jx), .second, .val (.long jy), .second, .val (.long jz), .second, .val (.int kr), .val (.int kf), .val (.int (3 : Int32)), .val (.long jt), .second, .val (.long jm), .second, .val (.long ya), .second, .val (.long yb), .second, .val (.long yd), .second, .val (.int kq), .val (.double FP.dconst1), .second, .val (.ref b3), .val (.ref b26), .val (.long ((((0 : Int64) + ya) + yb) + yd)), .second, .val (.int (fkeep (fAdj (FP.i2d kq) (FP.ddiv (FP.l2d ((((0 : Int64) + ya) + yb) + yd)) (FP.l2d ((((0 : Int64) + (1 : Int64)) + (1 : Int64)) + (1 : Int64)))) FP.dconst1 (FP.l2d (jt * (1000000 : Int64)))) kq)), .val (.int (fkeep (fAdj (FP.i2d kq) (FP.ddiv (FP.l2d ((((0 : Int64) + ((((0 : Int64) + ya) + yb) + yd)) + (0 : Int64)) + (0 : Int64))) (FP.l2d ((((0 : Int64) + (1 : Int64)) + (1 : Int64)) + (1 : Int64)))) FP.dconst1 (FP.l2d (jt * (1000000 : Int64)))) kq)), .unset, .unset, .unset, .unset] []))
      refine Go.st (fun _ k' => XS.lload X350.here hx rfl (hb hby at_244) rfl k') ?_
      show Go p e below s _ _ _ (T350.setTop (mkF m 246 #[.val (.long jx), .second, .val (.long jy), .second, .val (.long jz), .second, .val (.int kr), .val (.int kf), .val (.int (3 : Int32)), .val (.long jt), .second, .val (.long jm), .second, .val (.long ya), .second, .val (.long yb), .second, .val (.long yd), .second, .val (.int kq), .val (.double FP.dconst1), .second, .val (.ref b3), .val (.ref b26), .val (.long ((((0 : Int64) + ya) + yb) + yd)), .second, .val (.int (fkeep (fAdj (FP.i2d kq) (FP.ddiv (FP.l2d ((((0 : Int64) + ya) + yb) + yd)) (FP.l2d ((((0 : Int64) + (1 : Int64)) + (1 : Int64)) + (1 : Int64)))) FP.dconst1 (FP.l2d (jt * (1000000 : Int64)))) kq)), .val (.int (fkeep (fAdj (FP.i2d kq) (FP.ddiv (FP.l2d ((((0 : Int64) + ((((0 : Int64) + ya) + yb) + yd)) + (0 : Int64)) + (0 : Int64))) (FP.l2d ((((0 : Int64) + (1 : Int64)) + (1 : Int64)) + (1 : Int64)))) FP.dconst1 (FP.l2d (jt * (1000000 : Int64)))) kq)), .unset, .unset, .unset, .unset] [(.long jt)]))
      refine Go.st (fun _ k' => X350.ldc2J hx hown (mvT hZ (wdx hw 77 rfl)) rfl (hb hby at_246) k') ?_
      show Go p e below s _ _ _ (T350.setTop (mkF m 249 #[.val (.long jx), .second, .val (.long jy), .second, .val (.long jz), .second, .val (.int kr), .val (.int kf), .val (.int (3 : Int32)), .val (.long jt), .second, .val (.long jm), .second, .val (.long ya), .second, .val (.long yb), .second, .val (.long yd), .second, .val (.int kq), .val (.double FP.dconst1), .second, .val (.ref b3), .val (.ref b26), .val (.long ((((0 : Int64) + ya) + yb) + yd)), .second, .val (.int (fkeep (fAdj (FP.i2d kq) (FP.ddiv (FP.l2d ((((0 : Int64) + ya) + yb) + yd)) (FP.l2d ((((0 : Int64) + (1 : Int64)) + (1 : Int64)) + (1 : Int64)))) FP.dconst1 (FP.l2d (jt * (1000000 : Int64)))) kq)), .val (.int (fkeep (fAdj (FP.i2d kq) (FP.ddiv (FP.l2d ((((0 : Int64) + ((((0 : Int64) + ya) + yb) + yd)) + (0 : Int64)) + (0 : Int64))) (FP.l2d ((((0 : Int64) + (1 : Int64)) + (1 : Int64)) + (1 : Int64)))) FP.dconst1 (FP.l2d (jt * (1000000 : Int64)))) kq)), .unset, .unset, .unset, .unset] [(.long (1000000 : Int64)), (.long jt)]))
      refine Go.st (fun _ k' => XS.lmul X350.here hx rfl (hb hby at_249) rfl k') ?_
      show Go p e below s _ _ _ (T350.setTop (mkF m 250 #[.val (.long jx), .second, .val (.long jy), .second, .val (.long jz), .second, .val (.int kr), .val (.int kf), .val (.int (3 : Int32)), .val (.long jt), .second, .val (.long jm), .second, .val (.long ya), .second, .val (.long yb), .second, .val (.long yd), .second, .val (.int kq), .val (.double FP.dconst1), .second, .val (.ref b3), .val (.ref b26), .val (.long ((((0 : Int64) + ya) + yb) + yd)), .second, .val (.int (fkeep (fAdj (FP.i2d kq) (FP.ddiv (FP.l2d ((((0 : Int64) + ya) + yb) + yd)) (FP.l2d ((((0 : Int64) + (1 : Int64)) + (1 : Int64)) + (1 : Int64)))) FP.dconst1 (FP.l2d (jt * (1000000 : Int64)))) kq)), .val (.int (fkeep (fAdj (FP.i2d kq) (FP.ddiv (FP.l2d ((((0 : Int64) + ((((0 : Int64) + ya) + yb) + yd)) + (0 : Int64)) + (0 : Int64))) (FP.l2d ((((0 : Int64) + (1 : Int64)) + (1 : Int64)) + (1 : Int64)))) FP.dconst1 (FP.l2d (jt * (1000000 : Int64)))) kq)), .unset, .unset, .unset, .unset] [(.long (jt * (1000000 : Int64)))]))
      refine Go.st (fun _ k' => XS.lstore X350.here hx rfl (hb hby at_250) rfl (l' := #[.val (.long jx), .second, .val (.long jy), .second, .val (.long jz), .second, .val (.int kr), .val (.int kf), .val (.int (3 : Int32)), .val (.long jt), .second, .val (.long jm), .second, .val (.long ya), .second, .val (.long yb), .second, .val (.long yd), .second, .val (.int kq), .val (.double FP.dconst1), .second, .val (.ref b3), .val (.ref b26), .val (.long ((((0 : Int64) + ya) + yb) + yd)), .second, .val (.int (fkeep (fAdj (FP.i2d kq) (FP.ddiv (FP.l2d ((((0 : Int64) + ya) + yb) + yd)) (FP.l2d ((((0 : Int64) + (1 : Int64)) + (1 : Int64)) + (1 : Int64)))) FP.dconst1 (FP.l2d (jt * (1000000 : Int64)))) kq)), .val (.int (fkeep (fAdj (FP.i2d kq) (FP.ddiv (FP.l2d ((((0 : Int64) + ((((0 : Int64) + ya) + yb) + yd)) + (0 : Int64)) + (0 : Int64))) (FP.l2d ((((0 : Int64) + (1 : Int64)) + (1 : Int64)) + (1 : Int64)))) FP.dconst1 (FP.l2d (jt * (1000000 : Int64)))) kq)), .val (.long (jt * (1000000 : Int64))), .second, .unset, .unset]) rfl k') ?_
      show Go p e below s _ _ _ (T350.setTop (mkF m 252 #[.val (.long jx), .second, .val (.long jy), .second, .val (.long jz), .second, .val (.int kr), .val (.int kf), .val (.int (3 : Int32)), .val (.long jt), .second, .val (.long jm), .second, .val (.long ya), .second, .val (.long yb), .second, .val (.long yd), .second, .val (.int kq), .val (.double FP.dconst1), .second, .val (.ref b3), .val (.ref b26), .val (.long ((((0 : Int64) + ya) + yb) + yd)), .second, .val (.int (fkeep (fAdj (FP.i2d kq) (FP.ddiv (FP.l2d ((((0 : Int64) + ya) + yb) + yd)) (FP.l2d ((((0 : Int64) + (1 : Int64)) + (1 : Int64)) + (1 : Int64)))) FP.dconst1 (FP.l2d (jt * (1000000 : Int64)))) kq)), .val (.int (fkeep (fAdj (FP.i2d kq) (FP.ddiv (FP.l2d ((((0 : Int64) + ((((0 : Int64) + ya) + yb) + yd)) + (0 : Int64)) + (0 : Int64))) (FP.l2d ((((0 : Int64) + (1 : Int64)) + (1 : Int64)) + (1 : Int64)))) FP.dconst1 (FP.l2d (jt * (1000000 : Int64)))) kq)), .val (.long (jt * (1000000 : Int64))), .second, .unset, .unset] []))
      refine Go.st (fun _ k' => XS.iload X350.here hx rfl (hb hby at_252) rfl k') ?_
      show Go p e below s _ _ _ (T350.setTop (mkF m 254 #[.val (.long jx), .second, .val (.long jy), .second, .val (.long jz), .second, .val (.int kr), .val (.int kf), .val (.int (3 : Int32)), .val (.long jt), .second, .val (.long jm), .second, .val (.long ya), .second, .val (.long yb), .second, .val (.long yd), .second, .val (.int kq), .val (.double FP.dconst1), .second, .val (.ref b3), .val (.ref b26), .val (.long ((((0 : Int64) + ya) + yb) + yd)), .second, .val (.int (fkeep (fAdj (FP.i2d kq) (FP.ddiv (FP.l2d ((((0 : Int64) + ya) + yb) + yd)) (FP.l2d ((((0 : Int64) + (1 : Int64)) + (1 : Int64)) + (1 : Int64)))) FP.dconst1 (FP.l2d (jt * (1000000 : Int64)))) kq)), .val (.int (fkeep (fAdj (FP.i2d kq) (FP.ddiv (FP.l2d ((((0 : Int64) + ((((0 : Int64) + ya) + yb) + yd)) + (0 : Int64)) + (0 : Int64))) (FP.l2d ((((0 : Int64) + (1 : Int64)) + (1 : Int64)) + (1 : Int64)))) FP.dconst1 (FP.l2d (jt * (1000000 : Int64)))) kq)), .val (.long (jt * (1000000 : Int64))), .second, .unset, .unset] [(.int (3 : Int32))]))
      refine Go.st (fun _ k' => XS.i2l X350.here hx rfl (hb hby at_254) rfl k') ?_
      show Go p e below s _ _ _ (T350.setTop (mkF m 255 #[.val (.long jx), .second, .val (.long jy), .second, .val (.long jz), .second, .val (.int kr), .val (.int kf), .val (.int (3 : Int32)), .val (.long jt), .second, .val (.long jm), .second, .val (.long ya), .second, .val (.long yb), .second, .val (.long yd), .second, .val (.int kq), .val (.double FP.dconst1), .second, .val (.ref b3), .val (.ref b26), .val (.long ((((0 : Int64) + ya) + yb) + yd)), .second, .val (.int (fkeep (fAdj (FP.i2d kq) (FP.ddiv (FP.l2d ((((0 : Int64) + ya) + yb) + yd)) (FP.l2d ((((0 : Int64) + (1 : Int64)) + (1 : Int64)) + (1 : Int64)))) FP.dconst1 (FP.l2d (jt * (1000000 : Int64)))) kq)), .val (.int (fkeep (fAdj (FP.i2d kq) (FP.ddiv (FP.l2d ((((0 : Int64) + ((((0 : Int64) + ya) + yb) + yd)) + (0 : Int64)) + (0 : Int64))) (FP.l2d ((((0 : Int64) + (1 : Int64)) + (1 : Int64)) + (1 : Int64)))) FP.dconst1 (FP.l2d (jt * (1000000 : Int64)))) kq)), .val (.long (jt * (1000000 : Int64))), .second, .unset, .unset] [(.long ((3 : Int32).toInt64))]))
      refine Go.st (fun _ k' => XS.lstore X350.here hx rfl (hb hby at_255) rfl (l' := #[.val (.long jx), .second, .val (.long jy), .second, .val (.long jz), .second, .val (.int kr), .val (.int kf), .val (.int (3 : Int32)), .val (.long jt), .second, .val (.long jm), .second, .val (.long ya), .second, .val (.long yb), .second, .val (.long yd), .second, .val (.int kq), .val (.double FP.dconst1), .second, .val (.ref b3), .val (.ref b26), .val (.long ((((0 : Int64) + ya) + yb) + yd)), .second, .val (.int (fkeep (fAdj (FP.i2d kq) (FP.ddiv (FP.l2d ((((0 : Int64) + ya) + yb) + yd)) (FP.l2d ((((0 : Int64) + (1 : Int64)) + (1 : Int64)) + (1 : Int64)))) FP.dconst1 (FP.l2d (jt * (1000000 : Int64)))) kq)), .val (.int (fkeep (fAdj (FP.i2d kq) (FP.ddiv (FP.l2d ((((0 : Int64) + ((((0 : Int64) + ya) + yb) + yd)) + (0 : Int64)) + (0 : Int64))) (FP.l2d ((((0 : Int64) + (1 : Int64)) + (1 : Int64)) + (1 : Int64)))) FP.dconst1 (FP.l2d (jt * (1000000 : Int64)))) kq)), .val (.long (jt * (1000000 : Int64))), .second, .val (.long ((3 : Int32).toInt64)), .second]) rfl k') ?_
      show Go p e below s _ _ _ (T350.setTop (mkF m 257 #[.val (.long jx), .second, .val (.long jy), .second, .val (.long jz), .second, .val (.int kr), .val (.int kf), .val (.int (3 : Int32)), .val (.long jt), .second, .val (.long jm), .second, .val (.long ya), .second, .val (.long yb), .second, .val (.long yd), .second, .val (.int kq), .val (.double FP.dconst1), .second, .val (.ref b3), .val (.ref b26), .val (.long ((((0 : Int64) + ya) + yb) + yd)), .second, .val (.int (fkeep (fAdj (FP.i2d kq) (FP.ddiv (FP.l2d ((((0 : Int64) + ya) + yb) + yd)) (FP.l2d ((((0 : Int64) + (1 : Int64)) + (1 : Int64)) + (1 : Int64)))) FP.dconst1 (FP.l2d (jt * (1000000 : Int64)))) kq)), .val (.int (fkeep (fAdj (FP.i2d kq) (FP.ddiv (FP.l2d ((((0 : Int64) + ((((0 : Int64) + ya) + yb) + yd)) + (0 : Int64)) + (0 : Int64))) (FP.l2d ((((0 : Int64) + (1 : Int64)) + (1 : Int64)) + (1 : Int64)))) FP.dconst1 (FP.l2d (jt * (1000000 : Int64)))) kq)), .val (.long (jt * (1000000 : Int64))), .second, .val (.long ((3 : Int32).toInt64)), .second] []))
      refine Go.st (fun _ k' => XS.lload X350.here hx rfl (hb hby at_257) rfl k') ?_
      show Go p e below s _ _ _ (T350.setTop (mkF m 259 #[.val (.long jx), .second, .val (.long jy), .second, .val (.long jz), .second, .val (.int kr), .val (.int kf), .val (.int (3 : Int32)), .val (.long jt), .second, .val (.long jm), .second, .val (.long ya), .second, .val (.long yb), .second, .val (.long yd), .second, .val (.int kq), .val (.double FP.dconst1), .second, .val (.ref b3), .val (.ref b26), .val (.long ((((0 : Int64) + ya) + yb) + yd)), .second, .val (.int (fkeep (fAdj (FP.i2d kq) (FP.ddiv (FP.l2d ((((0 : Int64) + ya) + yb) + yd)) (FP.l2d ((((0 : Int64) + (1 : Int64)) + (1 : Int64)) + (1 : Int64)))) FP.dconst1 (FP.l2d (jt * (1000000 : Int64)))) kq)), .val (.int (fkeep (fAdj (FP.i2d kq) (FP.ddiv (FP.l2d ((((0 : Int64) + ((((0 : Int64) + ya) + yb) + yd)) + (0 : Int64)) + (0 : Int64))) (FP.l2d ((((0 : Int64) + (1 : Int64)) + (1 : Int64)) + (1 : Int64)))) FP.dconst1 (FP.l2d (jt * (1000000 : Int64)))) kq)), .val (.long (jt * (1000000 : Int64))), .second, .val (.long ((3 : Int32).toInt64)), .second] [(.long ((((0 : Int64) + ya) + yb) + yd))]))
      refine Go.st (fun _ k' => XS.lload X350.here hx rfl (hb hby at_259) rfl k') ?_
      show Go p e below s _ _ _ (T350.setTop (mkF m 261 #[.val (.long jx), .second, .val (.long jy), .second, .val (.long jz), .second, .val (.int kr), .val (.int kf), .val (.int (3 : Int32)), .val (.long jt), .second, .val (.long jm), .second, .val (.long ya), .second, .val (.long yb), .second, .val (.long yd), .second, .val (.int kq), .val (.double FP.dconst1), .second, .val (.ref b3), .val (.ref b26), .val (.long ((((0 : Int64) + ya) + yb) + yd)), .second, .val (.int (fkeep (fAdj (FP.i2d kq) (FP.ddiv (FP.l2d ((((0 : Int64) + ya) + yb) + yd)) (FP.l2d ((((0 : Int64) + (1 : Int64)) + (1 : Int64)) + (1 : Int64)))) FP.dconst1 (FP.l2d (jt * (1000000 : Int64)))) kq)), .val (.int (fkeep (fAdj (FP.i2d kq) (FP.ddiv (FP.l2d ((((0 : Int64) + ((((0 : Int64) + ya) + yb) + yd)) + (0 : Int64)) + (0 : Int64))) (FP.l2d ((((0 : Int64) + (1 : Int64)) + (1 : Int64)) + (1 : Int64)))) FP.dconst1 (FP.l2d (jt * (1000000 : Int64)))) kq)), .val (.long (jt * (1000000 : Int64))), .second, .val (.long ((3 : Int32).toInt64)), .second] [(.long ((3 : Int32).toInt64)), (.long ((((0 : Int64) + ya) + yb) + yd))]))
      refine Go.st (fun _ k' => XS.lload X350.here hx rfl (hb hby at_261) rfl k') ?_
      show Go p e below s _ _ _ (T350.setTop (mkF m 263 #[.val (.long jx), .second, .val (.long jy), .second, .val (.long jz), .second, .val (.int kr), .val (.int kf), .val (.int (3 : Int32)), .val (.long jt), .second, .val (.long jm), .second, .val (.long ya), .second, .val (.long yb), .second, .val (.long yd), .second, .val (.int kq), .val (.double FP.dconst1), .second, .val (.ref b3), .val (.ref b26), .val (.long ((((0 : Int64) + ya) + yb) + yd)), .second, .val (.int (fkeep (fAdj (FP.i2d kq) (FP.ddiv (FP.l2d ((((0 : Int64) + ya) + yb) + yd)) (FP.l2d ((((0 : Int64) + (1 : Int64)) + (1 : Int64)) + (1 : Int64)))) FP.dconst1 (FP.l2d (jt * (1000000 : Int64)))) kq)), .val (.int (fkeep (fAdj (FP.i2d kq) (FP.ddiv (FP.l2d ((((0 : Int64) + ((((0 : Int64) + ya) + yb) + yd)) + (0 : Int64)) + (0 : Int64))) (FP.l2d ((((0 : Int64) + (1 : Int64)) + (1 : Int64)) + (1 : Int64)))) FP.dconst1 (FP.l2d (jt * (1000000 : Int64)))) kq)), .val (.long (jt * (1000000 : Int64))), .second, .val (.long ((3 : Int32).toInt64)), .second] [(.long (jt * (1000000 : Int64))), (.long ((3 : Int32).toInt64)), (.long ((((0 : Int64) + ya) + yb) + yd))]))
      refine Go.st (fun _ k' => XS.lmul X350.here hx rfl (hb hby at_263) rfl k') ?_
      show Go p e below s _ _ _ (T350.setTop (mkF m 264 #[.val (.long jx), .second, .val (.long jy), .second, .val (.long jz), .second, .val (.int kr), .val (.int kf), .val (.int (3 : Int32)), .val (.long jt), .second, .val (.long jm), .second, .val (.long ya), .second, .val (.long yb), .second, .val (.long yd), .second, .val (.int kq), .val (.double FP.dconst1), .second, .val (.ref b3), .val (.ref b26), .val (.long ((((0 : Int64) + ya) + yb) + yd)), .second, .val (.int (fkeep (fAdj (FP.i2d kq) (FP.ddiv (FP.l2d ((((0 : Int64) + ya) + yb) + yd)) (FP.l2d ((((0 : Int64) + (1 : Int64)) + (1 : Int64)) + (1 : Int64)))) FP.dconst1 (FP.l2d (jt * (1000000 : Int64)))) kq)), .val (.int (fkeep (fAdj (FP.i2d kq) (FP.ddiv (FP.l2d ((((0 : Int64) + ((((0 : Int64) + ya) + yb) + yd)) + (0 : Int64)) + (0 : Int64))) (FP.l2d ((((0 : Int64) + (1 : Int64)) + (1 : Int64)) + (1 : Int64)))) FP.dconst1 (FP.l2d (jt * (1000000 : Int64)))) kq)), .val (.long (jt * (1000000 : Int64))), .second, .val (.long ((3 : Int32).toInt64)), .second] [(.long (((3 : Int32).toInt64) * (jt * (1000000 : Int64)))), (.long ((((0 : Int64) + ya) + yb) + yd))]))
      refine Go.st (fun _ k' => XT.lcmp X350.here hx rfl (hb hby at_264) rfl k') ?_
      show Go p e below s _ _ _ (T350.setTop (mkF m 265 #[.val (.long jx), .second, .val (.long jy), .second, .val (.long jz), .second, .val (.int kr), .val (.int kf), .val (.int (3 : Int32)), .val (.long jt), .second, .val (.long jm), .second, .val (.long ya), .second, .val (.long yb), .second, .val (.long yd), .second, .val (.int kq), .val (.double FP.dconst1), .second, .val (.ref b3), .val (.ref b26), .val (.long ((((0 : Int64) + ya) + yb) + yd)), .second, .val (.int (fkeep (fAdj (FP.i2d kq) (FP.ddiv (FP.l2d ((((0 : Int64) + ya) + yb) + yd)) (FP.l2d ((((0 : Int64) + (1 : Int64)) + (1 : Int64)) + (1 : Int64)))) FP.dconst1 (FP.l2d (jt * (1000000 : Int64)))) kq)), .val (.int (fkeep (fAdj (FP.i2d kq) (FP.ddiv (FP.l2d ((((0 : Int64) + ((((0 : Int64) + ya) + yb) + yd)) + (0 : Int64)) + (0 : Int64))) (FP.l2d ((((0 : Int64) + (1 : Int64)) + (1 : Int64)) + (1 : Int64)))) FP.dconst1 (FP.l2d (jt * (1000000 : Int64)))) kq)), .val (.long (jt * (1000000 : Int64))), .second, .val (.long ((3 : Int32).toInt64)), .second] [(.int (XT.cmpL ((((0 : Int64) + ya) + yb) + yd) (((3 : Int32).toInt64) * (jt * (1000000 : Int64)))))]))
      by_cases hc356 : (((3 : Int32).toInt64) * (jt * (1000000 : Int64))) < ((((0 : Int64) + ya) + yb) + yd)
      · refine Go.st (fun _ k' => XS.ifYes X350.here hx rfl (pc0 := 265) (pc' := 281) rfl (hb hby at_265) rfl (XT.ll_gt_t hc356) (by decide) (by decide) k') ?_
        show Go p e below s _ _ _ (T350.setTop (mkF m 281 #[.val (.long jx), .second, .val (.long jy), .second, .val (.long jz), .second, .val (.int kr), .val (.int kf), .val (.int (3 : Int32)), .val (.long jt), .second, .val (.long jm), .second, .val (.long ya), .second, .val (.long yb), .second, .val (.long yd), .second, .val (.int kq), .val (.double FP.dconst1), .second, .val (.ref b3), .val (.ref b26), .val (.long ((((0 : Int64) + ya) + yb) + yd)), .second, .val (.int (fkeep (fAdj (FP.i2d kq) (FP.ddiv (FP.l2d ((((0 : Int64) + ya) + yb) + yd)) (FP.l2d ((((0 : Int64) + (1 : Int64)) + (1 : Int64)) + (1 : Int64)))) FP.dconst1 (FP.l2d (jt * (1000000 : Int64)))) kq)), .val (.int (fkeep (fAdj (FP.i2d kq) (FP.ddiv (FP.l2d ((((0 : Int64) + ((((0 : Int64) + ya) + yb) + yd)) + (0 : Int64)) + (0 : Int64))) (FP.l2d ((((0 : Int64) + (1 : Int64)) + (1 : Int64)) + (1 : Int64)))) FP.dconst1 (FP.l2d (jt * (1000000 : Int64)))) kq)), .val (.long (jt * (1000000 : Int64))), .second, .val (.long ((3 : Int32).toInt64)), .second] []))
        refine Go.st (fun _ k' => XS.lload X350.here hx rfl (hb hby at_281) rfl k') ?_
        show Go p e below s _ _ _ (T350.setTop (mkF m 283 #[.val (.long jx), .second, .val (.long jy), .second, .val (.long jz), .second, .val (.int kr), .val (.int kf), .val (.int (3 : Int32)), .val (.long jt), .second, .val (.long jm), .second, .val (.long ya), .second, .val (.long yb), .second, .val (.long yd), .second, .val (.int kq), .val (.double FP.dconst1), .second, .val (.ref b3), .val (.ref b26), .val (.long ((((0 : Int64) + ya) + yb) + yd)), .second, .val (.int (fkeep (fAdj (FP.i2d kq) (FP.ddiv (FP.l2d ((((0 : Int64) + ya) + yb) + yd)) (FP.l2d ((((0 : Int64) + (1 : Int64)) + (1 : Int64)) + (1 : Int64)))) FP.dconst1 (FP.l2d (jt * (1000000 : Int64)))) kq)), .val (.int (fkeep (fAdj (FP.i2d kq) (FP.ddiv (FP.l2d ((((0 : Int64) + ((((0 : Int64) + ya) + yb) + yd)) + (0 : Int64)) + (0 : Int64))) (FP.l2d ((((0 : Int64) + (1 : Int64)) + (1 : Int64)) + (1 : Int64)))) FP.dconst1 (FP.l2d (jt * (1000000 : Int64)))) kq)), .val (.long (jt * (1000000 : Int64))), .second, .val (.long ((3 : Int32).toInt64)), .second] [(.long ((((0 : Int64) + ya) + yb) + yd))]))
        refine Go.st (fun _ k' => X350.ldc2J hx hown (mvT hZ (wdx hw 78 rfl)) rfl (hb hby at_283) k') ?_
        show Go p e below s _ _ _ (T350.setTop (mkF m 286 #[.val (.long jx), .second, .val (.long jy), .second, .val (.long jz), .second, .val (.int kr), .val (.int kf), .val (.int (3 : Int32)), .val (.long jt), .second, .val (.long jm), .second, .val (.long ya), .second, .val (.long yb), .second, .val (.long yd), .second, .val (.int kq), .val (.double FP.dconst1), .second, .val (.ref b3), .val (.ref b26), .val (.long ((((0 : Int64) + ya) + yb) + yd)), .second, .val (.int (fkeep (fAdj (FP.i2d kq) (FP.ddiv (FP.l2d ((((0 : Int64) + ya) + yb) + yd)) (FP.l2d ((((0 : Int64) + (1 : Int64)) + (1 : Int64)) + (1 : Int64)))) FP.dconst1 (FP.l2d (jt * (1000000 : Int64)))) kq)), .val (.int (fkeep (fAdj (FP.i2d kq) (FP.ddiv (FP.l2d ((((0 : Int64) + ((((0 : Int64) + ya) + yb) + yd)) + (0 : Int64)) + (0 : Int64))) (FP.l2d ((((0 : Int64) + (1 : Int64)) + (1 : Int64)) + (1 : Int64)))) FP.dconst1 (FP.l2d (jt * (1000000 : Int64)))) kq)), .val (.long (jt * (1000000 : Int64))), .second, .val (.long ((3 : Int32).toInt64)), .second] [(.long (2 : Int64)), (.long ((((0 : Int64) + ya) + yb) + yd))]))
        refine Go.st (fun _ k' => XS.lload X350.here hx rfl (hb hby at_286) rfl k') ?_
        show Go p e below s _ _ _ (T350.setTop (mkF m 288 #[.val (.long jx), .second, .val (.long jy), .second, .val (.long jz), .second, .val (.int kr), .val (.int kf), .val (.int (3 : Int32)), .val (.long jt), .second, .val (.long jm), .second, .val (.long ya), .second, .val (.long yb), .second, .val (.long yd), .second, .val (.int kq), .val (.double FP.dconst1), .second, .val (.ref b3), .val (.ref b26), .val (.long ((((0 : Int64) + ya) + yb) + yd)), .second, .val (.int (fkeep (fAdj (FP.i2d kq) (FP.ddiv (FP.l2d ((((0 : Int64) + ya) + yb) + yd)) (FP.l2d ((((0 : Int64) + (1 : Int64)) + (1 : Int64)) + (1 : Int64)))) FP.dconst1 (FP.l2d (jt * (1000000 : Int64)))) kq)), .val (.int (fkeep (fAdj (FP.i2d kq) (FP.ddiv (FP.l2d ((((0 : Int64) + ((((0 : Int64) + ya) + yb) + yd)) + (0 : Int64)) + (0 : Int64))) (FP.l2d ((((0 : Int64) + (1 : Int64)) + (1 : Int64)) + (1 : Int64)))) FP.dconst1 (FP.l2d (jt * (1000000 : Int64)))) kq)), .val (.long (jt * (1000000 : Int64))), .second, .val (.long ((3 : Int32).toInt64)), .second] [(.long ((3 : Int32).toInt64)), (.long (2 : Int64)), (.long ((((0 : Int64) + ya) + yb) + yd))]))
        refine Go.st (fun _ k' => XS.lmul X350.here hx rfl (hb hby at_288) rfl k') ?_
        show Go p e below s _ _ _ (T350.setTop (mkF m 289 #[.val (.long jx), .second, .val (.long jy), .second, .val (.long jz), .second, .val (.int kr), .val (.int kf), .val (.int (3 : Int32)), .val (.long jt), .second, .val (.long jm), .second, .val (.long ya), .second, .val (.long yb), .second, .val (.long yd), .second, .val (.int kq), .val (.double FP.dconst1), .second, .val (.ref b3), .val (.ref b26), .val (.long ((((0 : Int64) + ya) + yb) + yd)), .second, .val (.int (fkeep (fAdj (FP.i2d kq) (FP.ddiv (FP.l2d ((((0 : Int64) + ya) + yb) + yd)) (FP.l2d ((((0 : Int64) + (1 : Int64)) + (1 : Int64)) + (1 : Int64)))) FP.dconst1 (FP.l2d (jt * (1000000 : Int64)))) kq)), .val (.int (fkeep (fAdj (FP.i2d kq) (FP.ddiv (FP.l2d ((((0 : Int64) + ((((0 : Int64) + ya) + yb) + yd)) + (0 : Int64)) + (0 : Int64))) (FP.l2d ((((0 : Int64) + (1 : Int64)) + (1 : Int64)) + (1 : Int64)))) FP.dconst1 (FP.l2d (jt * (1000000 : Int64)))) kq)), .val (.long (jt * (1000000 : Int64))), .second, .val (.long ((3 : Int32).toInt64)), .second] [(.long ((2 : Int64) * ((3 : Int32).toInt64))), (.long ((((0 : Int64) + ya) + yb) + yd))]))
        refine Go.st (fun _ k' => XS.lload X350.here hx rfl (hb hby at_289) rfl k') ?_
        show Go p e below s _ _ _ (T350.setTop (mkF m 291 #[.val (.long jx), .second, .val (.long jy), .second, .val (.long jz), .second, .val (.int kr), .val (.int kf), .val (.int (3 : Int32)), .val (.long jt), .second, .val (.long jm), .second, .val (.long ya), .second, .val (.long yb), .second, .val (.long yd), .second, .val (.int kq), .val (.double FP.dconst1), .second, .val (.ref b3), .val (.ref b26), .val (.long ((((0 : Int64) + ya) + yb) + yd)), .second, .val (.int (fkeep (fAdj (FP.i2d kq) (FP.ddiv (FP.l2d ((((0 : Int64) + ya) + yb) + yd)) (FP.l2d ((((0 : Int64) + (1 : Int64)) + (1 : Int64)) + (1 : Int64)))) FP.dconst1 (FP.l2d (jt * (1000000 : Int64)))) kq)), .val (.int (fkeep (fAdj (FP.i2d kq) (FP.ddiv (FP.l2d ((((0 : Int64) + ((((0 : Int64) + ya) + yb) + yd)) + (0 : Int64)) + (0 : Int64))) (FP.l2d ((((0 : Int64) + (1 : Int64)) + (1 : Int64)) + (1 : Int64)))) FP.dconst1 (FP.l2d (jt * (1000000 : Int64)))) kq)), .val (.long (jt * (1000000 : Int64))), .second, .val (.long ((3 : Int32).toInt64)), .second] [(.long (jt * (1000000 : Int64))), (.long ((2 : Int64) * ((3 : Int32).toInt64))), (.long ((((0 : Int64) + ya) + yb) + yd))]))
        refine Go.st (fun _ k' => XS.lmul X350.here hx rfl (hb hby at_291) rfl k') ?_
        show Go p e below s _ _ _ (T350.setTop (mkF m 292 #[.val (.long jx), .second, .val (.long jy), .second, .val (.long jz), .second, .val (.int kr), .val (.int kf), .val (.int (3 : Int32)), .val (.long jt), .second, .val (.long jm), .second, .val (.long ya), .second, .val (.long yb), .second, .val (.long yd), .second, .val (.int kq), .val (.double FP.dconst1), .second, .val (.ref b3), .val (.ref b26), .val (.long ((((0 : Int64) + ya) + yb) + yd)), .second, .val (.int (fkeep (fAdj (FP.i2d kq) (FP.ddiv (FP.l2d ((((0 : Int64) + ya) + yb) + yd)) (FP.l2d ((((0 : Int64) + (1 : Int64)) + (1 : Int64)) + (1 : Int64)))) FP.dconst1 (FP.l2d (jt * (1000000 : Int64)))) kq)), .val (.int (fkeep (fAdj (FP.i2d kq) (FP.ddiv (FP.l2d ((((0 : Int64) + ((((0 : Int64) + ya) + yb) + yd)) + (0 : Int64)) + (0 : Int64))) (FP.l2d ((((0 : Int64) + (1 : Int64)) + (1 : Int64)) + (1 : Int64)))) FP.dconst1 (FP.l2d (jt * (1000000 : Int64)))) kq)), .val (.long (jt * (1000000 : Int64))), .second, .val (.long ((3 : Int32).toInt64)), .second] [(.long (((2 : Int64) * ((3 : Int32).toInt64)) * (jt * (1000000 : Int64)))), (.long ((((0 : Int64) + ya) + yb) + yd))]))
        refine Go.st (fun _ k' => XT.lcmp X350.here hx rfl (hb hby at_292) rfl k') ?_
        show Go p e below s _ _ _ (T350.setTop (mkF m 293 #[.val (.long jx), .second, .val (.long jy), .second, .val (.long jz), .second, .val (.int kr), .val (.int kf), .val (.int (3 : Int32)), .val (.long jt), .second, .val (.long jm), .second, .val (.long ya), .second, .val (.long yb), .second, .val (.long yd), .second, .val (.int kq), .val (.double FP.dconst1), .second, .val (.ref b3), .val (.ref b26), .val (.long ((((0 : Int64) + ya) + yb) + yd)), .second, .val (.int (fkeep (fAdj (FP.i2d kq) (FP.ddiv (FP.l2d ((((0 : Int64) + ya) + yb) + yd)) (FP.l2d ((((0 : Int64) + (1 : Int64)) + (1 : Int64)) + (1 : Int64)))) FP.dconst1 (FP.l2d (jt * (1000000 : Int64)))) kq)), .val (.int (fkeep (fAdj (FP.i2d kq) (FP.ddiv (FP.l2d ((((0 : Int64) + ((((0 : Int64) + ya) + yb) + yd)) + (0 : Int64)) + (0 : Int64))) (FP.l2d ((((0 : Int64) + (1 : Int64)) + (1 : Int64)) + (1 : Int64)))) FP.dconst1 (FP.l2d (jt * (1000000 : Int64)))) kq)), .val (.long (jt * (1000000 : Int64))), .second, .val (.long ((3 : Int32).toInt64)), .second] [(.int (XT.cmpL ((((0 : Int64) + ya) + yb) + yd) (((2 : Int64) * ((3 : Int32).toInt64)) * (jt * (1000000 : Int64)))))]))
        by_cases hc357 : ((((0 : Int64) + ya) + yb) + yd) < (((2 : Int64) * ((3 : Int32).toInt64)) * (jt * (1000000 : Int64)))
        · refine Go.st (fun _ k' => XS.ifYes X350.here hx rfl (pc0 := 293) (pc' := 308) rfl (hb hby at_293) rfl (XT.ll_lt_t hc357) (by decide) (by decide) k') ?_
          show Go p e below s _ _ _ (T350.setTop (mkF m 308 #[.val (.long jx), .second, .val (.long jy), .second, .val (.long jz), .second, .val (.int kr), .val (.int kf), .val (.int (3 : Int32)), .val (.long jt), .second, .val (.long jm), .second, .val (.long ya), .second, .val (.long yb), .second, .val (.long yd), .second, .val (.int kq), .val (.double FP.dconst1), .second, .val (.ref b3), .val (.ref b26), .val (.long ((((0 : Int64) + ya) + yb) + yd)), .second, .val (.int (fkeep (fAdj (FP.i2d kq) (FP.ddiv (FP.l2d ((((0 : Int64) + ya) + yb) + yd)) (FP.l2d ((((0 : Int64) + (1 : Int64)) + (1 : Int64)) + (1 : Int64)))) FP.dconst1 (FP.l2d (jt * (1000000 : Int64)))) kq)), .val (.int (fkeep (fAdj (FP.i2d kq) (FP.ddiv (FP.l2d ((((0 : Int64) + ((((0 : Int64) + ya) + yb) + yd)) + (0 : Int64)) + (0 : Int64))) (FP.l2d ((((0 : Int64) + (1 : Int64)) + (1 : Int64)) + (1 : Int64)))) FP.dconst1 (FP.l2d (jt * (1000000 : Int64)))) kq)), .val (.long (jt * (1000000 : Int64))), .second, .val (.long ((3 : Int32).toInt64)), .second] []))
          refine Go.st (fun _ k' => XS.iconst X350.here hx rfl (hb hby at_308) k') ?_
          show Go p e below s _ _ _ (T350.setTop (mkF m 309 #[.val (.long jx), .second, .val (.long jy), .second, .val (.long jz), .second, .val (.int kr), .val (.int kf), .val (.int (3 : Int32)), .val (.long jt), .second, .val (.long jm), .second, .val (.long ya), .second, .val (.long yb), .second, .val (.long yd), .second, .val (.int kq), .val (.double FP.dconst1), .second, .val (.ref b3), .val (.ref b26), .val (.long ((((0 : Int64) + ya) + yb) + yd)), .second, .val (.int (fkeep (fAdj (FP.i2d kq) (FP.ddiv (FP.l2d ((((0 : Int64) + ya) + yb) + yd)) (FP.l2d ((((0 : Int64) + (1 : Int64)) + (1 : Int64)) + (1 : Int64)))) FP.dconst1 (FP.l2d (jt * (1000000 : Int64)))) kq)), .val (.int (fkeep (fAdj (FP.i2d kq) (FP.ddiv (FP.l2d ((((0 : Int64) + ((((0 : Int64) + ya) + yb) + yd)) + (0 : Int64)) + (0 : Int64))) (FP.l2d ((((0 : Int64) + (1 : Int64)) + (1 : Int64)) + (1 : Int64)))) FP.dconst1 (FP.l2d (jt * (1000000 : Int64)))) kq)), .val (.long (jt * (1000000 : Int64))), .second, .val (.long ((3 : Int32).toInt64)), .second] [(.int (1 : Int32))]))
          refine Go.retB X350 hx hlk (t := .boolean) Bd.returns (by simp) (hb hby at_309) (by decide) (by decide) rfl ?_
          exact ⟨rfl, N350, trivial⟩
        · refine Go.st (fun _ k' => XS.ifNo X350.here hx rfl (hb hby at_293) rfl (XT.ll_lt_f hc357) k') ?_
          show Go p e below s _ _ _ (T350.setTop (mkF m 296 #[.val (.long jx), .second, .val (.long jy), .second, .val (.long jz), .second, .val (.int kr), .val (.int kf), .val (.int (3 : Int32)), .val (.long jt), .second, .val (.long jm), .second, .val (.long ya), .second, .val (.long yb), .second, .val (.long yd), .second, .val (.int kq), .val (.double FP.dconst1), .second, .val (.ref b3), .val (.ref b26), .val (.long ((((0 : Int64) + ya) + yb) + yd)), .second, .val (.int (fkeep (fAdj (FP.i2d kq) (FP.ddiv (FP.l2d ((((0 : Int64) + ya) + yb) + yd)) (FP.l2d ((((0 : Int64) + (1 : Int64)) + (1 : Int64)) + (1 : Int64)))) FP.dconst1 (FP.l2d (jt * (1000000 : Int64)))) kq)), .val (.int (fkeep (fAdj (FP.i2d kq) (FP.ddiv (FP.l2d ((((0 : Int64) + ((((0 : Int64) + ya) + yb) + yd)) + (0 : Int64)) + (0 : Int64))) (FP.l2d ((((0 : Int64) + (1 : Int64)) + (1 : Int64)) + (1 : Int64)))) FP.dconst1 (FP.l2d (jt * (1000000 : Int64)))) kq)), .val (.long (jt * (1000000 : Int64))), .second, .val (.long ((3 : Int32).toInt64)), .second] []))
          refine Go.st (fun _ k' => XS.iload X350.here hx rfl (hb hby at_296) rfl k') ?_
          show Go p e below s _ _ _ (T350.setTop (mkF m 298 #[.val (.long jx), .second, .val (.long jy), .second, .val (.long jz), .second, .val (.int kr), .val (.int kf), .val (.int (3 : Int32)), .val (.long jt), .second, .val (.long jm), .second, .val (.long ya), .second, .val (.long yb), .second, .val (.long yd), .second, .val (.int kq), .val (.double FP.dconst1), .second, .val (.ref b3), .val (.ref b26), .val (.long ((((0 : Int64) + ya) + yb) + yd)), .second, .val (.int (fkeep (fAdj (FP.i2d kq) (FP.ddiv (FP.l2d ((((0 : Int64) + ya) + yb) + yd)) (FP.l2d ((((0 : Int64) + (1 : Int64)) + (1 : Int64)) + (1 : Int64)))) FP.dconst1 (FP.l2d (jt * (1000000 : Int64)))) kq)), .val (.int (fkeep (fAdj (FP.i2d kq) (FP.ddiv (FP.l2d ((((0 : Int64) + ((((0 : Int64) + ya) + yb) + yd)) + (0 : Int64)) + (0 : Int64))) (FP.l2d ((((0 : Int64) + (1 : Int64)) + (1 : Int64)) + (1 : Int64)))) FP.dconst1 (FP.l2d (jt * (1000000 : Int64)))) kq)), .val (.long (jt * (1000000 : Int64))), .second, .val (.long ((3 : Int32).toInt64)), .second] [(.int (fkeep (fAdj (FP.i2d kq) (FP.ddiv (FP.l2d ((((0 : Int64) + ya) + yb) + yd)) (FP.l2d ((((0 : Int64) + (1 : Int64)) + (1 : Int64)) + (1 : Int64)))) FP.dconst1 (FP.l2d (jt * (1000000 : Int64)))) kq))]))
          refine Go.st (fun _ k' => XS.iconst X350.here hx rfl (hb hby at_298) k') ?_
          show Go p e below s _ _ _ (T350.setTop (mkF m 299 #[.val (.long jx), .second, .val (.long jy), .second, .val (.long jz), .second, .val (.int kr), .val (.int kf), .val (.int (3 : Int32)), .val (.long jt), .second, .val (.long jm), .second, .val (.long ya), .second, .val (.long yb), .second, .val (.long yd), .second, .val (.int kq), .val (.double FP.dconst1), .second, .val (.ref b3), .val (.ref b26), .val (.long ((((0 : Int64) + ya) + yb) + yd)), .second, .val (.int (fkeep (fAdj (FP.i2d kq) (FP.ddiv (FP.l2d ((((0 : Int64) + ya) + yb) + yd)) (FP.l2d ((((0 : Int64) + (1 : Int64)) + (1 : Int64)) + (1 : Int64)))) FP.dconst1 (FP.l2d (jt * (1000000 : Int64)))) kq)), .val (.int (fkeep (fAdj (FP.i2d kq) (FP.ddiv (FP.l2d ((((0 : Int64) + ((((0 : Int64) + ya) + yb) + yd)) + (0 : Int64)) + (0 : Int64))) (FP.l2d ((((0 : Int64) + (1 : Int64)) + (1 : Int64)) + (1 : Int64)))) FP.dconst1 (FP.l2d (jt * (1000000 : Int64)))) kq)), .val (.long (jt * (1000000 : Int64))), .second, .val (.long ((3 : Int32).toInt64)), .second] [(.int (1 : Int32)), (.int (fkeep (fAdj (FP.i2d kq) (FP.ddiv (FP.l2d ((((0 : Int64) + ya) + yb) + yd)) (FP.l2d ((((0 : Int64) + (1 : Int64)) + (1 : Int64)) + (1 : Int64)))) FP.dconst1 (FP.l2d (jt * (1000000 : Int64)))) kq))]))
          refine Go.st (fun _ k' => XS.icmpNo X350.here hx rfl (hb hby at_299) rfl (XT.ii_ne_f (w_e hc357)) k') ?_
          show Go p e below s _ _ _ (T350.setTop (mkF m 302 #[.val (.long jx), .second, .val (.long jy), .second, .val (.long jz), .second, .val (.int kr), .val (.int kf), .val (.int (3 : Int32)), .val (.long jt), .second, .val (.long jm), .second, .val (.long ya), .second, .val (.long yb), .second, .val (.long yd), .second, .val (.int kq), .val (.double FP.dconst1), .second, .val (.ref b3), .val (.ref b26), .val (.long ((((0 : Int64) + ya) + yb) + yd)), .second, .val (.int (fkeep (fAdj (FP.i2d kq) (FP.ddiv (FP.l2d ((((0 : Int64) + ya) + yb) + yd)) (FP.l2d ((((0 : Int64) + (1 : Int64)) + (1 : Int64)) + (1 : Int64)))) FP.dconst1 (FP.l2d (jt * (1000000 : Int64)))) kq)), .val (.int (fkeep (fAdj (FP.i2d kq) (FP.ddiv (FP.l2d ((((0 : Int64) + ((((0 : Int64) + ya) + yb) + yd)) + (0 : Int64)) + (0 : Int64))) (FP.l2d ((((0 : Int64) + (1 : Int64)) + (1 : Int64)) + (1 : Int64)))) FP.dconst1 (FP.l2d (jt * (1000000 : Int64)))) kq)), .val (.long (jt * (1000000 : Int64))), .second, .val (.long ((3 : Int32).toInt64)), .second] []))
          refine Go.st (fun _ k' => XS.iconst X350.here hx rfl (hb hby at_302) k') ?_
          show Go p e below s _ _ _ (T350.setTop (mkF m 303 #[.val (.long jx), .second, .val (.long jy), .second, .val (.long jz), .second, .val (.int kr), .val (.int kf), .val (.int (3 : Int32)), .val (.long jt), .second, .val (.long jm), .second, .val (.long ya), .second, .val (.long yb), .second, .val (.long yd), .second, .val (.int kq), .val (.double FP.dconst1), .second, .val (.ref b3), .val (.ref b26), .val (.long ((((0 : Int64) + ya) + yb) + yd)), .second, .val (.int (fkeep (fAdj (FP.i2d kq) (FP.ddiv (FP.l2d ((((0 : Int64) + ya) + yb) + yd)) (FP.l2d ((((0 : Int64) + (1 : Int64)) + (1 : Int64)) + (1 : Int64)))) FP.dconst1 (FP.l2d (jt * (1000000 : Int64)))) kq)), .val (.int (fkeep (fAdj (FP.i2d kq) (FP.ddiv (FP.l2d ((((0 : Int64) + ((((0 : Int64) + ya) + yb) + yd)) + (0 : Int64)) + (0 : Int64))) (FP.l2d ((((0 : Int64) + (1 : Int64)) + (1 : Int64)) + (1 : Int64)))) FP.dconst1 (FP.l2d (jt * (1000000 : Int64)))) kq)), .val (.long (jt * (1000000 : Int64))), .second, .val (.long ((3 : Int32).toInt64)), .second] [(.int (1 : Int32))]))
          refine Go.st (fun _ k' => XS.goto X350.here hx rfl (pc0 := 303) (pc' := 307) rfl (hb hby at_303) (by decide) (by decide) k') ?_
          show Go p e below s _ _ _ (T350.setTop (mkF m 307 #[.val (.long jx), .second, .val (.long jy), .second, .val (.long jz), .second, .val (.int kr), .val (.int kf), .val (.int (3 : Int32)), .val (.long jt), .second, .val (.long jm), .second, .val (.long ya), .second, .val (.long yb), .second, .val (.long yd), .second, .val (.int kq), .val (.double FP.dconst1), .second, .val (.ref b3), .val (.ref b26), .val (.long ((((0 : Int64) + ya) + yb) + yd)), .second, .val (.int (fkeep (fAdj (FP.i2d kq) (FP.ddiv (FP.l2d ((((0 : Int64) + ya) + yb) + yd)) (FP.l2d ((((0 : Int64) + (1 : Int64)) + (1 : Int64)) + (1 : Int64)))) FP.dconst1 (FP.l2d (jt * (1000000 : Int64)))) kq)), .val (.int (fkeep (fAdj (FP.i2d kq) (FP.ddiv (FP.l2d ((((0 : Int64) + ((((0 : Int64) + ya) + yb) + yd)) + (0 : Int64)) + (0 : Int64))) (FP.l2d ((((0 : Int64) + (1 : Int64)) + (1 : Int64)) + (1 : Int64)))) FP.dconst1 (FP.l2d (jt * (1000000 : Int64)))) kq)), .val (.long (jt * (1000000 : Int64))), .second, .val (.long ((3 : Int32).toInt64)), .second] [(.int (1 : Int32))]))
          refine Go.retB X350 hx hlk (t := .boolean) Bd.returns (by simp) (hb hby at_307) (by decide) (by decide) rfl ?_
          exact ⟨rfl, N350, trivial⟩
      · refine Go.st (fun _ k' => XS.ifNo X350.here hx rfl (hb hby at_265) rfl (XT.ll_gt_f hc356) k') ?_
        show Go p e below s _ _ _ (T350.setTop (mkF m 268 #[.val (.long jx), .second, .val (.long jy), .second, .val (.long jz), .second, .val (.int kr), .val (.int kf), .val (.int (3 : Int32)), .val (.long jt), .second, .val (.long jm), .second, .val (.long ya), .second, .val (.long yb), .second, .val (.long yd), .second, .val (.int kq), .val (.double FP.dconst1), .second, .val (.ref b3), .val (.ref b26), .val (.long ((((0 : Int64) + ya) + yb) + yd)), .second, .val (.int (fkeep (fAdj (FP.i2d kq) (FP.ddiv (FP.l2d ((((0 : Int64) + ya) + yb) + yd)) (FP.l2d ((((0 : Int64) + (1 : Int64)) + (1 : Int64)) + (1 : Int64)))) FP.dconst1 (FP.l2d (jt * (1000000 : Int64)))) kq)), .val (.int (fkeep (fAdj (FP.i2d kq) (FP.ddiv (FP.l2d ((((0 : Int64) + ((((0 : Int64) + ya) + yb) + yd)) + (0 : Int64)) + (0 : Int64))) (FP.l2d ((((0 : Int64) + (1 : Int64)) + (1 : Int64)) + (1 : Int64)))) FP.dconst1 (FP.l2d (jt * (1000000 : Int64)))) kq)), .val (.long (jt * (1000000 : Int64))), .second, .val (.long ((3 : Int32).toInt64)), .second] []))
        refine Go.st (fun _ k' => XS.iload X350.here hx rfl (hb hby at_268) rfl k') ?_
        show Go p e below s _ _ _ (T350.setTop (mkF m 270 #[.val (.long jx), .second, .val (.long jy), .second, .val (.long jz), .second, .val (.int kr), .val (.int kf), .val (.int (3 : Int32)), .val (.long jt), .second, .val (.long jm), .second, .val (.long ya), .second, .val (.long yb), .second, .val (.long yd), .second, .val (.int kq), .val (.double FP.dconst1), .second, .val (.ref b3), .val (.ref b26), .val (.long ((((0 : Int64) + ya) + yb) + yd)), .second, .val (.int (fkeep (fAdj (FP.i2d kq) (FP.ddiv (FP.l2d ((((0 : Int64) + ya) + yb) + yd)) (FP.l2d ((((0 : Int64) + (1 : Int64)) + (1 : Int64)) + (1 : Int64)))) FP.dconst1 (FP.l2d (jt * (1000000 : Int64)))) kq)), .val (.int (fkeep (fAdj (FP.i2d kq) (FP.ddiv (FP.l2d ((((0 : Int64) + ((((0 : Int64) + ya) + yb) + yd)) + (0 : Int64)) + (0 : Int64))) (FP.l2d ((((0 : Int64) + (1 : Int64)) + (1 : Int64)) + (1 : Int64)))) FP.dconst1 (FP.l2d (jt * (1000000 : Int64)))) kq)), .val (.long (jt * (1000000 : Int64))), .second, .val (.long ((3 : Int32).toInt64)), .second] [(.int (fkeep (fAdj (FP.i2d kq) (FP.ddiv (FP.l2d ((((0 : Int64) + ya) + yb) + yd)) (FP.l2d ((((0 : Int64) + (1 : Int64)) + (1 : Int64)) + (1 : Int64)))) FP.dconst1 (FP.l2d (jt * (1000000 : Int64)))) kq))]))
        refine Go.st (fun _ k' => XS.iload X350.here hx rfl (hb hby at_270) rfl k') ?_
        show Go p e below s _ _ _ (T350.setTop (mkF m 272 #[.val (.long jx), .second, .val (.long jy), .second, .val (.long jz), .second, .val (.int kr), .val (.int kf), .val (.int (3 : Int32)), .val (.long jt), .second, .val (.long jm), .second, .val (.long ya), .second, .val (.long yb), .second, .val (.long yd), .second, .val (.int kq), .val (.double FP.dconst1), .second, .val (.ref b3), .val (.ref b26), .val (.long ((((0 : Int64) + ya) + yb) + yd)), .second, .val (.int (fkeep (fAdj (FP.i2d kq) (FP.ddiv (FP.l2d ((((0 : Int64) + ya) + yb) + yd)) (FP.l2d ((((0 : Int64) + (1 : Int64)) + (1 : Int64)) + (1 : Int64)))) FP.dconst1 (FP.l2d (jt * (1000000 : Int64)))) kq)), .val (.int (fkeep (fAdj (FP.i2d kq) (FP.ddiv (FP.l2d ((((0 : Int64) + ((((0 : Int64) + ya) + yb) + yd)) + (0 : Int64)) + (0 : Int64))) (FP.l2d ((((0 : Int64) + (1 : Int64)) + (1 : Int64)) + (1 : Int64)))) FP.dconst1 (FP.l2d (jt * (1000000 : Int64)))) kq)), .val (.long (jt * (1000000 : Int64))), .second, .val (.long ((3 : Int32).toInt64)), .second] [(.int kq), (.int (fkeep (fAdj (FP.i2d kq) (FP.ddiv (FP.l2d ((((0 : Int64) + ya) + yb) + yd)) (FP.l2d ((((0 : Int64) + (1 : Int64)) + (1 : Int64)) + (1 : Int64)))) FP.dconst1 (FP.l2d (jt * (1000000 : Int64)))) kq))]))
        refine Go.st (fun _ k' => XS.icmpNo X350.here hx rfl (hb hby at_272) rfl (XT.ii_ne_f (w_d hc356)) k') ?_
        show Go p e below s _ _ _ (T350.setTop (mkF m 275 #[.val (.long jx), .second, .val (.long jy), .second, .val (.long jz), .second, .val (.int kr), .val (.int kf), .val (.int (3 : Int32)), .val (.long jt), .second, .val (.long jm), .second, .val (.long ya), .second, .val (.long yb), .second, .val (.long yd), .second, .val (.int kq), .val (.double FP.dconst1), .second, .val (.ref b3), .val (.ref b26), .val (.long ((((0 : Int64) + ya) + yb) + yd)), .second, .val (.int (fkeep (fAdj (FP.i2d kq) (FP.ddiv (FP.l2d ((((0 : Int64) + ya) + yb) + yd)) (FP.l2d ((((0 : Int64) + (1 : Int64)) + (1 : Int64)) + (1 : Int64)))) FP.dconst1 (FP.l2d (jt * (1000000 : Int64)))) kq)), .val (.int (fkeep (fAdj (FP.i2d kq) (FP.ddiv (FP.l2d ((((0 : Int64) + ((((0 : Int64) + ya) + yb) + yd)) + (0 : Int64)) + (0 : Int64))) (FP.l2d ((((0 : Int64) + (1 : Int64)) + (1 : Int64)) + (1 : Int64)))) FP.dconst1 (FP.l2d (jt * (1000000 : Int64)))) kq)), .val (.long (jt * (1000000 : Int64))), .second, .val (.long ((3 : Int32).toInt64)), .second] []))
        refine Go.st (fun _ k' => XS.iconst X350.here hx rfl (hb hby at_275) k') ?_
        show Go p e below s _ _ _ (T350.setTop (mkF m 276 #[.val (.long jx), .second, .val (.long jy), .second, .val (.long jz), .second, .val (.int kr), .val (.int kf), .val (.int (3 : Int32)), .val (.long jt), .second, .val (.long jm), .second, .val (.long ya), .second, .val (.long yb), .second, .val (.long yd), .second, .val (.int kq), .val (.double FP.dconst1), .second, .val (.ref b3), .val (.ref b26), .val (.long ((((0 : Int64) + ya) + yb) + yd)), .second, .val (.int (fkeep (fAdj (FP.i2d kq) (FP.ddiv (FP.l2d ((((0 : Int64) + ya) + yb) + yd)) (FP.l2d ((((0 : Int64) + (1 : Int64)) + (1 : Int64)) + (1 : Int64)))) FP.dconst1 (FP.l2d (jt * (1000000 : Int64)))) kq)), .val (.int (fkeep (fAdj (FP.i2d kq) (FP.ddiv (FP.l2d ((((0 : Int64) + ((((0 : Int64) + ya) + yb) + yd)) + (0 : Int64)) + (0 : Int64))) (FP.l2d ((((0 : Int64) + (1 : Int64)) + (1 : Int64)) + (1 : Int64)))) FP.dconst1 (FP.l2d (jt * (1000000 : Int64)))) kq)), .val (.long (jt * (1000000 : Int64))), .second, .val (.long ((3 : Int32).toInt64)), .second] [(.int (1 : Int32))]))
        refine Go.st (fun _ k' => XS.goto X350.here hx rfl (pc0 := 276) (pc' := 280) rfl (hb hby at_276) (by decide) (by decide) k') ?_
        show Go p e below s _ _ _ (T350.setTop (mkF m 280 #[.val (.long jx), .second, .val (.long jy), .second, .val (.long jz), .second, .val (.int kr), .val (.int kf), .val (.int (3 : Int32)), .val (.long jt), .second, .val (.long jm), .second, .val (.long ya), .second, .val (.long yb), .second, .val (.long yd), .second, .val (.int kq), .val (.double FP.dconst1), .second, .val (.ref b3), .val (.ref b26), .val (.long ((((0 : Int64) + ya) + yb) + yd)), .second, .val (.int (fkeep (fAdj (FP.i2d kq) (FP.ddiv (FP.l2d ((((0 : Int64) + ya) + yb) + yd)) (FP.l2d ((((0 : Int64) + (1 : Int64)) + (1 : Int64)) + (1 : Int64)))) FP.dconst1 (FP.l2d (jt * (1000000 : Int64)))) kq)), .val (.int (fkeep (fAdj (FP.i2d kq) (FP.ddiv (FP.l2d ((((0 : Int64) + ((((0 : Int64) + ya) + yb) + yd)) + (0 : Int64)) + (0 : Int64))) (FP.l2d ((((0 : Int64) + (1 : Int64)) + (1 : Int64)) + (1 : Int64)))) FP.dconst1 (FP.l2d (jt * (1000000 : Int64)))) kq)), .val (.long (jt * (1000000 : Int64))), .second, .val (.long ((3 : Int32).toInt64)), .second] [(.int (1 : Int32))]))
        refine Go.retB X350 hx hlk (t := .boolean) Bd.returns (by simp) (hb hby at_280) (by decide) (by decide) rfl ?_
        exact ⟨rfl, N350, trivial⟩
  refine Go.st (fun _ k' => XS.iload X0.here hx rfl (hb hby at_18) rfl k') ?_
  show Go p e below s _ _ _ (s₁.setTop (mkF m 20 #[.val (.long jx), .second, .val (.long jy), .second, .val (.long jz), .second, .val (.int kr), .val (.int kf), .val (.int (kf &&& (3 : Int32))), .val (.long jt), .second, .unset, .unset, .unset, .unset, .unset, .unset, .unset, .unset, .unset, .unset, .unset, .unset, .unset, .unset, .unset, .unset, .unset, .unset, .unset, .unset, .unset] [(.int kf)]))
  refine Go.st (fun _ k' => XS.bipush X0.here hx rfl (hb hby at_20) k') ?_
  show Go p e below s _ _ _ (s₁.setTop (mkF m 22 #[.val (.long jx), .second, .val (.long jy), .second, .val (.long jz), .second, .val (.int kr), .val (.int kf), .val (.int (kf &&& (3 : Int32))), .val (.long jt), .second, .unset, .unset, .unset, .unset, .unset, .unset, .unset, .unset, .unset, .unset, .unset, .unset, .unset, .unset, .unset, .unset, .unset, .unset, .unset, .unset, .unset] [(.int (32 : Int32)), (.int kf)]))
  refine Go.st (fun _ k' => XS.iand X0.here hx rfl (hb hby at_22) rfl k') ?_
  show Go p e below s _ _ _ (s₁.setTop (mkF m 23 #[.val (.long jx), .second, .val (.long jy), .second, .val (.long jz), .second, .val (.int kr), .val (.int kf), .val (.int (kf &&& (3 : Int32))), .val (.long jt), .second, .unset, .unset, .unset, .unset, .unset, .unset, .unset, .unset, .unset, .unset, .unset, .unset, .unset, .unset, .unset, .unset, .unset, .unset, .unset, .unset, .unset] [(.int (kf &&& (32 : Int32)))]))
  by_cases hc358 : (kf &&& (32 : Int32)) = (0 : Int32)
  · refine Go.st (fun _ k' => XS.ifYes X0.here hx rfl (pc0 := 23) (pc' := 32) rfl (hb hby at_23) rfl (XT.i0_eq_t hc358) (by decide) (by decide) k') ?_
    show Go p e below s _ _ _ (s₁.setTop (mkF m 32 #[.val (.long jx), .second, .val (.long jy), .second, .val (.long jz), .second, .val (.int kr), .val (.int kf), .val (.int (kf &&& (3 : Int32))), .val (.long jt), .second, .unset, .unset, .unset, .unset, .unset, .unset, .unset, .unset, .unset, .unset, .unset, .unset, .unset, .unset, .unset, .unset, .unset, .unset, .unset, .unset, .unset] []))
    refine Go.st (fun _ k' => X0.ldc2J hx hown (mvT hZ (wdx hw 0 rfl)) rfl (hb hby at_32) k') ?_
    show Go p e below s _ _ _ (s₁.setTop (mkF m 35 #[.val (.long jx), .second, .val (.long jy), .second, .val (.long jz), .second, .val (.int kr), .val (.int kf), .val (.int (kf &&& (3 : Int32))), .val (.long jt), .second, .unset, .unset, .unset, .unset, .unset, .unset, .unset, .unset, .unset, .unset, .unset, .unset, .unset, .unset, .unset, .unset, .unset, .unset, .unset, .unset, .unset] [(.long (1099511627775 : Int64))]))
    exact J1 (1099511627775 : Int64) (Or.inr rfl)
  · refine Go.st (fun _ k' => XS.ifNo X0.here hx rfl (hb hby at_23) rfl (XT.i0_eq_f hc358) k') ?_
    show Go p e below s _ _ _ (s₁.setTop (mkF m 26 #[.val (.long jx), .second, .val (.long jy), .second, .val (.long jz), .second, .val (.int kr), .val (.int kf), .val (.int (kf &&& (3 : Int32))), .val (.long jt), .second, .unset, .unset, .unset, .unset, .unset, .unset, .unset, .unset, .unset, .unset, .unset, .unset, .unset, .unset, .unset, .unset, .unset, .unset, .unset, .unset, .unset] []))
    refine Go.st (fun _ k' => X0.ldc2J hx hown (mvT hZ (wdx hw 79 rfl)) rfl (hb hby at_26) k') ?_
    show Go p e below s _ _ _ (s₁.setTop (mkF m 29 #[.val (.long jx), .second, .val (.long jy), .second, .val (.long jz), .second, .val (.int kr), .val (.int kf), .val (.int (kf &&& (3 : Int32))), .val (.long jt), .second, .unset, .unset, .unset, .unset, .unset, .unset, .unset, .unset, .unset, .unset, .unset, .unset, .unset, .unset, .unset, .unset, .unset, .unset, .unset, .unset, .unset] [(.long (16777215 : Int64))]))
    refine Go.st (fun _ k' => XS.goto X0.here hx rfl (pc0 := 29) (pc' := 35) rfl (hb hby at_29) (by decide) (by decide) k') ?_
    show Go p e below s _ _ _ (s₁.setTop (mkF m 35 #[.val (.long jx), .second, .val (.long jy), .second, .val (.long jz), .second, .val (.int kr), .val (.int kf), .val (.int (kf &&& (3 : Int32))), .val (.long jt), .second, .unset, .unset, .unset, .unset, .unset, .unset, .unset, .unset, .unset, .unset, .unset, .unset, .unset, .unset, .unset, .unset, .unset, .unset, .unset, .unset, .unset] [(.long (16777215 : Int64))]))
    exact J1 (16777215 : Int64) (Or.inl rfl)
set_option maxRecDepth 65536 in
set_option maxHeartbeats 40000000 in
theorem comes_1 {Post : Tables → Env → Array Value → State → Outcome → State → Prop} (hpost : ∀ tb e args s v u, (limb_1_1.after args s (.returned v) u = true ∧ limb_1_2.after args s (.returned v) u = true ∧ True) → FrameEnd s (.returned v) u (Jvm.fieldLocs frame_1_writes args s ++ Jvm.arrayLocs frame_1_arrays args s ++ Jvm.staticLocs frame_1_statics s) 16 128 → Post tb e args s (.returned v) u) :
    ArmFor flags0 classFile x code maxLocals ret World_1 tables_1 room_1 Calls_1 rest_1 Pre_1 Post := by
  intro l hfl _ _ p e ha hc hk s m args below hf hA hF happ hP
  obtain ⟨hcalls, hrest, hpre⟩ := hP
  obtain ⟨-, -, -, hnamed, -, -, -, hat⟩ := (Spec.applies_iff hf).mp happ
  obtain ⟨hg, hn⟩ := and_e (Cond.before_iff.mp (show (Jvm.Cond.and given_1 narrow_1).before args s = true from hpre))
  obtain ⟨hcnt, hg0⟩ := and_e hg
  obtain ⟨ha0, hg1⟩ := and_e hg0
  obtain ⟨ha1, hg2⟩ := and_e hg1
  obtain ⟨ha2, hg3⟩ := and_e hg2
  obtain ⟨ha3, hg4⟩ := and_e hg3
  have ha4 := hg4
  obtain ⟨w0, w1, w2, w3, w4, rfl⟩ : ∃ w0 w1 w2 w3 w4 : Value, args = #[w0, w1, w2, w3, w4] := by
    have hs : args.size = 5 := by simpa [Cond.value, given_1] using hcnt
    obtain ⟨L⟩ := args
    match L, hs with
    | [w0, w1, w2, w3, w4], _ => exact ⟨w0, w1, w2, w3, w4, rfl⟩
  have hw := fun d (hd : d ∈ tables_1) => atoms_spec (ws := Jvm.Cond.code x code maxLocals ret :: tables_1) hat d (List.mem_cons_of_mem _ hd)
  have hfit : Fit s := fun {y c} hc i hi => by
    obtain ⟨ha, rfl⟩ := Array.getElem?_eq_some_iff.mp hc
    have q := List.all_eq_true.mp ((Array.all_eq_true_iff_forall_mem.mp hF) _ (Array.getElem_mem ha)) i (List.mem_range.mpr hi)
    simpa [Array.getElem?_eq_getElem hi] using q
  obtain ⟨hsets, hown0⟩ := atoms_of _ (rest_1_c_eq ▸ (show rest_1_c.before _ s = true from hrest))
  have hr0 := Cond.before_iff.mp hown0
  obtain ⟨i0, ei0⟩ := isL_v ha0
  obtain rfl : w0 = (.long i0) := Option.some.inj ei0
  obtain ⟨i1, ei1⟩ := isL_v ha1
  obtain rfl : w1 = (.long i1) := Option.some.inj ei1
  obtain ⟨i2, ei2⟩ := isL_v ha2
  obtain rfl : w2 = (.long i2) := Option.some.inj ei2
  obtain ⟨i3, ei3⟩ := is_v ha3
  obtain rfl : w3 = (.int i3) := Option.some.inj ei3
  obtain ⟨i4, ei4⟩ := is_v ha4
  obtain rfl : w4 = (.int i4) := Option.some.inj ei4
  obtain ⟨a_ms, ev_ms, S_ms, E_ms⟩ := own_ms (Cond.before_iff.mp (hsets _ (List.mem_of_getElem? (i := 2) rfl))) (hsets _ (List.mem_of_getElem? (i := 1) rfl))
  have F_s := own_el ev_ms (Cond.before_iff.mp (hsets _ (List.mem_of_getElem? (i := 5) rfl)))
  have F_m := own_el ev_ms (Cond.before_iff.mp (hsets _ (List.mem_of_getElem? (i := 6) rfl)))
  obtain ⟨n, o, h1, h2, h3, _, L, rfl, ⟨rfl, N, -⟩, hq⟩ := rm0 l s _ hw tables_1 i0 i1 i2 i3 i4 a_ms s.heap s.heap.size (Old.start s) E_ms F_s F_m S_ms p e ha hc hk s m _ below hf ((Spec.applies_iff_loose hf).mp happ).1 ⟨rfl, State.Warmed39.refl s, rfl⟩ trivial
  refine ⟨n, _, h1, h2, h3, hpost _ _ _ _ _ _ ⟨Cond.after_iff.mpr rfl, Cond.after_iff.mpr (eq_i res_at (Term.int_eval (1)) rfl), trivial⟩ ⟨hq.1, hq.2.1, (hq.2.2.sift fun y hy => Or.inr (N y hy)).mono (by decide) (by decide)⟩⟩
theorem main_1_1 : Claimed_1_1 := comes_1 fun _ _ _ _ _ _ h hF => ⟨h.1, hF⟩
theorem main_1_2 : Claimed_1_2 := comes_1 fun _ _ _ _ _ _ h hF => ⟨h.2.1, hF⟩
end Jvm.Pilot.@@N@@
namespace Jvm.Pilot.@@N@@
open Jvm Jvm.ClassFile Sem Op Lib Jvm.Free Jvm.Stand Jvm.Pilot.@@N@@.Jvm.D
/-! MADE BY PROGRAM (witnessworld.py) out of the Statement's table words and the real class files: 19 classes; the members and pool entries that the words name. The judged class is class 1, her method 1. -/
namespace start1
open Jvm.ClassFile
def u (s : String) : CpInfo := .utf8 (stringToUtf16 s)
/-- a pool by its gaps: so many unusable entries, then the entry; so many at the end -/
def gap : Nat → List CpInfo → List CpInfo
  | 0, r => r
  | n + 1, r => .unusable :: gap n r
def poolList (es : List (Nat × CpInfo)) (last : Nat) : List CpInfo := es.foldr (fun e r => gap e.1 (e.2 :: r)) (gap last [])
def pool (es : List (Nat × CpInfo)) (last : Nat) : Array CpInfo := ⟨poolList es last⟩
def fileOf (pool : Array CpInfo) (this : Nat) (attrs : Array Attribute := #[]) (ms : Array MethodInfo := #[]) (fl : Nat := 33) (sup : Nat := 0) (ifs : Array Nat := #[]) (fds : Array FieldInfo := #[]) : ClassFile where
  minorVersion := 0
  majorVersion := 65
  constantPool := pool
  accessFlags := fl
  thisClass := this
  superClass := sup
  interfaces := ifs
  fields := fds
  methods := ms
  attributes := attrs
def plain (name : String) (sup : Option ClassId) : Class where
  name := name
  kind := .ordinary
  loader := none
  accessFlags := 33
  super := sup
  interfaces := #[]
  cf := none
  fields := #[]
  methods := #[]
  instanceTypes := #[]
  staticTypes := #[]
  resolved := #[]
  callSites := []
  init := .initialized
  statics := none
  mirror := none

def pool0 : Array CpInfo := pool [(5, u "<init>"), (0, u "()V"), (1, .class_ 10), (1, u "java/lang/Object")] 113

def k0c0 : Code := { maxStack := 0, maxLocals := 1, code := object_method_1_code, exceptionTable := #[], attributes := #[] }
def k0m0 : Method := { name := "<init>", desc := "()V", sig := { parameters := [], returnType := none }, accessFlags := 1, code := some k0c0 }
/-- java/lang/Object -/
def k0 : Class := { plain "java/lang/Object" none with
  accessFlags := 33
  interfaces := #[]
  cf := some (fileOf pool0 8 #[] #[{ accessFlags := 1, nameIndex := 5, descriptorIndex := 6, attributes := #[] }] 33 0 #[] #[])
  fields := #[]
  methods := #[k0m0]
  instanceTypes := #[]
  staticTypes := #[]
  resolved := Array.replicate 124 none
  statics := none }

def pool1 : Array CpInfo := pool [(2, .class_ 4), (1, u "java/lang/Object"), (0, u "<init>"), (0, u "()V"), (0, .long 16777215), (1, .long 1099511627775), (1, .integer 2147483647), (0, .methodref 13 14), (0, .class_ 15), (0, .nameAndType 16 17), (0, u "java/lang/Math"), (0, u "max"), (0, u "(II)I"), (0, .class_ 19), (0, u "com/example/spillway/spillway/runtime/LatencyController"), (0, .long 1000), (1, .methodref 18 23), (0, .nameAndType 5 24), (0, u "(JJD)V"), (0, .methodref 18 26), (0, .nameAndType 27 28), (0, u "processed"), (0, u "(J)V"), (0, .methodref 18 30), (0, .nameAndType 31 32), (0, u "decide"), (0, u "(I)I"), (0, .long 1000000), (1, .long 2), (1, .class_ 38), (0, u "com/example/spillway/spillway/runtime/LatencyControllerProcessedPinLaw"), (2, u "law"), (0, u "(JJJII)Z")] 3

def k1m0 : Method := { name := "<init>", desc := "()V", sig := { parameters := [], returnType := none }, accessFlags := 1, code := none }
def k1c1 : Code := { maxStack := 8, maxLocals := 32, code := code, exceptionTable := #[], attributes := #[] }
def k1m1 : Method := { name := "law", desc := "(JJJII)Z", sig := { parameters := [.long, .long, .long, .int, .int], returnType := some .boolean }, accessFlags := 9, code := some k1c1 }
/-- com/example/spillway/spillway/runtime/LatencyControllerProcessedPinLaw -/
def k1 : Class := { plain "com/example/spillway/spillway/runtime/LatencyControllerProcessedPinLaw" (some 0) with
  accessFlags := 49
  interfaces := #[]
  cf := some (fileOf pool1 37 #[] #[{ accessFlags := 1, nameIndex := 5, descriptorIndex := 6, attributes := #[] }, { accessFlags := 9, nameIndex := 41, descriptorIndex := 42, attributes := #[] }] 49 2 #[] #[])
  fields := #[]
  methods := #[k1m0, k1m1]
  instanceTypes := #[]
  staticTypes := #[]
  resolved := Array.replicate 46 none
  statics := none }

def pool2 : Array CpInfo := pool [(1, .class_ 2), (0, u "java/lang/Math"), (1, .class_ 6), (1, u "java/lang/Object"), (0, u "<init>"), (0, u "()V"), (43, u "(DD)D"), (26, .methodref 80 81), (0, .class_ 82), (0, .nameAndType 83 84), (0, u "java/lang/Double"), (0, u "doubleToRawLongBits"), (0, u "(D)J"), (2, .long 9218868437227405312), (1, .long 1074), (1, .long 18446744073709551552), (1, .long 4503599627370495), (1, .long 4503599627370496), (2, .class_ 100), (1, u "java/lang/Math$RandomNumberGeneratorHolder"), (20, u "(JJ)J"), (50, u "negativeZeroFloatBits"), (0, u "J"), (2, u "negativeZeroDoubleBits"), (21, u "max"), (2, u "min"), (43, u "$assertionsDisabled"), (0, u "Z"), (88, u "(II)I"), (2, u "twoToTheDoubleScaleDown"), (0, u "D"), (4, u "twoToTheDoubleScaleUp"), (9, u "E"), (3, u "PI"), (2, u "TAU"), (2, u "DEGREES_TO_RADIANS"), (0, u "RADIANS_TO_DEGREES"), (17, u "round")] 76

def k2m0 : Method := { name := "<init>", desc := "()V", sig := { parameters := [], returnType := none }, accessFlags := 2, code := none }
def k2c1 : Code := { maxStack := 4, maxLocals := 10, code := jdk_29_method_22_code, exceptionTable := #[], attributes := #[] }
def k2m1 : Method := { name := "round", desc := "(D)J", sig := { parameters := [.double], returnType := some .long }, accessFlags := 9, code := some k2c1 }
def k2c2 : Code := { maxStack := 2, maxLocals := 2, code := jdk_29_method_65_code, exceptionTable := #[], attributes := #[] }
def k2m2 : Method := { name := "max", desc := "(II)I", sig := { parameters := [.int, .int], returnType := some .int }, accessFlags := 9, code := some k2c2 }
def k2c3 : Code := { maxStack := 4, maxLocals := 4, code := jdk_29_method_68_code, exceptionTable := #[], attributes := #[] }
def k2m3 : Method := { name := "max", desc := "(DD)D", sig := { parameters := [.double, .double], returnType := some .double }, accessFlags := 9, code := some k2c3 }
def k2c4 : Code := { maxStack := 4, maxLocals := 4, code := jdk_29_method_70_code, exceptionTable := #[], attributes := #[] }
def k2m4 : Method := { name := "min", desc := "(JJ)J", sig := { parameters := [.long, .long], returnType := some .long }, accessFlags := 9, code := some k2c4 }
/-- java/lang/Math -/
def k2 : Class := { plain "java/lang/Math" (some 0) with
  accessFlags := 49
  interfaces := #[]
  cf := some (fileOf pool2 1 #[.nestMembers #[98]] #[{ accessFlags := 2, nameIndex := 7, descriptorIndex := 8, attributes := #[] }, { accessFlags := 9, nameIndex := 383, descriptorIndex := 84, attributes := #[] }, { accessFlags := 9, nameIndex := 198, descriptorIndex := 335, attributes := #[] }, { accessFlags := 9, nameIndex := 198, descriptorIndex := 52, attributes := #[] }, { accessFlags := 9, nameIndex := 201, descriptorIndex := 121, attributes := #[] }] 49 4 #[] #[{ accessFlags := 25, nameIndex := 354, descriptorIndex := 339, attributes := #[] }, { accessFlags := 25, nameIndex := 358, descriptorIndex := 339, attributes := #[] }, { accessFlags := 25, nameIndex := 361, descriptorIndex := 339, attributes := #[] }, { accessFlags := 26, nameIndex := 364, descriptorIndex := 339, attributes := #[] }, { accessFlags := 26, nameIndex := 365, descriptorIndex := 339, attributes := #[] }, { accessFlags := 26, nameIndex := 172, descriptorIndex := 173, attributes := #[] }, { accessFlags := 26, nameIndex := 176, descriptorIndex := 173, attributes := #[] }, { accessFlags := 8, nameIndex := 344, descriptorIndex := 339, attributes := #[] }, { accessFlags := 8, nameIndex := 338, descriptorIndex := 339, attributes := #[] }, { accessFlags := 4120, nameIndex := 245, descriptorIndex := 246, attributes := #[] }])
  fields := #[{ name := "E", type := .double, accessFlags := 25, slot := 0, constantValue := 0 }, { name := "PI", type := .double, accessFlags := 25, slot := 1, constantValue := 0 }, { name := "TAU", type := .double, accessFlags := 25, slot := 2, constantValue := 0 }, { name := "DEGREES_TO_RADIANS", type := .double, accessFlags := 26, slot := 3, constantValue := 0 }, { name := "RADIANS_TO_DEGREES", type := .double, accessFlags := 26, slot := 4, constantValue := 0 }, { name := "negativeZeroFloatBits", type := .long, accessFlags := 26, slot := 5, constantValue := 0 }, { name := "negativeZeroDoubleBits", type := .long, accessFlags := 26, slot := 6, constantValue := 0 }, { name := "twoToTheDoubleScaleUp", type := .double, accessFlags := 8, slot := 7, constantValue := 0 }, { name := "twoToTheDoubleScaleDown", type := .double, accessFlags := 8, slot := 8, constantValue := 0 }, { name := "$assertionsDisabled", type := .boolean, accessFlags := 4120, slot := 9, constantValue := 0 }]
  methods := #[k2m0, k2m1, k2m2, k2m3, k2m4]
  instanceTypes := #[]
  staticTypes := #[.double, .double, .double, .double, .double, .long, .long, .double, .double, .boolean]
  resolved := Array.replicate 460 none
  statics := none }

def pool3 : Array CpInfo := pool [(1, .methodref 2 3), (0, .class_ 4), (0, .nameAndType 5 6), (0, u "java/lang/Object"), (0, u "<init>"), (0, u "()V"), (0, .class_ 8), (0, u "java/lang/Double"), (0, .double 9221120237041090560), (1, .fieldref 12 13), (0, .class_ 14), (0, .nameAndType 15 16), (0, u "com/example/spillway/spillway/runtime/LatencyController"), (0, u "limit"), (0, u "D"), (0, .fieldref 18 19), (0, .class_ 20), (0, .nameAndType 21 22), (0, u "java/util/concurrent/TimeUnit"), (0, u "MILLISECONDS"), (0, u "Ljava/util/concurrent/TimeUnit;"), (0, .methodref 18 24), (0, .nameAndType 25 26), (0, u "toNanos"), (0, u "(J)J"), (0, .fieldref 12 28), (0, .nameAndType 29 16), (0, u "targetNanos"), (0, .fieldref 12 31), (0, .nameAndType 32 33), (0, u "periodNanos"), (0, u "J"), (0, .fieldref 12 35), (0, .nameAndType 36 16), (0, u "gain"), (0, .fieldref 12 38), (0, .nameAndType 39 33), (0, u "latencySum"), (0, .fieldref 12 41), (0, .nameAndType 42 33), (0, u "latencyCount"), (0, .fieldref 12 44), (0, .nameAndType 45 33), (0, u "decisions"), (0, .methodref 7 47), (0, .nameAndType 48 49), (0, u "isNaN"), (0, u "(D)Z"), (0, .methodref 12 51), (0, .nameAndType 52 53), (0, u "adjusted"), (0, u "(DD)D"), (0, .methodref 55 56), (0, .class_ 57), (0, .nameAndType 58 53), (0, u "java/lang/Math"), (0, u "max"), (0, .methodref 55 60), (0, .nameAndType 61 62), (0, u "round"), (0, u "(D)J"), (0, .methodref 55 64), (0, .nameAndType 65 66), (0, u "min"), (0, u "(JJ)J"), (0, u "(JJD)V"), (3, u "processed"), (0, u "(J)V"), (0, u "decide"), (0, u "(I)I")] 3

def k3c0 : Code := { maxStack := 4, maxLocals := 7, code := prog_19_method_1_code, exceptionTable := #[], attributes := #[] }
def k3m0 : Method := { name := "<init>", desc := "(JJD)V", sig := { parameters := [.long, .long, .double], returnType := none }, accessFlags := 0, code := some k3c0 }
def k3c1 : Code := { maxStack := 5, maxLocals := 3, code := prog_19_method_3_code, exceptionTable := #[], attributes := #[] }
def k3m1 : Method := { name := "processed", desc := "(J)V", sig := { parameters := [.long], returnType := none }, accessFlags := 0, code := some k3c1 }
def k3c2 : Code := { maxStack := 7, maxLocals := 9, code := prog_19_method_4_code, exceptionTable := #[], attributes := #[] }
def k3m2 : Method := { name := "decide", desc := "(I)I", sig := { parameters := [.int], returnType := some .int }, accessFlags := 0, code := some k3c2 }
def k3c3 : Code := { maxStack := 8, maxLocals := 7, code := prog_19_method_5_code, exceptionTable := #[], attributes := #[] }
def k3m3 : Method := { name := "adjusted", desc := "(DD)D", sig := { parameters := [.double, .double], returnType := some .double }, accessFlags := 2, code := some k3c3 }
/-- com/example/spillway/spillway/runtime/LatencyController -/
def k3 : Class := { plain "com/example/spillway/spillway/runtime/LatencyController" (some 0) with
  accessFlags := 32
  interfaces := #[]
  cf := some (fileOf pool3 12 #[] #[{ accessFlags := 0, nameIndex := 5, descriptorIndex := 67, attributes := #[] }, { accessFlags := 0, nameIndex := 71, descriptorIndex := 72, attributes := #[] }, { accessFlags := 0, nameIndex := 73, descriptorIndex := 74, attributes := #[] }, { accessFlags := 2, nameIndex := 52, descriptorIndex := 53, attributes := #[] }] 32 2 #[] #[{ accessFlags := 18, nameIndex := 29, descriptorIndex := 16, attributes := #[] }, { accessFlags := 18, nameIndex := 36, descriptorIndex := 16, attributes := #[] }, { accessFlags := 18, nameIndex := 32, descriptorIndex := 33, attributes := #[] }, { accessFlags := 2, nameIndex := 15, descriptorIndex := 16, attributes := #[] }, { accessFlags := 2, nameIndex := 39, descriptorIndex := 33, attributes := #[] }, { accessFlags := 2, nameIndex := 42, descriptorIndex := 33, attributes := #[] }, { accessFlags := 2, nameIndex := 45, descriptorIndex := 33, attributes := #[] }])
  fields := #[{ name := "targetNanos", type := .double, accessFlags := 18, slot := 0, constantValue := 0 }, { name := "gain", type := .double, accessFlags := 18, slot := 1, constantValue := 0 }, { name := "periodNanos", type := .long, accessFlags := 18, slot := 2, constantValue := 0 }, { name := "limit", type := .double, accessFlags := 2, slot := 3, constantValue := 0 }, { name := "latencySum", type := .long, accessFlags := 2, slot := 4, constantValue := 0 }, { name := "latencyCount", type := .long, accessFlags := 2, slot := 5, constantValue := 0 }, { name := "decisions", type := .long, accessFlags := 2, slot := 6, constantValue := 0 }]
  methods := #[k3m0, k3m1, k3m2, k3m3]
  instanceTypes := #[.double, .double, .long, .double, .long, .long, .long]
  staticTypes := #[]
  resolved := Array.replicate 78 none
  statics := none }

def pool4 : Array CpInfo := pool [(1, .class_ 2), (0, u "java/lang/constant/Constable"), (0, .class_ 4), (0, u "java/lang/Object")] 6

/-- java/lang/constant/Constable -/
def k4 : Class := { plain "java/lang/constant/Constable" (some 0) with
  accessFlags := 1537
  interfaces := #[]
  cf := some (fileOf pool4 1 #[] #[] 1537 3 #[] #[])
  fields := #[]
  methods := #[]
  instanceTypes := #[]
  staticTypes := #[]
  resolved := Array.replicate 11 none
  statics := none }

def pool5 : Array CpInfo := pool [(1, .class_ 2), (0, u "java/lang/Comparable"), (0, .class_ 4), (0, u "java/lang/Object")] 7

/-- java/lang/Comparable -/
def k5 : Class := { plain "java/lang/Comparable" (some 0) with
  accessFlags := 1537
  interfaces := #[]
  cf := some (fileOf pool5 1 #[] #[] 1537 3 #[] #[])
  fields := #[]
  methods := #[]
  instanceTypes := #[]
  staticTypes := #[]
  resolved := Array.replicate 12 none
  statics := none }

def pool6 : Array CpInfo := pool [(1, .class_ 2), (0, u "java/io/Serializable"), (0, .class_ 4), (0, u "java/lang/Object")] 2

/-- java/io/Serializable -/
def k6 : Class := { plain "java/io/Serializable" (some 0) with
  accessFlags := 1537
  interfaces := #[]
  cf := some (fileOf pool6 1 #[] #[] 1537 3 #[] #[])
  fields := #[]
  methods := #[]
  instanceTypes := #[]
  staticTypes := #[]
  resolved := Array.replicate 7 none
  statics := none }

def pool7 : Array CpInfo := pool [(2, .class_ 4), (1, u "java/lang/Enum"), (0, u "name"), (0, u "Ljava/lang/String;"), (2, u "ordinal"), (0, u "I"), (1, .class_ 14), (1, u "java/lang/Object"), (4, u "hash"), (86, .class_ 108), (1, u "java/lang/Enum$EnumDesc"), (2, .class_ 112), (0, u "java/lang/constant/Constable"), (0, .class_ 114), (0, u "java/lang/Comparable"), (0, .class_ 116), (0, u "java/io/Serializable")] 87

/-- java/lang/Enum -/
def k7 : Class := { plain "java/lang/Enum" (some 0) with
  accessFlags := 1057
  interfaces := #[4, 5, 6]
  cf := some (fileOf pool7 2 #[.nestMembers #[106]] #[] 1057 12 #[111, 113, 115] #[{ accessFlags := 18, nameIndex := 5, descriptorIndex := 6, attributes := #[] }, { accessFlags := 18, nameIndex := 9, descriptorIndex := 10, attributes := #[] }, { accessFlags := 2, nameIndex := 19, descriptorIndex := 10, attributes := #[] }])
  fields := #[{ name := "name", type := (.object "java/lang/String"), accessFlags := 18, slot := 0, constantValue := 0 }, { name := "ordinal", type := .int, accessFlags := 18, slot := 1, constantValue := 0 }, { name := "hash", type := .int, accessFlags := 2, slot := 2, constantValue := 0 }]
  methods := #[]
  instanceTypes := #[(.object "java/lang/String"), .int, .int]
  staticTypes := #[]
  resolved := Array.replicate 204 none
  statics := none }

def pool8 : Array CpInfo := pool [(1, .class_ 2), (0, u "java/util/concurrent/TimeUnit"), (2, u "NANOSECONDS"), (0, u "Ljava/util/concurrent/TimeUnit;"), (2, u "MICROSECONDS"), (2, u "MILLISECONDS"), (2, u "SECONDS"), (2, u "MINUTES"), (2, u "HOURS"), (2, u "DAYS"), (2, u "$VALUES"), (0, u "[Ljava/util/concurrent/TimeUnit;"), (6, .class_ 37), (1, u "java/lang/Enum"), (6, .fieldref 1 45), (0, .nameAndType 46 47), (0, u "scale"), (0, u "J"), (4, .fieldref 1 53), (0, .nameAndType 54 47), (0, u "maxNanos"), (4, u "microRatio"), (2, u "maxMicros"), (4, u "milliRatio"), (0, u "I"), (2, u "maxMillis"), (4, u "secRatio"), (2, u "maxSecs"), (8, u "toNanos"), (0, u "(J)J"), (73, .class_ 165), (1, u "java/util/concurrent/TimeUnit$1"), (46, u "NANO_SCALE"), (3, u "MICRO_SCALE"), (0, u "MILLI_SCALE"), (0, u "SECOND_SCALE"), (0, u "MINUTE_SCALE"), (0, u "HOUR_SCALE"), (0, u "DAY_SCALE")] 61

def k8c0 : Code := { maxStack := 6, maxLocals := 7, code := jdk_2799_method_7_code, exceptionTable := #[], attributes := #[] }
def k8m0 : Method := { name := "toNanos", desc := "(J)J", sig := { parameters := [.long], returnType := some .long }, accessFlags := 1, code := some k8c0 }
/-- java/util/concurrent/TimeUnit -/
def k8 : Class := { plain "java/util/concurrent/TimeUnit" (some 7) with
  accessFlags := 16433
  interfaces := #[]
  cf := some (fileOf pool8 1 #[.nestMembers #[163]] #[{ accessFlags := 1, nameIndex := 88, descriptorIndex := 89, attributes := #[] }] 16433 35 #[] #[{ accessFlags := 16409, nameIndex := 5, descriptorIndex := 6, attributes := #[] }, { accessFlags := 16409, nameIndex := 9, descriptorIndex := 6, attributes := #[] }, { accessFlags := 16409, nameIndex := 12, descriptorIndex := 6, attributes := #[] }, { accessFlags := 16409, nameIndex := 15, descriptorIndex := 6, attributes := #[] }, { accessFlags := 16409, nameIndex := 18, descriptorIndex := 6, attributes := #[] }, { accessFlags := 16409, nameIndex := 21, descriptorIndex := 6, attributes := #[] }, { accessFlags := 16409, nameIndex := 24, descriptorIndex := 6, attributes := #[] }, { accessFlags := 26, nameIndex := 212, descriptorIndex := 47, attributes := #[] }, { accessFlags := 26, nameIndex := 216, descriptorIndex := 47, attributes := #[] }, { accessFlags := 26, nameIndex := 217, descriptorIndex := 47, attributes := #[] }, { accessFlags := 26, nameIndex := 218, descriptorIndex := 47, attributes := #[] }, { accessFlags := 26, nameIndex := 219, descriptorIndex := 47, attributes := #[] }, { accessFlags := 26, nameIndex := 220, descriptorIndex := 47, attributes := #[] }, { accessFlags := 26, nameIndex := 221, descriptorIndex := 47, attributes := #[] }, { accessFlags := 18, nameIndex := 46, descriptorIndex := 47, attributes := #[] }, { accessFlags := 18, nameIndex := 54, descriptorIndex := 47, attributes := #[] }, { accessFlags := 18, nameIndex := 62, descriptorIndex := 47, attributes := #[] }, { accessFlags := 18, nameIndex := 71, descriptorIndex := 47, attributes := #[] }, { accessFlags := 18, nameIndex := 79, descriptorIndex := 47, attributes := #[] }, { accessFlags := 18, nameIndex := 59, descriptorIndex := 47, attributes := #[] }, { accessFlags := 18, nameIndex := 67, descriptorIndex := 68, attributes := #[] }, { accessFlags := 18, nameIndex := 76, descriptorIndex := 68, attributes := #[] }, { accessFlags := 4122, nameIndex := 27, descriptorIndex := 28, attributes := #[] }])
  fields := #[{ name := "NANOSECONDS", type := (.object "java/util/concurrent/TimeUnit"), accessFlags := 16409, slot := 0, constantValue := 0 }, { name := "MICROSECONDS", type := (.object "java/util/concurrent/TimeUnit"), accessFlags := 16409, slot := 1, constantValue := 0 }, { name := "MILLISECONDS", type := (.object "java/util/concurrent/TimeUnit"), accessFlags := 16409, slot := 2, constantValue := 0 }, { name := "SECONDS", type := (.object "java/util/concurrent/TimeUnit"), accessFlags := 16409, slot := 3, constantValue := 0 }, { name := "MINUTES", type := (.object "java/util/concurrent/TimeUnit"), accessFlags := 16409, slot := 4, constantValue := 0 }, { name := "HOURS", type := (.object "java/util/concurrent/TimeUnit"), accessFlags := 16409, slot := 5, constantValue := 0 }, { name := "DAYS", type := (.object "java/util/concurrent/TimeUnit"), accessFlags := 16409, slot := 6, constantValue := 0 }, { name := "NANO_SCALE", type := .long, accessFlags := 26, slot := 7, constantValue := 0 }, { name := "MICRO_SCALE", type := .long, accessFlags := 26, slot := 8, constantValue := 0 }, { name := "MILLI_SCALE", type := .long, accessFlags := 26, slot := 9, constantValue := 0 }, { name := "SECOND_SCALE", type := .long, accessFlags := 26, slot := 10, constantValue := 0 }, { name := "MINUTE_SCALE", type := .long, accessFlags := 26, slot := 11, constantValue := 0 }, { name := "HOUR_SCALE", type := .long, accessFlags := 26, slot := 12, constantValue := 0 }, { name := "DAY_SCALE", type := .long, accessFlags := 26, slot := 13, constantValue := 0 }, { name := "scale", type := .long, accessFlags := 18, slot := 3, constantValue := 0 }, { name := "maxNanos", type := .long, accessFlags := 18, slot := 4, constantValue := 0 }, { name := "maxMicros", type := .long, accessFlags := 18, slot := 5, constantValue := 0 }, { name := "maxMillis", type := .long, accessFlags := 18, slot := 6, constantValue := 0 }, { name := "maxSecs", type := .long, accessFlags := 18, slot := 7, constantValue := 0 }, { name := "microRatio", type := .long, accessFlags := 18, slot := 8, constantValue := 0 }, { name := "milliRatio", type := .int, accessFlags := 18, slot := 9, constantValue := 0 }, { name := "secRatio", type := .int, accessFlags := 18, slot := 10, constantValue := 0 }, { name := "$VALUES", type := (.array (.object "java/util/concurrent/TimeUnit")), accessFlags := 4122, slot := 14, constantValue := 0 }]
  methods := #[k8m0]
  instanceTypes := #[(.object "java/lang/String"), .int, .int, .long, .long, .long, .long, .long, .long, .int, .int]
  staticTypes := #[(.object "java/util/concurrent/TimeUnit"), (.object "java/util/concurrent/TimeUnit"), (.object "java/util/concurrent/TimeUnit"), (.object "java/util/concurrent/TimeUnit"), (.object "java/util/concurrent/TimeUnit"), (.object "java/util/concurrent/TimeUnit"), (.object "java/util/concurrent/TimeUnit"), .long, .long, .long, .long, .long, .long, .long, (.array (.object "java/util/concurrent/TimeUnit"))]
  resolved := Array.replicate 283 none
  statics := some 0 }

def pool9 : Array CpInfo := pool [(2, .class_ 4), (1, u "java/lang/Object"), (0, u "<init>"), (0, u "()V"), (1, .class_ 10), (1, u "java/lang/Number"), (2, .class_ 14), (0, u "java/io/Serializable"), (0, u "serialVersionUID"), (0, u "J")] 20

def k9m0 : Method := { name := "<init>", desc := "()V", sig := { parameters := [], returnType := none }, accessFlags := 1, code := none }
/-- java/lang/Number -/
def k9 : Class := { plain "java/lang/Number" (some 0) with
  accessFlags := 1057
  interfaces := #[6]
  cf := some (fileOf pool9 8 #[] #[{ accessFlags := 1, nameIndex := 5, descriptorIndex := 6, attributes := #[] }] 1057 2 #[13] #[{ accessFlags := 26, nameIndex := 15, descriptorIndex := 16, attributes := #[] }])
  fields := #[{ name := "serialVersionUID", type := .long, accessFlags := 26, slot := 0, constantValue := 0 }]
  methods := #[k9m0]
  instanceTypes := #[]
  staticTypes := #[.long]
  resolved := Array.replicate 37 none
  statics := none }

def pool10 : Array CpInfo := pool [(1, .class_ 2), (0, u "java/lang/constant/ConstantDesc"), (0, .class_ 4), (0, u "java/lang/Object")] 32

/-- java/lang/constant/ConstantDesc -/
def k10 : Class := { plain "java/lang/constant/ConstantDesc" (some 0) with
  accessFlags := 1537
  interfaces := #[]
  cf := some (fileOf pool10 1 #[] #[] 1537 3 #[] #[])
  fields := #[]
  methods := #[]
  instanceTypes := #[]
  staticTypes := #[]
  resolved := Array.replicate 37 none
  statics := none }

def pool11 : Array CpInfo := pool [(1, .class_ 2), (0, u "java/lang/Double"), (11, u "(D)Z"), (34, u "(D)J"), (64, .class_ 116), (1, u "java/lang/Number"), (3, u "value"), (0, u "D"), (2, u "isNaN"), (11, u "doubleToRawLongBits"), (36, u "TYPE"), (0, u "Ljava/lang/Class;"), (0, .class_ 176), (0, u "java/lang/Comparable"), (0, .class_ 178), (0, u "java/lang/constant/Constable"), (0, .class_ 180), (0, u "java/lang/constant/ConstantDesc"), (0, u "POSITIVE_INFINITY"), (3, u "NEGATIVE_INFINITY"), (2, u "NaN"), (2, u "MAX_VALUE"), (0, u "MIN_NORMAL"), (0, u "MIN_VALUE"), (2, u "SIZE"), (0, u "I"), (1, u "PRECISION"), (1, u "MAX_EXPONENT"), (1, u "MIN_EXPONENT"), (1, u "BYTES"), (3, u "serialVersionUID"), (0, u "J")] 79

def k11c0 : Code := { maxStack := 4, maxLocals := 2, code := jdk_117_method_6_code, exceptionTable := #[], attributes := #[] }
def k11m0 : Method := { name := "isNaN", desc := "(D)Z", sig := { parameters := [.double], returnType := some .boolean }, accessFlags := 9, code := some k11c0 }
def k11m1 : Method := { name := "doubleToRawLongBits", desc := "(D)J", sig := { parameters := [.double], returnType := some .long }, accessFlags := 265, code := none }
/-- java/lang/Double -/
def k11 : Class := { plain "java/lang/Double" (some 9) with
  accessFlags := 49
  interfaces := #[5, 4, 10]
  cf := some (fileOf pool11 1 #[] #[{ accessFlags := 9, nameIndex := 124, descriptorIndex := 14, attributes := #[] }, { accessFlags := 265, nameIndex := 136, descriptorIndex := 49, attributes := #[] }] 49 114 #[175, 177, 179] #[{ accessFlags := 25, nameIndex := 181, descriptorIndex := 121, attributes := #[] }, { accessFlags := 25, nameIndex := 185, descriptorIndex := 121, attributes := #[] }, { accessFlags := 25, nameIndex := 188, descriptorIndex := 121, attributes := #[] }, { accessFlags := 25, nameIndex := 191, descriptorIndex := 121, attributes := #[] }, { accessFlags := 25, nameIndex := 192, descriptorIndex := 121, attributes := #[] }, { accessFlags := 25, nameIndex := 193, descriptorIndex := 121, attributes := #[] }, { accessFlags := 25, nameIndex := 196, descriptorIndex := 197, attributes := #[] }, { accessFlags := 25, nameIndex := 199, descriptorIndex := 197, attributes := #[] }, { accessFlags := 25, nameIndex := 201, descriptorIndex := 197, attributes := #[] }, { accessFlags := 25, nameIndex := 203, descriptorIndex := 197, attributes := #[] }, { accessFlags := 25, nameIndex := 205, descriptorIndex := 197, attributes := #[] }, { accessFlags := 25, nameIndex := 173, descriptorIndex := 174, attributes := #[] }, { accessFlags := 18, nameIndex := 120, descriptorIndex := 121, attributes := #[] }, { accessFlags := 26, nameIndex := 209, descriptorIndex := 210, attributes := #[] }])
  fields := #[{ name := "POSITIVE_INFINITY", type := .double, accessFlags := 25, slot := 0, constantValue := 0 }, { name := "NEGATIVE_INFINITY", type := .double, accessFlags := 25, slot := 1, constantValue := 0 }, { name := "NaN", type := .double, accessFlags := 25, slot := 2, constantValue := 0 }, { name := "MAX_VALUE", type := .double, accessFlags := 25, slot := 3, constantValue := 0 }, { name := "MIN_NORMAL", type := .double, accessFlags := 25, slot := 4, constantValue := 0 }, { name := "MIN_VALUE", type := .double, accessFlags := 25, slot := 5, constantValue := 0 }, { name := "SIZE", type := .int, accessFlags := 25, slot := 6, constantValue := 0 }, { name := "PRECISION", type := .int, accessFlags := 25, slot := 7, constantValue := 0 }, { name := "MAX_EXPONENT", type := .int, accessFlags := 25, slot := 8, constantValue := 0 }, { name := "MIN_EXPONENT", type := .int, accessFlags := 25, slot := 9, constantValue := 0 }, { name := "BYTES", type := .int, accessFlags := 25, slot := 10, constantValue := 0 }, { name := "TYPE", type := (.object "java/lang/Class"), accessFlags := 25, slot := 11, constantValue := 0 }, { name := "value", type := .double, accessFlags := 18, slot := 0, constantValue := 0 }, { name := "serialVersionUID", type := .long, accessFlags := 26, slot := 12, constantValue := 0 }]
  methods := #[k11m0, k11m1]
  instanceTypes := #[.double]
  staticTypes := #[.double, .double, .double, .double, .double, .double, .int, .int, .int, .int, .int, (.object "java/lang/Class"), .long]
  resolved := Array.replicate 290 none
  statics := none }

def pool12 : Array CpInfo := pool [(2, .class_ 4), (1, u "java/lang/CharSequence"), (42, .class_ 48), (0, u "java/lang/CharSequence$1CodePointIterator"), (10, .class_ 60), (0, u "java/lang/CharSequence$1CharIterator"), (5, .class_ 67), (0, u "java/lang/Object")] 63

/-- java/lang/CharSequence -/
def k12 : Class := { plain "java/lang/CharSequence" (some 0) with
  accessFlags := 1537
  interfaces := #[]
  cf := some (fileOf pool12 2 #[.nestMembers #[47, 59]] #[] 1537 66 #[] #[])
  fields := #[]
  methods := #[]
  instanceTypes := #[]
  staticTypes := #[]
  resolved := Array.replicate 131 none
  statics := none }

def pool13 : Array CpInfo := pool [(2, .class_ 4), (1, u "java/lang/Object"), (0, u "<init>"), (0, u "()V"), (3, .class_ 12), (1, u "java/lang/String"), (0, u "value"), (0, u "[B"), (2, u "coder"), (0, u "B"), (2, u "hash"), (0, u "I"), (2, u "hashIsZero"), (0, u "Z"), (13, u "COMPACT_STRINGS"), (534, .class_ 576), (0, u "java/lang/CharSequence"), (22, u "CASE_INSENSITIVE_ORDER"), (0, u "Ljava/util/Comparator;"), (500, u "serialPersistentFields"), (0, u "[Ljava/io/ObjectStreamField;"), (0, .class_ 1104), (0, u "java/lang/String$CaseInsensitiveComparator"), (1, .class_ 1107), (0, u "java/io/Serializable"), (0, .class_ 1109), (0, u "java/lang/Comparable"), (0, .class_ 1111), (0, u "java/lang/constant/Constable"), (0, .class_ 1113), (0, u "java/lang/constant/ConstantDesc"), (2, u "serialVersionUID"), (0, u "J"), (3, u "REPL"), (0, u "C"), (2, u "LATIN1"), (1, u "UTF16")] 323

def k13m0 : Method := { name := "<init>", desc := "()V", sig := { parameters := [], returnType := none }, accessFlags := 1, code := none }
/-- java/lang/String -/
def k13 : Class := { plain "java/lang/String" (some 0) with
  accessFlags := 49
  interfaces := #[6, 5, 12, 4, 10]
  cf := some (fileOf pool13 10 #[.nestMembers #[1103]] #[{ accessFlags := 1, nameIndex := 5, descriptorIndex := 6, attributes := #[] }] 49 2 #[1106, 1108, 575, 1110, 1112] #[{ accessFlags := 18, nameIndex := 13, descriptorIndex := 14, attributes := #[] }, { accessFlags := 18, nameIndex := 17, descriptorIndex := 18, attributes := #[] }, { accessFlags := 2, nameIndex := 21, descriptorIndex := 22, attributes := #[] }, { accessFlags := 2, nameIndex := 25, descriptorIndex := 26, attributes := #[] }, { accessFlags := 26, nameIndex := 1116, descriptorIndex := 1117, attributes := #[] }, { accessFlags := 24, nameIndex := 40, descriptorIndex := 26, attributes := #[] }, { accessFlags := 26, nameIndex := 1101, descriptorIndex := 1102, attributes := #[] }, { accessFlags := 26, nameIndex := 1121, descriptorIndex := 1122, attributes := #[] }, { accessFlags := 25, nameIndex := 599, descriptorIndex := 600, attributes := #[] }, { accessFlags := 24, nameIndex := 1125, descriptorIndex := 18, attributes := #[] }, { accessFlags := 24, nameIndex := 1127, descriptorIndex := 18, attributes := #[] }])
  fields := #[{ name := "value", type := (.array .byte), accessFlags := 18, slot := 0, constantValue := 0 }, { name := "coder", type := .byte, accessFlags := 18, slot := 1, constantValue := 0 }, { name := "hash", type := .int, accessFlags := 2, slot := 2, constantValue := 0 }, { name := "hashIsZero", type := .boolean, accessFlags := 2, slot := 3, constantValue := 0 }, { name := "serialVersionUID", type := .long, accessFlags := 26, slot := 0, constantValue := 0 }, { name := "COMPACT_STRINGS", type := .boolean, accessFlags := 24, slot := 1, constantValue := 0 }, { name := "serialPersistentFields", type := (.array (.object "java/io/ObjectStreamField")), accessFlags := 26, slot := 2, constantValue := 0 }, { name := "REPL", type := .char, accessFlags := 26, slot := 3, constantValue := 0 }, { name := "CASE_INSENSITIVE_ORDER", type := (.object "java/util/Comparator"), accessFlags := 25, slot := 4, constantValue := 0 }, { name := "LATIN1", type := .byte, accessFlags := 24, slot := 5, constantValue := 0 }, { name := "UTF16", type := .byte, accessFlags := 24, slot := 6, constantValue := 0 }]
  methods := #[k13m0]
  instanceTypes := #[(.array .byte), .byte, .int, .boolean]
  staticTypes := #[.long, .boolean, (.array (.object "java/io/ObjectStreamField")), .char, (.object "java/util/Comparator"), .byte, .byte]
  resolved := Array.replicate 1451 none
  statics := none }

def pool14 : Array CpInfo := pool [(1, u "java/lang/Cloneable"), (0, .class_ 1), (0, u "java/lang/Object"), (0, .class_ 3)] 3

/-- java/lang/Cloneable -/
def k14 : Class := { plain "java/lang/Cloneable" (some 0) with
  accessFlags := 1537
  interfaces := #[]
  cf := some (fileOf pool14 2 #[] #[] 1537 4 #[] #[])
  fields := #[]
  methods := #[]
  instanceTypes := #[]
  staticTypes := #[]
  resolved := Array.replicate 8 none
  statics := none }

/-- the primitive byte -/
def k15 : Class := { plain "byte" none with kind := .primitive 'B', accessFlags := 0x411 }
/-- [B -/
def k16 : Class := { plain "[B" (some 0) with kind := .array 15 .byte, interfaces := #[14, 6], accessFlags := 1041 }

/-- the primitive int -/
def k17 : Class := { plain "int" none with kind := .primitive 'I', accessFlags := 0x411 }
/-- [I -/
def k18 : Class := { plain "[I" (some 0) with kind := .array 17 .int, interfaces := #[14, 6], accessFlags := 1041 }

def heap : Heap := #[{ cls := 8, slots := #[.null, .null, .ref 2, .null, .null, .null, .null, .long 0, .long 0, .long 0, .long 0, .long 0, .long 0, .long 0, .null], vm := .statics 8 },
  { cls := 13, slots := #[.null, .int 0, .int 0, .int 0], vm := .none },
  { cls := 8, slots := #[.ref 1, .int 2, .int 0, .long 1000000, .long 9223372036854, .long 9223372036854775, .long 9223372036854775807, .long 9223372036854775, .long 1000, .int 1, .int 1000], vm := .none }]
def classes : Array Class := #[k0, k1, k2, k3, k4, k5, k6, k7, k8, k9, k10, k11, k12, k13, k14, k15, k16, k17, k18]
def interned : List (Array UInt16 × Addr) := []
def slotsUsed : Nat := 30
def theMethod : MethodId := ⟨1, 1⟩
def args0 : Array Value := #[.long 5, .long 5, .long 5, .int 5, .int 5]
def aboutOver (below : List Frame) : State where
  vm := { classes := classes, interned := interned.toArray }
  heap := heap
  slotsUsed := slotsUsed
  threads := #[{ frames := .invoking theMethod args0 :: below }]
def below0 : List Frame := [.native { method := ⟨0, 0⟩, args := #[] }]
def about1 : State := aboutOver below0
def p0 : Program := .bare "" "" ""
def e0 : Env := launch0.env 0 0 0
theorem w_frames : about1.frames = Frame.invoking theMethod args0 :: below0 := rfl
set_option maxRecDepth 65536 in
theorem w_args : argsFit about1.vm theMethod args0 = true := by decide +kernel
set_option maxRecDepth 65536 in
theorem w_heap : heapFits about1 = true := by decide +kernel
set_option maxRecDepth 65536 in
theorem w_runnable : about1.curStatus? = some .runnable := by decide +kernel
set_option maxRecDepth 65536 in
theorem w_alone : about1.alone = true := by decide +kernel
set_option maxRecDepth 65536 in
theorem w_named : about1.methodNamed? x = some theMethod := by decide +kernel
set_option maxRecDepth 65536 in
theorem w_hears : about1.hears theMethod below0 = true := by decide +kernel
set_option maxRecDepth 65536 in
theorem w_ripe : about1.ripe theMethod args0 below0 = true := by decide +kernel
theorem w_running : about1.status = .running := rfl
set_option maxRecDepth 65536 in
theorem w_room : about1.hasRoom e0.platform room_1 = true :=
  launch0.hasRoom_least _ room_1 (by decide +kernel) (by decide +kernel) (by decide +kernel) (by decide +kernel) (by decide +kernel) (by decide +kernel)
theorem allAtoms_all (ts : List Jvm.Cond) (a : Array Jvm.Value) (st : Jvm.State) : (allAtoms ts).before a st = ts.all (fun c => c.before a st) := by
  induction ts with
  | nil => rfl
  | cons c t ih =>
    show (Jvm.Cond.and c (allAtoms t)).before a st = _
    rw [Jvm.Cond.before_and, ih, List.all_cons]
def words1 : List Jvm.Cond := Jvm.Cond.code x code maxLocals ret :: tables_1
/-- a 'code' word, met by the world's own term for the bytes: nothing is compared byte by byte -/
theorem code_word {y : MethodName} {bytes : ByteArray} {mx : Nat} {rt : Option FieldType} {a : Array Value} {s : State} {m : MethodId} {meth : Method} {c : Code} (h1 : s.methodNamed? y = some m) (h2 : s.vm.method? m = some meth) (h3 : meth.code = some c) (h4 : c.code = bytes)
    (h5 : (c.maxLocals == mx && c.exceptionTable.isEmpty && decide (c.maxStack ≤ mostOperands) && decide (meth.sig.returnType = rt) && !meth.locks && decide (parseMethodDescriptor y.desc = some meth.sig)) = true) : (Jvm.Cond.code y bytes mx rt).before a s = true := by
  simp only [Bool.and_eq_true, beq_iff_eq, Bool.not_eq_true', decide_eq_true_eq] at h5
  obtain ⟨⟨⟨⟨⟨g1, g2⟩, g3⟩, g4⟩, g5⟩, g6⟩ := h5
  simp [Cond.before, Cond.holds, Cond.value, h1, h2, h3, h4, g1, g2, g3, g4, g5, g6]
def isCode : Jvm.Cond → Bool
  | .code _ _ _ _ => true
  | _ => false
theorem all_split {L : List Jvm.Cond} {P : Jvm.Cond → Bool} (h1 : L.all (fun c => isCode c || P c) = true) (h2 : ∀ c ∈ L.filter isCode, P c = true) : L.all P = true := by
  refine List.all_eq_true.mpr fun c hc => ?_
  have h := List.all_eq_true.mp h1 c hc
  rcases Bool.eq_false_or_eq_true (isCode c) with hi | hi
  · exact h2 c (List.mem_filter.mpr ⟨hc, hi⟩)
  · simpa [hi] using h
set_option maxRecDepth 65536 in
theorem w_c0 : (Jvm.Cond.code x code maxLocals ret).before args0 about1 = true := code_word (m := ⟨1, 1⟩) (meth := k1m1) (c := k1c1) (by decide +kernel) rfl rfl rfl (by decide +kernel)
set_option maxRecDepth 65536 in
theorem w_c1 : (Jvm.Cond.code ({ cls := "java/lang/Math", name := "max", desc := "(II)I" } : Jvm.MethodName) jdk_29_method_65_code (2 : Nat) (Option.some Jvm.ClassFile.FieldType.int)).before args0 about1 = true := code_word (m := ⟨2, 2⟩) (meth := k2m2) (c := k2c2) (by decide +kernel) rfl rfl rfl (by decide +kernel)
set_option maxRecDepth 65536 in
theorem w_c2 : (Jvm.Cond.code ({ cls := "com/example/spillway/spillway/runtime/LatencyController", name := "<init>", desc := "(JJD)V" } : Jvm.MethodName) prog_19_method_1_code (7 : Nat) (Option.none : Option Jvm.ClassFile.FieldType)).before args0 about1 = true := code_word (m := ⟨3, 0⟩) (meth := k3m0) (c := k3c0) (by decide +kernel) rfl rfl rfl (by decide +kernel)
set_option maxRecDepth 65536 in
theorem w_c3 : (Jvm.Cond.code ({ cls := "java/lang/Object", name := "<init>", desc := "()V" } : Jvm.MethodName) object_method_1_code (1 : Nat) (Option.none : Option Jvm.ClassFile.FieldType)).before args0 about1 = true := code_word (m := ⟨0, 0⟩) (meth := k0m0) (c := k0c0) (by decide +kernel) rfl rfl rfl (by decide +kernel)
set_option maxRecDepth 65536 in
theorem w_c4 : (Jvm.Cond.code ({ cls := "java/util/concurrent/TimeUnit", name := "toNanos", desc := "(J)J" } : Jvm.MethodName) jdk_2799_method_7_code (7 : Nat) (Option.some Jvm.ClassFile.FieldType.long)).before args0 about1 = true := code_word (m := ⟨8, 0⟩) (meth := k8m0) (c := k8c0) (by decide +kernel) rfl rfl rfl (by decide +kernel)
set_option maxRecDepth 65536 in
theorem w_c5 : (Jvm.Cond.code ({ cls := "com/example/spillway/spillway/runtime/LatencyController", name := "processed", desc := "(J)V" } : Jvm.MethodName) prog_19_method_3_code (3 : Nat) (Option.none : Option Jvm.ClassFile.FieldType)).before args0 about1 = true := code_word (m := ⟨3, 1⟩) (meth := k3m1) (c := k3c1) (by decide +kernel) rfl rfl rfl (by decide +kernel)
set_option maxRecDepth 65536 in
theorem w_c6 : (Jvm.Cond.code ({ cls := "com/example/spillway/spillway/runtime/LatencyController", name := "decide", desc := "(I)I" } : Jvm.MethodName) prog_19_method_4_code (9 : Nat) (Option.some Jvm.ClassFile.FieldType.int)).before args0 about1 = true := code_word (m := ⟨3, 2⟩) (meth := k3m2) (c := k3c2) (by decide +kernel) rfl rfl rfl (by decide +kernel)
set_option maxRecDepth 65536 in
theorem w_c7 : (Jvm.Cond.code ({ cls := "java/lang/Double", name := "isNaN", desc := "(D)Z" } : Jvm.MethodName) jdk_117_method_6_code (2 : Nat) (Option.some Jvm.ClassFile.FieldType.boolean)).before args0 about1 = true := code_word (m := ⟨11, 0⟩) (meth := k11m0) (c := k11c0) (by decide +kernel) rfl rfl rfl (by decide +kernel)
set_option maxRecDepth 65536 in
theorem w_c8 : (Jvm.Cond.code ({ cls := "com/example/spillway/spillway/runtime/LatencyController", name := "adjusted", desc := "(DD)D" } : Jvm.MethodName) prog_19_method_5_code (7 : Nat) (Option.some Jvm.ClassFile.FieldType.double)).before args0 about1 = true := code_word (m := ⟨3, 3⟩) (meth := k3m3) (c := k3c3) (by decide +kernel) rfl rfl rfl (by decide +kernel)
set_option maxRecDepth 65536 in
theorem w_c9 : (Jvm.Cond.code ({ cls := "java/lang/Math", name := "max", desc := "(DD)D" } : Jvm.MethodName) jdk_29_method_68_code (4 : Nat) (Option.some Jvm.ClassFile.FieldType.double)).before args0 about1 = true := code_word (m := ⟨2, 3⟩) (meth := k2m3) (c := k2c3) (by decide +kernel) rfl rfl rfl (by decide +kernel)
set_option maxRecDepth 65536 in
theorem w_c10 : (Jvm.Cond.code ({ cls := "java/lang/Math", name := "round", desc := "(D)J" } : Jvm.MethodName) jdk_29_method_22_code (10 : Nat) (Option.some Jvm.ClassFile.FieldType.long)).before args0 about1 = true := code_word (m := ⟨2, 1⟩) (meth := k2m1) (c := k2c1) (by decide +kernel) rfl rfl rfl (by decide +kernel)
set_option maxRecDepth 65536 in
theorem w_c11 : (Jvm.Cond.code ({ cls := "java/lang/Math", name := "min", desc := "(JJ)J" } : Jvm.MethodName) jdk_29_method_70_code (4 : Nat) (Option.some Jvm.ClassFile.FieldType.long)).before args0 about1 = true := code_word (m := ⟨2, 4⟩) (meth := k2m4) (c := k2c4) (by decide +kernel) rfl rfl rfl (by decide +kernel)
def codes1 : List Jvm.Cond := [Jvm.Cond.code x code maxLocals ret, Jvm.Cond.code ({ cls := "java/lang/Math", name := "max", desc := "(II)I" } : Jvm.MethodName) jdk_29_method_65_code (2 : Nat) (Option.some Jvm.ClassFile.FieldType.int), Jvm.Cond.code ({ cls := "com/example/spillway/spillway/runtime/LatencyController", name := "<init>", desc := "(JJD)V" } : Jvm.MethodName) prog_19_method_1_code (7 : Nat) (Option.none : Option Jvm.ClassFile.FieldType), Jvm.Cond.code ({ cls := "java/lang/Object", name := "<init>", desc := "()V" } : Jvm.MethodName) object_method_1_code (1 : Nat) (Option.none : Option Jvm.ClassFile.FieldType), Jvm.Cond.code ({ cls := "java/util/concurrent/TimeUnit", name := "toNanos", desc := "(J)J" } : Jvm.MethodName) jdk_2799_method_7_code (7 : Nat) (Option.some Jvm.ClassFile.FieldType.long), Jvm.Cond.code ({ cls := "com/example/spillway/spillway/runtime/LatencyController", name := "processed", desc := "(J)V" } : Jvm.MethodName) prog_19_method_3_code (3 : Nat) (Option.none : Option Jvm.ClassFile.FieldType), Jvm.Cond.code ({ cls := "com/example/spillway/spillway/runtime/LatencyController", name := "decide", desc := "(I)I" } : Jvm.MethodName) prog_19_method_4_code (9 : Nat) (Option.some Jvm.ClassFile.FieldType.int), Jvm.Cond.code ({ cls := "java/lang/Double", name := "isNaN", desc := "(D)Z" } : Jvm.MethodName) jdk_117_method_6_code (2 : Nat) (Option.some Jvm.ClassFile.FieldType.boolean), Jvm.Cond.code ({ cls := "com/example/spillway/spillway/runtime/LatencyController", name := "adjusted", desc := "(DD)D" } : Jvm.MethodName) prog_19_method_5_code (7 : Nat) (Option.some Jvm.ClassFile.FieldType.double), Jvm.Cond.code ({ cls := "java/lang/Math", name := "max", desc := "(DD)D" } : Jvm.MethodName) jdk_29_method_68_code (4 : Nat) (Option.some Jvm.ClassFile.FieldType.double), Jvm.Cond.code ({ cls := "java/lang/Math", name := "round", desc := "(D)J" } : Jvm.MethodName) jdk_29_method_22_code (10 : Nat) (Option.some Jvm.ClassFile.FieldType.long), Jvm.Cond.code ({ cls := "java/lang/Math", name := "min", desc := "(JJ)J" } : Jvm.MethodName) jdk_29_method_70_code (4 : Nat) (Option.some Jvm.ClassFile.FieldType.long)]
set_option maxRecDepth 65536 in
theorem codes_eq : words1.filter isCode = codes1 := rfl
theorem w_codes : ∀ c ∈ words1.filter isCode, c.before args0 about1 = true := by
  rw [codes_eq]
  intro c hc
  simp only [codes1, List.mem_cons, List.not_mem_nil, or_false] at hc
  rcases hc with rfl | rfl | rfl | rfl | rfl | rfl | rfl | rfl | rfl | rfl | rfl | rfl
  · exact w_c0
  · exact w_c1
  · exact w_c2
  · exact w_c3
  · exact w_c4
  · exact w_c5
  · exact w_c6
  · exact w_c7
  · exact w_c8
  · exact w_c9
  · exact w_c10
  · exact w_c11
set_option maxRecDepth 65536 in
theorem w_t1 : (words1.take 24).all (fun c => isCode c || c.before args0 about1) = true := by decide +kernel
set_option maxRecDepth 65536 in
theorem w_t2 : ((words1.drop 24).take 24).all (fun c => isCode c || c.before args0 about1) = true := by decide +kernel
set_option maxRecDepth 65536 in
theorem w_t3 : (((words1.drop 24).drop 24).take 24).all (fun c => isCode c || c.before args0 about1) = true := by decide +kernel
set_option maxRecDepth 65536 in
theorem w_t4 : (((words1.drop 24).drop 24).drop 24).all (fun c => isCode c || c.before args0 about1) = true := by decide +kernel
theorem w_tables : (allAtoms (Jvm.Cond.code x code maxLocals ret :: tables_1)).before args0 about1 = true := by
  rw [allAtoms_all]
  show words1.all (fun c => c.before args0 about1) = true
  refine all_split ?_ w_codes
  rw [← List.take_append_drop 24 words1, List.all_append, w_t1, ← List.take_append_drop 24 (words1.drop 24), List.all_append, w_t2, ← List.take_append_drop 24 ((words1.drop 24).drop 24), List.all_append, w_t3, w_t4]
  rfl
set_option maxRecDepth 65536 in
theorem w_rest : rest_1_c.before args0 about1 = true := by decide +kernel
set_option maxRecDepth 65536 in
theorem w_case : (Jvm.Cond.and given_1 narrow_1).before args0 about1 = true := by decide +kernel
theorem w_applies : (headSpec (Jvm.Cond.code x code maxLocals ret :: tables_1) room_1).applies x e0.platform about1 = true :=
  (Spec.applies_iff w_frames).mpr ⟨w_running, w_runnable, w_alone, w_named, w_hears, w_ripe, w_room, w_tables⟩
theorem atStart : AtStart classFile x code maxLocals ret World_1 tables_1 room_1 Calls_1 rest_1 Pre_1 launch0 p0 e0 about1 theMethod args0 below0 :=
  ⟨lists_1, trivial, launch0.admits_env _ _ _, launch0.least_env, fairChoices_fair.cas, fairChoices_fair.clock, w_frames, w_args, w_heap, w_applies, trivial, w_rest, w_case⟩
end start1
theorem witness_1 : WitnessClaimed_1 := ⟨start1.p0, start1.e0, start1.about1, start1.theMethod, start1.args0, start1.below0, start1.atStart⟩
end Jvm.Pilot.@@N@@
