import JvmDerived
import JvmDerived.Pilot.@@N@@Statement
import JvmDerived.Pilot.@@N@@Code
set_option linter.unusedVariables false
set_option linter.unusedSimpArgs false
@@BLOCK:NumsL.lean.txt@@
namespace Jvm.Pilot.@@N@@
open Jvm Jvm.ClassFile Sem Op Lib Jvm.Free Jvm.Stand Jvm.LawKit Jvm.RoadKit Bundle Jvm.Pilot.@@N@@.Jvm.D
theorem own_nb {z : Int32} (h : z = 0 ∨ z = 1) : nar .boolean z = z := by rcases h with rfl | rfl <;> decide
/-! doubles as whole numbers of 2^-1074: own_zv; the rounding of a quotient of whole numbers: own_rr -/
section FloatKit
open Jvm.FP.Core
def own_zv (a : UInt64) : Int := zval b64 (val64 a)
def own_rr (A B : Nat) : Nat := zmag b64 (roundRatio b64 false A B 0)
def own_Rep (V : Nat) : Prop := ∃ d, Jvm.FP.Core.fits b64 d ∧ d ≠ .nan ∧ zmag b64 d = V
theorem own_zmag_s (s : Bool) (A B : Nat) (e : Int) : zmag b64 (roundRatio b64 s A B e) = zmag b64 (roundRatio b64 false A B e) := by
  cases s
  · rfl
  · rw [show (true : Bool) = !false from rfl, ← negate_roundRatio]
    cases roundRatio b64 false A B e <;> rfl
theorem own_zv_round {s : Bool} {A B : Nat} {a : UInt64} (h : val64 a = roundRatio b64 s A B 0) : own_zv a = signed s (own_rr A B) := by
  unfold own_zv zval
  rw [h, sgn_roundRatio, own_zmag_s]; rfl
theorem own_units0 (A : Nat) : inUnits A 0 b64.qmin = A * one64 := by
  unfold inUnits
  rw [Int.zero_sub, pow_qmin64]
theorem own_rr_zero (B : Nat) : own_rr 0 B = 0 := by
  unfold own_rr roundRatio
  rw [if_pos rfl]; simp [zmag, inUnits]
theorem own_rr_rep (A : Nat) {B : Nat} (hB : 0 < B) : own_Rep (own_rr A B) := ⟨_, roundRatio_fits good_b64 false A hB 0, roundRatio_ne_nan _ _ _ _ _, rfl⟩
theorem own_rr_le {A B V : Nat} (hB : 0 < B) (hV : own_Rep V) (h : A * one64 ≤ V * B) : own_rr A B ≤ V := by
  obtain ⟨d, h1, h2, rfl⟩ := hV
  refine zmag_roundRatio_le good_b64 hB h1 h2 (e0 := b64.qmin) (Int.le_refl _) (by decide) ?_
  rw [own_units0, Int.sub_self, Int.toNat_zero, Nat.pow_zero, Nat.mul_one]
  exact h
theorem own_rr_ge {A B V : Nat} (hB : 0 < B) (hV : own_Rep V) (h : V * B ≤ A * one64) : V ≤ own_rr A B := by
  obtain ⟨d, h1, h2, rfl⟩ := hV
  refine zmag_roundRatio_ge good_b64 hB h1 (e0 := b64.qmin) (Int.le_refl _) (by decide) ?_
  rw [own_units0, Int.sub_self, Int.toNat_zero, Nat.pow_zero, Nat.mul_one]
  exact h
theorem own_rr_exact {A B V : Nat} (hB : 0 < B) (hV : own_Rep V) (h : A * one64 = V * B) : own_rr A B = V :=
  Nat.le_antisymm (own_rr_le hB hV (Nat.le_of_eq h)) (own_rr_ge hB hV (Nat.le_of_eq h.symm))
theorem own_rr_congr {A B A' B' : Nat} (hB : 0 < B) (hB' : 0 < B') (h : A * B' = A' * B) : own_rr A B = own_rr A' B' := by
  unfold own_rr
  rw [roundRatio_congr (e' := 0) hB hB' (by simpa using h)]
/-- what is finite -/
theorem own_fin_round {s : Bool} {A B : Nat} {a : UInt64} (h : val64 a = roundRatio b64 s A B 0) (hlt : own_rr A B < b64.tails * 2 ^ (b64.exps - 2)) : DFin a := by
  rcases roundRatio_cases b64 s A B 0 with ⟨c, q, e⟩ | e
  · exact ⟨s, c, q, by rw [h, e]⟩
  · exfalso
    rw [own_rr, ← own_zmag_s s, e] at hlt
    exact Nat.lt_irrefl _ hlt
/-- m * 2^k is a double -/
theorem own_rep_pow {m k : Nat} (hm : m < 2 ^ 53) (hk : k ≤ 2045) : own_Rep (m * 2 ^ k) := by
  have hq1 : b64.qmin ≤ (k : Int) - 1074 := by rw [qmin_b64]; omega
  have hq2 : (k : Int) - 1074 ≤ b64.qmax := by rw [show b64.qmax = 971 by decide]; omega
  obtain ⟨c', q', h1, h2⟩ := round_exact good_b64 false (c := m) (q := (k : Int) - 1074) (by exact hm) hq1 hq2
  refine ⟨_, round_fits good_b64 (.fin false m ((k : Int) - 1074)), by rw [h1]; exact Datum.noConfusion, ?_⟩
  rw [h1]
  show inUnits c' q' b64.qmin = _
  rw [h2]
  unfold inUnits
  rw [qmin_b64, show ((k : Int) - 1074 - -1074).toNat = k by omega]
theorem own_rep_zero : own_Rep 0 := by
  have := own_rep_pow (m := 0) (k := 0) (by decide) (by decide)
  simpa using this
/-- rounding keeps the order -/
theorem own_rr_mono {A B A' B' : Nat} (hB : 0 < B) (hB' : 0 < B') (h : A * B' ≤ A' * B) : own_rr A B ≤ own_rr A' B' := by
  rcases roundRatio_cases b64 false A' B' 0 with ⟨c', q', e'⟩ | e'
  · rcases roundRatio_cases b64 false A B 0 with ⟨c, q, e⟩ | e
    · refine Nat.le_of_not_lt fun hlt => ?_
      have f1 : Jvm.FP.Core.fits b64 (.fin false c q) := e ▸ roundRatio_fits good_b64 false A hB 0
      have f2 : Jvm.FP.Core.fits b64 (.fin false c' q') := e' ▸ roundRatio_fits good_b64 false A' hB' 0
      have d1 := roundRatio_nearest good_b64 hB e f2.1 f2.2.1 (e0 := b64.qmin) (Int.le_refl _) (by decide)
      have d2 := roundRatio_nearest good_b64 hB' e' f1.1 f1.2.1 (e0 := b64.qmin) (Int.le_refl _) (by decide)
      unfold distance at d1 d2
      have x1 : own_rr A B = inUnits c q b64.qmin := by unfold own_rr; rw [e]; rfl
      have x2 : own_rr A' B' = inUnits c' q' b64.qmin := by unfold own_rr; rw [e']; rfl
      rw [x1, x2] at hlt
      rw [own_units0] at d1 d2
      generalize inUnits c q b64.qmin = X at *
      generalize inUnits c' q' b64.qmin = Y at *
      have hU := one64_pos
      generalize hP : A * one64 = P at *
      generalize hP' : A' * one64 = P' at *
      have hPP : P * B' ≤ P' * B := by
        rw [← hP, ← hP', Nat.mul_right_comm, Nat.mul_right_comm A']; exact Nat.mul_le_mul_right _ h
      rw [← Int.natCast_mul, ← Int.natCast_mul] at d1 d2
      have hXB : Y * B + B ≤ X * B := by rw [← Nat.succ_mul]; exact Nat.mul_le_mul_right _ hlt
      have hXB' : Y * B' + B' ≤ X * B' := by rw [← Nat.succ_mul]; exact Nat.mul_le_mul_right _ hlt
      have g1 : X * B + Y * B ≤ 2 * P := by
        generalize X * B = xb at *; generalize Y * B = yb at *; omega
      have g2 : 2 * P' ≤ X * B' + Y * B' := by
        generalize X * B' = xb at *; generalize Y * B' = yb at *; omega
      have g3 : (X * B + Y * B) * B' ≤ 2 * P * B' := Nat.mul_le_mul_right _ g1
      have g4 : 2 * P' * B ≤ (X * B' + Y * B') * B := Nat.mul_le_mul_right _ g2
      have g5 : (X * B + Y * B) * B' = (X * B' + Y * B') * B := by
        rw [Nat.add_mul, Nat.add_mul, Nat.mul_right_comm X, Nat.mul_right_comm Y]
      have g6 : P * B' = P' * B := by
        rw [Nat.mul_assoc] at g3 g4
        rw [g5] at g3
        generalize P * B' = u at *; generalize P' * B = w at *; omega
      have g7 : A * B' = A' * B := by
        rw [← hP, ← hP', Nat.mul_right_comm, Nat.mul_right_comm A'] at g6
        exact Nat.eq_of_mul_eq_mul_right hU g6
      have g8 := own_rr_congr hB hB' g7
      rw [x1, x2] at g8
      omega
    · exfalso
      have i1 := (roundRatio_inf good_b64 (s := false) (A := A) (B := B) (e := 0) (e0 := -1075) hB (by decide) (by decide)).mp e
      have i2 : ¬ _ := fun z => by
        have := (roundRatio_inf good_b64 (s := false) (A := A') (B := B') (e := 0) (e0 := -1075) hB' (by decide) (by decide)).mpr z
        rw [this] at e'; cases e'
      apply i2
      generalize (2 ^ (b64.p + 1) - 1) * 2 ^ (b64.qmax - 1 - -1075).toNat = M at *
      have hU : ∀ z, inUnits z 0 (-1075) = z * 2 ^ (0 - (-1075 : Int)).toNat := fun z => rfl
      rw [hU] at i1 ⊢
      have hW := Nat.two_pow_pos (0 - (-1075 : Int)).toNat
      generalize 2 ^ (0 - (-1075 : Int)).toNat = W at *
      have j1 : M * B * B' ≤ A * W * B' := Nat.mul_le_mul_right _ i1
      have j2 : A * W * B' ≤ A' * W * B := by
        rw [Nat.mul_right_comm, Nat.mul_right_comm A']; exact Nat.mul_le_mul_right _ h
      have j3 : M * B' * B ≤ A' * W * B := by rw [Nat.mul_right_comm]; exact Nat.le_trans j1 j2
      exact Nat.le_of_mul_le_mul_right j3 hB
  · have f1 := roundRatio_fits good_b64 false A hB 0
    unfold own_rr
    rw [e']
    exact zmag_le_top good_b64 f1
/-- the relative error -/
theorem own_rr_err {A B : Nat} (hB : 0 < B) (hn : 2 ^ 52 * B ≤ A * one64) (hlt : own_rr A B < b64.tails * 2 ^ (b64.exps - 2)) :
    2 ^ 53 * (own_rr A B * B) ≤ 2 ^ 53 * (A * one64) + A * one64 ∧ 2 ^ 53 * (A * one64) ≤ 2 ^ 53 * (own_rr A B * B) + A * one64 := by
  have hA : 0 < A := by
    rcases Nat.eq_zero_or_pos A with rfl | h
    · rw [Nat.zero_mul] at hn; have := Nat.mul_pos (show 0 < 2 ^ 52 by decide) hB; omega
    · exact h
  rcases roundRatio_cases b64 false A B 0 with ⟨c, q, e⟩ | e
  · have x1 : own_rr A B = inUnits c q b64.qmin := by unfold own_rr; rw [e]; rfl
    have e1 := e
    unfold roundRatio at e1
    rw [if_neg (by omega)] at e1
    unfold roundAt at e1
    have hq := quantum_ge b64 A B 0
    have hnb := quantum_not_below (f := b64) hA hB 0
    have hle := nearest_units_le (f := b64) hA hB 0
    generalize hr : quantum b64 A B 0 = r at *
    obtain ⟨-, s2⟩ := settle_value good_b64 hle e1 (e0 := b64.qmin) hq
    obtain ⟨n1, n2, -⟩ := nearest_spec (unitsNum A 0 r) (unitsDen B 0 r) (unitsDen_pos hB 0 r)
    generalize nearest (unitsNum A 0 r) (unitsDen B 0 r) = m at *
    rw [x1, s2]
    -- the ratio in units of 2^r is at least 2^52
    obtain ⟨k, hk⟩ : ∃ k : Nat, r = (k : Int) - 1074 := ⟨(r + 1074).toNat, by rw [qmin_b64] at hq; omega⟩
    have hm : inUnits m r b64.qmin = m * 2 ^ k := by
      unfold inUnits; rw [qmin_b64, hk, show ((k : Int) - 1074 - -1074).toNat = k by omega]
    rw [hm]
    -- A' * 2^k * g = A * one64 * g and B' * 2^k .. : scale both
    have hsc : ∃ G : Nat, 0 < G ∧ unitsNum A 0 r * 2 ^ k = A * one64 * G ∧ unitsDen B 0 r = B * G := by
      by_cases hk2 : 1074 ≤ k
      · refine ⟨2 ^ (k - 1074), Nat.two_pow_pos _, ?_, ?_⟩
        · unfold unitsNum one64
          rw [hk, show (0 - ((k : Int) - 1074)).toNat = 0 by omega, Nat.pow_zero, Nat.mul_one, Nat.mul_assoc, ← Nat.pow_add, show 1074 + (k - 1074) = k by omega]
        · unfold unitsDen
          rw [hk, show ((k : Int) - 1074 - 0).toNat = k - 1074 by omega]
      · refine ⟨1, by decide, ?_, ?_⟩
        · unfold unitsNum one64
          rw [hk, show (0 - ((k : Int) - 1074)).toNat = 1074 - k by omega, Nat.mul_one, Nat.mul_assoc, ← Nat.pow_add, show 1074 - k + k = 1074 by omega]
        · unfold unitsDen
          rw [hk, show ((k : Int) - 1074 - 0).toNat = 0 by omega, Nat.pow_zero]
    obtain ⟨G, hG, s3, s4⟩ := hsc
    have hbig : 2 ^ 52 * unitsDen B 0 r ≤ unitsNum A 0 r := by
      rcases hnb with h0 | h0
      · have hk0 : k = 0 := by rw [qmin_b64] at h0; omega
        rw [hk0, Nat.pow_zero, Nat.mul_one] at s3
        rw [s3, s4, ← Nat.mul_assoc]
        exact Nat.mul_le_mul_right _ hn
      · rw [show (b64.p : Int) - 1 = ((52 : Nat) : Int) by decide, ← units_below] at h0
        omega
    rw [s4] at n1 n2 hbig
    generalize unitsNum A 0 r = A' at *
    have hK := Nat.two_pow_pos k
    generalize 2 ^ k = K at *
    generalize A * one64 = P at *
    -- n1 : 2A' ≤ (2m+1)(B G), n2 : 2 m (B G) ≤ 2 A' + B G, hbig : 2^52 (B G) ≤ A', s3 : A' K = P G
    have t1 : 2 * (A' * K) ≤ 2 * (m * K * (B * G)) + B * G * K := by
      have := Nat.mul_le_mul_right K n1
      calc 2 * (A' * K) = 2 * A' * K := by ((try generalize Jvm.FP.Core.one64 = own_U); ac_rfl)
        _ ≤ (2 * m + 1) * (B * G) * K := this
        _ = 2 * (m * K * (B * G)) + B * G * K := by rw [Nat.add_mul, Nat.add_mul, Nat.one_mul]; ((try generalize Jvm.FP.Core.one64 = own_U); ac_rfl)
    have t2 : 2 * (m * K * (B * G)) ≤ 2 * (A' * K) + B * G * K := by
      have := Nat.mul_le_mul_right K n2
      calc 2 * (m * K * (B * G)) = 2 * m * (B * G) * K := by ((try generalize Jvm.FP.Core.one64 = own_U); ac_rfl)
        _ ≤ (2 * A' + B * G) * K := this
        _ = 2 * (A' * K) + B * G * K := by rw [Nat.add_mul]; ((try generalize Jvm.FP.Core.one64 = own_U); ac_rfl)
    have t3 : 2 ^ 52 * (B * G * K) ≤ A' * K := by
      have := Nat.mul_le_mul_right K hbig
      rw [Nat.mul_assoc] at this; exact this
    rw [s3] at t1 t2 t3
    have t4 : m * K * (B * G) = (m * K * B) * G := by ((try generalize Jvm.FP.Core.one64 = own_U); ac_rfl)
    have t5 : B * G * K = B * K * G := by ((try generalize Jvm.FP.Core.one64 = own_U); ac_rfl)
    rw [t4, t5] at t1 t2
    rw [t5] at t3
    have u1 : 2 * P ≤ 2 * (m * K * B) + B * K := by
      refine Nat.le_of_mul_le_mul_right (c := G) ?_ hG
      rw [Nat.add_mul, Nat.mul_assoc, Nat.mul_assoc 2]; exact t1
    have u2 : 2 * (m * K * B) ≤ 2 * P + B * K := by
      refine Nat.le_of_mul_le_mul_right (c := G) ?_ hG
      rw [Nat.add_mul, Nat.mul_assoc, Nat.mul_assoc 2]; exact t2
    have u3 : 2 ^ 52 * (B * K) ≤ P := by
      refine Nat.le_of_mul_le_mul_right (c := G) ?_ hG
      rw [Nat.mul_assoc]; exact t3
    generalize m * K * B = x at *
    generalize B * K = y at *
    constructor <;> omega
  · exfalso
    rw [own_rr, e] at hlt
    exact Nat.lt_irrefl _ hlt
/-! comparisons -/
theorem own_cmp {a b : UInt64} (ha : val64 a ≠ .nan) (hb : val64 b ≠ .nan) (o : CmpOp) : cmpValue (Jvm.FP.dcmp a b) o = if own_zv a < own_zv b then -1 else if own_zv a = own_zv b then 0 else 1 := by
  have h := dcmp_zval ha hb
  unfold own_zv
  show cmpValue (dcmp a b) o = _
  rw [h, compare_ite]
  by_cases h1 : zval b64 (val64 a) < zval b64 (val64 b)
  · rw [if_pos h1, if_pos h1]; rfl
  · rw [if_neg h1, if_neg h1]
    by_cases h2 : zval b64 (val64 a) = zval b64 (val64 b)
    · rw [if_pos h2, if_pos h2]; rfl
    · rw [if_neg h2, if_neg h2]; rfl
theorem own_fin_ne {a : UInt64} (h : DFin a) : val64 a ≠ .nan := h.ne_nan
theorem own_fin_nn {a : UInt64} (h : DFin a) : Jvm.Free.Fl.NoNaN64 a := Jvm.Free.Fl.val64_no.mpr h.ne_nan
/-! whole numbers -/
theorem own_i2d (x : Int32) : own_zv (Jvm.FP.i2d x) = x.toInt * (one64 : Int) := DInt_zval (i2d_int x)
theorem own_i2d_fin (x : Int32) : DFin (Jvm.FP.i2d x) := Jvm.FP.Core.i2d_fin x
theorem own_l2d {x : Int64} (h : x.toInt.natAbs ≤ 2 ^ 53) : own_zv (Jvm.FP.l2d x) = x.toInt * (one64 : Int) := DInt_zval (l2d_int h)
theorem own_l2d_fin (x : Int64) : DFin (Jvm.FP.l2d x) := Jvm.FP.Core.l2d_fin x
/-! the sign -/
theorem own_sgn {a : UInt64} (h : own_zv a ≠ 0) : sgn (val64 a) = decide (own_zv a < 0) := by
  unfold own_zv zval at *
  have hz : 0 < zmag b64 (val64 a) := Nat.pos_of_ne_zero fun q => h (by rw [q, signed_zero])
  rw [signed_lt_zero _ hz]
theorem own_natAbs (a : UInt64) : (own_zv a).natAbs = zmag b64 (val64 a) := natAbs_signed _ _
/-! division -/
theorem own_div {a b : UInt64} (ha : DFin a) (hb : DFin b) (hz : own_zv b ≠ 0) :
    val64 (Jvm.FP.ddiv a b) = roundRatio b64 (sgn (val64 a) != sgn (val64 b)) (own_zv a).natAbs (own_zv b).natAbs 0 := by
  rw [own_natAbs, own_natAbs]
  have hzb : zmag b64 (val64 b) ≠ 0 := fun q => hz (by unfold own_zv zval; rw [q, signed_zero])
  show val64 (ddiv a b) = _
  rw [val64_ddiv]
  have fa := val64_fits a
  have fb := val64_fits b
  obtain ⟨s, c, q, e1⟩ := ha
  obtain ⟨t, d, r, e2⟩ := hb
  rw [e1] at fa ⊢
  rw [e2] at fb hzb ⊢
  have hd : d ≠ 0 := fun w => hzb (by subst w; show 0 * _ = 0; exact Nat.zero_mul _)
  show (if d = 0 then _ else roundRatio b64 (s != t) c d (q - r)) = roundRatio b64 (s != t) (inUnits c q b64.qmin) (inUnits d r b64.qmin) 0
  rw [if_neg hd]
  have hq := fa.2.1
  have hr := fb.2.1
  rw [qmin_b64] at hq hr
  refine roundRatio_congr (Nat.pos_of_ne_zero hd) ?_ ?_
  · exact Nat.mul_pos (Nat.pos_of_ne_zero hd) (Nat.two_pow_pos _)
  · unfold inUnits
    rw [qmin_b64]
    obtain ⟨u, hu⟩ : ∃ u : Nat, q = (u : Int) - 1074 := ⟨(q + 1074).toNat, by omega⟩
    obtain ⟨w, hw⟩ : ∃ w : Nat, r = (w : Int) - 1074 := ⟨(r + 1074).toNat, by omega⟩
    subst hu hw
    rw [show ((u : Int) - 1074 - -1074).toNat = u by omega, show ((w : Int) - 1074 - -1074).toNat = w by omega]
    rw [show ((u : Int) - 1074 - ((w : Int) - 1074) - 0).toNat = u - w by omega, show (0 - ((u : Int) - 1074 - ((w : Int) - 1074))).toNat = w - u by omega]
    have : w + (u - w) = u + (w - u) := by omega
    calc c * (d * 2 ^ w) * 2 ^ (u - w) = c * d * 2 ^ (w + (u - w)) := by rw [Nat.pow_add]; ((try generalize Jvm.FP.Core.one64 = own_U); ac_rfl)
      _ = c * 2 ^ u * d * 2 ^ (w - u) := by rw [this, Nat.pow_add]; ((try generalize Jvm.FP.Core.one64 = own_U); ac_rfl)
theorem own_signed_abs (z : Int) : signed (decide (z < 0)) z.natAbs = z := by
  unfold signed
  by_cases h : z < 0 <;> simp [h] <;> omega
theorem own_zv_div_pos {a b : UInt64} (ha : DFin a) (hb : DFin b) (h0 : 0 ≤ own_zv a) (hz : 0 < own_zv b) : own_zv (Jvm.FP.ddiv a b) = (own_rr (own_zv a).natAbs (own_zv b).natAbs : Int) := by
  rw [own_zv_round (own_div ha hb (by omega))]
  by_cases h : own_zv a = 0
  · rw [h]; show signed _ (own_rr 0 _) = _
    rw [show (0 : Int).natAbs = 0 from rfl, own_rr_zero, signed_zero]; rfl
  · rw [own_sgn h, own_sgn (by omega), decide_eq_false (by omega), decide_eq_false (by omega)]; rfl
theorem own_zv_div_neg {a b : UInt64} (ha : DFin a) (hb : DFin b) (h0 : own_zv a ≤ 0) (hz : 0 < own_zv b) : own_zv (Jvm.FP.ddiv a b) = -(own_rr (own_zv a).natAbs (own_zv b).natAbs : Int) := by
  rw [own_zv_round (own_div ha hb (by omega))]
  by_cases h : own_zv a = 0
  · rw [h]; show signed _ (own_rr 0 _) = _
    rw [show (0 : Int).natAbs = 0 from rfl, own_rr_zero, signed_zero]; rfl
  · rw [own_sgn h, own_sgn (by omega), decide_eq_true (by omega), decide_eq_false (by omega)]; rfl
/-- a quotient of two whole numbers -/
theorem own_rr_int (i j : Nat) (hj : 0 < j) : own_rr (i * one64) (j * one64) = own_rr i j :=
  own_rr_congr (Nat.mul_pos hj one64_pos) hj (by ((try generalize Jvm.FP.Core.one64 = own_U); ac_rfl))
theorem own_natAbs_one (i : Int) : (i * (one64 : Int)).natAbs = i.natAbs * one64 := by rw [Int.natAbs_mul]; rfl
theorem own_top {V : Nat} (h : V ≤ 2 ^ 1023 * one64) : V < b64.tails * 2 ^ (b64.exps - 2) := by
  refine Nat.lt_of_le_of_lt h ?_
  decide +kernel
/-! the sign turned -/
theorem own_dneg_bits (a : UInt64) : a.toNat = (Jvm.FP.dneg a).toNat + 2 ^ 63 ∨ (Jvm.FP.dneg a).toNat = a.toNat + 2 ^ 63 := by
  have h := a.toNat_lt
  have e : (Jvm.FP.dneg a).toNat = a.toNat ^^^ 2 ^ 63 := by
    show (a ^^^ 0x8000000000000000).toNat = _
    rw [UInt64.toNat_xor]; rfl
  rw [e]
  by_cases hb : 2 ^ 63 ≤ a.toNat
  · left
    have : a.toNat ^^^ 2 ^ 63 = a.toNat - 2 ^ 63 := by
      apply Nat.eq_of_testBit_eq; intro i
      obtain ⟨k, hk⟩ : ∃ k, a.toNat = 2 ^ 63 + k := ⟨a.toNat - 2 ^ 63, by omega⟩
      have hk2 : k < 2 ^ 63 := by omega
      rw [hk, Nat.add_sub_cancel_left, Nat.testBit_xor, Nat.testBit_two_pow]
      by_cases hi : 63 = i
      · subst hi
        rw [Nat.testBit_two_pow_add_eq, Nat.testBit_lt_two_pow hk2]; rfl
      · by_cases hi2 : i < 63
        · rw [Nat.testBit_two_pow_add_gt hi2]; simp [hi]
        · have : 63 < i := by omega
          rw [Nat.testBit_lt_two_pow (Nat.lt_of_lt_of_le (show 2 ^ 63 + k < 2 ^ 64 by omega) (Nat.pow_le_pow_right (by decide) this)), Nat.testBit_lt_two_pow (Nat.lt_of_lt_of_le hk2 (Nat.pow_le_pow_right (by decide) (Nat.le_of_lt this)))]
          simp [hi]
    omega
  · right
    have : a.toNat ^^^ 2 ^ 63 = a.toNat + 2 ^ 63 := by
      apply Nat.eq_of_testBit_eq; intro i
      have hk2 : a.toNat < 2 ^ 63 := by omega
      rw [Nat.testBit_xor, Nat.testBit_two_pow, Nat.add_comm]
      by_cases hi : 63 = i
      · subst hi
        rw [Nat.testBit_two_pow_add_eq, Nat.testBit_lt_two_pow hk2]; rfl
      · by_cases hi2 : i < 63
        · rw [Nat.testBit_two_pow_add_gt hi2]; simp [hi]
        · have : 63 < i := by omega
          rw [Nat.testBit_lt_two_pow (Nat.lt_of_lt_of_le (show 2 ^ 63 + a.toNat < 2 ^ 64 by omega) (Nat.pow_le_pow_right (by decide) this)), Nat.testBit_lt_two_pow (Nat.lt_of_lt_of_le hk2 (Nat.pow_le_pow_right (by decide) (Nat.le_of_lt this)))]
          simp [hi]
    omega
theorem own_dneg_val (a : UInt64) : val64 (Jvm.FP.dneg a) = negate (val64 a) := val64_neg_bits (own_dneg_bits a)
theorem own_dneg (a : UInt64) : own_zv (Jvm.FP.dneg a) = -own_zv a := by unfold own_zv; rw [own_dneg_val, zval_negate]
theorem own_dneg_fin {a : UInt64} (h : DFin a) : DFin (Jvm.FP.dneg a) := by
  obtain ⟨s, c, q, e⟩ := h
  exact ⟨!s, c, q, by rw [own_dneg_val, e]; rfl⟩
/-! product -/
theorem own_mul {a b : UInt64} (ha : DFin a) (hb : DFin b) :
    val64 (Jvm.FP.dmul a b) = roundRatio b64 (sgn (val64 a) != sgn (val64 b)) ((own_zv a).natAbs * (own_zv b).natAbs) (one64 * one64) 0 := by
  rw [own_natAbs, own_natAbs]
  show val64 (dmul a b) = _
  rw [val64_dmul]
  have fa := val64_fits a
  have fb := val64_fits b
  obtain ⟨s, c, q, e1⟩ := ha
  obtain ⟨t, d, r, e2⟩ := hb
  rw [e1] at fa ⊢
  rw [e2] at fb ⊢
  show roundRatio b64 (s != t) (c * d) 1 (q + r) = roundRatio b64 (s != t) (inUnits c q b64.qmin * inUnits d r b64.qmin) (one64 * one64) 0
  have hq := fa.2.1
  have hr := fb.2.1
  rw [qmin_b64] at hq hr
  refine roundRatio_congr (by decide) (Nat.mul_pos one64_pos one64_pos) ?_
  unfold inUnits one64
  rw [qmin_b64]
  obtain ⟨u, hu⟩ : ∃ u : Nat, q = (u : Int) - 1074 := ⟨(q + 1074).toNat, by omega⟩
  obtain ⟨w, hw⟩ : ∃ w : Nat, r = (w : Int) - 1074 := ⟨(r + 1074).toNat, by omega⟩
  subst hu hw
  rw [show ((u : Int) - 1074 - -1074).toNat = u by omega, show ((w : Int) - 1074 - -1074).toNat = w by omega]
  rw [show ((u : Int) - 1074 + ((w : Int) - 1074) - 0).toNat = u + w - 2148 by omega, show (0 - ((u : Int) - 1074 + ((w : Int) - 1074))).toNat = 2148 - (u + w) by omega]
  generalize hx : u + w - 2148 = x
  generalize hy : 2148 - (u + w) = y
  have h5 : 1074 + (1074 + x) = u + (w + y) := by omega
  calc c * d * (2 ^ 1074 * 2 ^ 1074) * 2 ^ x = c * d * 2 ^ (1074 + (1074 + x)) := by rw [Nat.pow_add, Nat.pow_add]; generalize 2 ^ 1074 = own_W; ac_rfl
    _ = c * 2 ^ u * (d * 2 ^ w) * 1 * 2 ^ y := by rw [h5, Nat.pow_add, Nat.pow_add, Nat.mul_one]; ((try generalize Jvm.FP.Core.one64 = own_U); ac_rfl)
theorem own_zv_mul_pos {a b : UInt64} (ha : DFin a) (hb : DFin b) (h0 : 0 ≤ own_zv a) (h1 : 0 ≤ own_zv b) : own_zv (Jvm.FP.dmul a b) = (own_rr ((own_zv a).natAbs * (own_zv b).natAbs) (one64 * one64) : Int) := by
  rw [own_zv_round (own_mul ha hb)]
  by_cases h : own_zv a = 0
  · rw [h]; show signed _ (own_rr (0 * _) _) = (own_rr (0 * _) _ : Int)
    rw [Nat.zero_mul, own_rr_zero, signed_zero]; rfl
  · by_cases h' : own_zv b = 0
    · rw [h']; show signed _ (own_rr (_ * 0) _) = (own_rr (_ * 0) _ : Int)
      rw [Nat.mul_zero, own_rr_zero, signed_zero]; rfl
    · rw [own_sgn h, own_sgn h', decide_eq_false (by omega), decide_eq_false (by omega)]; rfl
/-! sum -/
theorem own_add {a b : UInt64} (ha : DFin a) (hb : DFin b) : ∃ sg, val64 (Jvm.FP.dadd a b) = roundRatio b64 sg (own_zv a + own_zv b).natAbs one64 0 ∧ signed sg (own_zv a + own_zv b).natAbs = own_zv a + own_zv b := by
  show ∃ sg, val64 (dadd a b) = _ ∧ _
  rw [val64_dadd]
  have fa := val64_fits a
  have fb := val64_fits b
  obtain ⟨s, c, q, e1⟩ := ha
  obtain ⟨t, d, r, e2⟩ := hb
  unfold own_zv
  rw [e1] at fa ⊢
  rw [e2] at fb ⊢
  obtain ⟨sg, n, e, h1, h2, h3⟩ := sum_units fa fb
  rw [h1, ← h3, natAbs_signed]
  refine ⟨sg, ?_, rfl⟩
  show roundRatio b64 sg n 1 e = _
  refine roundRatio_congr (by decide) one64_pos ?_
  unfold inUnits one64
  rw [qmin_b64] at h2 ⊢
  obtain ⟨u, hu⟩ : ∃ u : Nat, e = (u : Int) - 1074 := ⟨(e + 1074).toNat, by omega⟩
  subst hu
  rw [show ((u : Int) - 1074 - -1074).toNat = u by omega, show ((u : Int) - 1074 - 0).toNat = u - 1074 by omega, show (0 - ((u : Int) - 1074)).toNat = 1074 - u by omega]
  have h5 : 1074 + (u - 1074) = u + (1074 - u) := by omega
  calc n * 2 ^ 1074 * 2 ^ (u - 1074) = n * 2 ^ (1074 + (u - 1074)) := by rw [Nat.pow_add 2 1074 (u - 1074), Nat.mul_assoc]
    _ = n * 2 ^ u * 1 * 2 ^ (1074 - u) := by rw [h5, Nat.pow_add, Nat.mul_one]; ((try generalize Jvm.FP.Core.one64 = own_U); ac_rfl)
theorem own_zv_add_pos {a b : UInt64} (ha : DFin a) (hb : DFin b) (h0 : 0 ≤ own_zv a + own_zv b) : own_zv (Jvm.FP.dadd a b) = (own_rr (own_zv a + own_zv b).natAbs one64 : Int) := by
  obtain ⟨sg, h1, h2⟩ := own_add ha hb
  rw [own_zv_round h1]
  generalize own_zv a + own_zv b = z at *
  by_cases h : z = 0
  · subst h; show signed sg (own_rr 0 _) = (own_rr 0 _ : Int)
    rw [own_rr_zero, signed_zero]; rfl
  · have : sg = false := by
      cases sg
      · rfl
      · exfalso; simp [signed] at h2; omega
    subst this; rfl
theorem own_add_exact {a b : UInt64} (ha : DFin a) (hb : DFin b) (hr : own_Rep (own_zv a + own_zv b).natAbs) : own_zv (Jvm.FP.dadd a b) = own_zv a + own_zv b := by
  obtain ⟨sg, h1, h2⟩ := own_add ha hb
  rw [own_zv_round h1, own_rr_exact one64_pos hr rfl, h2]
theorem own_add_fin {a b : UInt64} (ha : DFin a) (hb : DFin b) (hr : own_Rep (own_zv a + own_zv b).natAbs) (hlt : (own_zv a + own_zv b).natAbs ≤ 2 ^ 1023 * one64) : DFin (Jvm.FP.dadd a b) := by
  obtain ⟨sg, h1, h2⟩ := own_add ha hb
  exact own_fin_round h1 (by rw [own_rr_exact one64_pos hr rfl]; exact own_top hlt)
theorem own_sub_eq {a b : UInt64} (hb : DFin b) : Jvm.FP.dsub a b = Jvm.FP.dadd a (Jvm.FP.dneg b) := by
  show dsub a b = dadd a (Jvm.FP.dneg b)
  rw [dsub_eq]
  congr 1
  refine (val64_inj ?_ ?_)
  · rw [val64_dneg]; exact negate_ne_nan hb.ne_nan
  · rw [val64_dneg, own_dneg_val]
theorem own_cmp_int {i j : Int} {a b : UInt64} (ha : DInt i a) (hb : DInt j b) (o : CmpOp) : cmpValue (Jvm.FP.dcmp a b) o = if i < j then -1 else if i = j then 0 else 1 := by
  show cmpValue (dcmp a b) o = _
  rw [dcmp_int ha hb, compare_ite]
  by_cases h1 : i < j
  · rw [if_pos h1, if_pos h1]; rfl
  · rw [if_neg h1, if_neg h1]
    by_cases h2 : i = j
    · rw [if_pos h2, if_pos h2]; rfl
    · rw [if_neg h2, if_neg h2]; rfl
theorem own_cmp_i (x y : Int32) (o : CmpOp) : cmpValue (Jvm.FP.dcmp (Jvm.FP.i2d x) (Jvm.FP.i2d y)) o = if x.toInt < y.toInt then -1 else if x.toInt = y.toInt then 0 else 1 := own_cmp_int (i2d_int x) (i2d_int y) o
theorem own_dneg_int {i : Int} {a : UInt64} (h : DInt i a) : DInt (-i) (Jvm.FP.dneg a) := by
  unfold DInt; rw [own_dneg_val]; exact whole_negate h
end FloatKit

theorem d2_0 : decode jdk_30_method_1_code 0 = .ok (.aload_n 0, 1) := by decide +kernel
theorem d2_1 : decode jdk_30_method_1_code 1 = .ok (.invokespecial 1, 3) := by decide +kernel
theorem d2_4 : decode jdk_30_method_1_code 4 = .ok (.return_, 1) := by decide +kernel
theorem ef_2 (m : MethodId) (x0 : Addr) : entryFrame m #[(.ref x0)] 1 = mkF m 0 #[.val (.ref x0)] [] := by first | (simp [entryFrame, mkF, argsToLocals, Value.category]; done) | rfl
theorem pn_0 : plainName "java/lang/Record" = true := by first | (simp [plainName, overriddenIn]; done) | decide +kernel
def Q2 (Z : State) (a1 : Addr) (h0 : Heap) (n0 : Nat) (v : Option Value) (h : Heap) (L : List Loc) : Prop := v = none ∧ Fr n0 L ∧ h = h0
set_option maxRecDepth 65536 in
set_option maxHeartbeats 40000000 in
theorem rm2 (l : Launch) (Z : State) (a0 : Array Value) (hw : ∀ d ∈ tables_1, d.before a0 Z = true) (ws : List Jvm.Cond) (a1 : Addr) (h0 : Heap) (n0 : Nat) (Z0 : n0 ≤ h0.size)  :
    MetFree l (⟨"java/lang/Record", "<init>", "()V"⟩ : MethodName) (head1 (Jvm.Cond.code (⟨"java/lang/Record", "<init>", "()V"⟩ : MethodName) jdk_30_method_1_code 1 none :: ws) ({ frames := 1, cells := 0, slots := 0, locals := 12 } : Room)) (fun a U => a = #[(.ref a1)] ∧ Z.Warmed39 U.vm ∧ U.heap = h0) (fun _ _ _ _ _ => True) (fun _ U o U' => ∃ v L, o = .returned v ∧ Q2 Z a1 h0 n0 v U'.heap L ∧ FrameEnd U o U' L ({ frames := 1, cells := 0, slots := 0, locals := 12 } : Room).cells ({ frames := 1, cells := 0, slots := 0, locals := 12 } : Room).slots) := by
  refine MetFree.of_bodySF (plainFor_of_name pn_0) hisR ?_
  intro p e s m args below meth c s₁ Bd hml0 hP hK
  obtain ⟨rfl, hZ, hh⟩ := hP
  have hx := Bd.exec
  have hby := Bd.bytes
  have hml : c.maxLocals = 1 := hml0
  have hown : s.vm.findClass "java/lang/Record" = some m.cls := findClass_of_methodNamed Bd.named
  have hnm := (name_of_methodNamed Bd.named Bd.method).1
  have X0 : Stand p l e ({ frames := 1, cells := 0, slots := 0, locals := 12 } : Room) s m #[(.ref a1)] below meth c s₁ [] 0 0 := Stand.of_body Bd
  have e0 : s₁.heap = h0 := by rw [← hh, Bd.state]; rfl
  have N0 := Fr.nil n0
  have pre0 : ∀ t, Steps p.tables e below (s₁.setTop (mkF m 0 #[.val (.ref a1)] [])) t → Steps p.tables e below (s₁.setTop (entryFrame m #[(.ref a1)] 1)) t := fun t k => castTop (ef_2 m a1) k
  obtain ⟨T3, X3, e3, st3⟩ := initO X0 hx hZ hown (hw _ (List.mem_of_getElem? (i := 12) rfl)) (hw _ (List.mem_of_getElem? (i := 13) rfl)) (hw _ (List.mem_of_getElem? (i := 14) rfl)) e0 (g := (mkF m 1 #[.val (.ref a1)] [(.ref a1)])) rfl (by rw [hml]; rfl) rfl (hb hby d2_1) (by decide) (W := 0) (by show 2 * 0 + _ ≤ _; exact Nat.le_of_eq rfl) (by decide)
  obtain ⟨fs, hr, hrun, hended, hW, hsame⟩ := X3.leave (v := none) (fun _ => rfl)
  refine ⟨_, _, pre0 _ ?_, hrun, hended, _, _, rfl, ?_, ⟨_, rfl⟩, hW, hsame.mono (by decide) (by decide)⟩
  · refine XS.aloadN X0.here hx rfl (hb hby d2_0) rfl rfl ?_
    show Steps p.tables e below (s₁.setTop (mkF m 1 #[.val (.ref a1)] [(.ref a1)])) _
    refine st3 _ ?_
    show Steps p.tables e below (T3.setTop (mkF m 4 #[.val (.ref a1)] [])) _
    exact X3.returnOut hx Bd.returns (hb hby d2_4) hr
  · show Q2 Z a1 h0 n0 _ T3.heap _
    rw [e3]
    exact ⟨rfl, N0, rfl⟩
theorem pd_0 : parseMethodDescriptor "()V" = some ⟨[], none⟩ := by decide +kernel
theorem d1_0 : decode prog_46_method_1_code 0 = .ok (.aload_n 0, 1) := by decide +kernel
theorem d1_1 : decode prog_46_method_1_code 1 = .ok (.invokespecial 3, 3) := by decide +kernel
theorem d1_4 : decode prog_46_method_1_code 4 = .ok (.aload_n 0, 1) := by decide +kernel
theorem d1_5 : decode prog_46_method_1_code 5 = .ok (.iload_n 1, 1) := by decide +kernel
theorem d1_6 : decode prog_46_method_1_code 6 = .ok (.putfield 9, 3) := by decide +kernel
theorem d1_9 : decode prog_46_method_1_code 9 = .ok (.aload_n 0, 1) := by decide +kernel
theorem d1_10 : decode prog_46_method_1_code 10 = .ok (.dload_n 2, 1) := by decide +kernel
theorem d1_11 : decode prog_46_method_1_code 11 = .ok (.putfield 15, 3) := by decide +kernel
theorem d1_14 : decode prog_46_method_1_code 14 = .ok (.aload_n 0, 1) := by decide +kernel
theorem d1_15 : decode prog_46_method_1_code 15 = .ok (.dload 4, 2) := by decide +kernel
theorem d1_17 : decode prog_46_method_1_code 17 = .ok (.putfield 19, 3) := by decide +kernel
theorem d1_20 : decode prog_46_method_1_code 20 = .ok (.return_, 1) := by decide +kernel
theorem ef_1 (m : MethodId) (x0 : Addr) (x1 : Int32) (x2 : UInt64) (x3 : UInt64) : entryFrame m #[(.ref x0), (.int x1), (.double x2), (.double x3)] 6 = mkF m 0 #[.val (.ref x0), .val (.int x1), .val (.double x2), .second, .val (.double x3), .second] [] := by first | (simp [entryFrame, mkF, argsToLocals, Value.category]; done) | rfl
theorem pn_1 : plainName "com/example/mutix/mutix/measure/Wait" = true := by first | (simp [plainName, overriddenIn]; done) | decide +kernel
def Q1 (Z : State) (a4 : Addr) (p5 : Int32) (d6 : UInt64) (d7 : UInt64) (h0 : Heap) (n0 : Nat) (v : Option Value) (h : Heap) (L : List Loc) : Prop := v = none ∧ Fr n0 L ∧ Keep h0 h [a4] ∧ Exa Z h a4 "com/example/mutix/mutix/measure/Wait" ∧ Fld Z h a4 "com/example/mutix/mutix/measure/Wait" "priority" "I" (.int p5) ∧ Fld Z h a4 "com/example/mutix/mutix/measure/Wait" "requested" "D" (.double d6) ∧ Fld Z h a4 "com/example/mutix/mutix/measure/Wait" "entered" "D" (.double d7)
set_option maxRecDepth 65536 in
set_option maxHeartbeats 40000000 in
theorem rm1 (l : Launch) (Z : State) (a0 : Array Value) (hw : ∀ d ∈ tables_1, d.before a0 Z = true) (ws : List Jvm.Cond) (a4 : Addr) (p5 : Int32) (d6 : UInt64) (d7 : UInt64) (h0 : Heap) (n0 : Nat) (Z0 : n0 ≤ h0.size) (E1 : Exa Z h0 a4 "com/example/mutix/mutix/measure/Wait") (F_priority_a4 : Fld Z h0 a4 "com/example/mutix/mutix/measure/Wait" "priority" "I" (.int (0 : Int32))) (F_requested_a4 : Fld Z h0 a4 "com/example/mutix/mutix/measure/Wait" "requested" "D" (.double (0 : UInt64))) (F_entered_a4 : Fld Z h0 a4 "com/example/mutix/mutix/measure/Wait" "entered" "D" (.double (0 : UInt64))) (g1 : n0 ≤ a4) :
    MetFree l (⟨"com/example/mutix/mutix/measure/Wait", "<init>", "(IDD)V"⟩ : MethodName) (head1 (Jvm.Cond.code (⟨"com/example/mutix/mutix/measure/Wait", "<init>", "(IDD)V"⟩ : MethodName) prog_46_method_1_code 6 none :: ws) ({ frames := 2, cells := 0, slots := 0, locals := 24 } : Room)) (fun a U => a = #[(.ref a4), (.int p5), (.double d6), (.double d7)] ∧ Z.Warmed39 U.vm ∧ U.heap = h0) (fun _ _ _ _ _ => True) (fun _ U o U' => ∃ v L, o = .returned v ∧ Q1 Z a4 p5 d6 d7 h0 n0 v U'.heap L ∧ FrameEnd U o U' L ({ frames := 2, cells := 0, slots := 0, locals := 24 } : Room).cells ({ frames := 2, cells := 0, slots := 0, locals := 24 } : Room).slots) := by
  refine MetFree.of_bodySF (plainFor_of_name pn_1) hisR ?_
  intro p e s m args below meth c s₁ Bd hml0 hP hK
  obtain ⟨rfl, hZ, hh⟩ := hP
  have hx := Bd.exec
  have hby := Bd.bytes
  have hml : c.maxLocals = 6 := hml0
  have hown : s.vm.findClass "com/example/mutix/mutix/measure/Wait" = some m.cls := findClass_of_methodNamed Bd.named
  have hnm := (name_of_methodNamed Bd.named Bd.method).1
  have X0 : Stand p l e ({ frames := 2, cells := 0, slots := 0, locals := 24 } : Room) s m #[(.ref a4), (.int p5), (.double d6), (.double d7)] below meth c s₁ [] 0 0 := Stand.of_body Bd
  have e0 : s₁.heap = h0 := by rw [← hh, Bd.state]; rfl
  have N0 := Fr.nil n0
  have pre0 : ∀ t, Steps p.tables e below (s₁.setTop (mkF m 0 #[.val (.ref a4), .val (.int p5), .val (.double d6), .second, .val (.double d7), .second] [])) t → Steps p.tables e below (s₁.setTop (entryFrame m #[(.ref a4), (.int p5), (.double d6), (.double d7)] 6)) t := fun t k => castTop (ef_1 m a4 p5 d6 d7) k
  obtain ⟨_, _, ⟨T8, L8, k8, n8⟩, -, X8, ⟨Lc8, hQ8, l8, y8, z8⟩, st8⟩ := X0.specialBack hx (y := (⟨"java/lang/Record", "<init>", "()V"⟩ : MethodName)) rfl hown (mvT hZ (hw _ (List.mem_of_getElem? (i := 7) rfl))) (mvT hZ (hw _ (List.mem_of_getElem? (i := 8) rfl))) (mvT hZ (hw _ (List.mem_of_getElem? (i := 11) rfl))) (by decide) (backOf (W := 0) (rm2 l Z a0 hw [] a4 h0 n0 Z0) hZ (hw _ (List.mem_of_getElem? (i := 11) rfl)) (hw _ (List.mem_of_getElem? (i := 10) rfl)) (by decide) (by decide)) (g := (mkF m 1 #[.val (.ref a4), .val (.int p5), .val (.double d6), .second, .val (.double d7), .second] [(.ref a4)])) rfl (by rw [hml]; rfl) (Steps.refl _) (a := a4) (argsL := []) (rest := []) (lenOf pd_0 rfl) rfl (by show 2 * 0 + _ ≤ _; exact Nat.le_of_eq rfl) (hb hby d1_1) (fun _ _ => ⟨rfl, e0, (by decide : 0 + 0 ≤ _), (by decide : 0 + 0 ≤ _)⟩)
  dsimp only [Pt.U, Pt.locs, Pt.cells, Pt.slots] at X8 l8 y8 z8 st8 hQ8
  subst l8 y8 z8
  obtain ⟨rfl, N8q, e8⟩ := hQ8
  have N8 := Fr.app N0 N8q
  obtain ⟨T9, h9, X9, e9, W9, st9⟩ := putF X8 hx hZ hown (host := "") (Or.inl (hw _ (List.mem_of_getElem? (i := 15) rfl))) Via.refl e8 F_priority_a4 E1 (Or.inr ⟨(hw _ (List.mem_of_getElem? (i := 16) rfl)), rfl, hnm⟩) (hw _ (List.mem_of_getElem? (i := 2) rfl)) (ty := .int) (by decide) rfl rfl (g := (mkF m 6 #[.val (.ref a4), .val (.int p5), .val (.double d6), .second, .val (.double d7), .second] [(.int p5), (.ref a4)])) rfl rfl (hb hby d1_6)
  have f10 : Exa Z h9 a4 "com/example/mutix/mutix/measure/Wait" := E1.wr W9
  have f11 : Fld Z h9 a4 "com/example/mutix/mutix/measure/Wait" "priority" "I" (.int p5) := F_priority_a4.same W9
  have f12 : Fld Z h9 a4 "com/example/mutix/mutix/measure/Wait" "requested" "D" (.double (0 : UInt64)) := F_requested_a4.other W9 (Or.inr (slot_ne (Or.inr (hw _ (List.mem_of_getElem? (i := 18) rfl))) (Or.inr (hw _ (List.mem_of_getElem? (i := 16) rfl))) (by decide) (t := .double) (t' := .int) (by decide) (by decide)))
  have f13 : Fld Z h9 a4 "com/example/mutix/mutix/measure/Wait" "entered" "D" (.double (0 : UInt64)) := F_entered_a4.other W9 (Or.inr (slot_ne (Or.inr (hw _ (List.mem_of_getElem? (i := 20) rfl))) (Or.inr (hw _ (List.mem_of_getElem? (i := 16) rfl))) (by decide) (t := .double) (t' := .int) (by decide) (by decide)))
  have N14 := Fr.snoc X9 N8 g1
  have K15 : Keep h0 h9 [a4] := (Keep.refl h0 [a4]).wr W9 (Or.inl (List.mem_of_getElem? (i := 0) rfl))
  have Z16 : n0 ≤ h9.size := Nat.le_trans Z0 (Keep.of_wr W9).1
  obtain ⟨T17, h17, X17, e17, W17, st17⟩ := putF X9 hx hZ hown (host := "") (Or.inl (hw _ (List.mem_of_getElem? (i := 17) rfl))) Via.refl e9 f12 f10 (Or.inr ⟨(hw _ (List.mem_of_getElem? (i := 18) rfl)), rfl, hnm⟩) (hw _ (List.mem_of_getElem? (i := 2) rfl)) (ty := .double) (by decide) rfl rfl (g := (mkF m 11 #[.val (.ref a4), .val (.int p5), .val (.double d6), .second, .val (.double d7), .second] [(.double d6), (.ref a4)])) rfl rfl (hb hby d1_11)
  have f18 : Exa Z h17 a4 "com/example/mutix/mutix/measure/Wait" := f10.wr W17
  have f19 : Fld Z h17 a4 "com/example/mutix/mutix/measure/Wait" "priority" "I" (.int p5) := f11.other W17 (Or.inr (slot_ne (Or.inr (hw _ (List.mem_of_getElem? (i := 16) rfl))) (Or.inr (hw _ (List.mem_of_getElem? (i := 18) rfl))) (by decide) (t := .int) (t' := .double) (by decide) (by decide)))
  have f20 : Fld Z h17 a4 "com/example/mutix/mutix/measure/Wait" "requested" "D" (.double d6) := f12.same W17
  have f21 : Fld Z h17 a4 "com/example/mutix/mutix/measure/Wait" "entered" "D" (.double (0 : UInt64)) := f13.other W17 (Or.inr (slot_ne (Or.inr (hw _ (List.mem_of_getElem? (i := 20) rfl))) (Or.inr (hw _ (List.mem_of_getElem? (i := 18) rfl))) (by decide) (t := .double) (t' := .double) (by decide) (by decide)))
  have N22 := Fr.snoc X17 N14 g1
  have K23 : Keep h0 h17 [a4] := K15.wr W17 (Or.inl (List.mem_of_getElem? (i := 0) rfl))
  have Z24 : n0 ≤ h17.size := Nat.le_trans Z16 (Keep.of_wr W17).1
  obtain ⟨T25, h25, X25, e25, W25, st25⟩ := putF X17 hx hZ hown (host := "") (Or.inl (hw _ (List.mem_of_getElem? (i := 19) rfl))) Via.refl e17 f21 f18 (Or.inr ⟨(hw _ (List.mem_of_getElem? (i := 20) rfl)), rfl, hnm⟩) (hw _ (List.mem_of_getElem? (i := 2) rfl)) (ty := .double) (by decide) rfl rfl (g := (mkF m 17 #[.val (.ref a4), .val (.int p5), .val (.double d6), .second, .val (.double d7), .second] [(.double d7), (.ref a4)])) rfl rfl (hb hby d1_17)
  have f26 : Exa Z h25 a4 "com/example/mutix/mutix/measure/Wait" := f18.wr W25
  have f27 : Fld Z h25 a4 "com/example/mutix/mutix/measure/Wait" "priority" "I" (.int p5) := f19.other W25 (Or.inr (slot_ne (Or.inr (hw _ (List.mem_of_getElem? (i := 16) rfl))) (Or.inr (hw _ (List.mem_of_getElem? (i := 20) rfl))) (by decide) (t := .int) (t' := .double) (by decide) (by decide)))
  have f28 : Fld Z h25 a4 "com/example/mutix/mutix/measure/Wait" "requested" "D" (.double d6) := f20.other W25 (Or.inr (slot_ne (Or.inr (hw _ (List.mem_of_getElem? (i := 18) rfl))) (Or.inr (hw _ (List.mem_of_getElem? (i := 20) rfl))) (by decide) (t := .double) (t' := .double) (by decide) (by decide)))
  have f29 : Fld Z h25 a4 "com/example/mutix/mutix/measure/Wait" "entered" "D" (.double d7) := f21.same W25
  have N30 := Fr.snoc X25 N22 g1
  have K31 : Keep h0 h25 [a4] := K23.wr W25 (Or.inl (List.mem_of_getElem? (i := 0) rfl))
  have Z32 : n0 ≤ h25.size := Nat.le_trans Z24 (Keep.of_wr W25).1
  obtain ⟨fs, hr, hrun, hended, hW, hsame⟩ := X25.leave (v := none) (fun _ => rfl)
  refine ⟨_, _, pre0 _ ?_, hrun, hended, _, _, rfl, ?_, ⟨_, rfl⟩, hW, hsame.mono (by decide) (by decide)⟩
  · refine XS.aloadN X0.here hx rfl (hb hby d1_0) rfl rfl ?_
    show Steps p.tables e below (s₁.setTop (mkF m 1 #[.val (.ref a4), .val (.int p5), .val (.double d6), .second, .val (.double d7), .second] [(.ref a4)])) _
    refine st8.trans ?_
    show Steps p.tables e below (T8.setTop (mkF m 4 #[.val (.ref a4), .val (.int p5), .val (.double d6), .second, .val (.double d7), .second] [])) _
    refine XS.aloadN X8.here hx rfl (hb hby d1_4) rfl rfl ?_
    show Steps p.tables e below (T8.setTop (mkF m 5 #[.val (.ref a4), .val (.int p5), .val (.double d6), .second, .val (.double d7), .second] [(.ref a4)])) _
    refine XS.iloadN X8.here hx rfl (hb hby d1_5) rfl ?_
    show Steps p.tables e below (T8.setTop (mkF m 6 #[.val (.ref a4), .val (.int p5), .val (.double d6), .second, .val (.double d7), .second] [(.int p5), (.ref a4)])) _
    refine st9 _ ?_
    show Steps p.tables e below (T9.setTop (mkF m 9 #[.val (.ref a4), .val (.int p5), .val (.double d6), .second, .val (.double d7), .second] [])) _
    refine XS.aloadN X9.here hx rfl (hb hby d1_9) rfl rfl ?_
    show Steps p.tables e below (T9.setTop (mkF m 10 #[.val (.ref a4), .val (.int p5), .val (.double d6), .second, .val (.double d7), .second] [(.ref a4)])) _
    refine XS.dloadN X9.here hx rfl (hb hby d1_10) rfl ?_
    show Steps p.tables e below (T9.setTop (mkF m 11 #[.val (.ref a4), .val (.int p5), .val (.double d6), .second, .val (.double d7), .second] [(.double d6), (.ref a4)])) _
    refine st17 _ ?_
    show Steps p.tables e below (T17.setTop (mkF m 14 #[.val (.ref a4), .val (.int p5), .val (.double d6), .second, .val (.double d7), .second] [])) _
    refine XS.aloadN X17.here hx rfl (hb hby d1_14) rfl rfl ?_
    show Steps p.tables e below (T17.setTop (mkF m 15 #[.val (.ref a4), .val (.int p5), .val (.double d6), .second, .val (.double d7), .second] [(.ref a4)])) _
    refine XS.dload X17.here hx rfl (hb hby d1_15) rfl ?_
    show Steps p.tables e below (T17.setTop (mkF m 17 #[.val (.ref a4), .val (.int p5), .val (.double d6), .second, .val (.double d7), .second] [(.double d7), (.ref a4)])) _
    refine st25 _ ?_
    show Steps p.tables e below (T25.setTop (mkF m 20 #[.val (.ref a4), .val (.int p5), .val (.double d6), .second, .val (.double d7), .second] [])) _
    exact X25.returnOut hx Bd.returns (hb hby d1_20) hr
  · show Q1 Z a4 p5 d6 d7 h0 n0 _ T25.heap _
    rw [e25]
    exact ⟨rfl, N30, K31, f26, f27, f28, f29⟩
def f4 (z34 : UInt64) : Int32 := (if (cmpValue (FP.dcmp z34 (9218868437227405312 : UInt64)) .l) = (0 : Int32) then (0 : Int32) else (1 : Int32))
theorem f4_b (z34 : UInt64) : f4 z34 = 0 ∨ f4 z34 = 1 := by unfold f4; (repeat' split) <;> decide
theorem d4_0 : decode prog_46_method_2_code 0 = .ok (.aload_n 0, 1) := by decide +kernel
theorem d4_1 : decode prog_46_method_2_code 1 = .ok (.getfield 19, 3) := by decide +kernel
theorem d4_4 : decode prog_46_method_2_code 4 = .ok (.ldc2_w 22, 3) := by decide +kernel
theorem d4_7 : decode prog_46_method_2_code 7 = .ok (.dcmp .l, 1) := by decide +kernel
theorem d4_8 : decode prog_46_method_2_code 8 = .ok (.ifCond .eq 7, 3) := by decide +kernel
theorem d4_11 : decode prog_46_method_2_code 11 = .ok (.iconst 1, 1) := by decide +kernel
theorem d4_12 : decode prog_46_method_2_code 12 = .ok (.goto 4, 3) := by decide +kernel
theorem d4_15 : decode prog_46_method_2_code 15 = .ok (.iconst 0, 1) := by decide +kernel
theorem d4_16 : decode prog_46_method_2_code 16 = .ok (.ireturn, 1) := by decide +kernel
theorem ef_4 (m : MethodId) (x0 : Addr) : entryFrame m #[(.ref x0)] 1 = mkF m 0 #[.val (.ref x0)] [] := by first | (simp [entryFrame, mkF, argsToLocals, Value.category]; done) | rfl
def Q4 (Z : State) (a33 : Addr) (z34 : UInt64) (h0 : Heap) (n0 : Nat) (v : Option Value) (h : Heap) (L : List Loc) : Prop := v = some (.int (f4 z34)) ∧ Fr n0 L ∧ h = h0
set_option maxRecDepth 65536 in
set_option maxHeartbeats 40000000 in
theorem rm4 (l : Launch) (Z : State) (a0 : Array Value) (hw : ∀ d ∈ tables_1, d.before a0 Z = true) (ws : List Jvm.Cond) (a33 : Addr) (z34 : UInt64) (h0 : Heap) (n0 : Nat) (Z0 : n0 ≤ h0.size) (F_entered_a33 : Fld Z h0 a33 "com/example/mutix/mutix/measure/Wait" "entered" "D" (.double z34)) :
    MetFree l (⟨"com/example/mutix/mutix/measure/Wait", "served", "()Z"⟩ : MethodName) (head1 (Jvm.Cond.code (⟨"com/example/mutix/mutix/measure/Wait", "served", "()Z"⟩ : MethodName) prog_46_method_2_code 1 (some .boolean) :: ws) ({ frames := 0, cells := 0, slots := 0, locals := 0 } : Room)) (fun a U => a = #[(.ref a33)] ∧ Z.Warmed39 U.vm ∧ U.heap = h0) (fun _ _ _ _ _ => True) (fun _ U o U' => ∃ v L, o = .returned v ∧ Q4 Z a33 z34 h0 n0 v U'.heap L ∧ FrameEnd U o U' L ({ frames := 0, cells := 0, slots := 0, locals := 0 } : Room).cells ({ frames := 0, cells := 0, slots := 0, locals := 0 } : Room).slots) := by
  refine MetFree.of_bodySF (plainFor_of_name pn_1) hisR ?_
  intro p e s m args below meth c s₁ Bd hml0 hP hK
  obtain ⟨rfl, hZ, hh⟩ := hP
  have hx := Bd.exec
  have hby := Bd.bytes
  have hml : c.maxLocals = 1 := hml0
  have hown : s.vm.findClass "com/example/mutix/mutix/measure/Wait" = some m.cls := findClass_of_methodNamed Bd.named
  have hnm := (name_of_methodNamed Bd.named Bd.method).1
  have X0 : Stand p l e ({ frames := 0, cells := 0, slots := 0, locals := 0 } : Room) s m #[(.ref a33)] below meth c s₁ [] 0 0 := Stand.of_body Bd
  have e0 : s₁.heap = h0 := by rw [← hh, Bd.state]; rfl
  have N0 := Fr.nil n0
  have pre0 : ∀ t, Steps p.tables e below (s₁.setTop (mkF m 0 #[.val (.ref a33)] [])) t → Steps p.tables e below (s₁.setTop (entryFrame m #[(.ref a33)] 1)) t := fun t k => castTop (ef_4 m a33) k
  obtain ⟨T41, X41, e41, st41⟩ := getF X0 hx hZ hown (host := "") (Or.inl (hw _ (List.mem_of_getElem? (i := 19) rfl))) Via.refl e0 F_entered_a33 (g := (mkF m 1 #[.val (.ref a33)] [(.ref a33)])) rfl rfl (hb hby d4_1)
  have S42 : ∀ t, Steps p.tables e below (T41.setTop (mkF m 8 #[.val (.ref a33)] [(.int (cmpValue (FP.dcmp z34 (9218868437227405312 : UInt64)) .l))])) t → Steps p.tables e below (s₁.setTop (entryFrame m #[(.ref a33)] 1)) t := by
    intro t k
    refine pre0 t ?_
    refine XS.aloadN X0.here hx rfl (hb hby d4_0) rfl rfl ?_
    show Steps p.tables e below (s₁.setTop (mkF m 1 #[.val (.ref a33)] [(.ref a33)])) _
    refine st41 _ ?_
    show Steps p.tables e below (T41.setTop (mkF m 4 #[.val (.ref a33)] [(.double z34)])) _
    refine X41.ldc2DoubleC hx hown (mvT hZ (hw _ (List.mem_of_getElem? (i := 26) rfl))) (g := (mkF m 4 #[.val (.ref a33)] [(.double z34)])) rfl (hb hby d4_4) _ ?_
    show Steps p.tables e below (T41.setTop (mkF m 7 #[.val (.ref a33)] [(.double (9218868437227405312 : UInt64)), (.double z34)])) _
    refine XS.dcmpS X41.here hx rfl (hb hby d4_7) rfl rfl ?_
    show Steps p.tables e below (T41.setTop (mkF m 8 #[.val (.ref a33)] [(.int (cmpValue (FP.dcmp z34 (9218868437227405312 : UInt64)) .l))])) _
    exact k
  obtain ⟨w43, hw43⟩ : ∃ z : Int32, z = (cmpValue (FP.dcmp z34 (9218868437227405312 : UInt64)) .l) := ⟨_, rfl⟩
  rw [← hw43] at S42
  have S45 : ∀ t, Steps p.tables e below (T41.setTop (mkF m 16 #[.val (.ref a33)] [(.int (if w43 = (0 : Int32) then (0 : Int32) else (1 : Int32)))])) t → Steps p.tables e below (s₁.setTop (entryFrame m #[(.ref a33)] 1)) t := by
    intro t k
    refine S42 t ?_
    by_cases hc44 : w43 = (0 : Int32)
    · rw [if_pos hc44] at k
      refine XS.ifYes X41.here hx rfl (pc0 := 8) (pc' := 15) rfl (hb hby d4_8) rfl ((if0 _ _).trans (teq hc44).1) (by decide) (by decide) ?_
      show Steps p.tables e below (T41.setTop (mkF m 15 #[.val (.ref a33)] [])) _
      refine XS.iconst X41.here hx rfl (hb hby d4_15) ?_
      show Steps p.tables e below (T41.setTop (mkF m 16 #[.val (.ref a33)] [(.int (0 : Int32))])) _
      exact k
    · rw [if_neg hc44] at k
      refine XS.ifNo X41.here hx rfl (hb hby d4_8) rfl ((if0 _ _).trans (feq hc44).1) ?_
      show Steps p.tables e below (T41.setTop (mkF m 11 #[.val (.ref a33)] [])) _
      refine XS.iconst X41.here hx rfl (hb hby d4_11) ?_
      show Steps p.tables e below (T41.setTop (mkF m 12 #[.val (.ref a33)] [(.int (1 : Int32))])) _
      refine XS.goto X41.here hx rfl (pc0 := 12) (pc' := 16) rfl (hb hby d4_12) (by decide) (by decide) ?_
      show Steps p.tables e below (T41.setTop (mkF m 16 #[.val (.ref a33)] [(.int (1 : Int32))])) _
      exact k
  obtain ⟨w46, hw46⟩ : ∃ z : Int32, z = (if w43 = (0 : Int32) then (0 : Int32) else (1 : Int32)) := ⟨_, rfl⟩
  rw [← hw46] at S45
  have hf : f4 z34 = w46 := by
    unfold f4
    subst hw43 hw46
    rfl
  have hnb : nar .boolean w46 = w46 := own_nb (by rw [← hf]; exact f4_b z34)
  obtain ⟨fs, hr, hrun, hended, hW, hsame⟩ := X41.leave (v := some (.int (nar .boolean w46))) (fun h => by rw [Bd.returns] at h; cases h)
  refine ⟨_, _, S45 _ ?_, hrun, hended, _, _, rfl, ?_, ⟨_, rfl⟩, hW, hsame.mono (by decide) (by decide)⟩
  · exact retN X41 hx (t := .boolean) Bd.returns (by simp) (hb hby d4_16) hr
  · show Q4 Z a33 z34 h0 n0 _ T41.heap _
    rw [e41]
    exact ⟨by rw [hnb, hf], N0, rfl⟩
theorem pd_1 : parseMethodDescriptor "(IDD)V" = some ⟨[.int, .double, .double], none⟩ := by decide +kernel
theorem pd_2 : parseMethodDescriptor "()Z" = some ⟨[], some .boolean⟩ := by decide +kernel
set_option maxRecDepth 65536 in
theorem own_law (r : Int32) (ee : Int32) (fl : Int32)  (v0 : Int32) (hv0 : v0 = (fl &&& (3 : Int32))) (v1 : UInt64) (hv1 : v1 = (if v0 = (0 : Int32) then (FP.i2d ee) else (if v0 = (1 : Int32) then (9218868437227405312 : UInt64) else (if v0 = (2 : Int32) then (18442240474082181120 : UInt64) else (FP.dneg (FP.i2d ee)))))) (v2 : Int32) (hv2 : v2 = (((fl.toUInt32 >>> ((2 : Int32) &&& 31).toUInt32).toInt32) &&& (1 : Int32))) (v3 : UInt64) (hv3 : v3 = (if v2 = (0 : Int32) then (FP.i2d r) else (9218868437227405312 : UInt64))) (v4 : Int32) (hv4 : v4 = (if v0 = (1 : Int32) then (0 : Int32) else (1 : Int32))) (v5 : Int32) (hv5 : v5 = (f4 v1)) (v6 : Int32) (hv6 : v6 = (if v5 = v4 then (1 : Int32) else (0 : Int32)))  : v6 = (1 : Int32) := by
  have key : cmpValue (FP.dcmp v1 (9218868437227405312 : UInt64)) .l = if v0 = (1 : Int32) then 0 else -1 := by
    by_cases h0 : v0 = (0 : Int32)
    · rw [if_pos h0] at hv1
      subst hv1
      rw [if_neg (by rw [h0]; decide)]
      exact dcmp_pinf (Jvm.Free.Fl.i2d_fin ee) .l
    · rw [if_neg h0] at hv1
      by_cases h1 : v0 = (1 : Int32)
      · rw [if_pos h1] at hv1 ⊢
        subst hv1; decide +kernel
      · rw [if_neg h1] at hv1 ⊢
        by_cases h2 : v0 = (2 : Int32)
        · rw [if_pos h2] at hv1; subst hv1; decide +kernel
        · rw [if_neg h2] at hv1; subst hv1
          exact dcmp_pinf (Jvm.Free.Fl.fin64_core.mpr (own_dneg_fin (own_i2d_fin ee))) .l
  rw [hv6, hv5, hv4]
  unfold f4
  rw [key]
  by_cases h1 : v0 = (1 : Int32)
  · simp only [if_pos h1]; decide
  · simp only [if_neg h1]; decide
theorem ef_0 (m : MethodId) (x0 : Int32) (x1 : Int32) (x2 : Int32) (x3 : Int32) : entryFrame m #[(.int x0), (.int x1), (.int x2), (.int x3)] maxLocals = mkF m 0 #[.val (.int x0), .val (.int x1), .val (.int x2), .val (.int x3), .unset, .unset, .unset, .unset, .unset, .unset, .unset] [] := by first | (simp [entryFrame, mkF, argsToLocals, Value.category, maxLocals]; done) | rfl
theorem pn_2 : plainName "com/example/mutix/mutix/measure/WaitServedPinLaw" = true := by first | (simp [plainName, overriddenIn]; done) | decide +kernel
def Q0 (Z : State) (pXq : Int32) (rXq : Int32) (ee : Int32) (fl : Int32) (h0 : Heap) (n0 : Nat) (v : Option Value) (h : Heap) (L : List Loc) : Prop := v = some (.int 1) ∧ Fr n0 L
set_option maxRecDepth 65536 in
set_option maxHeartbeats 40000000 in
theorem rm0 (l : Launch) (Z : State) (a0 : Array Value) (hw : ∀ d ∈ tables_1, d.before a0 Z = true) (ws : List Jvm.Cond) (pXq : Int32) (rXq : Int32) (ee : Int32) (fl : Int32) (h0 : Heap) (n0 : Nat) (Z0 : n0 ≤ h0.size)  :
    MetFree l x (head1 (Jvm.Cond.code x code maxLocals ret :: ws) room_1) (fun a U => a = #[(.int pXq), (.int rXq), (.int ee), (.int fl)] ∧ Z.Warmed39 U.vm ∧ U.heap = h0) (fun _ _ _ _ _ => True) (fun _ U o U' => ∃ v L, o = .returned v ∧ Q0 Z pXq rXq ee fl h0 n0 v U'.heap L ∧ FrameEnd U o U' L room_1.cells room_1.slots) := by
  refine MetFree.of_bodySF (plainFor_of_name pn_2) hisR ?_
  intro p e s m args below meth c s₁ Bd hml0 hP hK
  obtain ⟨rfl, hZ, hh⟩ := hP
  have hx := Bd.exec
  have hby := Bd.bytes
  have hml : c.maxLocals = 11 := hml0
  have hown : s.vm.findClass "com/example/mutix/mutix/measure/WaitServedPinLaw" = some m.cls := findClass_of_methodNamed Bd.named
  have hnm := (name_of_methodNamed Bd.named Bd.method).1
  have X0 : Stand p l e room_1 s m #[(.int pXq), (.int rXq), (.int ee), (.int fl)] below meth c s₁ [] 0 0 := Stand.of_body Bd
  have e0 : s₁.heap = h0 := by rw [← hh, Bd.state]; rfl
  have N0 := Fr.nil n0
  have pre0 : ∀ t, Steps p.tables e below (s₁.setTop (mkF m 0 #[.val (.int pXq), .val (.int rXq), .val (.int ee), .val (.int fl), .unset, .unset, .unset, .unset, .unset, .unset, .unset] [])) t → Steps p.tables e below (s₁.setTop (entryFrame m #[(.int pXq), (.int rXq), (.int ee), (.int fl)] maxLocals)) t := fun t k => castTop (ef_0 m pXq rXq ee fl) k
  have S47 : ∀ t, Steps p.tables e below (s₁.setTop (mkF m 7 #[.val (.int pXq), .val (.int rXq), .val (.int ee), .val (.int fl), .val (.int (fl &&& (3 : Int32))), .unset, .unset, .unset, .unset, .unset, .unset] [(.int (fl &&& (3 : Int32)))])) t → Steps p.tables e below (s₁.setTop (entryFrame m #[(.int pXq), (.int rXq), (.int ee), (.int fl)] maxLocals)) t := by
    intro t k
    refine pre0 t ?_
    refine XS.iloadN X0.here hx rfl (hb hby at_0) rfl ?_
    show Steps p.tables e below (s₁.setTop (mkF m 1 #[.val (.int pXq), .val (.int rXq), .val (.int ee), .val (.int fl), .unset, .unset, .unset, .unset, .unset, .unset, .unset] [(.int fl)])) _
    refine XS.iconst X0.here hx rfl (hb hby at_1) ?_
    show Steps p.tables e below (s₁.setTop (mkF m 2 #[.val (.int pXq), .val (.int rXq), .val (.int ee), .val (.int fl), .unset, .unset, .unset, .unset, .unset, .unset, .unset] [(.int (3 : Int32)), (.int fl)])) _
    refine XS.iand X0.here hx rfl (hb hby at_2) rfl ?_
    show Steps p.tables e below (s₁.setTop (mkF m 3 #[.val (.int pXq), .val (.int rXq), .val (.int ee), .val (.int fl), .unset, .unset, .unset, .unset, .unset, .unset, .unset] [(.int (fl &&& (3 : Int32)))])) _
    refine XS.istore X0.here hx rfl (hb hby at_3) rfl (l' := #[.val (.int pXq), .val (.int rXq), .val (.int ee), .val (.int fl), .val (.int (fl &&& (3 : Int32))), .unset, .unset, .unset, .unset, .unset, .unset]) rfl ?_
    show Steps p.tables e below (s₁.setTop (mkF m 5 #[.val (.int pXq), .val (.int rXq), .val (.int ee), .val (.int fl), .val (.int (fl &&& (3 : Int32))), .unset, .unset, .unset, .unset, .unset, .unset] [])) _
    refine XS.iload X0.here hx rfl (hb hby at_5) rfl ?_
    show Steps p.tables e below (s₁.setTop (mkF m 7 #[.val (.int pXq), .val (.int rXq), .val (.int ee), .val (.int fl), .val (.int (fl &&& (3 : Int32))), .unset, .unset, .unset, .unset, .unset, .unset] [(.int (fl &&& (3 : Int32)))])) _
    exact k
  obtain ⟨w48, hw48⟩ : ∃ z : Int32, z = (fl &&& (3 : Int32)) := ⟨_, rfl⟩
  rw [← hw48] at S47
  have S52 : ∀ t, Steps p.tables e below (s₁.setTop (mkF m 50 #[.val (.int pXq), .val (.int rXq), .val (.int ee), .val (.int fl), .val (.int w48), .val (.double (if w48 = (0 : Int32) then (FP.i2d ee) else (if w48 = (1 : Int32) then (9218868437227405312 : UInt64) else (if w48 = (2 : Int32) then (18442240474082181120 : UInt64) else (FP.dneg (FP.i2d ee)))))), .second, .unset, .unset, .unset, .unset] [])) t → Steps p.tables e below (s₁.setTop (entryFrame m #[(.int pXq), (.int rXq), (.int ee), (.int fl)] maxLocals)) t := by
    intro t k
    refine S47 t ?_
    by_cases hc49 : w48 = (0 : Int32)
    · rw [if_pos hc49] at k
      refine XS.ifNo X0.here hx rfl (hb hby at_7) rfl ((if0 _ _).trans (teq hc49).2) ?_
      show Steps p.tables e below (s₁.setTop (mkF m 10 #[.val (.int pXq), .val (.int rXq), .val (.int ee), .val (.int fl), .val (.int w48), .unset, .unset, .unset, .unset, .unset, .unset] [])) _
      refine XS.iloadN X0.here hx rfl (hb hby at_10) rfl ?_
      show Steps p.tables e below (s₁.setTop (mkF m 11 #[.val (.int pXq), .val (.int rXq), .val (.int ee), .val (.int fl), .val (.int w48), .unset, .unset, .unset, .unset, .unset, .unset] [(.int ee)])) _
      refine XS.i2dS X0.here hx rfl (hb hby at_11) rfl rfl ?_
      show Steps p.tables e below (s₁.setTop (mkF m 12 #[.val (.int pXq), .val (.int rXq), .val (.int ee), .val (.int fl), .val (.int w48), .unset, .unset, .unset, .unset, .unset, .unset] [(.double (FP.i2d ee))])) _
      refine XS.dstore X0.here hx rfl (hb hby at_12) rfl (l' := #[.val (.int pXq), .val (.int rXq), .val (.int ee), .val (.int fl), .val (.int w48), .val (.double (FP.i2d ee)), .second, .unset, .unset, .unset, .unset]) rfl ?_
      show Steps p.tables e below (s₁.setTop (mkF m 14 #[.val (.int pXq), .val (.int rXq), .val (.int ee), .val (.int fl), .val (.int w48), .val (.double (FP.i2d ee)), .second, .unset, .unset, .unset, .unset] [])) _
      refine XS.goto X0.here hx rfl (pc0 := 14) (pc' := 50) rfl (hb hby at_14) (by decide) (by decide) ?_
      show Steps p.tables e below (s₁.setTop (mkF m 50 #[.val (.int pXq), .val (.int rXq), .val (.int ee), .val (.int fl), .val (.int w48), .val (.double (FP.i2d ee)), .second, .unset, .unset, .unset, .unset] [])) _
      exact k
    · rw [if_neg hc49] at k
      refine XS.ifYes X0.here hx rfl (pc0 := 7) (pc' := 17) rfl (hb hby at_7) rfl ((if0 _ _).trans (feq hc49).2) (by decide) (by decide) ?_
      show Steps p.tables e below (s₁.setTop (mkF m 17 #[.val (.int pXq), .val (.int rXq), .val (.int ee), .val (.int fl), .val (.int w48), .unset, .unset, .unset, .unset, .unset, .unset] [])) _
      refine XS.iload X0.here hx rfl (hb hby at_17) rfl ?_
      show Steps p.tables e below (s₁.setTop (mkF m 19 #[.val (.int pXq), .val (.int rXq), .val (.int ee), .val (.int fl), .val (.int w48), .unset, .unset, .unset, .unset, .unset, .unset] [(.int w48)])) _
      refine XS.iconst X0.here hx rfl (hb hby at_19) ?_
      show Steps p.tables e below (s₁.setTop (mkF m 20 #[.val (.int pXq), .val (.int rXq), .val (.int ee), .val (.int fl), .val (.int w48), .unset, .unset, .unset, .unset, .unset, .unset] [(.int (1 : Int32)), (.int w48)])) _
      by_cases hc50 : w48 = (1 : Int32)
      · rw [if_pos hc50] at k
        refine XS.icmpNo X0.here hx rfl (hb hby at_20) rfl (teq hc50).2 ?_
        show Steps p.tables e below (s₁.setTop (mkF m 23 #[.val (.int pXq), .val (.int rXq), .val (.int ee), .val (.int fl), .val (.int w48), .unset, .unset, .unset, .unset, .unset, .unset] [])) _
        refine X0.ldc2DoubleC hx hown (mvT hZ (hw _ (List.mem_of_getElem? (i := 0) rfl))) (g := (mkF m 23 #[.val (.int pXq), .val (.int rXq), .val (.int ee), .val (.int fl), .val (.int w48), .unset, .unset, .unset, .unset, .unset, .unset] [])) rfl (hb hby at_23) _ ?_
        show Steps p.tables e below (s₁.setTop (mkF m 26 #[.val (.int pXq), .val (.int rXq), .val (.int ee), .val (.int fl), .val (.int w48), .unset, .unset, .unset, .unset, .unset, .unset] [(.double (9218868437227405312 : UInt64))])) _
        refine XS.dstore X0.here hx rfl (hb hby at_26) rfl (l' := #[.val (.int pXq), .val (.int rXq), .val (.int ee), .val (.int fl), .val (.int w48), .val (.double (9218868437227405312 : UInt64)), .second, .unset, .unset, .unset, .unset]) rfl ?_
        show Steps p.tables e below (s₁.setTop (mkF m 28 #[.val (.int pXq), .val (.int rXq), .val (.int ee), .val (.int fl), .val (.int w48), .val (.double (9218868437227405312 : UInt64)), .second, .unset, .unset, .unset, .unset] [])) _
        refine XS.goto X0.here hx rfl (pc0 := 28) (pc' := 50) rfl (hb hby at_28) (by decide) (by decide) ?_
        show Steps p.tables e below (s₁.setTop (mkF m 50 #[.val (.int pXq), .val (.int rXq), .val (.int ee), .val (.int fl), .val (.int w48), .val (.double (9218868437227405312 : UInt64)), .second, .unset, .unset, .unset, .unset] [])) _
        exact k
      · rw [if_neg hc50] at k
        refine XS.icmpYes X0.here hx rfl (pc0 := 20) (pc' := 31) rfl (hb hby at_20) rfl (feq hc50).2 (by decide) (by decide) ?_
        show Steps p.tables e below (s₁.setTop (mkF m 31 #[.val (.int pXq), .val (.int rXq), .val (.int ee), .val (.int fl), .val (.int w48), .unset, .unset, .unset, .unset, .unset, .unset] [])) _
        refine XS.iload X0.here hx rfl (hb hby at_31) rfl ?_
        show Steps p.tables e below (s₁.setTop (mkF m 33 #[.val (.int pXq), .val (.int rXq), .val (.int ee), .val (.int fl), .val (.int w48), .unset, .unset, .unset, .unset, .unset, .unset] [(.int w48)])) _
        refine XS.iconst X0.here hx rfl (hb hby at_33) ?_
        show Steps p.tables e below (s₁.setTop (mkF m 34 #[.val (.int pXq), .val (.int rXq), .val (.int ee), .val (.int fl), .val (.int w48), .unset, .unset, .unset, .unset, .unset, .unset] [(.int (2 : Int32)), (.int w48)])) _
        by_cases hc51 : w48 = (2 : Int32)
        · rw [if_pos hc51] at k
          refine XS.icmpNo X0.here hx rfl (hb hby at_34) rfl (teq hc51).2 ?_
          show Steps p.tables e below (s₁.setTop (mkF m 37 #[.val (.int pXq), .val (.int rXq), .val (.int ee), .val (.int fl), .val (.int w48), .unset, .unset, .unset, .unset, .unset, .unset] [])) _
          refine X0.ldc2DoubleC hx hown (mvT hZ (hw _ (List.mem_of_getElem? (i := 27) rfl))) (g := (mkF m 37 #[.val (.int pXq), .val (.int rXq), .val (.int ee), .val (.int fl), .val (.int w48), .unset, .unset, .unset, .unset, .unset, .unset] [])) rfl (hb hby at_37) _ ?_
          show Steps p.tables e below (s₁.setTop (mkF m 40 #[.val (.int pXq), .val (.int rXq), .val (.int ee), .val (.int fl), .val (.int w48), .unset, .unset, .unset, .unset, .unset, .unset] [(.double (18442240474082181120 : UInt64))])) _
          refine XS.dstore X0.here hx rfl (hb hby at_40) rfl (l' := #[.val (.int pXq), .val (.int rXq), .val (.int ee), .val (.int fl), .val (.int w48), .val (.double (18442240474082181120 : UInt64)), .second, .unset, .unset, .unset, .unset]) rfl ?_
          show Steps p.tables e below (s₁.setTop (mkF m 42 #[.val (.int pXq), .val (.int rXq), .val (.int ee), .val (.int fl), .val (.int w48), .val (.double (18442240474082181120 : UInt64)), .second, .unset, .unset, .unset, .unset] [])) _
          refine XS.goto X0.here hx rfl (pc0 := 42) (pc' := 50) rfl (hb hby at_42) (by decide) (by decide) ?_
          show Steps p.tables e below (s₁.setTop (mkF m 50 #[.val (.int pXq), .val (.int rXq), .val (.int ee), .val (.int fl), .val (.int w48), .val (.double (18442240474082181120 : UInt64)), .second, .unset, .unset, .unset, .unset] [])) _
          exact k
        · rw [if_neg hc51] at k
          refine XS.icmpYes X0.here hx rfl (pc0 := 34) (pc' := 45) rfl (hb hby at_34) rfl (feq hc51).2 (by decide) (by decide) ?_
          show Steps p.tables e below (s₁.setTop (mkF m 45 #[.val (.int pXq), .val (.int rXq), .val (.int ee), .val (.int fl), .val (.int w48), .unset, .unset, .unset, .unset, .unset, .unset] [])) _
          refine XS.iloadN X0.here hx rfl (hb hby at_45) rfl ?_
          show Steps p.tables e below (s₁.setTop (mkF m 46 #[.val (.int pXq), .val (.int rXq), .val (.int ee), .val (.int fl), .val (.int w48), .unset, .unset, .unset, .unset, .unset, .unset] [(.int ee)])) _
          refine XS.i2dS X0.here hx rfl (hb hby at_46) rfl rfl ?_
          show Steps p.tables e below (s₁.setTop (mkF m 47 #[.val (.int pXq), .val (.int rXq), .val (.int ee), .val (.int fl), .val (.int w48), .unset, .unset, .unset, .unset, .unset, .unset] [(.double (FP.i2d ee))])) _
          refine XS.dnegS X0.here hx rfl (hb hby at_47) rfl rfl ?_
          show Steps p.tables e below (s₁.setTop (mkF m 48 #[.val (.int pXq), .val (.int rXq), .val (.int ee), .val (.int fl), .val (.int w48), .unset, .unset, .unset, .unset, .unset, .unset] [(.double (FP.dneg (FP.i2d ee)))])) _
          refine XS.dstore X0.here hx rfl (hb hby at_48) rfl (l' := #[.val (.int pXq), .val (.int rXq), .val (.int ee), .val (.int fl), .val (.int w48), .val (.double (FP.dneg (FP.i2d ee))), .second, .unset, .unset, .unset, .unset]) rfl ?_
          show Steps p.tables e below (s₁.setTop (mkF m 50 #[.val (.int pXq), .val (.int rXq), .val (.int ee), .val (.int fl), .val (.int w48), .val (.double (FP.dneg (FP.i2d ee))), .second, .unset, .unset, .unset, .unset] [])) _
          exact k
  obtain ⟨w53, hw53⟩ : ∃ z : UInt64, z = (if w48 = (0 : Int32) then (FP.i2d ee) else (if w48 = (1 : Int32) then (9218868437227405312 : UInt64) else (if w48 = (2 : Int32) then (18442240474082181120 : UInt64) else (FP.dneg (FP.i2d ee))))) := ⟨_, rfl⟩
  rw [← hw53] at S52
  have S54 : ∀ t, Steps p.tables e below (s₁.setTop (mkF m 55 #[.val (.int pXq), .val (.int rXq), .val (.int ee), .val (.int fl), .val (.int w48), .val (.double w53), .second, .unset, .unset, .unset, .unset] [(.int (((fl.toUInt32 >>> ((2 : Int32) &&& 31).toUInt32).toInt32) &&& (1 : Int32)))])) t → Steps p.tables e below (s₁.setTop (entryFrame m #[(.int pXq), (.int rXq), (.int ee), (.int fl)] maxLocals)) t := by
    intro t k
    refine S52 t ?_
    refine XS.iloadN X0.here hx rfl (hb hby at_50) rfl ?_
    show Steps p.tables e below (s₁.setTop (mkF m 51 #[.val (.int pXq), .val (.int rXq), .val (.int ee), .val (.int fl), .val (.int w48), .val (.double w53), .second, .unset, .unset, .unset, .unset] [(.int fl)])) _
    refine XS.iconst X0.here hx rfl (hb hby at_51) ?_
    show Steps p.tables e below (s₁.setTop (mkF m 52 #[.val (.int pXq), .val (.int rXq), .val (.int ee), .val (.int fl), .val (.int w48), .val (.double w53), .second, .unset, .unset, .unset, .unset] [(.int (2 : Int32)), (.int fl)])) _
    refine XS.iushr X0.here hx rfl (hb hby at_52) rfl ?_
    show Steps p.tables e below (s₁.setTop (mkF m 53 #[.val (.int pXq), .val (.int rXq), .val (.int ee), .val (.int fl), .val (.int w48), .val (.double w53), .second, .unset, .unset, .unset, .unset] [(.int ((fl.toUInt32 >>> ((2 : Int32) &&& 31).toUInt32).toInt32))])) _
    refine XS.iconst X0.here hx rfl (hb hby at_53) ?_
    show Steps p.tables e below (s₁.setTop (mkF m 54 #[.val (.int pXq), .val (.int rXq), .val (.int ee), .val (.int fl), .val (.int w48), .val (.double w53), .second, .unset, .unset, .unset, .unset] [(.int (1 : Int32)), (.int ((fl.toUInt32 >>> ((2 : Int32) &&& 31).toUInt32).toInt32))])) _
    refine XS.iand X0.here hx rfl (hb hby at_54) rfl ?_
    show Steps p.tables e below (s₁.setTop (mkF m 55 #[.val (.int pXq), .val (.int rXq), .val (.int ee), .val (.int fl), .val (.int w48), .val (.double w53), .second, .unset, .unset, .unset, .unset] [(.int (((fl.toUInt32 >>> ((2 : Int32) &&& 31).toUInt32).toInt32) &&& (1 : Int32)))])) _
    exact k
  obtain ⟨w55, hw55⟩ : ∃ z : Int32, z = (((fl.toUInt32 >>> ((2 : Int32) &&& 31).toUInt32).toInt32) &&& (1 : Int32)) := ⟨_, rfl⟩
  rw [← hw55] at S54
  have S57 : ∀ t, Steps p.tables e below (s₁.setTop (mkF m 66 #[.val (.int pXq), .val (.int rXq), .val (.int ee), .val (.int fl), .val (.int w48), .val (.double w53), .second, .unset, .unset, .unset, .unset] [(.double (if w55 = (0 : Int32) then (FP.i2d rXq) else (9218868437227405312 : UInt64)))])) t → Steps p.tables e below (s₁.setTop (entryFrame m #[(.int pXq), (.int rXq), (.int ee), (.int fl)] maxLocals)) t := by
    intro t k
    refine S54 t ?_
    by_cases hc56 : w55 = (0 : Int32)
    · rw [if_pos hc56] at k
      refine XS.ifYes X0.here hx rfl (pc0 := 55) (pc' := 64) rfl (hb hby at_55) rfl ((if0 _ _).trans (teq hc56).1) (by decide) (by decide) ?_
      show Steps p.tables e below (s₁.setTop (mkF m 64 #[.val (.int pXq), .val (.int rXq), .val (.int ee), .val (.int fl), .val (.int w48), .val (.double w53), .second, .unset, .unset, .unset, .unset] [])) _
      refine XS.iloadN X0.here hx rfl (hb hby at_64) rfl ?_
      show Steps p.tables e below (s₁.setTop (mkF m 65 #[.val (.int pXq), .val (.int rXq), .val (.int ee), .val (.int fl), .val (.int w48), .val (.double w53), .second, .unset, .unset, .unset, .unset] [(.int rXq)])) _
      refine XS.i2dS X0.here hx rfl (hb hby at_65) rfl rfl ?_
      show Steps p.tables e below (s₁.setTop (mkF m 66 #[.val (.int pXq), .val (.int rXq), .val (.int ee), .val (.int fl), .val (.int w48), .val (.double w53), .second, .unset, .unset, .unset, .unset] [(.double (FP.i2d rXq))])) _
      exact k
    · rw [if_neg hc56] at k
      refine XS.ifNo X0.here hx rfl (hb hby at_55) rfl ((if0 _ _).trans (feq hc56).1) ?_
      show Steps p.tables e below (s₁.setTop (mkF m 58 #[.val (.int pXq), .val (.int rXq), .val (.int ee), .val (.int fl), .val (.int w48), .val (.double w53), .second, .unset, .unset, .unset, .unset] [])) _
      refine X0.ldc2DoubleC hx hown (mvT hZ (hw _ (List.mem_of_getElem? (i := 0) rfl))) (g := (mkF m 58 #[.val (.int pXq), .val (.int rXq), .val (.int ee), .val (.int fl), .val (.int w48), .val (.double w53), .second, .unset, .unset, .unset, .unset] [])) rfl (hb hby at_58) _ ?_
      show Steps p.tables e below (s₁.setTop (mkF m 61 #[.val (.int pXq), .val (.int rXq), .val (.int ee), .val (.int fl), .val (.int w48), .val (.double w53), .second, .unset, .unset, .unset, .unset] [(.double (9218868437227405312 : UInt64))])) _
      refine XS.goto X0.here hx rfl (pc0 := 61) (pc' := 66) rfl (hb hby at_61) (by decide) (by decide) ?_
      show Steps p.tables e below (s₁.setTop (mkF m 66 #[.val (.int pXq), .val (.int rXq), .val (.int ee), .val (.int fl), .val (.int w48), .val (.double w53), .second, .unset, .unset, .unset, .unset] [(.double (9218868437227405312 : UInt64))])) _
      exact k
  obtain ⟨w58, hw58⟩ : ∃ z : UInt64, z = (if w55 = (0 : Int32) then (FP.i2d rXq) else (9218868437227405312 : UInt64)) := ⟨_, rfl⟩
  rw [← hw58] at S57
  obtain ⟨T59, h59, X59, e59, E59, A59, D59, -, st59⟩ := newO X0 hx hZ hown (hw _ (List.mem_of_getElem? (i := 1) rfl)) (hw _ (List.mem_of_getElem? (i := 2) rfl)) (hw _ (List.mem_of_getElem? (i := 3) rfl)) e0 (g := (mkF m 68 #[.val (.int pXq), .val (.int rXq), .val (.int ee), .val (.int fl), .val (.int w48), .val (.double w53), .second, .val (.double w58), .second, .unset, .unset] [])) rfl (hb hby at_68) (by decide) (by decide)
  obtain ⟨b59, g59⟩ : ∃ z, z = h0.size := ⟨_, rfl⟩
  rw [← g59] at A59 D59 st59
  have gg59 : n0 ≤ b59 := Nat.le_trans Z0 (Nat.le_of_eq g59.symm)
  have sz59 : h0.size ≤ b59 := Nat.le_trans (Keep.refl h0 []).1 (Nat.le_of_eq g59.symm)
  have K60 : Keep h0 h59 [] := (Keep.refl h0 []).ext E59
  have Z61 : n0 ≤ h59.size := Nat.le_trans Z0 E59.1
  have f62 : Fld Z h59 b59 "com/example/mutix/mutix/measure/Wait" "priority" "I" (.int (0 : Int32)) := D59 (Or.inr (hw _ (List.mem_of_getElem? (i := 16) rfl))) (ty := .int) (by decide)
  have f63 : Fld Z h59 b59 "com/example/mutix/mutix/measure/Wait" "requested" "D" (.double (0 : UInt64)) := D59 (Or.inr (hw _ (List.mem_of_getElem? (i := 18) rfl))) (ty := .double) (by decide)
  have f64 : Fld Z h59 b59 "com/example/mutix/mutix/measure/Wait" "entered" "D" (.double (0 : UInt64)) := D59 (Or.inr (hw _ (List.mem_of_getElem? (i := 20) rfl))) (ty := .double) (by decide)
  obtain ⟨_, _, ⟨T65, L65, k65, n65⟩, -, X65, ⟨Lc65, hQ65, l65, y65, z65⟩, st65⟩ := X59.specialBack hx (y := (⟨"com/example/mutix/mutix/measure/Wait", "<init>", "(IDD)V"⟩ : MethodName)) rfl hown (mvT hZ (hw _ (List.mem_of_getElem? (i := 4) rfl))) (mvT hZ (hw _ (List.mem_of_getElem? (i := 5) rfl))) (mvT hZ (hw _ (List.mem_of_getElem? (i := 6) rfl))) (by decide) (backOf (W := 1) (rm1 l Z a0 hw [] b59 pXq w58 w53 h59 n0 Z61 A59 f62 f63 f64 gg59) hZ (hw _ (List.mem_of_getElem? (i := 6) rfl)) (hw _ (List.mem_of_getElem? (i := 3) rfl)) (by decide) (by decide)) (g := (mkF m 77 #[.val (.int pXq), .val (.int rXq), .val (.int ee), .val (.int fl), .val (.int w48), .val (.double w53), .second, .val (.double w58), .second, .unset, .unset] [(.double w53), (.double w58), (.int pXq), (.ref b59), (.ref b59)])) rfl (by rw [hml]; rfl) (Steps.refl _) (a := b59) (argsL := [(.int pXq), (.double w58), (.double w53)]) (rest := [(.ref b59)]) (lenOf pd_1 rfl) rfl (by show 2 * 0 + _ ≤ _; exact Nat.le_of_eq rfl) (hb hby at_77) (fun _ _ => ⟨rfl, e59, (by decide : 1 + 0 ≤ _), (by decide : 3 + 0 ≤ _)⟩)
  dsimp only [Pt.U, Pt.locs, Pt.cells, Pt.slots] at X65 l65 y65 z65 st65 hQ65
  subst l65 y65 z65
  obtain ⟨rfl, N65q, K65, Eq65, fq65_0, fq65_1, fq65_2⟩ := hQ65
  have N65 := Fr.app N0 N65q
  have K66 : Keep h0 T65.heap [] := K60.trans K65 (allS (Or.inr sz59) all0)
  have Z67 : n0 ≤ T65.heap.size := Nat.le_trans Z61 K65.1
  have S68 : ∀ t, Steps p.tables e below (T65.setTop (mkF m 85 #[.val (.int pXq), .val (.int rXq), .val (.int ee), .val (.int fl), .val (.int w48), .val (.double w53), .second, .val (.double w58), .second, .val (.ref b59), .unset] [(.int (1 : Int32)), (.int w48)])) t → Steps p.tables e below (s₁.setTop (entryFrame m #[(.int pXq), (.int rXq), (.int ee), (.int fl)] maxLocals)) t := by
    intro t k
    refine S57 t ?_
    refine XS.dstore X0.here hx rfl (hb hby at_66) rfl (l' := #[.val (.int pXq), .val (.int rXq), .val (.int ee), .val (.int fl), .val (.int w48), .val (.double w53), .second, .val (.double w58), .second, .unset, .unset]) rfl ?_
    show Steps p.tables e below (s₁.setTop (mkF m 68 #[.val (.int pXq), .val (.int rXq), .val (.int ee), .val (.int fl), .val (.int w48), .val (.double w53), .second, .val (.double w58), .second, .unset, .unset] [])) _
    refine st59 _ ?_
    show Steps p.tables e below (T59.setTop (mkF m 71 #[.val (.int pXq), .val (.int rXq), .val (.int ee), .val (.int fl), .val (.int w48), .val (.double w53), .second, .val (.double w58), .second, .unset, .unset] [(.ref b59)])) _
    refine XS.dup X59.here hx rfl (hb hby at_71) rfl rfl ?_
    show Steps p.tables e below (T59.setTop (mkF m 72 #[.val (.int pXq), .val (.int rXq), .val (.int ee), .val (.int fl), .val (.int w48), .val (.double w53), .second, .val (.double w58), .second, .unset, .unset] [(.ref b59), (.ref b59)])) _
    refine XS.iloadN X59.here hx rfl (hb hby at_72) rfl ?_
    show Steps p.tables e below (T59.setTop (mkF m 73 #[.val (.int pXq), .val (.int rXq), .val (.int ee), .val (.int fl), .val (.int w48), .val (.double w53), .second, .val (.double w58), .second, .unset, .unset] [(.int pXq), (.ref b59), (.ref b59)])) _
    refine XS.dload X59.here hx rfl (hb hby at_73) rfl ?_
    show Steps p.tables e below (T59.setTop (mkF m 75 #[.val (.int pXq), .val (.int rXq), .val (.int ee), .val (.int fl), .val (.int w48), .val (.double w53), .second, .val (.double w58), .second, .unset, .unset] [(.double w58), (.int pXq), (.ref b59), (.ref b59)])) _
    refine XS.dload X59.here hx rfl (hb hby at_75) rfl ?_
    show Steps p.tables e below (T59.setTop (mkF m 77 #[.val (.int pXq), .val (.int rXq), .val (.int ee), .val (.int fl), .val (.int w48), .val (.double w53), .second, .val (.double w58), .second, .unset, .unset] [(.double w53), (.double w58), (.int pXq), (.ref b59), (.ref b59)])) _
    refine st65.trans ?_
    show Steps p.tables e below (T65.setTop (mkF m 80 #[.val (.int pXq), .val (.int rXq), .val (.int ee), .val (.int fl), .val (.int w48), .val (.double w53), .second, .val (.double w58), .second, .unset, .unset] [(.ref b59)])) _
    refine XS.astore X65.here hx rfl (hb hby at_80) rfl rfl (l' := #[.val (.int pXq), .val (.int rXq), .val (.int ee), .val (.int fl), .val (.int w48), .val (.double w53), .second, .val (.double w58), .second, .val (.ref b59), .unset]) rfl ?_
    show Steps p.tables e below (T65.setTop (mkF m 82 #[.val (.int pXq), .val (.int rXq), .val (.int ee), .val (.int fl), .val (.int w48), .val (.double w53), .second, .val (.double w58), .second, .val (.ref b59), .unset] [])) _
    refine XS.iload X65.here hx rfl (hb hby at_82) rfl ?_
    show Steps p.tables e below (T65.setTop (mkF m 84 #[.val (.int pXq), .val (.int rXq), .val (.int ee), .val (.int fl), .val (.int w48), .val (.double w53), .second, .val (.double w58), .second, .val (.ref b59), .unset] [(.int w48)])) _
    refine XS.iconst X65.here hx rfl (hb hby at_84) ?_
    show Steps p.tables e below (T65.setTop (mkF m 85 #[.val (.int pXq), .val (.int rXq), .val (.int ee), .val (.int fl), .val (.int w48), .val (.double w53), .second, .val (.double w58), .second, .val (.ref b59), .unset] [(.int (1 : Int32)), (.int w48)])) _
    exact k
  have S70 : ∀ t, Steps p.tables e below (T65.setTop (mkF m 93 #[.val (.int pXq), .val (.int rXq), .val (.int ee), .val (.int fl), .val (.int w48), .val (.double w53), .second, .val (.double w58), .second, .val (.ref b59), .unset] [(.int (if w48 = (1 : Int32) then (0 : Int32) else (1 : Int32)))])) t → Steps p.tables e below (s₁.setTop (entryFrame m #[(.int pXq), (.int rXq), (.int ee), (.int fl)] maxLocals)) t := by
    intro t k
    refine S68 t ?_
    by_cases hc69 : w48 = (1 : Int32)
    · rw [if_pos hc69] at k
      refine XS.icmpYes X65.here hx rfl (pc0 := 85) (pc' := 92) rfl (hb hby at_85) rfl (teq hc69).1 (by decide) (by decide) ?_
      show Steps p.tables e below (T65.setTop (mkF m 92 #[.val (.int pXq), .val (.int rXq), .val (.int ee), .val (.int fl), .val (.int w48), .val (.double w53), .second, .val (.double w58), .second, .val (.ref b59), .unset] [])) _
      refine XS.iconst X65.here hx rfl (hb hby at_92) ?_
      show Steps p.tables e below (T65.setTop (mkF m 93 #[.val (.int pXq), .val (.int rXq), .val (.int ee), .val (.int fl), .val (.int w48), .val (.double w53), .second, .val (.double w58), .second, .val (.ref b59), .unset] [(.int (0 : Int32))])) _
      exact k
    · rw [if_neg hc69] at k
      refine XS.icmpNo X65.here hx rfl (hb hby at_85) rfl (feq hc69).1 ?_
      show Steps p.tables e below (T65.setTop (mkF m 88 #[.val (.int pXq), .val (.int rXq), .val (.int ee), .val (.int fl), .val (.int w48), .val (.double w53), .second, .val (.double w58), .second, .val (.ref b59), .unset] [])) _
      refine XS.iconst X65.here hx rfl (hb hby at_88) ?_
      show Steps p.tables e below (T65.setTop (mkF m 89 #[.val (.int pXq), .val (.int rXq), .val (.int ee), .val (.int fl), .val (.int w48), .val (.double w53), .second, .val (.double w58), .second, .val (.ref b59), .unset] [(.int (1 : Int32))])) _
      refine XS.goto X65.here hx rfl (pc0 := 89) (pc' := 93) rfl (hb hby at_89) (by decide) (by decide) ?_
      show Steps p.tables e below (T65.setTop (mkF m 93 #[.val (.int pXq), .val (.int rXq), .val (.int ee), .val (.int fl), .val (.int w48), .val (.double w53), .second, .val (.double w58), .second, .val (.ref b59), .unset] [(.int (1 : Int32))])) _
      exact k
  obtain ⟨w71, hw71⟩ : ∃ z : Int32, z = (if w48 = (1 : Int32) then (0 : Int32) else (1 : Int32)) := ⟨_, rfl⟩
  rw [← hw71] at S70
  obtain ⟨cq72, kq72, q72a, q72b, q72c⟩ := isOf hZ rfl Eq65
  obtain ⟨_, _, ⟨T72, L72, k72, n72⟩, -, X72, ⟨Lc72, hQ72, l72, y72, z72⟩, st72⟩ := X65.virtualBack hx (y := (⟨"com/example/mutix/mutix/measure/Wait", "served", "()Z"⟩ : MethodName)) (z := (⟨"com/example/mutix/mutix/measure/Wait", "served", "()Z"⟩ : MethodName)) hown (mvT hZ (hw _ (List.mem_of_getElem? (i := 21) rfl))) (mvT hZ (hw _ (List.mem_of_getElem? (i := 22) rfl))) (notFace_of_selects (args := #[]) (mvT hZ (hw _ (List.mem_of_getElem? (i := 24) rfl)))) (mvT hZ (hw _ (List.mem_of_getElem? (i := 24) rfl))) (mvT hZ (hw _ (List.mem_of_getElem? (i := 23) rfl))) (by decide) (backOf (W := 0) (rm4 l Z a0 hw [] b59 w53 T65.heap n0 Z67 fq65_2) hZ (hw _ (List.mem_of_getElem? (i := 25) rfl)) (hw _ (List.mem_of_getElem? (i := 3) rfl)) (by decide) (by decide)) q72a q72c (g := (mkF m 97 #[.val (.int pXq), .val (.int rXq), .val (.int ee), .val (.int fl), .val (.int w48), .val (.double w53), .second, .val (.double w58), .second, .val (.ref b59), .val (.int w71)] [(.ref b59)])) rfl (by rw [hml]; rfl) (Steps.refl _) (argsL := []) (rest := []) (lenOf pd_2 rfl) rfl (by show 2 * 0 + _ ≤ _; exact Nat.le_of_eq rfl) (hb hby at_97) (fun _ _ => ⟨rfl, rfl, (by decide : 1 + 0 ≤ _), (by decide : 3 + 0 ≤ _)⟩)
  dsimp only [Pt.U, Pt.locs, Pt.cells, Pt.slots] at X72 l72 y72 z72 st72 hQ72
  subst l72 y72 z72
  obtain ⟨rfl, N72q, e72⟩ := hQ72
  have N72 := Fr.app N65 N72q
  have S73 : ∀ t, Steps p.tables e below (T72.setTop (mkF m 102 #[.val (.int pXq), .val (.int rXq), .val (.int ee), .val (.int fl), .val (.int w48), .val (.double w53), .second, .val (.double w58), .second, .val (.ref b59), .val (.int w71)] [(.int w71), (.int (f4 w53))])) t → Steps p.tables e below (s₁.setTop (entryFrame m #[(.int pXq), (.int rXq), (.int ee), (.int fl)] maxLocals)) t := by
    intro t k
    refine S70 t ?_
    refine XS.istore X65.here hx rfl (hb hby at_93) rfl (l' := #[.val (.int pXq), .val (.int rXq), .val (.int ee), .val (.int fl), .val (.int w48), .val (.double w53), .second, .val (.double w58), .second, .val (.ref b59), .val (.int w71)]) rfl ?_
    show Steps p.tables e below (T65.setTop (mkF m 95 #[.val (.int pXq), .val (.int rXq), .val (.int ee), .val (.int fl), .val (.int w48), .val (.double w53), .second, .val (.double w58), .second, .val (.ref b59), .val (.int w71)] [])) _
    refine XS.aload X65.here hx rfl (hb hby at_95) rfl rfl ?_
    show Steps p.tables e below (T65.setTop (mkF m 97 #[.val (.int pXq), .val (.int rXq), .val (.int ee), .val (.int fl), .val (.int w48), .val (.double w53), .second, .val (.double w58), .second, .val (.ref b59), .val (.int w71)] [(.ref b59)])) _
    refine st72.trans ?_
    show Steps p.tables e below (T72.setTop (mkF m 100 #[.val (.int pXq), .val (.int rXq), .val (.int ee), .val (.int fl), .val (.int w48), .val (.double w53), .second, .val (.double w58), .second, .val (.ref b59), .val (.int w71)] [(.int (f4 w53))])) _
    refine XS.iload X72.here hx rfl (hb hby at_100) rfl ?_
    show Steps p.tables e below (T72.setTop (mkF m 102 #[.val (.int pXq), .val (.int rXq), .val (.int ee), .val (.int fl), .val (.int w48), .val (.double w53), .second, .val (.double w58), .second, .val (.ref b59), .val (.int w71)] [(.int w71), (.int (f4 w53))])) _
    exact k
  obtain ⟨w74, hw74⟩ : ∃ z : Int32, z = (f4 w53) := ⟨_, rfl⟩
  rw [← hw74] at S73
  have S76 : ∀ t, Steps p.tables e below (T72.setTop (mkF m 110 #[.val (.int pXq), .val (.int rXq), .val (.int ee), .val (.int fl), .val (.int w48), .val (.double w53), .second, .val (.double w58), .second, .val (.ref b59), .val (.int w71)] [(.int (if w74 = w71 then (1 : Int32) else (0 : Int32)))])) t → Steps p.tables e below (s₁.setTop (entryFrame m #[(.int pXq), (.int rXq), (.int ee), (.int fl)] maxLocals)) t := by
    intro t k
    refine S73 t ?_
    by_cases hc75 : w74 = w71
    · rw [if_pos hc75] at k
      refine XS.icmpNo X72.here hx rfl (hb hby at_102) rfl (teq hc75).2 ?_
      show Steps p.tables e below (T72.setTop (mkF m 105 #[.val (.int pXq), .val (.int rXq), .val (.int ee), .val (.int fl), .val (.int w48), .val (.double w53), .second, .val (.double w58), .second, .val (.ref b59), .val (.int w71)] [])) _
      refine XS.iconst X72.here hx rfl (hb hby at_105) ?_
      show Steps p.tables e below (T72.setTop (mkF m 106 #[.val (.int pXq), .val (.int rXq), .val (.int ee), .val (.int fl), .val (.int w48), .val (.double w53), .second, .val (.double w58), .second, .val (.ref b59), .val (.int w71)] [(.int (1 : Int32))])) _
      refine XS.goto X72.here hx rfl (pc0 := 106) (pc' := 110) rfl (hb hby at_106) (by decide) (by decide) ?_
      show Steps p.tables e below (T72.setTop (mkF m 110 #[.val (.int pXq), .val (.int rXq), .val (.int ee), .val (.int fl), .val (.int w48), .val (.double w53), .second, .val (.double w58), .second, .val (.ref b59), .val (.int w71)] [(.int (1 : Int32))])) _
      exact k
    · rw [if_neg hc75] at k
      refine XS.icmpYes X72.here hx rfl (pc0 := 102) (pc' := 109) rfl (hb hby at_102) rfl (feq hc75).2 (by decide) (by decide) ?_
      show Steps p.tables e below (T72.setTop (mkF m 109 #[.val (.int pXq), .val (.int rXq), .val (.int ee), .val (.int fl), .val (.int w48), .val (.double w53), .second, .val (.double w58), .second, .val (.ref b59), .val (.int w71)] [])) _
      refine XS.iconst X72.here hx rfl (hb hby at_109) ?_
      show Steps p.tables e below (T72.setTop (mkF m 110 #[.val (.int pXq), .val (.int rXq), .val (.int ee), .val (.int fl), .val (.int w48), .val (.double w53), .second, .val (.double w58), .second, .val (.ref b59), .val (.int w71)] [(.int (0 : Int32))])) _
      exact k
  obtain ⟨w77, hw77⟩ : ∃ z : Int32, z = (if w74 = w71 then (1 : Int32) else (0 : Int32)) := ⟨_, rfl⟩
  rw [← hw77] at S76
  have hres : w77 = (1 : Int32) := (own_law rXq ee fl w48 hw48 w53 hw53 w55 hw55 w58 hw58 w71 hw71 w74 hw74 w77 hw77)
  subst hres
  obtain ⟨fs, hr, hrun, hended, hW, hsame⟩ := X72.leave (v := some (.int (1 : Int32))) (fun h => by rw [Bd.returns] at h; cases h)
  refine ⟨_, _, S76 _ ?_, hrun, hended, _, _, rfl, ?_, ⟨_, rfl⟩, hW, hsame.mono (by decide) (by decide)⟩
  · exact retN X72 hx (t := .boolean) Bd.returns (by simp) (hb hby at_110) hr
  · show Q0 Z pXq rXq ee fl h0 n0 _ T72.heap _
    rw [e72]
    exact ⟨rfl, N72⟩
set_option maxRecDepth 65536 in
set_option maxHeartbeats 40000000 in
theorem comes_1 {Post : Tables → Env → Array Value → State → Outcome → State → Prop} (hpost : ∀ tb e args s v u, (limb_1_1.after args s (.returned v) u = true ∧ limb_1_2.after args s (.returned v) u = true ∧ True) → FrameEnd s (.returned v) u (Jvm.fieldLocs frame_1_writes args s ++ Jvm.arrayLocs frame_1_arrays args s ++ Jvm.staticLocs frame_1_statics s) 16 128 → Post tb e args s (.returned v) u) :
    ArmFor flags0 classFile x code maxLocals ret World_1 tables_1 room_1 Calls_1 rest_1 Pre_1 Post := by
  intro l hfl _ _ p e ha hc hk s m args below hf hA hF happ hP
  obtain ⟨hcalls, hrest, hpre⟩ := hP
  obtain ⟨-, -, -, hnamed, -, -, -, hat⟩ := (Spec.applies_iff hf).mp happ
  obtain ⟨hg, hn⟩ := and_e (Cond.before_iff.mp (show (Jvm.Cond.and given_1 narrow_1).before args s = true from hpre))
  obtain ⟨g1, g2⟩ := and_e hg
  obtain ⟨g3, g4⟩ := and_e g2
  obtain ⟨g5, g6⟩ := and_e g4
  obtain ⟨g7, g8⟩ := and_e g6
  obtain ⟨w0, w1, w2, w3, rfl⟩ : ∃ w0 w1 w2 w3 : Value, args = #[w0, w1, w2, w3] := by
    have hs : args.size = 4 := by simpa [Cond.value, given_1] using g1
    obtain ⟨L⟩ := args
    match L, hs with
    | [w0, w1, w2, w3], _ => exact ⟨w0, w1, w2, w3, rfl⟩
  have hw := fun d (hd : d ∈ tables_1) => atoms_spec (ws := Jvm.Cond.code x code maxLocals ret :: tables_1) hat d (List.mem_cons_of_mem _ hd)
  have hfit : Fit s := fun {y c} hc i hi => by
    obtain ⟨ha, rfl⟩ := Array.getElem?_eq_some_iff.mp hc
    have q := List.all_eq_true.mp ((Array.all_eq_true_iff_forall_mem.mp hF) _ (Array.getElem_mem ha)) i (List.mem_range.mpr hi)
    simpa [Array.getElem?_eq_getElem hi] using q
  obtain ⟨i0, ei0⟩ := is_v g3
  obtain rfl : w0 = (.int i0) := Option.some.inj ei0
  obtain ⟨i1, ei1⟩ := is_v g5
  obtain rfl : w1 = (.int i1) := Option.some.inj ei1
  obtain ⟨i2, ei2⟩ := is_v g7
  obtain rfl : w2 = (.int i2) := Option.some.inj ei2
  obtain ⟨i3, ei3⟩ := is_v g8
  obtain rfl : w3 = (.int i3) := Option.some.inj ei3
  obtain ⟨n, o, h1, h2, h3, _, L, rfl, ⟨rfl, N⟩, hq⟩ := rm0 l s _ hw tables_1 i0 i1 i2 i3  s.heap s.heap.size (Nat.le_refl _)  p e ha hc hk s m _ below hf ((Spec.applies_iff_loose hf).mp happ).1 ⟨rfl, State.Warmed39.refl s, rfl⟩ trivial
  refine ⟨n, _, h1, h2, h3, hpost _ _ _ _ _ _ ⟨Cond.after_iff.mpr rfl, Cond.after_iff.mpr (eq_i res_at (Term.int_eval (1)) rfl), trivial⟩ ⟨hq.1, hq.2.1, (hq.2.2.sift fun y hy => Or.inr (N y hy)).mono (by decide) (by decide)⟩⟩
theorem main_1_1 : Claimed_1_1 := comes_1 fun _ _ _ _ _ _ h hF => ⟨h.1, hF⟩
theorem main_1_2 : Claimed_1_2 := comes_1 fun _ _ _ _ _ _ h hF => ⟨h.2.1, hF⟩
end Jvm.Pilot.@@N@@
namespace Jvm.Pilot.@@N@@
open Jvm Jvm.ClassFile Sem Op Lib Jvm.Free Jvm.Stand Jvm.Pilot.@@N@@.Jvm.D
/-! MADE BY PROGRAM (witnessworld.py) out of the Statement's table words and the real class files: 10 classes; the members and pool entries that the words name. The judged class is class 1, her method 1. -/
namespace start1
open Jvm.ClassFile
def u (s : String) : CpInfo := .utf8 (stringToUtf16 s)
/-- a pool by its gaps: so many unusable entries, then the entry; so many at the end -/
def gap : Nat → List CpInfo → List CpInfo
  | 0, r => r
  | n + 1, r => .unusable :: gap n r
def poolList (es : List (Nat × CpInfo)) (last : Nat) : List CpInfo := es.foldr (fun e r => gap e.1 (e.2 :: r)) (gap last [])
def pool (es : List (Nat × CpInfo)) (last : Nat) : Array CpInfo := ⟨poolList es last⟩
def fileOf (pool : Array CpInfo) (this : Nat) (attrs : Array Attribute := #[]) (ms : Array MethodInfo := #[]) (fl : Nat := 33) (sup : Nat := 0) (ifs : Array Nat := #[]) (fds : Array FieldInfo := #[]) : ClassFile where
  minorVersion := 0
  majorVersion := 65
  constantPool := pool
  accessFlags := fl
  thisClass := this
  superClass := sup
  interfaces := ifs
  fields := fds
  methods := ms
  attributes := attrs
def plain (name : String) (sup : Option ClassId) : Class where
  name := name
  kind := .ordinary
  loader := none
  accessFlags := 33
  super := sup
  interfaces := #[]
  cf := none
  fields := #[]
  methods := #[]
  instanceTypes := #[]
  staticTypes := #[]
  resolved := #[]
  callSites := []
  init := .initialized
  statics := none
  mirror := none

def pool0 : Array CpInfo := pool [(5, u "<init>"), (0, u "()V"), (1, .class_ 10), (1, u "java/lang/Object")] 113

def k0c0 : Code := { maxStack := 0, maxLocals := 1, code := object_method_1_code, exceptionTable := #[], attributes := #[] }
def k0m0 : Method := { name := "<init>", desc := "()V", sig := { parameters := [], returnType := none }, accessFlags := 1, code := some k0c0 }
/-- java/lang/Object -/
def k0 : Class := { plain "java/lang/Object" none with
  accessFlags := 33
  interfaces := #[]
  cf := some (fileOf pool0 8 #[] #[{ accessFlags := 1, nameIndex := 5, descriptorIndex := 6, attributes := #[] }] 33 0 #[] #[])
  fields := #[]
  methods := #[k0m0]
  instanceTypes := #[]
  staticTypes := #[]
  resolved := Array.replicate 124 none
  statics := none }

def pool1 : Array CpInfo := pool [(2, .class_ 4), (1, u "java/lang/Object"), (0, u "<init>"), (0, u "()V"), (0, .class_ 8), (0, u "com/example/mutix/mutix/measure/Wait"), (0, .double 9218868437227405312), (1, .double 18442240474082181120), (1, .methodref 7 14), (0, .nameAndType 5 15), (0, u "(IDD)V"), (0, .methodref 7 17), (0, .nameAndType 18 19), (0, u "served"), (0, u "()Z"), (0, .class_ 21), (0, u "com/example/mutix/mutix/measure/WaitServedPinLaw"), (2, u "law"), (0, u "(IIII)Z")] 3

def k1m0 : Method := { name := "<init>", desc := "()V", sig := { parameters := [], returnType := none }, accessFlags := 2, code := none }
def k1c1 : Code := { maxStack := 7, maxLocals := 11, code := code, exceptionTable := #[], attributes := #[] }
def k1m1 : Method := { name := "law", desc := "(IIII)Z", sig := { parameters := [.int, .int, .int, .int], returnType := some .boolean }, accessFlags := 9, code := some k1c1 }
/-- com/example/mutix/mutix/measure/WaitServedPinLaw -/
def k1 : Class := { plain "com/example/mutix/mutix/measure/WaitServedPinLaw" (some 0) with
  accessFlags := 49
  interfaces := #[]
  cf := some (fileOf pool1 20 #[] #[{ accessFlags := 2, nameIndex := 5, descriptorIndex := 6, attributes := #[] }, { accessFlags := 9, nameIndex := 24, descriptorIndex := 25, attributes := #[] }] 49 2 #[] #[])
  fields := #[]
  methods := #[k1m0, k1m1]
  instanceTypes := #[]
  staticTypes := #[]
  resolved := Array.replicate 29 none
  statics := none }

def pool2 : Array CpInfo := pool [(1, .methodref 2 3), (0, .class_ 4), (0, .nameAndType 5 6), (0, u "java/lang/Object"), (0, u "<init>"), (0, u "()V"), (0, .class_ 8), (0, u "java/lang/Record")] 13

def k2c0 : Code := { maxStack := 1, maxLocals := 1, code := jdk_30_method_1_code, exceptionTable := #[], attributes := #[] }
def k2m0 : Method := { name := "<init>", desc := "()V", sig := { parameters := [], returnType := none }, accessFlags := 4, code := some k2c0 }
/-- java/lang/Record -/
def k2 : Class := { plain "java/lang/Record" (some 0) with
  accessFlags := 1057
  interfaces := #[]
  cf := some (fileOf pool2 7 #[] #[{ accessFlags := 4, nameIndex := 5, descriptorIndex := 6, attributes := #[] }] 1057 2 #[] #[])
  fields := #[]
  methods := #[k2m0]
  instanceTypes := #[]
  staticTypes := #[]
  resolved := Array.replicate 22 none
  statics := none }

def pool3 : Array CpInfo := pool [(3, .methodref 4 5), (0, .class_ 6), (0, .nameAndType 7 8), (0, u "java/lang/Record"), (0, u "<init>"), (0, u "()V"), (0, .fieldref 10 11), (0, .class_ 12), (0, .nameAndType 13 14), (0, u "com/example/mutix/mutix/measure/Wait"), (0, u "priority"), (0, u "I"), (0, .fieldref 10 16), (0, .nameAndType 17 18), (0, u "requested"), (0, u "D"), (0, .fieldref 10 20), (0, .nameAndType 21 18), (0, u "entered"), (0, .double 9218868437227405312), (13, u "NEVER"), (1, u "(IDD)V"), (3, u "served"), (0, u "()Z")] 27

def k3c0 : Code := { maxStack := 3, maxLocals := 6, code := prog_46_method_1_code, exceptionTable := #[], attributes := #[] }
def k3m0 : Method := { name := "<init>", desc := "(IDD)V", sig := { parameters := [.int, .double, .double], returnType := none }, accessFlags := 0, code := some k3c0 }
def k3c1 : Code := { maxStack := 4, maxLocals := 1, code := prog_46_method_2_code, exceptionTable := #[], attributes := #[] }
def k3m1 : Method := { name := "served", desc := "()Z", sig := { parameters := [], returnType := some .boolean }, accessFlags := 0, code := some k3c1 }
/-- com/example/mutix/mutix/measure/Wait -/
def k3 : Class := { plain "com/example/mutix/mutix/measure/Wait" (some 2) with
  accessFlags := 48
  interfaces := #[]
  cf := some (fileOf pool3 10 #[] #[{ accessFlags := 0, nameIndex := 7, descriptorIndex := 38, attributes := #[] }, { accessFlags := 0, nameIndex := 42, descriptorIndex := 43, attributes := #[] }] 48 4 #[] #[{ accessFlags := 18, nameIndex := 13, descriptorIndex := 14, attributes := #[] }, { accessFlags := 18, nameIndex := 17, descriptorIndex := 18, attributes := #[] }, { accessFlags := 18, nameIndex := 21, descriptorIndex := 18, attributes := #[] }, { accessFlags := 24, nameIndex := 36, descriptorIndex := 18, attributes := #[] }])
  fields := #[{ name := "priority", type := .int, accessFlags := 18, slot := 0, constantValue := 0 }, { name := "requested", type := .double, accessFlags := 18, slot := 1, constantValue := 0 }, { name := "entered", type := .double, accessFlags := 18, slot := 2, constantValue := 0 }, { name := "NEVER", type := .double, accessFlags := 24, slot := 0, constantValue := 0 }]
  methods := #[k3m0, k3m1]
  instanceTypes := #[.int, .double, .double]
  staticTypes := #[.double]
  resolved := Array.replicate 71 none
  statics := none }

def pool4 : Array CpInfo := pool [(1, u "java/lang/Cloneable"), (0, .class_ 1), (0, u "java/lang/Object"), (0, .class_ 3)] 3

/-- java/lang/Cloneable -/
def k4 : Class := { plain "java/lang/Cloneable" (some 0) with
  accessFlags := 1537
  interfaces := #[]
  cf := some (fileOf pool4 2 #[] #[] 1537 4 #[] #[])
  fields := #[]
  methods := #[]
  instanceTypes := #[]
  staticTypes := #[]
  resolved := Array.replicate 8 none
  statics := none }

def pool5 : Array CpInfo := pool [(1, u "java/io/Serializable"), (0, .class_ 1), (0, u "java/lang/Object"), (0, .class_ 3)] 3

/-- java/io/Serializable -/
def k5 : Class := { plain "java/io/Serializable" (some 0) with
  accessFlags := 1537
  interfaces := #[]
  cf := some (fileOf pool5 2 #[] #[] 1537 4 #[] #[])
  fields := #[]
  methods := #[]
  instanceTypes := #[]
  staticTypes := #[]
  resolved := Array.replicate 8 none
  statics := none }

/-- the primitive byte -/
def k6 : Class := { plain "byte" none with kind := .primitive 'B', accessFlags := 0x411 }
/-- [B -/
def k7 : Class := { plain "[B" (some 0) with kind := .array 6 .byte, interfaces := #[4, 5], accessFlags := 1041 }

/-- the primitive int -/
def k8 : Class := { plain "int" none with kind := .primitive 'I', accessFlags := 0x411 }
/-- [I -/
def k9 : Class := { plain "[I" (some 0) with kind := .array 8 .int, interfaces := #[4, 5], accessFlags := 1041 }

def heap : Heap := #[]
def classes : Array Class := #[k0, k1, k2, k3, k4, k5, k6, k7, k8, k9]
def interned : List (Array UInt16 × Addr) := []
def slotsUsed : Nat := 0
def theMethod : MethodId := ⟨1, 1⟩
def args0 : Array Value := #[.int 5, .int 6, .int 3, .int 0]
def aboutOver (below : List Frame) : State where
  vm := { classes := classes, interned := interned.toArray }
  heap := heap
  slotsUsed := slotsUsed
  threads := #[{ frames := .invoking theMethod args0 :: below }]
def below0 : List Frame := [.native { method := ⟨0, 0⟩, args := #[] }]
def about1 : State := aboutOver below0
def p0 : Program := .bare "" "" ""
def e0 : Env := launch0.env 0 0 0
theorem w_frames : about1.frames = Frame.invoking theMethod args0 :: below0 := rfl
set_option maxRecDepth 65536 in
theorem w_args : argsFit about1.vm theMethod args0 = true := by decide +kernel
set_option maxRecDepth 65536 in
theorem w_heap : heapFits about1 = true := by decide +kernel
set_option maxRecDepth 65536 in
theorem w_runnable : about1.curStatus? = some .runnable := by decide +kernel
set_option maxRecDepth 65536 in
theorem w_alone : about1.alone = true := by decide +kernel
set_option maxRecDepth 65536 in
theorem w_named : about1.methodNamed? x = some theMethod := by decide +kernel
set_option maxRecDepth 65536 in
theorem w_hears : about1.hears theMethod below0 = true := by decide +kernel
set_option maxRecDepth 65536 in
theorem w_ripe : about1.ripe theMethod args0 below0 = true := by decide +kernel
theorem w_running : about1.status = .running := rfl
set_option maxRecDepth 65536 in
theorem w_room : about1.hasRoom e0.platform room_1 = true :=
  launch0.hasRoom_least _ room_1 (by decide +kernel) (by decide +kernel) (by decide +kernel) (by decide +kernel) (by decide +kernel) (by decide +kernel)
theorem allAtoms_all (ts : List Jvm.Cond) (a : Array Jvm.Value) (st : Jvm.State) : (allAtoms ts).before a st = ts.all (fun c => c.before a st) := by
  induction ts with
  | nil => rfl
  | cons c t ih =>
    show (Jvm.Cond.and c (allAtoms t)).before a st = _
    rw [Jvm.Cond.before_and, ih, List.all_cons]
def words1 : List Jvm.Cond := Jvm.Cond.code x code maxLocals ret :: tables_1
/-- a 'code' word, met by the world's own term for the bytes: nothing is compared byte by byte -/
theorem code_word {y : MethodName} {bytes : ByteArray} {mx : Nat} {rt : Option FieldType} {a : Array Value} {s : State} {m : MethodId} {meth : Method} {c : Code} (h1 : s.methodNamed? y = some m) (h2 : s.vm.method? m = some meth) (h3 : meth.code = some c) (h4 : c.code = bytes)
    (h5 : (c.maxLocals == mx && c.exceptionTable.isEmpty && decide (c.maxStack ≤ mostOperands) && decide (meth.sig.returnType = rt) && !meth.locks && decide (parseMethodDescriptor y.desc = some meth.sig)) = true) : (Jvm.Cond.code y bytes mx rt).before a s = true := by
  simp only [Bool.and_eq_true, beq_iff_eq, Bool.not_eq_true', decide_eq_true_eq] at h5
  obtain ⟨⟨⟨⟨⟨g1, g2⟩, g3⟩, g4⟩, g5⟩, g6⟩ := h5
  simp [Cond.before, Cond.holds, Cond.value, h1, h2, h3, h4, g1, g2, g3, g4, g5, g6]
def isCode : Jvm.Cond → Bool
  | .code _ _ _ _ => true
  | _ => false
theorem all_split {L : List Jvm.Cond} {P : Jvm.Cond → Bool} (h1 : L.all (fun c => isCode c || P c) = true) (h2 : ∀ c ∈ L.filter isCode, P c = true) : L.all P = true := by
  refine List.all_eq_true.mpr fun c hc => ?_
  have h := List.all_eq_true.mp h1 c hc
  rcases Bool.eq_false_or_eq_true (isCode c) with hi | hi
  · exact h2 c (List.mem_filter.mpr ⟨hc, hi⟩)
  · simpa [hi] using h
set_option maxRecDepth 65536 in
theorem w_c0 : (Jvm.Cond.code x code maxLocals ret).before args0 about1 = true := code_word (m := ⟨1, 1⟩) (meth := k1m1) (c := k1c1) (by decide +kernel) rfl rfl rfl (by decide +kernel)
set_option maxRecDepth 65536 in
theorem w_c1 : (Jvm.Cond.code ({ cls := "com/example/mutix/mutix/measure/Wait", name := "<init>", desc := "(IDD)V" } : Jvm.MethodName) prog_46_method_1_code (6 : Nat) (Option.none : Option Jvm.ClassFile.FieldType)).before args0 about1 = true := code_word (m := ⟨3, 0⟩) (meth := k3m0) (c := k3c0) (by decide +kernel) rfl rfl rfl (by decide +kernel)
set_option maxRecDepth 65536 in
theorem w_c2 : (Jvm.Cond.code ({ cls := "java/lang/Record", name := "<init>", desc := "()V" } : Jvm.MethodName) jdk_30_method_1_code (1 : Nat) (Option.none : Option Jvm.ClassFile.FieldType)).before args0 about1 = true := code_word (m := ⟨2, 0⟩) (meth := k2m0) (c := k2c0) (by decide +kernel) rfl rfl rfl (by decide +kernel)
set_option maxRecDepth 65536 in
theorem w_c3 : (Jvm.Cond.code ({ cls := "java/lang/Object", name := "<init>", desc := "()V" } : Jvm.MethodName) object_method_1_code (1 : Nat) (Option.none : Option Jvm.ClassFile.FieldType)).before args0 about1 = true := code_word (m := ⟨0, 0⟩) (meth := k0m0) (c := k0c0) (by decide +kernel) rfl rfl rfl (by decide +kernel)
set_option maxRecDepth 65536 in
theorem w_c4 : (Jvm.Cond.code ({ cls := "com/example/mutix/mutix/measure/Wait", name := "served", desc := "()Z" } : Jvm.MethodName) prog_46_method_2_code (1 : Nat) (Option.some Jvm.ClassFile.FieldType.boolean)).before args0 about1 = true := code_word (m := ⟨3, 1⟩) (meth := k3m1) (c := k3c1) (by decide +kernel) rfl rfl rfl (by decide +kernel)
def codes1 : List Jvm.Cond := [Jvm.Cond.code x code maxLocals ret, Jvm.Cond.code ({ cls := "com/example/mutix/mutix/measure/Wait", name := "<init>", desc := "(IDD)V" } : Jvm.MethodName) prog_46_method_1_code (6 : Nat) (Option.none : Option Jvm.ClassFile.FieldType), Jvm.Cond.code ({ cls := "java/lang/Record", name := "<init>", desc := "()V" } : Jvm.MethodName) jdk_30_method_1_code (1 : Nat) (Option.none : Option Jvm.ClassFile.FieldType), Jvm.Cond.code ({ cls := "java/lang/Object", name := "<init>", desc := "()V" } : Jvm.MethodName) object_method_1_code (1 : Nat) (Option.none : Option Jvm.ClassFile.FieldType), Jvm.Cond.code ({ cls := "com/example/mutix/mutix/measure/Wait", name := "served", desc := "()Z" } : Jvm.MethodName) prog_46_method_2_code (1 : Nat) (Option.some Jvm.ClassFile.FieldType.boolean)]
set_option maxRecDepth 65536 in
theorem codes_eq : words1.filter isCode = codes1 := rfl
theorem w_codes : ∀ c ∈ words1.filter isCode, c.before args0 about1 = true := by
  rw [codes_eq]
  intro c hc
  simp only [codes1, List.mem_cons, List.not_mem_nil, or_false] at hc
  rcases hc with rfl | rfl | rfl | rfl | rfl
  · exact w_c0
  · exact w_c1
  · exact w_c2
  · exact w_c3
  · exact w_c4
set_option maxRecDepth 65536 in
theorem w_t1 : (words1.take 24).all (fun c => isCode c || c.before args0 about1) = true := by decide +kernel
set_option maxRecDepth 65536 in
theorem w_t2 : (words1.drop 24).all (fun c => isCode c || c.before args0 about1) = true := by decide +kernel
theorem w_tables : (allAtoms (Jvm.Cond.code x code maxLocals ret :: tables_1)).before args0 about1 = true := by
  rw [allAtoms_all]
  show words1.all (fun c => c.before args0 about1) = true
  refine all_split ?_ w_codes
  rw [← List.take_append_drop 24 words1, List.all_append, w_t1, w_t2]
  rfl
set_option maxRecDepth 65536 in
theorem w_case : (Jvm.Cond.and given_1 narrow_1).before args0 about1 = true := by decide +kernel
theorem w_applies : (headSpec (Jvm.Cond.code x code maxLocals ret :: tables_1) room_1).applies x e0.platform about1 = true :=
  (Spec.applies_iff w_frames).mpr ⟨w_running, w_runnable, w_alone, w_named, w_hears, w_ripe, w_room, w_tables⟩
theorem atStart : AtStart classFile x code maxLocals ret World_1 tables_1 room_1 Calls_1 rest_1 Pre_1 launch0 p0 e0 about1 theMethod args0 below0 :=
  ⟨lists_1, trivial, launch0.admits_env _ _ _, launch0.least_env, fairChoices_fair.cas, fairChoices_fair.clock, w_frames, w_args, w_heap, w_applies, trivial, trivial, w_case⟩
end start1
theorem witness_1 : WitnessClaimed_1 := ⟨start1.p0, start1.e0, start1.about1, start1.theMethod, start1.args0, start1.below0, start1.atStart⟩
end Jvm.Pilot.@@N@@
