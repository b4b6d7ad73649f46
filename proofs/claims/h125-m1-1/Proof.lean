import JvmDerived
import JvmDerived.Pilot.@@N@@Statement
import JvmDerived.Pilot.@@N@@Code
set_option linter.unusedVariables false
set_option linter.unusedSimpArgs false
@@BLOCK:NumsL.lean.txt@@
namespace Jvm.Pilot.@@N@@
open Jvm Jvm.ClassFile Sem Op Lib Jvm.Free Jvm.Stand Jvm.LawKit Jvm.RoadKit Bundle Jvm.Pilot.@@N@@.Jvm.D
theorem own_nb {z : Int32} (h : z = 0 ∨ z = 1) : nar .boolean z = z := by rcases h with rfl | rfl <;> decide
/-! doubles as whole numbers of 2^-1074: own_zv; the rounding of a quotient of whole numbers: own_rr -/
section FloatKit
open Jvm.FP.Core
def own_zv (a : UInt64) : Int := zval b64 (val64 a)
def own_rr (A B : Nat) : Nat := zmag b64 (roundRatio b64 false A B 0)
def own_Rep (V : Nat) : Prop := ∃ d, Jvm.FP.Core.fits b64 d ∧ d ≠ .nan ∧ zmag b64 d = V
theorem own_zmag_s (s : Bool) (A B : Nat) (e : Int) : zmag b64 (roundRatio b64 s A B e) = zmag b64 (roundRatio b64 false A B e) := by
  cases s
  · rfl
  · rw [show (true : Bool) = !false from rfl, ← negate_roundRatio]
    cases roundRatio b64 false A B e <;> rfl
theorem own_zv_round {s : Bool} {A B : Nat} {a : UInt64} (h : val64 a = roundRatio b64 s A B 0) : own_zv a = signed s (own_rr A B) := by
  unfold own_zv zval
  rw [h, sgn_roundRatio, own_zmag_s]; rfl
theorem own_units0 (A : Nat) : inUnits A 0 b64.qmin = A * one64 := by
  unfold inUnits
  rw [Int.zero_sub, pow_qmin64]
theorem own_rr_zero (B : Nat) : own_rr 0 B = 0 := by
  unfold own_rr roundRatio
  rw [if_pos rfl]; simp [zmag, inUnits]
theorem own_rr_rep (A : Nat) {B : Nat} (hB : 0 < B) : own_Rep (own_rr A B) := ⟨_, roundRatio_fits good_b64 false A hB 0, roundRatio_ne_nan _ _ _ _ _, rfl⟩
theorem own_rr_le {A B V : Nat} (hB : 0 < B) (hV : own_Rep V) (h : A * one64 ≤ V * B) : own_rr A B ≤ V := by
  obtain ⟨d, h1, h2, rfl⟩ := hV
  refine zmag_roundRatio_le good_b64 hB h1 h2 (e0 := b64.qmin) (Int.le_refl _) (by decide) ?_
  rw [own_units0, Int.sub_self, Int.toNat_zero, Nat.pow_zero, Nat.mul_one]
  exact h
theorem own_rr_ge {A B V : Nat} (hB : 0 < B) (hV : own_Rep V) (h : V * B ≤ A * one64) : V ≤ own_rr A B := by
  obtain ⟨d, h1, h2, rfl⟩ := hV
  refine zmag_roundRatio_ge good_b64 hB h1 (e0 := b64.qmin) (Int.le_refl _) (by decide) ?_
  rw [own_units0, Int.sub_self, Int.toNat_zero, Nat.pow_zero, Nat.mul_one]
  exact h
theorem own_rr_exact {A B V : Nat} (hB : 0 < B) (hV : own_Rep V) (h : A * one64 = V * B) : own_rr A B = V :=
  Nat.le_antisymm (own_rr_le hB hV (Nat.le_of_eq h)) (own_rr_ge hB hV (Nat.le_of_eq h.symm))
theorem own_rr_congr {A B A' B' : Nat} (hB : 0 < B) (hB' : 0 < B') (h : A * B' = A' * B) : own_rr A B = own_rr A' B' := by
  unfold own_rr
  rw [roundRatio_congr (e' := 0) hB hB' (by simpa using h)]
/-- what is finite -/
theorem own_fin_round {s : Bool} {A B : Nat} {a : UInt64} (h : val64 a = roundRatio b64 s A B 0) (hlt : own_rr A B < b64.tails * 2 ^ (b64.exps - 2)) : DFin a := by
  rcases roundRatio_cases b64 s A B 0 with ⟨c, q, e⟩ | e
  · exact ⟨s, c, q, by rw [h, e]⟩
  · exfalso
    rw [own_rr, ← own_zmag_s s, e] at hlt
    exact Nat.lt_irrefl _ hlt
/-- m * 2^k is a double -/
theorem own_rep_pow {m k : Nat} (hm : m < 2 ^ 53) (hk : k ≤ 2045) : own_Rep (m * 2 ^ k) := by
  have hq1 : b64.qmin ≤ (k : Int) - 1074 := by rw [qmin_b64]; omega
  have hq2 : (k : Int) - 1074 ≤ b64.qmax := by rw [show b64.qmax = 971 by decide]; omega
  obtain ⟨c', q', h1, h2⟩ := round_exact good_b64 false (c := m) (q := (k : Int) - 1074) (by exact hm) hq1 hq2
  refine ⟨_, round_fits good_b64 (.fin false m ((k : Int) - 1074)), by rw [h1]; exact Datum.noConfusion, ?_⟩
  rw [h1]
  show inUnits c' q' b64.qmin = _
  rw [h2]
  unfold inUnits
  rw [qmin_b64, show ((k : Int) - 1074 - -1074).toNat = k by omega]
theorem own_rep_zero : own_Rep 0 := by
  have := own_rep_pow (m := 0) (k := 0) (by decide) (by decide)
  simpa using this
/-- rounding keeps the order -/
theorem own_rr_mono {A B A' B' : Nat} (hB : 0 < B) (hB' : 0 < B') (h : A * B' ≤ A' * B) : own_rr A B ≤ own_rr A' B' := by
  rcases roundRatio_cases b64 false A' B' 0 with ⟨c', q', e'⟩ | e'
  · rcases roundRatio_cases b64 false A B 0 with ⟨c, q, e⟩ | e
    · refine Nat.le_of_not_lt fun hlt => ?_
      have f1 : Jvm.FP.Core.fits b64 (.fin false c q) := e ▸ roundRatio_fits good_b64 false A hB 0
      have f2 : Jvm.FP.Core.fits b64 (.fin false c' q') := e' ▸ roundRatio_fits good_b64 false A' hB' 0
      have d1 := roundRatio_nearest good_b64 hB e f2.1 f2.2.1 (e0 := b64.qmin) (Int.le_refl _) (by decide)
      have d2 := roundRatio_nearest good_b64 hB' e' f1.1 f1.2.1 (e0 := b64.qmin) (Int.le_refl _) (by decide)
      unfold distance at d1 d2
      have x1 : own_rr A B = inUnits c q b64.qmin := by unfold own_rr; rw [e]; rfl
      have x2 : own_rr A' B' = inUnits c' q' b64.qmin := by unfold own_rr; rw [e']; rfl
      rw [x1, x2] at hlt
      rw [own_units0] at d1 d2
      generalize inUnits c q b64.qmin = X at *
      generalize inUnits c' q' b64.qmin = Y at *
      have hU := one64_pos
      generalize hP : A * one64 = P at *
      generalize hP' : A' * one64 = P' at *
      have hPP : P * B' ≤ P' * B := by
        rw [← hP, ← hP', Nat.mul_right_comm, Nat.mul_right_comm A']; exact Nat.mul_le_mul_right _ h
      rw [← Int.natCast_mul, ← Int.natCast_mul] at d1 d2
      have hXB : Y * B + B ≤ X * B := by rw [← Nat.succ_mul]; exact Nat.mul_le_mul_right _ hlt
      have hXB' : Y * B' + B' ≤ X * B' := by rw [← Nat.succ_mul]; exact Nat.mul_le_mul_right _ hlt
      have g1 : X * B + Y * B ≤ 2 * P := by
        generalize X * B = xb at *; generalize Y * B = yb at *; omega
      have g2 : 2 * P' ≤ X * B' + Y * B' := by
        generalize X * B' = xb at *; generalize Y * B' = yb at *; omega
      have g3 : (X * B + Y * B) * B' ≤ 2 * P * B' := Nat.mul_le_mul_right _ g1
      have g4 : 2 * P' * B ≤ (X * B' + Y * B') * B := Nat.mul_le_mul_right _ g2
      have g5 : (X * B + Y * B) * B' = (X * B' + Y * B') * B := by
        rw [Nat.add_mul, Nat.add_mul, Nat.mul_right_comm X, Nat.mul_right_comm Y]
      have g6 : P * B' = P' * B := by
        rw [Nat.mul_assoc] at g3 g4
        rw [g5] at g3
        generalize P * B' = u at *; generalize P' * B = w at *; omega
      have g7 : A * B' = A' * B := by
        rw [← hP, ← hP', Nat.mul_right_comm, Nat.mul_right_comm A'] at g6
        exact Nat.eq_of_mul_eq_mul_right hU g6
      have g8 := own_rr_congr hB hB' g7
      rw [x1, x2] at g8
      omega
    · exfalso
      have i1 := (roundRatio_inf good_b64 (s := false) (A := A) (B := B) (e := 0) (e0 := -1075) hB (by decide) (by decide)).mp e
      have i2 : ¬ _ := fun z => by
        have := (roundRatio_inf good_b64 (s := false) (A := A') (B := B') (e := 0) (e0 := -1075) hB' (by decide) (by decide)).mpr z
        rw [this] at e'; cases e'
      apply i2
      generalize (2 ^ (b64.p + 1) - 1) * 2 ^ (b64.qmax - 1 - -1075).toNat = M at *
      have hU : ∀ z, inUnits z 0 (-1075) = z * 2 ^ (0 - (-1075 : Int)).toNat := fun z => rfl
      rw [hU] at i1 ⊢
      have hW := Nat.two_pow_pos (0 - (-1075 : Int)).toNat
      generalize 2 ^ (0 - (-1075 : Int)).toNat = W at *
      have j1 : M * B * B' ≤ A * W * B' := Nat.mul_le_mul_right _ i1
      have j2 : A * W * B' ≤ A' * W * B := by
        rw [Nat.mul_right_comm, Nat.mul_right_comm A']; exact Nat.mul_le_mul_right _ h
      have j3 : M * B' * B ≤ A' * W * B := by rw [Nat.mul_right_comm]; exact Nat.le_trans j1 j2
      exact Nat.le_of_mul_le_mul_right j3 hB
  · have f1 := roundRatio_fits good_b64 false A hB 0
    unfold own_rr
    rw [e']
    exact zmag_le_top good_b64 f1
/-- the relative error -/
theorem own_rr_err {A B : Nat} (hB : 0 < B) (hn : 2 ^ 52 * B ≤ A * one64) (hlt : own_rr A B < b64.tails * 2 ^ (b64.exps - 2)) :
    2 ^ 53 * (own_rr A B * B) ≤ 2 ^ 53 * (A * one64) + A * one64 ∧ 2 ^ 53 * (A * one64) ≤ 2 ^ 53 * (own_rr A B * B) + A * one64 := by
  have hA : 0 < A := by
    rcases Nat.eq_zero_or_pos A with rfl | h
    · rw [Nat.zero_mul] at hn; have := Nat.mul_pos (show 0 < 2 ^ 52 by decide) hB; omega
    · exact h
  rcases roundRatio_cases b64 false A B 0 with ⟨c, q, e⟩ | e
  · have x1 : own_rr A B = inUnits c q b64.qmin := by unfold own_rr; rw [e]; rfl
    have e1 := e
    unfold roundRatio at e1
    rw [if_neg (by omega)] at e1
    unfold roundAt at e1
    have hq := quantum_ge b64 A B 0
    have hnb := quantum_not_below (f := b64) hA hB 0
    have hle := nearest_units_le (f := b64) hA hB 0
    generalize hr : quantum b64 A B 0 = r at *
    obtain ⟨-, s2⟩ := settle_value good_b64 hle e1 (e0 := b64.qmin) hq
    obtain ⟨n1, n2, -⟩ := nearest_spec (unitsNum A 0 r) (unitsDen B 0 r) (unitsDen_pos hB 0 r)
    generalize nearest (unitsNum A 0 r) (unitsDen B 0 r) = m at *
    rw [x1, s2]
    -- the ratio in units of 2^r is at least 2^52
    obtain ⟨k, hk⟩ : ∃ k : Nat, r = (k : Int) - 1074 := ⟨(r + 1074).toNat, by rw [qmin_b64] at hq; omega⟩
    have hm : inUnits m r b64.qmin = m * 2 ^ k := by
      unfold inUnits; rw [qmin_b64, hk, show ((k : Int) - 1074 - -1074).toNat = k by omega]
    rw [hm]
    -- A' * 2^k * g = A * one64 * g and B' * 2^k .. : scale both
    have hsc : ∃ G : Nat, 0 < G ∧ unitsNum A 0 r * 2 ^ k = A * one64 * G ∧ unitsDen B 0 r = B * G := by
      by_cases hk2 : 1074 ≤ k
      · refine ⟨2 ^ (k - 1074), Nat.two_pow_pos _, ?_, ?_⟩
        · unfold unitsNum one64
          rw [hk, show (0 - ((k : Int) - 1074)).toNat = 0 by omega, Nat.pow_zero, Nat.mul_one, Nat.mul_assoc, ← Nat.pow_add, show 1074 + (k - 1074) = k by omega]
        · unfold unitsDen
          rw [hk, show ((k : Int) - 1074 - 0).toNat = k - 1074 by omega]
      · refine ⟨1, by decide, ?_, ?_⟩
        · unfold unitsNum one64
          rw [hk, show (0 - ((k : Int) - 1074)).toNat = 1074 - k by omega, Nat.mul_one, Nat.mul_assoc, ← Nat.pow_add, show 1074 - k + k = 1074 by omega]
        · unfold unitsDen
          rw [hk, show ((k : Int) - 1074 - 0).toNat = 0 by omega, Nat.pow_zero]
    obtain ⟨G, hG, s3, s4⟩ := hsc
    have hbig : 2 ^ 52 * unitsDen B 0 r ≤ unitsNum A 0 r := by
      rcases hnb with h0 | h0
      · have hk0 : k = 0 := by rw [qmin_b64] at h0; omega
        rw [hk0, Nat.pow_zero, Nat.mul_one] at s3
        rw [s3, s4, ← Nat.mul_assoc]
        exact Nat.mul_le_mul_right _ hn
      · rw [show (b64.p : Int) - 1 = ((52 : Nat) : Int) by decide, ← units_below] at h0
        omega
    rw [s4] at n1 n2 hbig
    generalize unitsNum A 0 r = A' at *
    have hK := Nat.two_pow_pos k
    generalize 2 ^ k = K at *
    generalize A * one64 = P at *
    -- n1 : 2A' ≤ (2m+1)(B G), n2 : 2 m (B G) ≤ 2 A' + B G, hbig : 2^52 (B G) ≤ A', s3 : A' K = P G
    have t1 : 2 * (A' * K) ≤ 2 * (m * K * (B * G)) + B * G * K := by
      have := Nat.mul_le_mul_right K n1
      calc 2 * (A' * K) = 2 * A' * K := by ((try generalize Jvm.FP.Core.one64 = own_U); ac_rfl)
        _ ≤ (2 * m + 1) * (B * G) * K := this
        _ = 2 * (m * K * (B * G)) + B * G * K := by rw [Nat.add_mul, Nat.add_mul, Nat.one_mul]; ((try generalize Jvm.FP.Core.one64 = own_U); ac_rfl)
    have t2 : 2 * (m * K * (B * G)) ≤ 2 * (A' * K) + B * G * K := by
      have := Nat.mul_le_mul_right K n2
      calc 2 * (m * K * (B * G)) = 2 * m * (B * G) * K := by ((try generalize Jvm.FP.Core.one64 = own_U); ac_rfl)
        _ ≤ (2 * A' + B * G) * K := this
        _ = 2 * (A' * K) + B * G * K := by rw [Nat.add_mul]; ((try generalize Jvm.FP.Core.one64 = own_U); ac_rfl)
    have t3 : 2 ^ 52 * (B * G * K) ≤ A' * K := by
      have := Nat.mul_le_mul_right K hbig
      rw [Nat.mul_assoc] at this; exact this
    rw [s3] at t1 t2 t3
    have t4 : m * K * (B * G) = (m * K * B) * G := by ((try generalize Jvm.FP.Core.one64 = own_U); ac_rfl)
    have t5 : B * G * K = B * K * G := by ((try generalize Jvm.FP.Core.one64 = own_U); ac_rfl)
    rw [t4, t5] at t1 t2
    rw [t5] at t3
    have u1 : 2 * P ≤ 2 * (m * K * B) + B * K := by
      refine Nat.le_of_mul_le_mul_right (c := G) ?_ hG
      rw [Nat.add_mul, Nat.mul_assoc, Nat.mul_assoc 2]; exact t1
    have u2 : 2 * (m * K * B) ≤ 2 * P + B * K := by
      refine Nat.le_of_mul_le_mul_right (c := G) ?_ hG
      rw [Nat.add_mul, Nat.mul_assoc, Nat.mul_assoc 2]; exact t2
    have u3 : 2 ^ 52 * (B * K) ≤ P := by
      refine Nat.le_of_mul_le_mul_right (c := G) ?_ hG
      rw [Nat.mul_assoc]; exact t3
    generalize m * K * B = x at *
    generalize B * K = y at *
    constructor <;> omega
  · exfalso
    rw [own_rr, e] at hlt
    exact Nat.lt_irrefl _ hlt
/-! comparisons -/
theorem own_cmp {a b : UInt64} (ha : val64 a ≠ .nan) (hb : val64 b ≠ .nan) (o : CmpOp) : cmpValue (Jvm.FP.dcmp a b) o = if own_zv a < own_zv b then -1 else if own_zv a = own_zv b then 0 else 1 := by
  have h := dcmp_zval ha hb
  unfold own_zv
  show cmpValue (dcmp a b) o = _
  rw [h, compare_ite]
  by_cases h1 : zval b64 (val64 a) < zval b64 (val64 b)
  · rw [if_pos h1, if_pos h1]; rfl
  · rw [if_neg h1, if_neg h1]
    by_cases h2 : zval b64 (val64 a) = zval b64 (val64 b)
    · rw [if_pos h2, if_pos h2]; rfl
    · rw [if_neg h2, if_neg h2]; rfl
theorem own_fin_ne {a : UInt64} (h : DFin a) : val64 a ≠ .nan := h.ne_nan
theorem own_fin_nn {a : UInt64} (h : DFin a) : Jvm.Free.Fl.NoNaN64 a := Jvm.Free.Fl.val64_no.mpr h.ne_nan
/-! whole numbers -/
theorem own_i2d (x : Int32) : own_zv (Jvm.FP.i2d x) = x.toInt * (one64 : Int) := DInt_zval (i2d_int x)
theorem own_i2d_fin (x : Int32) : DFin (Jvm.FP.i2d x) := Jvm.FP.Core.i2d_fin x
theorem own_l2d {x : Int64} (h : x.toInt.natAbs ≤ 2 ^ 53) : own_zv (Jvm.FP.l2d x) = x.toInt * (one64 : Int) := DInt_zval (l2d_int h)
theorem own_l2d_fin (x : Int64) : DFin (Jvm.FP.l2d x) := Jvm.FP.Core.l2d_fin x
/-! the sign -/
theorem own_sgn {a : UInt64} (h : own_zv a ≠ 0) : sgn (val64 a) = decide (own_zv a < 0) := by
  unfold own_zv zval at *
  have hz : 0 < zmag b64 (val64 a) := Nat.pos_of_ne_zero fun q => h (by rw [q, signed_zero])
  rw [signed_lt_zero _ hz]
theorem own_natAbs (a : UInt64) : (own_zv a).natAbs = zmag b64 (val64 a) := natAbs_signed _ _
/-! division -/
theorem own_div {a b : UInt64} (ha : DFin a) (hb : DFin b) (hz : own_zv b ≠ 0) :
    val64 (Jvm.FP.ddiv a b) = roundRatio b64 (sgn (val64 a) != sgn (val64 b)) (own_zv a).natAbs (own_zv b).natAbs 0 := by
  rw [own_natAbs, own_natAbs]
  have hzb : zmag b64 (val64 b) ≠ 0 := fun q => hz (by unfold own_zv zval; rw [q, signed_zero])
  show val64 (ddiv a b) = _
  rw [val64_ddiv]
  have fa := val64_fits a
  have fb := val64_fits b
  obtain ⟨s, c, q, e1⟩ := ha
  obtain ⟨t, d, r, e2⟩ := hb
  rw [e1] at fa ⊢
  rw [e2] at fb hzb ⊢
  have hd : d ≠ 0 := fun w => hzb (by subst w; show 0 * _ = 0; exact Nat.zero_mul _)
  show (if d = 0 then _ else roundRatio b64 (s != t) c d (q - r)) = roundRatio b64 (s != t) (inUnits c q b64.qmin) (inUnits d r b64.qmin) 0
  rw [if_neg hd]
  have hq := fa.2.1
  have hr := fb.2.1
  rw [qmin_b64] at hq hr
  refine roundRatio_congr (Nat.pos_of_ne_zero hd) ?_ ?_
  · exact Nat.mul_pos (Nat.pos_of_ne_zero hd) (Nat.two_pow_pos _)
  · unfold inUnits
    rw [qmin_b64]
    obtain ⟨u, hu⟩ : ∃ u : Nat, q = (u : Int) - 1074 := ⟨(q + 1074).toNat, by omega⟩
    obtain ⟨w, hw⟩ : ∃ w : Nat, r = (w : Int) - 1074 := ⟨(r + 1074).toNat, by omega⟩
    subst hu hw
    rw [show ((u : Int) - 1074 - -1074).toNat = u by omega, show ((w : Int) - 1074 - -1074).toNat = w by omega]
    rw [show ((u : Int) - 1074 - ((w : Int) - 1074) - 0).toNat = u - w by omega, show (0 - ((u : Int) - 1074 - ((w : Int) - 1074))).toNat = w - u by omega]
    have : w + (u - w) = u + (w - u) := by omega
    calc c * (d * 2 ^ w) * 2 ^ (u - w) = c * d * 2 ^ (w + (u - w)) := by rw [Nat.pow_add]; ((try generalize Jvm.FP.Core.one64 = own_U); ac_rfl)
      _ = c * 2 ^ u * d * 2 ^ (w - u) := by rw [this, Nat.pow_add]; ((try generalize Jvm.FP.Core.one64 = own_U); ac_rfl)
theorem own_signed_abs (z : Int) : signed (decide (z < 0)) z.natAbs = z := by
  unfold signed
  by_cases h : z < 0 <;> simp [h] <;> omega
theorem own_zv_div_pos {a b : UInt64} (ha : DFin a) (hb : DFin b) (h0 : 0 ≤ own_zv a) (hz : 0 < own_zv b) : own_zv (Jvm.FP.ddiv a b) = (own_rr (own_zv a).natAbs (own_zv b).natAbs : Int) := by
  rw [own_zv_round (own_div ha hb (by omega))]
  by_cases h : own_zv a = 0
  · rw [h]; show signed _ (own_rr 0 _) = _
    rw [show (0 : Int).natAbs = 0 from rfl, own_rr_zero, signed_zero]; rfl
  · rw [own_sgn h, own_sgn (by omega), decide_eq_false (by omega), decide_eq_false (by omega)]; rfl
theorem own_zv_div_neg {a b : UInt64} (ha : DFin a) (hb : DFin b) (h0 : own_zv a ≤ 0) (hz : 0 < own_zv b) : own_zv (Jvm.FP.ddiv a b) = -(own_rr (own_zv a).natAbs (own_zv b).natAbs : Int) := by
  rw [own_zv_round (own_div ha hb (by omega))]
  by_cases h : own_zv a = 0
  · rw [h]; show signed _ (own_rr 0 _) = _
    rw [show (0 : Int).natAbs = 0 from rfl, own_rr_zero, signed_zero]; rfl
  · rw [own_sgn h, own_sgn (by omega), decide_eq_true (by omega), decide_eq_false (by omega)]; rfl
/-- a quotient of two whole numbers -/
theorem own_rr_int (i j : Nat) (hj : 0 < j) : own_rr (i * one64) (j * one64) = own_rr i j :=
  own_rr_congr (Nat.mul_pos hj one64_pos) hj (by ((try generalize Jvm.FP.Core.one64 = own_U); ac_rfl))
theorem own_natAbs_one (i : Int) : (i * (one64 : Int)).natAbs = i.natAbs * one64 := by rw [Int.natAbs_mul]; rfl
theorem own_top {V : Nat} (h : V ≤ 2 ^ 1023 * one64) : V < b64.tails * 2 ^ (b64.exps - 2) := by
  refine Nat.lt_of_le_of_lt h ?_
  decide +kernel
/-! the sign turned -/
theorem own_dneg_bits (a : UInt64) : a.toNat = (Jvm.FP.dneg a).toNat + 2 ^ 63 ∨ (Jvm.FP.dneg a).toNat = a.toNat + 2 ^ 63 := by
  have h := a.toNat_lt
  have e : (Jvm.FP.dneg a).toNat = a.toNat ^^^ 2 ^ 63 := by
    show (a ^^^ 0x8000000000000000).toNat = _
    rw [UInt64.toNat_xor]; rfl
  rw [e]
  by_cases hb : 2 ^ 63 ≤ a.toNat
  · left
    have : a.toNat ^^^ 2 ^ 63 = a.toNat - 2 ^ 63 := by
      apply Nat.eq_of_testBit_eq; intro i
      obtain ⟨k, hk⟩ : ∃ k, a.toNat = 2 ^ 63 + k := ⟨a.toNat - 2 ^ 63, by omega⟩
      have hk2 : k < 2 ^ 63 := by omega
      rw [hk, Nat.add_sub_cancel_left, Nat.testBit_xor, Nat.testBit_two_pow]
      by_cases hi : 63 = i
      · subst hi
        rw [Nat.testBit_two_pow_add_eq, Nat.testBit_lt_two_pow hk2]; rfl
      · by_cases hi2 : i < 63
        · rw [Nat.testBit_two_pow_add_gt hi2]; simp [hi]
        · have : 63 < i := by omega
          rw [Nat.testBit_lt_two_pow (Nat.lt_of_lt_of_le (show 2 ^ 63 + k < 2 ^ 64 by omega) (Nat.pow_le_pow_right (by decide) this)), Nat.testBit_lt_two_pow (Nat.lt_of_lt_of_le hk2 (Nat.pow_le_pow_right (by decide) (Nat.le_of_lt this)))]
          simp [hi]
    omega
  · right
    have : a.toNat ^^^ 2 ^ 63 = a.toNat + 2 ^ 63 := by
      apply Nat.eq_of_testBit_eq; intro i
      have hk2 : a.toNat < 2 ^ 63 := by omega
      rw [Nat.testBit_xor, Nat.testBit_two_pow, Nat.add_comm]
      by_cases hi : 63 = i
      · subst hi
        rw [Nat.testBit_two_pow_add_eq, Nat.testBit_lt_two_pow hk2]; rfl
      · by_cases hi2 : i < 63
        · rw [Nat.testBit_two_pow_add_gt hi2]; simp [hi]
        · have : 63 < i := by omega
          rw [Nat.testBit_lt_two_pow (Nat.lt_of_lt_of_le (show 2 ^ 63 + a.toNat < 2 ^ 64 by omega) (Nat.pow_le_pow_right (by decide) this)), Nat.testBit_lt_two_pow (Nat.lt_of_lt_of_le hk2 (Nat.pow_le_pow_right (by decide) (Nat.le_of_lt this)))]
          simp [hi]
    omega
theorem own_dneg_val (a : UInt64) : val64 (Jvm.FP.dneg a) = negate (val64 a) := val64_neg_bits (own_dneg_bits a)
theorem own_dneg (a : UInt64) : own_zv (Jvm.FP.dneg a) = -own_zv a := by unfold own_zv; rw [own_dneg_val, zval_negate]
theorem own_dneg_fin {a : UInt64} (h : DFin a) : DFin (Jvm.FP.dneg a) := by
  obtain ⟨s, c, q, e⟩ := h
  exact ⟨!s, c, q, by rw [own_dneg_val, e]; rfl⟩
/-! product -/
theorem own_mul {a b : UInt64} (ha : DFin a) (hb : DFin b) :
    val64 (Jvm.FP.dmul a b) = roundRatio b64 (sgn (val64 a) != sgn (val64 b)) ((own_zv a).natAbs * (own_zv b).natAbs) (one64 * one64) 0 := by
  rw [own_natAbs, own_natAbs]
  show val64 (dmul a b) = _
  rw [val64_dmul]
  have fa := val64_fits a
  have fb := val64_fits b
  obtain ⟨s, c, q, e1⟩ := ha
  obtain ⟨t, d, r, e2⟩ := hb
  rw [e1] at fa ⊢
  rw [e2] at fb ⊢
  show roundRatio b64 (s != t) (c * d) 1 (q + r) = roundRatio b64 (s != t) (inUnits c q b64.qmin * inUnits d r b64.qmin) (one64 * one64) 0
  have hq := fa.2.1
  have hr := fb.2.1
  rw [qmin_b64] at hq hr
  refine roundRatio_congr (by decide) (Nat.mul_pos one64_pos one64_pos) ?_
  unfold inUnits one64
  rw [qmin_b64]
  obtain ⟨u, hu⟩ : ∃ u : Nat, q = (u : Int) - 1074 := ⟨(q + 1074).toNat, by omega⟩
  obtain ⟨w, hw⟩ : ∃ w : Nat, r = (w : Int) - 1074 := ⟨(r + 1074).toNat, by omega⟩
  subst hu hw
  rw [show ((u : Int) - 1074 - -1074).toNat = u by omega, show ((w : Int) - 1074 - -1074).toNat = w by omega]
  rw [show ((u : Int) - 1074 + ((w : Int) - 1074) - 0).toNat = u + w - 2148 by omega, show (0 - ((u : Int) - 1074 + ((w : Int) - 1074))).toNat = 2148 - (u + w) by omega]
  generalize hx : u + w - 2148 = x
  generalize hy : 2148 - (u + w) = y
  have h5 : 1074 + (1074 + x) = u + (w + y) := by omega
  calc c * d * (2 ^ 1074 * 2 ^ 1074) * 2 ^ x = c * d * 2 ^ (1074 + (1074 + x)) := by rw [Nat.pow_add, Nat.pow_add]; generalize 2 ^ 1074 = own_W; ac_rfl
    _ = c * 2 ^ u * (d * 2 ^ w) * 1 * 2 ^ y := by rw [h5, Nat.pow_add, Nat.pow_add, Nat.mul_one]; ((try generalize Jvm.FP.Core.one64 = own_U); ac_rfl)
theorem own_zv_mul_pos {a b : UInt64} (ha : DFin a) (hb : DFin b) (h0 : 0 ≤ own_zv a) (h1 : 0 ≤ own_zv b) : own_zv (Jvm.FP.dmul a b) = (own_rr ((own_zv a).natAbs * (own_zv b).natAbs) (one64 * one64) : Int) := by
  rw [own_zv_round (own_mul ha hb)]
  by_cases h : own_zv a = 0
  · rw [h]; show signed _ (own_rr (0 * _) _) = (own_rr (0 * _) _ : Int)
    rw [Nat.zero_mul, own_rr_zero, signed_zero]; rfl
  · by_cases h' : own_zv b = 0
    · rw [h']; show signed _ (own_rr (_ * 0) _) = (own_rr (_ * 0) _ : Int)
      rw [Nat.mul_zero, own_rr_zero, signed_zero]; rfl
    · rw [own_sgn h, own_sgn h', decide_eq_false (by omega), decide_eq_false (by omega)]; rfl
/-! sum -/
theorem own_add {a b : UInt64} (ha : DFin a) (hb : DFin b) : ∃ sg, val64 (Jvm.FP.dadd a b) = roundRatio b64 sg (own_zv a + own_zv b).natAbs one64 0 ∧ signed sg (own_zv a + own_zv b).natAbs = own_zv a + own_zv b := by
  show ∃ sg, val64 (dadd a b) = _ ∧ _
  rw [val64_dadd]
  have fa := val64_fits a
  have fb := val64_fits b
  obtain ⟨s, c, q, e1⟩ := ha
  obtain ⟨t, d, r, e2⟩ := hb
  unfold own_zv
  rw [e1] at fa ⊢
  rw [e2] at fb ⊢
  obtain ⟨sg, n, e, h1, h2, h3⟩ := sum_units fa fb
  rw [h1, ← h3, natAbs_signed]
  refine ⟨sg, ?_, rfl⟩
  show roundRatio b64 sg n 1 e = _
  refine roundRatio_congr (by decide) one64_pos ?_
  unfold inUnits one64
  rw [qmin_b64] at h2 ⊢
  obtain ⟨u, hu⟩ : ∃ u : Nat, e = (u : Int) - 1074 := ⟨(e + 1074).toNat, by omega⟩
  subst hu
  rw [show ((u : Int) - 1074 - -1074).toNat = u by omega, show ((u : Int) - 1074 - 0).toNat = u - 1074 by omega, show (0 - ((u : Int) - 1074)).toNat = 1074 - u by omega]
  have h5 : 1074 + (u - 1074) = u + (1074 - u) := by omega
  calc n * 2 ^ 1074 * 2 ^ (u - 1074) = n * 2 ^ (1074 + (u - 1074)) := by rw [Nat.pow_add 2 1074 (u - 1074), Nat.mul_assoc]
    _ = n * 2 ^ u * 1 * 2 ^ (1074 - u) := by rw [h5, Nat.pow_add, Nat.mul_one]; ((try generalize Jvm.FP.Core.one64 = own_U); ac_rfl)
theorem own_zv_add_pos {a b : UInt64} (ha : DFin a) (hb : DFin b) (h0 : 0 ≤ own_zv a + own_zv b) : own_zv (Jvm.FP.dadd a b) = (own_rr (own_zv a + own_zv b).natAbs one64 : Int) := by
  obtain ⟨sg, h1, h2⟩ := own_add ha hb
  rw [own_zv_round h1]
  generalize own_zv a + own_zv b = z at *
  by_cases h : z = 0
  · subst h; show signed sg (own_rr 0 _) = (own_rr 0 _ : Int)
    rw [own_rr_zero, signed_zero]; rfl
  · have : sg = false := by
      cases sg
      · rfl
      · exfalso; simp [signed] at h2; omega
    subst this; rfl
theorem own_add_exact {a b : UInt64} (ha : DFin a) (hb : DFin b) (hr : own_Rep (own_zv a + own_zv b).natAbs) : own_zv (Jvm.FP.dadd a b) = own_zv a + own_zv b := by
  obtain ⟨sg, h1, h2⟩ := own_add ha hb
  rw [own_zv_round h1, own_rr_exact one64_pos hr rfl, h2]
theorem own_add_fin {a b : UInt64} (ha : DFin a) (hb : DFin b) (hr : own_Rep (own_zv a + own_zv b).natAbs) (hlt : (own_zv a + own_zv b).natAbs ≤ 2 ^ 1023 * one64) : DFin (Jvm.FP.dadd a b) := by
  obtain ⟨sg, h1, h2⟩ := own_add ha hb
  exact own_fin_round h1 (by rw [own_rr_exact one64_pos hr rfl]; exact own_top hlt)
theorem own_sub_eq {a b : UInt64} (hb : DFin b) : Jvm.FP.dsub a b = Jvm.FP.dadd a (Jvm.FP.dneg b) := by
  show dsub a b = dadd a (Jvm.FP.dneg b)
  rw [dsub_eq]
  congr 1
  refine (val64_inj ?_ ?_)
  · rw [val64_dneg]; exact negate_ne_nan hb.ne_nan
  · rw [val64_dneg, own_dneg_val]
theorem own_cmp_int {i j : Int} {a b : UInt64} (ha : DInt i a) (hb : DInt j b) (o : CmpOp) : cmpValue (Jvm.FP.dcmp a b) o = if i < j then -1 else if i = j then 0 else 1 := by
  show cmpValue (dcmp a b) o = _
  rw [dcmp_int ha hb, compare_ite]
  by_cases h1 : i < j
  · rw [if_pos h1, if_pos h1]; rfl
  · rw [if_neg h1, if_neg h1]
    by_cases h2 : i = j
    · rw [if_pos h2, if_pos h2]; rfl
    · rw [if_neg h2, if_neg h2]; rfl
theorem own_cmp_i (x y : Int32) (o : CmpOp) : cmpValue (Jvm.FP.dcmp (Jvm.FP.i2d x) (Jvm.FP.i2d y)) o = if x.toInt < y.toInt then -1 else if x.toInt = y.toInt then 0 else 1 := own_cmp_int (i2d_int x) (i2d_int y) o
theorem own_dneg_int {i : Int} {a : UInt64} (h : DInt i a) : DInt (-i) (Jvm.FP.dneg a) := by
  unfold DInt; rw [own_dneg_val]; exact whole_negate h
end FloatKit
section FloatKit2
open Jvm.FP.Core
theorem own_rep_one {m : Nat} (hm : m < 2 ^ 53) : own_Rep (m * one64) := own_rep_pow hm (by decide)
theorem own_rep_U : own_Rep one64 := by
  have := own_rep_one (m := 1) (by decide)
  rwa [Nat.one_mul] at this
/-- i / j, rounded, in units -/
def own_q (i : Int) (j : Nat) : Int := if 0 ≤ i then (own_rr i.natAbs j : Int) else -(own_rr i.natAbs j : Int)
theorem own_q_pos {i : Int} {j : Nat} (h : 0 ≤ i) : own_q i j = (own_rr i.natAbs j : Int) := if_pos h
theorem own_q_zero (j : Nat) : own_q 0 j = 0 := by
  rw [own_q_pos (Int.le_refl _)]; show ((own_rr 0 j : Nat) : Int) = 0
  rw [own_rr_zero]; rfl
theorem own_q_neg (i : Int) (j : Nat) : own_q (-i) j = -own_q i j := by
  unfold own_q
  rw [Int.natAbs_neg]
  rcases Int.lt_trichotomy i 0 with h | h | h
  · rw [if_pos (by omega), if_neg (by omega)]; omega
  · subst h; show (if (0 : Int) ≤ -0 then ((own_rr 0 j : Nat) : Int) else _) = - (if (0 : Int) ≤ 0 then ((own_rr 0 j : Nat) : Int) else _)
    rw [own_rr_zero]; rfl
  · rw [if_neg (by omega), if_pos (by omega)]
theorem own_q_nonneg {i : Int} {j : Nat} (h : 0 ≤ i) : 0 ≤ own_q i j := by rw [own_q_pos h]; exact Int.natCast_nonneg _
theorem own_q_nonpos {i : Int} {j : Nat} (h : i ≤ 0) : own_q i j ≤ 0 := by
  have := own_q_nonneg (i := -i) (j := j) (by omega)
  rw [own_q_neg] at this; omega
theorem own_q_mono {i k : Int} {j l : Nat} (hj : 0 < j) (hl : 0 < l) (h : i * l ≤ k * j) : own_q i j ≤ own_q k l := by
  have pos : ∀ {i k : Int} {j l : Nat}, 0 < j → 0 < l → 0 ≤ i → 0 ≤ k → i * l ≤ k * j → own_q i j ≤ own_q k l := by
    intro i k j l hj hl hi hk h
    rw [own_q_pos hi, own_q_pos hk]
    refine Int.ofNat_le.mpr (own_rr_mono hj hl ?_)
    have e1 : ((i.natAbs * l : Nat) : Int) = i * l := by rw [Int.natCast_mul, Int.natAbs_of_nonneg hi]
    have e2 : ((k.natAbs * j : Nat) : Int) = k * j := by rw [Int.natCast_mul, Int.natAbs_of_nonneg hk]
    omega
  by_cases hi : 0 ≤ i
  · have hk : 0 ≤ k := by
      refine Int.not_lt.mp fun hk => ?_
      have a1 : 0 ≤ i * (l : Int) := Int.mul_nonneg hi (Int.natCast_nonneg _)
      have a2 : k * (j : Int) < 0 := Int.mul_neg_of_neg_of_pos hk (by omega)
      omega
    exact pos hj hl hi hk h
  · by_cases hk : 0 ≤ k
    · have := own_q_nonpos (i := i) (j := j) (by omega)
      have := own_q_nonneg (i := k) (j := l) hk
      omega
    · have := pos (i := -k) (k := -i) hl hj (by omega) (by omega) (by rw [Int.neg_mul, Int.neg_mul]; omega)
      rw [own_q_neg, own_q_neg] at this
      omega
theorem own_q_congr {i k : Int} {j l : Nat} (hj : 0 < j) (hl : 0 < l) (h : i * l = k * j) : own_q i j = own_q k l :=
  Int.le_antisymm (own_q_mono hj hl (by omega)) (own_q_mono hl hj (by omega))
theorem own_q_le {i : Int} {j V : Nat} (hj : 0 < j) (hV : own_Rep V) (h : i * (one64 : Int) ≤ (V : Int) * j) : own_q i j ≤ V := by
  by_cases hi : 0 ≤ i
  · rw [own_q_pos hi]
    refine Int.ofNat_le.mpr (own_rr_le hj hV ?_)
    have e1 : ((i.natAbs * one64 : Nat) : Int) = i * one64 := by rw [Int.natCast_mul, Int.natAbs_of_nonneg hi]
    have e2 : ((V * j : Nat) : Int) = V * j := Int.natCast_mul _ _
    omega
  · have := own_q_nonpos (i := i) (j := j) (by omega)
    omega
theorem own_q_ge {i : Int} {j V : Nat} (hj : 0 < j) (hV : own_Rep V) (hi : 0 ≤ i) (h : (V : Int) * j ≤ i * (one64 : Int)) : (V : Int) ≤ own_q i j := by
  rw [own_q_pos hi]
  refine Int.ofNat_le.mpr (own_rr_ge hj hV ?_)
  have e1 : ((i.natAbs * one64 : Nat) : Int) = i * one64 := by rw [Int.natCast_mul, Int.natAbs_of_nonneg hi]
  have e2 : ((V * j : Nat) : Int) = V * j := Int.natCast_mul _ _
  omega
/-- the quotient of two whole numbers -/
theorem own_divq {a b : UInt64} {i j : Int} (ha : DInt i a) (hb : DInt j b) (hj : 0 < j) : own_zv (Jvm.FP.ddiv a b) = own_q i j.natAbs := by
  have za : own_zv a = i * (one64 : Int) := DInt_zval ha
  have zb : own_zv b = j * (one64 : Int) := DInt_zval hb
  have fa : DFin a := by
    unfold DInt Whole at ha
    cases e : val64 a with
    | nan => rw [e] at ha; exact ha.elim
    | inf s => rw [e] at ha; exact ha.elim
    | fin s c q => exact ⟨s, c, q, e⟩
  have fb : DFin b := by
    unfold DInt Whole at hb
    cases e : val64 b with
    | nan => rw [e] at hb; exact hb.elim
    | inf s => rw [e] at hb; exact hb.elim
    | fin s c q => exact ⟨s, c, q, e⟩
  have hU : (0 : Int) < (one64 : Int) := by have := one64_pos; omega
  have hzb : 0 < own_zv b := by rw [zb]; exact Int.mul_pos hj hU
  by_cases hi : 0 ≤ i
  · rw [own_zv_div_pos fa fb (by rw [za]; exact Int.mul_nonneg hi (Int.le_of_lt hU)) hzb, za, zb, own_natAbs_one, own_natAbs_one, own_rr_int _ _ (by omega), own_q_pos hi]
  · rw [own_zv_div_neg fa fb (by rw [za]; exact Int.mul_nonpos_of_nonpos_of_nonneg (by omega) (Int.le_of_lt hU)) hzb, za, zb, own_natAbs_one, own_natAbs_one, own_rr_int _ _ (by omega)]
    unfold own_q; rw [if_neg hi]
theorem own_dint_fin {i : Int} {a : UInt64} (ha : DInt i a) : DFin a := by
  unfold DInt Whole at ha
  cases e : val64 a with
  | nan => rw [e] at ha; exact ha.elim
  | inf s => rw [e] at ha; exact ha.elim
  | fin s c q => exact ⟨s, c, q, e⟩
theorem own_div_fin {a b : UInt64} {i j : Int} (ha : DInt i a) (hb : DInt j b) (hj : j ≠ 0) (hi : i.natAbs ≤ 2 ^ 900) : DFin (Jvm.FP.ddiv a b) := by
  have za : own_zv a = i * (one64 : Int) := DInt_zval ha
  have zb : own_zv b = j * (one64 : Int) := DInt_zval hb
  have hU := one64_pos
  have hzb : own_zv b ≠ 0 := by
    rw [zb]; intro h
    rcases Int.mul_eq_zero.mp h with h | h <;> omega
  refine own_fin_round (own_div (own_dint_fin ha) (own_dint_fin hb) hzb) (own_top ?_)
  rw [za, zb, own_natAbs_one, own_natAbs_one, own_rr_int _ _ (by omega)]
  refine Nat.le_trans (own_rr_le (V := 2 ^ 900 * one64) (by omega) ?_ ?_) (Nat.mul_le_mul_right _ (Nat.pow_le_pow_right (by decide) (by decide)))
  · unfold one64
    rw [← Nat.pow_add, ← Nat.one_mul (2 ^ _)]
    exact own_rep_pow (by decide) (by decide)
  · calc i.natAbs * one64 ≤ 2 ^ 900 * one64 := Nat.mul_le_mul_right _ hi
      _ = 2 ^ 900 * one64 * 1 := (Nat.mul_one _).symm
      _ ≤ 2 ^ 900 * one64 * j.natAbs := Nat.mul_le_mul_left _ (by omega)
theorem own_div_nn {a b : UInt64} {i j : Int} (ha : DInt i a) (hb : DInt j b) (hj : j ≠ 0) (hi : i.natAbs ≤ 2 ^ 900) : Jvm.Free.Fl.NoNaN64 (Jvm.FP.ddiv a b) := own_fin_nn (own_div_fin ha hb hj hi)
theorem own_zv0 : own_zv 0 = 0 := zval64_zero
theorem own_zv1 : own_zv (4607182418800017408 : UInt64) = (one64 : Int) := by
  have := DInt_zval dint_one
  rw [Int.one_mul] at this; exact this
theorem own_fin0 : DFin (0 : UInt64) := ⟨_, _, _, val64_zero⟩
theorem own_fin1 : DFin (4607182418800017408 : UInt64) := own_dint_fin dint_one
/-- a comparison, by the values -/
theorem own_cmpf {a b : UInt64} (ha : DFin a) (hb : DFin b) (o : CmpOp) : cmpValue (Jvm.FP.dcmp a b) o = if own_zv a < own_zv b then -1 else if own_zv a = own_zv b then 0 else 1 := own_cmp ha.ne_nan hb.ne_nan o
end FloatKit2
theorem own_lc (x y : Int64) : lcmpW x y = if x.toInt < y.toInt then -1 else if x.toInt = y.toInt then 0 else 1 := by
  unfold lcmpW
  simp only [gt_iff_lt, Int64.lt_iff_toInt_lt, ← Int64.toInt_inj]
  by_cases h1 : x.toInt < y.toInt
  · rw [if_neg (by omega), if_neg (by omega), if_pos h1]
  · by_cases h2 : x.toInt = y.toInt
    · rw [if_neg (by omega), if_pos h2, if_neg h1, if_pos h2]
    · rw [if_pos (by omega), if_neg h1, if_neg h2]
theorem own_mod_bounds (x y : Int32) (hx : 0 ≤ x.toInt) (hy : 0 < y.toInt) : 0 ≤ (x % y).toInt ∧ (x % y).toInt < y.toInt := by
  rw [Int32.toInt_mod]; exact ⟨Int.tmod_nonneg _ hx, Int.tmod_lt_of_pos _ hy⟩
theorem own_m31 (x : Int32) : 0 ≤ (x &&& (2147483647 : Int32)).toInt := by
  rw [Jvm.Kit.i32_mask x (2147483647 : Int32) (k := 31) (by decide) (by decide)]; omega
theorem own_mask {x m : Int32} {k : Nat} (hk : k < 32) (hm : m.toBitVec.toNat = 2 ^ k - 1) : 0 ≤ (x &&& m).toInt ∧ (x &&& m).toInt < 2 ^ k := by
  rw [Jvm.Kit.i32_mask x m hk hm]
  have : (0 : Int) < 2 ^ k := Int.pow_pos (by decide)
  exact ⟨Int.emod_nonneg _ (by omega), Int.emod_lt_of_pos _ this⟩
theorem own_lc_pos (x y : Int64) : (0 : Int32) < lcmpW x y ↔ y.toInt < x.toInt := by
  rw [own_lc]
  by_cases h1 : x.toInt < y.toInt
  · rw [if_pos h1]; exact ⟨fun h => absurd h (by decide), fun h => by omega⟩
  · rw [if_neg h1]
    by_cases h2 : x.toInt = y.toInt
    · rw [if_pos h2]; exact ⟨fun h => absurd h (by decide), fun h => by omega⟩
    · rw [if_neg h2]; exact ⟨fun _ => by omega, fun _ => by decide⟩
theorem own_lc_neg (x y : Int64) : lcmpW x y < (0 : Int32) ↔ x.toInt < y.toInt := by
  rw [own_lc]
  by_cases h1 : x.toInt < y.toInt
  · rw [if_pos h1]; exact ⟨fun _ => h1, fun _ => by decide⟩
  · rw [if_neg h1]
    by_cases h2 : x.toInt = y.toInt
    · rw [if_pos h2]; exact ⟨fun h => absurd h (by decide), fun h => by omega⟩
    · rw [if_neg h2]; exact ⟨fun h => absurd h (by decide), fun h => by omega⟩
theorem own_lc_eq (x y : Int64) : lcmpW x y = (0 : Int32) ↔ x.toInt = y.toInt := by
  rw [own_lc]
  by_cases h1 : x.toInt < y.toInt
  · rw [if_pos h1]; exact ⟨fun h => absurd h (by decide), fun h => by omega⟩
  · rw [if_neg h1]
    by_cases h2 : x.toInt = y.toInt
    · rw [if_pos h2]; exact ⟨fun _ => h2, fun _ => rfl⟩
    · rw [if_neg h2]; exact ⟨fun h => absurd h (by decide), fun h => absurd h h2⟩

def f1 (d1 : UInt64) : Int32 := (if (cmpValue (FP.dcmp d1 (0 : UInt64)) .l) < (0 : Int32) then (0 : Int32) else (if (0 : Int32) < (cmpValue (FP.dcmp d1 (4607182418800017408 : UInt64)) .g) then (0 : Int32) else (1 : Int32)))
theorem f1_b (d1 : UInt64) : f1 d1 = 0 ∨ f1 d1 = 1 := by unfold f1; (repeat' split) <;> decide
theorem d1_0 : decode prog_33_method_4_code 0 = .ok (.dload_n 0, 1) := by decide +kernel
theorem d1_1 : decode prog_33_method_4_code 1 = .ok (.dconst 0, 1) := by decide +kernel
theorem d1_2 : decode prog_33_method_4_code 2 = .ok (.dcmp .l, 1) := by decide +kernel
theorem d1_3 : decode prog_33_method_4_code 3 = .ok (.ifCond .lt 13, 3) := by decide +kernel
theorem d1_6 : decode prog_33_method_4_code 6 = .ok (.dload_n 0, 1) := by decide +kernel
theorem d1_7 : decode prog_33_method_4_code 7 = .ok (.dconst 1, 1) := by decide +kernel
theorem d1_8 : decode prog_33_method_4_code 8 = .ok (.dcmp .g, 1) := by decide +kernel
theorem d1_9 : decode prog_33_method_4_code 9 = .ok (.ifCond .gt 7, 3) := by decide +kernel
theorem d1_12 : decode prog_33_method_4_code 12 = .ok (.iconst 1, 1) := by decide +kernel
theorem d1_13 : decode prog_33_method_4_code 13 = .ok (.goto 4, 3) := by decide +kernel
theorem d1_16 : decode prog_33_method_4_code 16 = .ok (.iconst 0, 1) := by decide +kernel
theorem d1_17 : decode prog_33_method_4_code 17 = .ok (.ireturn, 1) := by decide +kernel
theorem ef_1 (m : MethodId) (x0 : UInt64) : entryFrame m #[(.double x0)] 2 = mkF m 0 #[.val (.double x0), .second] [] := by first | (simp [entryFrame, mkF, argsToLocals, Value.category]; done) | rfl
theorem pn_0 : plainName "com/example/mixed_signals/mixedsignals/model/LanguageModels" = true := by first | (simp [plainName, overriddenIn]; done) | decide +kernel
def Q1 (Z : State) (d1 : UInt64) (h0 : Heap) (n0 : Nat) (v : Option Value) (h : Heap) (L : List Loc) : Prop := v = some (.int (f1 d1)) ∧ Fr n0 L ∧ h = h0
set_option maxRecDepth 65536 in
set_option maxHeartbeats 40000000 in
theorem rm1 (l : Launch) (Z : State) (a0 : Array Value) (hw : ∀ d ∈ tables_1, d.before a0 Z = true) (ws : List Jvm.Cond) (d1 : UInt64) (h0 : Heap) (n0 : Nat) (Z0 : n0 ≤ h0.size)  :
    MetFree l (⟨"com/example/mixed_signals/mixedsignals/model/LanguageModels", "isWeight", "(D)Z"⟩ : MethodName) (head1 (Jvm.Cond.code (⟨"com/example/mixed_signals/mixedsignals/model/LanguageModels", "isWeight", "(D)Z"⟩ : MethodName) prog_33_method_4_code 2 (some .boolean) :: ws) ({ frames := 0, cells := 0, slots := 0, locals := 0 } : Room)) (fun a U => a = #[(.double d1)] ∧ Z.Warmed39 U.vm ∧ U.heap = h0) (fun _ _ _ _ _ => True) (fun _ U o U' => ∃ v L, o = .returned v ∧ Q1 Z d1 h0 n0 v U'.heap L ∧ FrameEnd U o U' L ({ frames := 0, cells := 0, slots := 0, locals := 0 } : Room).cells ({ frames := 0, cells := 0, slots := 0, locals := 0 } : Room).slots) := by
  refine MetFree.of_bodySF (plainFor_of_name pn_0) hisR ?_
  intro p e s m args below meth c s₁ Bd hml0 hP hK
  obtain ⟨rfl, hZ, hh⟩ := hP
  have hx := Bd.exec
  have hby := Bd.bytes
  have hml : c.maxLocals = 2 := hml0
  have hown : s.vm.findClass "com/example/mixed_signals/mixedsignals/model/LanguageModels" = some m.cls := findClass_of_methodNamed Bd.named
  have hnm := (name_of_methodNamed Bd.named Bd.method).1
  have X0 : Stand p l e ({ frames := 0, cells := 0, slots := 0, locals := 0 } : Room) s m #[(.double d1)] below meth c s₁ [] 0 0 := Stand.of_body Bd
  have e0 : s₁.heap = h0 := by rw [← hh, Bd.state]; rfl
  have N0 := Fr.nil n0
  have pre0 : ∀ t, Steps p.tables e below (s₁.setTop (mkF m 0 #[.val (.double d1), .second] [])) t → Steps p.tables e below (s₁.setTop (entryFrame m #[(.double d1)] 2)) t := fun t k => castTop (ef_1 m d1) k
  have S8 : ∀ t, Steps p.tables e below (s₁.setTop (mkF m 3 #[.val (.double d1), .second] [(.int (cmpValue (FP.dcmp d1 (0 : UInt64)) .l))])) t → Steps p.tables e below (s₁.setTop (entryFrame m #[(.double d1)] 2)) t := by
    intro t k
    refine pre0 t ?_
    refine XS.dloadN X0.here hx rfl (hb hby d1_0) rfl ?_
    show Steps p.tables e below (s₁.setTop (mkF m 1 #[.val (.double d1), .second] [(.double d1)])) _
    refine XS.dconst0 X0.here hx rfl (hb hby d1_1) rfl ?_
    show Steps p.tables e below (s₁.setTop (mkF m 2 #[.val (.double d1), .second] [(.double (0 : UInt64)), (.double d1)])) _
    refine XS.dcmpS X0.here hx rfl (hb hby d1_2) rfl rfl ?_
    show Steps p.tables e below (s₁.setTop (mkF m 3 #[.val (.double d1), .second] [(.int (cmpValue (FP.dcmp d1 (0 : UInt64)) .l))])) _
    exact k
  obtain ⟨w9, hw9⟩ : ∃ z : Int32, z = (cmpValue (FP.dcmp d1 (0 : UInt64)) .l) := ⟨_, rfl⟩
  rw [← hw9] at S8
  have S12 : ∀ t, Steps p.tables e below (s₁.setTop (mkF m 17 #[.val (.double d1), .second] [(.int (if w9 < (0 : Int32) then (0 : Int32) else (if (0 : Int32) < (cmpValue (FP.dcmp d1 (4607182418800017408 : UInt64)) .g) then (0 : Int32) else (1 : Int32))))])) t → Steps p.tables e below (s₁.setTop (entryFrame m #[(.double d1)] 2)) t := by
    intro t k
    refine S8 t ?_
    by_cases hc10 : w9 < (0 : Int32)
    · rw [if_pos hc10] at k
      refine XS.ifYes X0.here hx rfl (pc0 := 3) (pc' := 16) rfl (hb hby d1_3) rfl ((if0 _ _).trans (tlt hc10).1) (by decide) (by decide) ?_
      show Steps p.tables e below (s₁.setTop (mkF m 16 #[.val (.double d1), .second] [])) _
      refine XS.iconst X0.here hx rfl (hb hby d1_16) ?_
      show Steps p.tables e below (s₁.setTop (mkF m 17 #[.val (.double d1), .second] [(.int (0 : Int32))])) _
      exact k
    · rw [if_neg hc10] at k
      refine XS.ifNo X0.here hx rfl (hb hby d1_3) rfl ((if0 _ _).trans (flt hc10).1) ?_
      show Steps p.tables e below (s₁.setTop (mkF m 6 #[.val (.double d1), .second] [])) _
      refine XS.dloadN X0.here hx rfl (hb hby d1_6) rfl ?_
      show Steps p.tables e below (s₁.setTop (mkF m 7 #[.val (.double d1), .second] [(.double d1)])) _
      refine XS.dconst1 X0.here hx rfl (hb hby d1_7) rfl ?_
      show Steps p.tables e below (s₁.setTop (mkF m 8 #[.val (.double d1), .second] [(.double (4607182418800017408 : UInt64)), (.double d1)])) _
      refine XS.dcmpS X0.here hx rfl (hb hby d1_8) rfl rfl ?_
      show Steps p.tables e below (s₁.setTop (mkF m 9 #[.val (.double d1), .second] [(.int (cmpValue (FP.dcmp d1 (4607182418800017408 : UInt64)) .g))])) _
      by_cases hc11 : (0 : Int32) < (cmpValue (FP.dcmp d1 (4607182418800017408 : UInt64)) .g)
      · rw [if_pos hc11] at k
        refine XS.ifYes X0.here hx rfl (pc0 := 9) (pc' := 16) rfl (hb hby d1_9) rfl ((if0 _ _).trans (tlt hc11).2.2.1) (by decide) (by decide) ?_
        show Steps p.tables e below (s₁.setTop (mkF m 16 #[.val (.double d1), .second] [])) _
        refine XS.iconst X0.here hx rfl (hb hby d1_16) ?_
        show Steps p.tables e below (s₁.setTop (mkF m 17 #[.val (.double d1), .second] [(.int (0 : Int32))])) _
        exact k
      · rw [if_neg hc11] at k
        refine XS.ifNo X0.here hx rfl (hb hby d1_9) rfl ((if0 _ _).trans (flt hc11).2.2.1) ?_
        show Steps p.tables e below (s₁.setTop (mkF m 12 #[.val (.double d1), .second] [])) _
        refine XS.iconst X0.here hx rfl (hb hby d1_12) ?_
        show Steps p.tables e below (s₁.setTop (mkF m 13 #[.val (.double d1), .second] [(.int (1 : Int32))])) _
        refine XS.goto X0.here hx rfl (pc0 := 13) (pc' := 17) rfl (hb hby d1_13) (by decide) (by decide) ?_
        show Steps p.tables e below (s₁.setTop (mkF m 17 #[.val (.double d1), .second] [(.int (1 : Int32))])) _
        exact k
  obtain ⟨w13, hw13⟩ : ∃ z : Int32, z = (if w9 < (0 : Int32) then (0 : Int32) else (if (0 : Int32) < (cmpValue (FP.dcmp d1 (4607182418800017408 : UInt64)) .g) then (0 : Int32) else (1 : Int32))) := ⟨_, rfl⟩
  rw [← hw13] at S12
  have hf : f1 d1 = w13 := by
    unfold f1
    subst hw9 hw13
    rfl
  have hnb : nar .boolean w13 = w13 := own_nb (by rw [← hf]; exact f1_b d1)
  obtain ⟨fs, hr, hrun, hended, hW, hsame⟩ := X0.leave (v := some (.int (nar .boolean w13))) (fun h => by rw [Bd.returns] at h; cases h)
  refine ⟨_, _, S12 _ ?_, hrun, hended, _, _, rfl, ?_, ⟨_, rfl⟩, hW, hsame.mono (by decide) (by decide)⟩
  · exact retN X0 hx (t := .boolean) Bd.returns (by simp) (hb hby d1_17) hr
  · show Q1 Z d1 h0 n0 _ s₁.heap _
    rw [e0]
    exact ⟨by rw [hnb, hf], N0, rfl⟩
open Jvm.FP.Core in
theorem own_den (d : Int32) : 1 ≤ ((d &&& (65535 : Int32)) + (1 : Int32)).toInt ∧ ((d &&& (65535 : Int32)) + (1 : Int32)).toInt ≤ 65536 := by
  have h := Jvm.Kit.i32_mask d (65535 : Int32) (k := 16) (by decide) (by decide)
  have h1 : (1 : Int32).toInt = 1 := by decide
  have e : ((d &&& (65535 : Int32)) + (1 : Int32)).toInt = d.toInt % 2 ^ 16 + 1 := by
    rw [Jvm.Kit.i32_add] <;> rw [h, h1] <;> omega
  rw [e]; omega
theorem own_nn1 (n : Int32) {d w : Int32} (h : w = ((d &&& (65535 : Int32)) + (1 : Int32))) : Jvm.Free.Fl.NoNaN64 (FP.ddiv (FP.i2d n) (FP.i2d w)) := by
  have := own_den d
  have a := n.toInt_lt
  have b := n.le_toInt
  rw [← h] at this
  exact own_div_nn (Jvm.FP.Core.i2d_int n) (Jvm.FP.Core.i2d_int w) (by omega) (Nat.le_trans (show n.toInt.natAbs ≤ 2 ^ 31 by omega) (Nat.pow_le_pow_right (by decide) (by decide)))
theorem pd_0 : parseMethodDescriptor "(D)Z" = some ⟨[.double], some .boolean⟩ := by decide +kernel
set_option maxRecDepth 65536 in
theorem own_law (n : Int32) (d : Int32) (fl : Int32)  (v0 : Int32) (hv0 : v0 = ((d &&& (65535 : Int32)) + (1 : Int32))) (v1 : Int32) (hv1 : v1 = (fl &&& (1 : Int32))) (v2 : Int32) (hv2 : v2 = (if v1 = (0 : Int32) then (0 : Int32) else (1 : Int32))) (v3 : UInt64) (hv3 : v3 = (FP.ddiv (FP.i2d n) (FP.i2d v0))) (v4 : UInt64) (hv4 : v4 = (if v2 = (0 : Int32) then v3 else (FP.dneg v3))) (v5 : Int64) (hv5 : v5 = (if v2 = (0 : Int32) then n.toInt64 else (-(n.toInt64)))) (v6 : Int32) (hv6 : v6 = (lcmpW v5 (0 : Int64))) (v7 : Int32) (hv7 : v7 = (if v6 < (0 : Int32) then (0 : Int32) else (if (0 : Int32) < (lcmpW v5 v0.toInt64) then (0 : Int32) else (1 : Int32)))) (v8 : Int32) (hv8 : v8 = (f1 v4)) (v9 : Int32) (hv9 : v9 = (if v8 = v7 then (1 : Int32) else (0 : Int32)))  : v9 = (1 : Int32) := by
  have D := own_den d
  rw [← hv0] at D
  have a := n.toInt_lt
  have b := n.le_toInt
  have d0 := Jvm.FP.Core.i2d_int n
  have d1 := Jvm.FP.Core.i2d_int v0
  have f3 : Jvm.FP.Core.DFin v3 := by
    rw [hv3]; exact own_div_fin d0 d1 (by omega) (Nat.le_trans (show n.toInt.natAbs ≤ 2 ^ 31 by omega) (Nat.pow_le_pow_right (by decide) (by decide)))
  have q3 : own_zv v3 = own_q n.toInt v0.toInt.natAbs := by rw [hv3]; exact own_divq d0 d1 (by omega)
  have k : Jvm.FP.Core.DFin v4 ∧ own_zv v4 = own_q v5.toInt v0.toInt.natAbs := by
    by_cases h : v2 = (0 : Int32)
    · rw [if_pos h] at hv4 hv5
      rw [hv4, hv5, Int32.toInt_toInt64]; exact ⟨f3, q3⟩
    · rw [if_neg h] at hv4 hv5
      have e : v5.toInt = -n.toInt := by
        rw [hv5, Jvm.Kit.i64_neg] <;> rw [Int32.toInt_toInt64]
        omega
      rw [hv4, e, own_q_neg, own_dneg, q3]; exact ⟨own_dneg_fin f3, rfl⟩
  obtain ⟨f4, q4⟩ := k
  generalize hN : v5.toInt = N at *
  have c1 := own_cmpf f4 own_fin0 .l
  have c2 := own_cmpf f4 own_fin1 .g
  rw [own_zv0, q4] at c1
  rw [own_zv1, q4] at c2
  have L0 : v6 = if N < 0 then -1 else if N = 0 then 0 else 1 := by rw [hv6, own_lc, hN]; rfl
  have L1 := own_lc v5 v0.toInt64
  rw [hN, Int32.toInt_toInt64] at L1
  have hU := Jvm.FP.Core.one64_pos
  have hD : (v0.toInt.natAbs : Int) = v0.toInt := by omega
  -- a negative number stays below nought
  have neg : N < 0 → own_q N v0.toInt.natAbs < 0 := by
    intro h
    have g := own_q_ge (i := -N) (j := v0.toInt.natAbs) (V := 1 * 2 ^ 1058) (by omega) (own_rep_pow (by decide) (by decide)) (by omega) (by
      rw [hD, Nat.one_mul]
      have e : ((Jvm.FP.Core.one64 : Nat) : Int) = ((2 ^ 1058 : Nat) : Int) * 65536 := by
        have : Jvm.FP.Core.one64 = 2 ^ 1058 * 65536 := by unfold Jvm.FP.Core.one64; rw [show (65536 : Nat) = 2 ^ 16 by decide, ← Nat.pow_add]
        rw [this, Int.natCast_mul]; rfl
      rw [e]
      have hp : (0 : Int) < ((2 ^ 1058 : Nat) : Int) := by have := Nat.two_pow_pos 1058; omega
      generalize ((2 ^ 1058 : Nat) : Int) = P at *
      calc P * v0.toInt ≤ P * 65536 := Int.mul_le_mul_of_nonneg_left (by omega) (by omega)
        _ = 1 * (P * 65536) := (Int.one_mul _).symm
        _ ≤ -N * (P * 65536) := Int.mul_le_mul_of_nonneg_right (by omega) (by omega))
    have hp := Nat.two_pow_pos 1058
    rw [own_q_neg, Nat.one_mul] at g
    generalize 2 ^ 1058 = P at *
    omega
  -- at most D: at most one; above D: above one
  have le1 : N ≤ v0.toInt → own_q N v0.toInt.natAbs ≤ (Jvm.FP.Core.one64 : Int) := fun h =>
    own_q_le (by omega) own_rep_U (by rw [hD, Int.mul_comm]; exact Int.mul_le_mul_of_nonneg_left h (by omega))
  have gt1 : v0.toInt < N → (Jvm.FP.Core.one64 : Int) < own_q N v0.toInt.natAbs := by
    intro h
    have g := own_q_ge (i := N) (j := v0.toInt.natAbs) (V := 65537 * 2 ^ 1058) (by omega) (own_rep_pow (by decide) (by decide)) (by omega) (by
      rw [hD]
      have e : ((Jvm.FP.Core.one64 : Nat) : Int) = ((2 ^ 1058 : Nat) : Int) * 65536 := by
        have : Jvm.FP.Core.one64 = 2 ^ 1058 * 65536 := by unfold Jvm.FP.Core.one64; rw [show (65536 : Nat) = 2 ^ 16 by decide, ← Nat.pow_add]
        rw [this, Int.natCast_mul]; rfl
      rw [e, Int.natCast_mul]
      have hp : (0 : Int) < ((2 ^ 1058 : Nat) : Int) := by have := Nat.two_pow_pos 1058; omega
      generalize ((2 ^ 1058 : Nat) : Int) = P at *
      have : (65537 : Int) * v0.toInt ≤ N * 65536 := by omega
      calc ((65537 : Nat) : Int) * P * v0.toInt = P * (65537 * v0.toInt) := by
            rw [Int.mul_comm _ P, Int.mul_assoc]; rfl
        _ ≤ P * (N * 65536) := Int.mul_le_mul_of_nonneg_left this (by omega)
        _ = N * (P * 65536) := by rw [← Int.mul_assoc, Int.mul_comm P N, Int.mul_assoc])
    have e : 65537 * 2 ^ 1058 = Jvm.FP.Core.one64 + 2 ^ 1058 := by
      have : Jvm.FP.Core.one64 = 65536 * 2 ^ 1058 := by unfold Jvm.FP.Core.one64; rw [show (65536 : Nat) = 2 ^ 16 by decide, ← Nat.pow_add]
      rw [this, ← Nat.succ_mul]
    rw [e] at g
    have hp := Nat.two_pow_pos 1058
    generalize 2 ^ 1058 = P at *
    omega
  have nn : 0 ≤ N → 0 ≤ own_q N v0.toInt.natAbs := own_q_nonneg
  generalize own_q N v0.toInt.natAbs = z at *
  rw [hv9, hv8, hv7]
  unfold f1
  rw [c1, c2, L0, L1]
  by_cases h1 : N < 0
  · have := neg h1
    rw [if_pos h1, if_pos this, if_pos (show (-1 : Int32) < 0 by decide), if_pos (show (-1 : Int32) < 0 by decide)]; rfl
  · have h2 := nn (by omega)
    rw [if_neg h1, if_neg (show ¬ z < 0 by omega)]
    have t1 : ¬ ((if z = 0 then (0 : Int32) else 1) < 0) := by split <;> decide
    have t2 : ¬ ((if N = 0 then (0 : Int32) else 1) < 0) := by split <;> decide
    rw [if_neg t1, if_neg t2]
    by_cases h3 : N ≤ v0.toInt
    · have h4 := le1 h3
      have t3 : ¬ ((0 : Int32) < (if z < (Jvm.FP.Core.one64 : Int) then -1 else if z = (Jvm.FP.Core.one64 : Int) then 0 else 1)) := by
        by_cases h5 : z < (Jvm.FP.Core.one64 : Int)
        · rw [if_pos h5]; decide
        · rw [if_neg h5, if_pos (by omega)]; decide
      have t4 : ¬ ((0 : Int32) < (if N < v0.toInt then -1 else if N = v0.toInt then 0 else 1)) := by
        by_cases h5 : N < v0.toInt
        · rw [if_pos h5]; decide
        · rw [if_neg h5, if_pos (by omega)]; decide
      rw [if_neg t3, if_neg t4]; decide
    · have h4 := gt1 (by omega)
      rw [if_neg (show ¬ z < (Jvm.FP.Core.one64 : Int) by omega), if_neg (show ¬ z = (Jvm.FP.Core.one64 : Int) by omega), if_neg (show ¬ N < v0.toInt by omega), if_neg (show ¬ N = v0.toInt by omega)]
      decide
theorem ef_0 (m : MethodId) (x0 : Int32) (x1 : Int32) (x2 : Int32) : entryFrame m #[(.int x0), (.int x1), (.int x2)] maxLocals = mkF m 0 #[.val (.int x0), .val (.int x1), .val (.int x2), .unset, .unset, .unset, .unset, .unset, .unset, .unset] [] := by first | (simp [entryFrame, mkF, argsToLocals, Value.category, maxLocals]; done) | rfl
theorem pn_1 : plainName "com/example/mixed_signals/mixedsignals/model/LanguageModelsIsWeightPinLaw" = true := by first | (simp [plainName, overriddenIn]; done) | decide +kernel
def Q0 (Z : State) (n : Int32) (d : Int32) (fl : Int32) (h0 : Heap) (n0 : Nat) (v : Option Value) (h : Heap) (L : List Loc) : Prop := v = some (.int 1) ∧ Fr n0 L
set_option maxRecDepth 65536 in
set_option maxHeartbeats 40000000 in
theorem rm0 (l : Launch) (Z : State) (a0 : Array Value) (hw : ∀ d ∈ tables_1, d.before a0 Z = true) (ws : List Jvm.Cond) (n : Int32) (d : Int32) (fl : Int32) (h0 : Heap) (n0 : Nat) (Z0 : n0 ≤ h0.size)  :
    MetFree l x (head1 (Jvm.Cond.code x code maxLocals ret :: ws) room_1) (fun a U => a = #[(.int n), (.int d), (.int fl)] ∧ Z.Warmed39 U.vm ∧ U.heap = h0) (fun _ _ _ _ _ => True) (fun _ U o U' => ∃ v L, o = .returned v ∧ Q0 Z n d fl h0 n0 v U'.heap L ∧ FrameEnd U o U' L room_1.cells room_1.slots) := by
  refine MetFree.of_bodySF (plainFor_of_name pn_1) hisR ?_
  intro p e s m args below meth c s₁ Bd hml0 hP hK
  obtain ⟨rfl, hZ, hh⟩ := hP
  have hx := Bd.exec
  have hby := Bd.bytes
  have hml : c.maxLocals = 10 := hml0
  have hown : s.vm.findClass "com/example/mixed_signals/mixedsignals/model/LanguageModelsIsWeightPinLaw" = some m.cls := findClass_of_methodNamed Bd.named
  have hnm := (name_of_methodNamed Bd.named Bd.method).1
  have X0 : Stand p l e room_1 s m #[(.int n), (.int d), (.int fl)] below meth c s₁ [] 0 0 := Stand.of_body Bd
  have e0 : s₁.heap = h0 := by rw [← hh, Bd.state]; rfl
  have N0 := Fr.nil n0
  have pre0 : ∀ t, Steps p.tables e below (s₁.setTop (mkF m 0 #[.val (.int n), .val (.int d), .val (.int fl), .unset, .unset, .unset, .unset, .unset, .unset, .unset] [])) t → Steps p.tables e below (s₁.setTop (entryFrame m #[(.int n), (.int d), (.int fl)] maxLocals)) t := fun t k => castTop (ef_0 m n d fl) k
  have S14 : ∀ t, Steps p.tables e below (s₁.setTop (mkF m 10 #[.val (.int n), .val (.int d), .val (.int fl), .val (.int ((d &&& (65535 : Int32)) + (1 : Int32))), .unset, .unset, .unset, .unset, .unset, .unset] [(.int (fl &&& (1 : Int32)))])) t → Steps p.tables e below (s₁.setTop (entryFrame m #[(.int n), (.int d), (.int fl)] maxLocals)) t := by
    intro t k
    refine pre0 t ?_
    refine XS.iloadN X0.here hx rfl (hb hby at_0) rfl ?_
    show Steps p.tables e below (s₁.setTop (mkF m 1 #[.val (.int n), .val (.int d), .val (.int fl), .unset, .unset, .unset, .unset, .unset, .unset, .unset] [(.int d)])) _
    refine X0.ldcInt hx hown (mvT hZ (hw _ (List.mem_of_getElem? (i := 0) rfl))) (g := (mkF m 1 #[.val (.int n), .val (.int d), .val (.int fl), .unset, .unset, .unset, .unset, .unset, .unset, .unset] [(.int d)])) rfl (hb hby at_1) _ ?_
    show Steps p.tables e below (s₁.setTop (mkF m 3 #[.val (.int n), .val (.int d), .val (.int fl), .unset, .unset, .unset, .unset, .unset, .unset, .unset] [(.int (65535 : Int32)), (.int d)])) _
    refine XS.iand X0.here hx rfl (hb hby at_3) rfl ?_
    show Steps p.tables e below (s₁.setTop (mkF m 4 #[.val (.int n), .val (.int d), .val (.int fl), .unset, .unset, .unset, .unset, .unset, .unset, .unset] [(.int (d &&& (65535 : Int32)))])) _
    refine XS.iconst X0.here hx rfl (hb hby at_4) ?_
    show Steps p.tables e below (s₁.setTop (mkF m 5 #[.val (.int n), .val (.int d), .val (.int fl), .unset, .unset, .unset, .unset, .unset, .unset, .unset] [(.int (1 : Int32)), (.int (d &&& (65535 : Int32)))])) _
    refine XS.iadd X0.here hx rfl (hb hby at_5) rfl ?_
    show Steps p.tables e below (s₁.setTop (mkF m 6 #[.val (.int n), .val (.int d), .val (.int fl), .unset, .unset, .unset, .unset, .unset, .unset, .unset] [(.int ((d &&& (65535 : Int32)) + (1 : Int32)))])) _
    refine XS.istoreN X0.here hx rfl (hb hby at_6) rfl (l' := #[.val (.int n), .val (.int d), .val (.int fl), .val (.int ((d &&& (65535 : Int32)) + (1 : Int32))), .unset, .unset, .unset, .unset, .unset, .unset]) rfl ?_
    show Steps p.tables e below (s₁.setTop (mkF m 7 #[.val (.int n), .val (.int d), .val (.int fl), .val (.int ((d &&& (65535 : Int32)) + (1 : Int32))), .unset, .unset, .unset, .unset, .unset, .unset] [])) _
    refine XS.iloadN X0.here hx rfl (hb hby at_7) rfl ?_
    show Steps p.tables e below (s₁.setTop (mkF m 8 #[.val (.int n), .val (.int d), .val (.int fl), .val (.int ((d &&& (65535 : Int32)) + (1 : Int32))), .unset, .unset, .unset, .unset, .unset, .unset] [(.int fl)])) _
    refine XS.iconst X0.here hx rfl (hb hby at_8) ?_
    show Steps p.tables e below (s₁.setTop (mkF m 9 #[.val (.int n), .val (.int d), .val (.int fl), .val (.int ((d &&& (65535 : Int32)) + (1 : Int32))), .unset, .unset, .unset, .unset, .unset, .unset] [(.int (1 : Int32)), (.int fl)])) _
    refine XS.iand X0.here hx rfl (hb hby at_9) rfl ?_
    show Steps p.tables e below (s₁.setTop (mkF m 10 #[.val (.int n), .val (.int d), .val (.int fl), .val (.int ((d &&& (65535 : Int32)) + (1 : Int32))), .unset, .unset, .unset, .unset, .unset, .unset] [(.int (fl &&& (1 : Int32)))])) _
    exact k
  obtain ⟨w15, hw15⟩ : ∃ z : Int32, z = ((d &&& (65535 : Int32)) + (1 : Int32)) := ⟨_, rfl⟩
  rw [← hw15] at S14
  obtain ⟨w16, hw16⟩ : ∃ z : Int32, z = (fl &&& (1 : Int32)) := ⟨_, rfl⟩
  rw [← hw16] at S14
  have S18 : ∀ t, Steps p.tables e below (s₁.setTop (mkF m 18 #[.val (.int n), .val (.int d), .val (.int fl), .val (.int w15), .unset, .unset, .unset, .unset, .unset, .unset] [(.int (if w16 = (0 : Int32) then (0 : Int32) else (1 : Int32)))])) t → Steps p.tables e below (s₁.setTop (entryFrame m #[(.int n), (.int d), (.int fl)] maxLocals)) t := by
    intro t k
    refine S14 t ?_
    by_cases hc17 : w16 = (0 : Int32)
    · rw [if_pos hc17] at k
      refine XS.ifYes X0.here hx rfl (pc0 := 10) (pc' := 17) rfl (hb hby at_10) rfl ((if0 _ _).trans (teq hc17).1) (by decide) (by decide) ?_
      show Steps p.tables e below (s₁.setTop (mkF m 17 #[.val (.int n), .val (.int d), .val (.int fl), .val (.int w15), .unset, .unset, .unset, .unset, .unset, .unset] [])) _
      refine XS.iconst X0.here hx rfl (hb hby at_17) ?_
      show Steps p.tables e below (s₁.setTop (mkF m 18 #[.val (.int n), .val (.int d), .val (.int fl), .val (.int w15), .unset, .unset, .unset, .unset, .unset, .unset] [(.int (0 : Int32))])) _
      exact k
    · rw [if_neg hc17] at k
      refine XS.ifNo X0.here hx rfl (hb hby at_10) rfl ((if0 _ _).trans (feq hc17).1) ?_
      show Steps p.tables e below (s₁.setTop (mkF m 13 #[.val (.int n), .val (.int d), .val (.int fl), .val (.int w15), .unset, .unset, .unset, .unset, .unset, .unset] [])) _
      refine XS.iconst X0.here hx rfl (hb hby at_13) ?_
      show Steps p.tables e below (s₁.setTop (mkF m 14 #[.val (.int n), .val (.int d), .val (.int fl), .val (.int w15), .unset, .unset, .unset, .unset, .unset, .unset] [(.int (1 : Int32))])) _
      refine XS.goto X0.here hx rfl (pc0 := 14) (pc' := 18) rfl (hb hby at_14) (by decide) (by decide) ?_
      show Steps p.tables e below (s₁.setTop (mkF m 18 #[.val (.int n), .val (.int d), .val (.int fl), .val (.int w15), .unset, .unset, .unset, .unset, .unset, .unset] [(.int (1 : Int32))])) _
      exact k
  obtain ⟨w19, hw19⟩ : ∃ z : Int32, z = (if w16 = (0 : Int32) then (0 : Int32) else (1 : Int32)) := ⟨_, rfl⟩
  rw [← hw19] at S18
  have S20 : ∀ t, Steps p.tables e below (s₁.setTop (mkF m 29 #[.val (.int n), .val (.int d), .val (.int fl), .val (.int w15), .val (.int w19), .val (.double (FP.ddiv (FP.i2d n) (FP.i2d w15))), .second, .unset, .unset, .unset] [(.int w19)])) t → Steps p.tables e below (s₁.setTop (entryFrame m #[(.int n), (.int d), (.int fl)] maxLocals)) t := by
    intro t k
    refine S18 t ?_
    refine XS.istore X0.here hx rfl (hb hby at_18) rfl (l' := #[.val (.int n), .val (.int d), .val (.int fl), .val (.int w15), .val (.int w19), .unset, .unset, .unset, .unset, .unset]) rfl ?_
    show Steps p.tables e below (s₁.setTop (mkF m 20 #[.val (.int n), .val (.int d), .val (.int fl), .val (.int w15), .val (.int w19), .unset, .unset, .unset, .unset, .unset] [])) _
    refine XS.iloadN X0.here hx rfl (hb hby at_20) rfl ?_
    show Steps p.tables e below (s₁.setTop (mkF m 21 #[.val (.int n), .val (.int d), .val (.int fl), .val (.int w15), .val (.int w19), .unset, .unset, .unset, .unset, .unset] [(.int n)])) _
    refine XS.i2dS X0.here hx rfl (hb hby at_21) rfl rfl ?_
    show Steps p.tables e below (s₁.setTop (mkF m 22 #[.val (.int n), .val (.int d), .val (.int fl), .val (.int w15), .val (.int w19), .unset, .unset, .unset, .unset, .unset] [(.double (FP.i2d n))])) _
    refine XS.iloadN X0.here hx rfl (hb hby at_22) rfl ?_
    show Steps p.tables e below (s₁.setTop (mkF m 23 #[.val (.int n), .val (.int d), .val (.int fl), .val (.int w15), .val (.int w19), .unset, .unset, .unset, .unset, .unset] [(.int w15), (.double (FP.i2d n))])) _
    refine XS.i2dS X0.here hx rfl (hb hby at_23) rfl rfl ?_
    show Steps p.tables e below (s₁.setTop (mkF m 24 #[.val (.int n), .val (.int d), .val (.int fl), .val (.int w15), .val (.int w19), .unset, .unset, .unset, .unset, .unset] [(.double (FP.i2d w15)), (.double (FP.i2d n))])) _
    refine XS.ddivS X0.here hx rfl (hb hby at_24) rfl (own_nn1 n hw15) rfl ?_
    show Steps p.tables e below (s₁.setTop (mkF m 25 #[.val (.int n), .val (.int d), .val (.int fl), .val (.int w15), .val (.int w19), .unset, .unset, .unset, .unset, .unset] [(.double (FP.ddiv (FP.i2d n) (FP.i2d w15)))])) _
    refine XS.dstore X0.here hx rfl (hb hby at_25) rfl (l' := #[.val (.int n), .val (.int d), .val (.int fl), .val (.int w15), .val (.int w19), .val (.double (FP.ddiv (FP.i2d n) (FP.i2d w15))), .second, .unset, .unset, .unset]) rfl ?_
    show Steps p.tables e below (s₁.setTop (mkF m 27 #[.val (.int n), .val (.int d), .val (.int fl), .val (.int w15), .val (.int w19), .val (.double (FP.ddiv (FP.i2d n) (FP.i2d w15))), .second, .unset, .unset, .unset] [])) _
    refine XS.iload X0.here hx rfl (hb hby at_27) rfl ?_
    show Steps p.tables e below (s₁.setTop (mkF m 29 #[.val (.int n), .val (.int d), .val (.int fl), .val (.int w15), .val (.int w19), .val (.double (FP.ddiv (FP.i2d n) (FP.i2d w15))), .second, .unset, .unset, .unset] [(.int w19)])) _
    exact k
  obtain ⟨w21, hw21⟩ : ∃ z : UInt64, z = (FP.ddiv (FP.i2d n) (FP.i2d w15)) := ⟨_, rfl⟩
  rw [← hw21] at S20
  have S23 : ∀ t, Steps p.tables e below (s₁.setTop (mkF m 37 #[.val (.int n), .val (.int d), .val (.int fl), .val (.int w15), .val (.int w19), .val (.double (if w19 = (0 : Int32) then w21 else (FP.dneg w21))), .second, .unset, .unset, .unset] [])) t → Steps p.tables e below (s₁.setTop (entryFrame m #[(.int n), (.int d), (.int fl)] maxLocals)) t := by
    intro t k
    refine S20 t ?_
    by_cases hc22 : w19 = (0 : Int32)
    · rw [if_pos hc22] at k
      refine XS.ifYes X0.here hx rfl (pc0 := 29) (pc' := 37) rfl (hb hby at_29) rfl ((if0 _ _).trans (teq hc22).1) (by decide) (by decide) ?_
      show Steps p.tables e below (s₁.setTop (mkF m 37 #[.val (.int n), .val (.int d), .val (.int fl), .val (.int w15), .val (.int w19), .val (.double w21), .second, .unset, .unset, .unset] [])) _
      exact k
    · rw [if_neg hc22] at k
      refine XS.ifNo X0.here hx rfl (hb hby at_29) rfl ((if0 _ _).trans (feq hc22).1) ?_
      show Steps p.tables e below (s₁.setTop (mkF m 32 #[.val (.int n), .val (.int d), .val (.int fl), .val (.int w15), .val (.int w19), .val (.double w21), .second, .unset, .unset, .unset] [])) _
      refine XS.dload X0.here hx rfl (hb hby at_32) rfl ?_
      show Steps p.tables e below (s₁.setTop (mkF m 34 #[.val (.int n), .val (.int d), .val (.int fl), .val (.int w15), .val (.int w19), .val (.double w21), .second, .unset, .unset, .unset] [(.double w21)])) _
      refine XS.dnegS X0.here hx rfl (hb hby at_34) rfl rfl ?_
      show Steps p.tables e below (s₁.setTop (mkF m 35 #[.val (.int n), .val (.int d), .val (.int fl), .val (.int w15), .val (.int w19), .val (.double w21), .second, .unset, .unset, .unset] [(.double (FP.dneg w21))])) _
      refine XS.dstore X0.here hx rfl (hb hby at_35) rfl (l' := #[.val (.int n), .val (.int d), .val (.int fl), .val (.int w15), .val (.int w19), .val (.double (FP.dneg w21)), .second, .unset, .unset, .unset]) rfl ?_
      show Steps p.tables e below (s₁.setTop (mkF m 37 #[.val (.int n), .val (.int d), .val (.int fl), .val (.int w15), .val (.int w19), .val (.double (FP.dneg w21)), .second, .unset, .unset, .unset] [])) _
      exact k
  obtain ⟨w24, hw24⟩ : ∃ z : UInt64, z = (if w19 = (0 : Int32) then w21 else (FP.dneg w21)) := ⟨_, rfl⟩
  rw [← hw24] at S23
  have S25 : ∀ t, Steps p.tables e below (s₁.setTop (mkF m 39 #[.val (.int n), .val (.int d), .val (.int fl), .val (.int w15), .val (.int w19), .val (.double w24), .second, .unset, .unset, .unset] [(.int w19)])) t → Steps p.tables e below (s₁.setTop (entryFrame m #[(.int n), (.int d), (.int fl)] maxLocals)) t := by
    intro t k
    refine S23 t ?_
    refine XS.iload X0.here hx rfl (hb hby at_37) rfl ?_
    show Steps p.tables e below (s₁.setTop (mkF m 39 #[.val (.int n), .val (.int d), .val (.int fl), .val (.int w15), .val (.int w19), .val (.double w24), .second, .unset, .unset, .unset] [(.int w19)])) _
    exact k
  have S27 : ∀ t, Steps p.tables e below (s₁.setTop (mkF m 50 #[.val (.int n), .val (.int d), .val (.int fl), .val (.int w15), .val (.int w19), .val (.double w24), .second, .unset, .unset, .unset] [(.long (if w19 = (0 : Int32) then n.toInt64 else (-(n.toInt64))))])) t → Steps p.tables e below (s₁.setTop (entryFrame m #[(.int n), (.int d), (.int fl)] maxLocals)) t := by
    intro t k
    refine S25 t ?_
    by_cases hc26 : w19 = (0 : Int32)
    · rw [if_pos hc26] at k
      refine XS.ifYes X0.here hx rfl (pc0 := 39) (pc' := 48) rfl (hb hby at_39) rfl ((if0 _ _).trans (teq hc26).1) (by decide) (by decide) ?_
      show Steps p.tables e below (s₁.setTop (mkF m 48 #[.val (.int n), .val (.int d), .val (.int fl), .val (.int w15), .val (.int w19), .val (.double w24), .second, .unset, .unset, .unset] [])) _
      refine XS.iloadN X0.here hx rfl (hb hby at_48) rfl ?_
      show Steps p.tables e below (s₁.setTop (mkF m 49 #[.val (.int n), .val (.int d), .val (.int fl), .val (.int w15), .val (.int w19), .val (.double w24), .second, .unset, .unset, .unset] [(.int n)])) _
      refine XS.i2l X0.here hx rfl (hb hby at_49) rfl ?_
      show Steps p.tables e below (s₁.setTop (mkF m 50 #[.val (.int n), .val (.int d), .val (.int fl), .val (.int w15), .val (.int w19), .val (.double w24), .second, .unset, .unset, .unset] [(.long n.toInt64)])) _
      exact k
    · rw [if_neg hc26] at k
      refine XS.ifNo X0.here hx rfl (hb hby at_39) rfl ((if0 _ _).trans (feq hc26).1) ?_
      show Steps p.tables e below (s₁.setTop (mkF m 42 #[.val (.int n), .val (.int d), .val (.int fl), .val (.int w15), .val (.int w19), .val (.double w24), .second, .unset, .unset, .unset] [])) _
      refine XS.iloadN X0.here hx rfl (hb hby at_42) rfl ?_
      show Steps p.tables e below (s₁.setTop (mkF m 43 #[.val (.int n), .val (.int d), .val (.int fl), .val (.int w15), .val (.int w19), .val (.double w24), .second, .unset, .unset, .unset] [(.int n)])) _
      refine XS.i2l X0.here hx rfl (hb hby at_43) rfl ?_
      show Steps p.tables e below (s₁.setTop (mkF m 44 #[.val (.int n), .val (.int d), .val (.int fl), .val (.int w15), .val (.int w19), .val (.double w24), .second, .unset, .unset, .unset] [(.long n.toInt64)])) _
      refine XS.lneg X0.here hx rfl (hb hby at_44) rfl ?_
      show Steps p.tables e below (s₁.setTop (mkF m 45 #[.val (.int n), .val (.int d), .val (.int fl), .val (.int w15), .val (.int w19), .val (.double w24), .second, .unset, .unset, .unset] [(.long (-(n.toInt64)))])) _
      refine XS.goto X0.here hx rfl (pc0 := 45) (pc' := 50) rfl (hb hby at_45) (by decide) (by decide) ?_
      show Steps p.tables e below (s₁.setTop (mkF m 50 #[.val (.int n), .val (.int d), .val (.int fl), .val (.int w15), .val (.int w19), .val (.double w24), .second, .unset, .unset, .unset] [(.long (-(n.toInt64)))])) _
      exact k
  obtain ⟨w28, hw28⟩ : ∃ z : Int64, z = (if w19 = (0 : Int32) then n.toInt64 else (-(n.toInt64))) := ⟨_, rfl⟩
  rw [← hw28] at S27
  have S29 : ∀ t, Steps p.tables e below (s₁.setTop (mkF m 56 #[.val (.int n), .val (.int d), .val (.int fl), .val (.int w15), .val (.int w19), .val (.double w24), .second, .val (.long w28), .second, .unset] [(.int (lcmpW w28 (0 : Int64)))])) t → Steps p.tables e below (s₁.setTop (entryFrame m #[(.int n), (.int d), (.int fl)] maxLocals)) t := by
    intro t k
    refine S27 t ?_
    refine XS.lstore X0.here hx rfl (hb hby at_50) rfl (l' := #[.val (.int n), .val (.int d), .val (.int fl), .val (.int w15), .val (.int w19), .val (.double w24), .second, .val (.long w28), .second, .unset]) rfl ?_
    show Steps p.tables e below (s₁.setTop (mkF m 52 #[.val (.int n), .val (.int d), .val (.int fl), .val (.int w15), .val (.int w19), .val (.double w24), .second, .val (.long w28), .second, .unset] [])) _
    refine XS.lload X0.here hx rfl (hb hby at_52) rfl ?_
    show Steps p.tables e below (s₁.setTop (mkF m 54 #[.val (.int n), .val (.int d), .val (.int fl), .val (.int w15), .val (.int w19), .val (.double w24), .second, .val (.long w28), .second, .unset] [(.long w28)])) _
    refine XS.lconst X0.here hx rfl (hb hby at_54) ?_
    show Steps p.tables e below (s₁.setTop (mkF m 55 #[.val (.int n), .val (.int d), .val (.int fl), .val (.int w15), .val (.int w19), .val (.double w24), .second, .val (.long w28), .second, .unset] [(.long (0 : Int64)), (.long w28)])) _
    refine XS.lcmp X0.here hx rfl (hb hby at_55) rfl ?_
    show Steps p.tables e below (s₁.setTop (mkF m 56 #[.val (.int n), .val (.int d), .val (.int fl), .val (.int w15), .val (.int w19), .val (.double w24), .second, .val (.long w28), .second, .unset] [(.int (lcmpW w28 (0 : Int64)))])) _
    exact k
  obtain ⟨w30, hw30⟩ : ∃ z : Int32, z = (lcmpW w28 (0 : Int64)) := ⟨_, rfl⟩
  rw [← hw30] at S29
  have S33 : ∀ t, Steps p.tables e below (s₁.setTop (mkF m 72 #[.val (.int n), .val (.int d), .val (.int fl), .val (.int w15), .val (.int w19), .val (.double w24), .second, .val (.long w28), .second, .unset] [(.int (if w30 < (0 : Int32) then (0 : Int32) else (if (0 : Int32) < (lcmpW w28 w15.toInt64) then (0 : Int32) else (1 : Int32))))])) t → Steps p.tables e below (s₁.setTop (entryFrame m #[(.int n), (.int d), (.int fl)] maxLocals)) t := by
    intro t k
    refine S29 t ?_
    by_cases hc31 : w30 < (0 : Int32)
    · rw [if_pos hc31] at k
      refine XS.ifYes X0.here hx rfl (pc0 := 56) (pc' := 71) rfl (hb hby at_56) rfl ((if0 _ _).trans (tlt hc31).1) (by decide) (by decide) ?_
      show Steps p.tables e below (s₁.setTop (mkF m 71 #[.val (.int n), .val (.int d), .val (.int fl), .val (.int w15), .val (.int w19), .val (.double w24), .second, .val (.long w28), .second, .unset] [])) _
      refine XS.iconst X0.here hx rfl (hb hby at_71) ?_
      show Steps p.tables e below (s₁.setTop (mkF m 72 #[.val (.int n), .val (.int d), .val (.int fl), .val (.int w15), .val (.int w19), .val (.double w24), .second, .val (.long w28), .second, .unset] [(.int (0 : Int32))])) _
      exact k
    · rw [if_neg hc31] at k
      refine XS.ifNo X0.here hx rfl (hb hby at_56) rfl ((if0 _ _).trans (flt hc31).1) ?_
      show Steps p.tables e below (s₁.setTop (mkF m 59 #[.val (.int n), .val (.int d), .val (.int fl), .val (.int w15), .val (.int w19), .val (.double w24), .second, .val (.long w28), .second, .unset] [])) _
      refine XS.lload X0.here hx rfl (hb hby at_59) rfl ?_
      show Steps p.tables e below (s₁.setTop (mkF m 61 #[.val (.int n), .val (.int d), .val (.int fl), .val (.int w15), .val (.int w19), .val (.double w24), .second, .val (.long w28), .second, .unset] [(.long w28)])) _
      refine XS.iloadN X0.here hx rfl (hb hby at_61) rfl ?_
      show Steps p.tables e below (s₁.setTop (mkF m 62 #[.val (.int n), .val (.int d), .val (.int fl), .val (.int w15), .val (.int w19), .val (.double w24), .second, .val (.long w28), .second, .unset] [(.int w15), (.long w28)])) _
      refine XS.i2l X0.here hx rfl (hb hby at_62) rfl ?_
      show Steps p.tables e below (s₁.setTop (mkF m 63 #[.val (.int n), .val (.int d), .val (.int fl), .val (.int w15), .val (.int w19), .val (.double w24), .second, .val (.long w28), .second, .unset] [(.long w15.toInt64), (.long w28)])) _
      refine XS.lcmp X0.here hx rfl (hb hby at_63) rfl ?_
      show Steps p.tables e below (s₁.setTop (mkF m 64 #[.val (.int n), .val (.int d), .val (.int fl), .val (.int w15), .val (.int w19), .val (.double w24), .second, .val (.long w28), .second, .unset] [(.int (lcmpW w28 w15.toInt64))])) _
      by_cases hc32 : (0 : Int32) < (lcmpW w28 w15.toInt64)
      · rw [if_pos hc32] at k
        refine XS.ifYes X0.here hx rfl (pc0 := 64) (pc' := 71) rfl (hb hby at_64) rfl ((if0 _ _).trans (tlt hc32).2.2.1) (by decide) (by decide) ?_
        show Steps p.tables e below (s₁.setTop (mkF m 71 #[.val (.int n), .val (.int d), .val (.int fl), .val (.int w15), .val (.int w19), .val (.double w24), .second, .val (.long w28), .second, .unset] [])) _
        refine XS.iconst X0.here hx rfl (hb hby at_71) ?_
        show Steps p.tables e below (s₁.setTop (mkF m 72 #[.val (.int n), .val (.int d), .val (.int fl), .val (.int w15), .val (.int w19), .val (.double w24), .second, .val (.long w28), .second, .unset] [(.int (0 : Int32))])) _
        exact k
      · rw [if_neg hc32] at k
        refine XS.ifNo X0.here hx rfl (hb hby at_64) rfl ((if0 _ _).trans (flt hc32).2.2.1) ?_
        show Steps p.tables e below (s₁.setTop (mkF m 67 #[.val (.int n), .val (.int d), .val (.int fl), .val (.int w15), .val (.int w19), .val (.double w24), .second, .val (.long w28), .second, .unset] [])) _
        refine XS.iconst X0.here hx rfl (hb hby at_67) ?_
        show Steps p.tables e below (s₁.setTop (mkF m 68 #[.val (.int n), .val (.int d), .val (.int fl), .val (.int w15), .val (.int w19), .val (.double w24), .second, .val (.long w28), .second, .unset] [(.int (1 : Int32))])) _
        refine XS.goto X0.here hx rfl (pc0 := 68) (pc' := 72) rfl (hb hby at_68) (by decide) (by decide) ?_
        show Steps p.tables e below (s₁.setTop (mkF m 72 #[.val (.int n), .val (.int d), .val (.int fl), .val (.int w15), .val (.int w19), .val (.double w24), .second, .val (.long w28), .second, .unset] [(.int (1 : Int32))])) _
        exact k
  obtain ⟨w34, hw34⟩ : ∃ z : Int32, z = (if w30 < (0 : Int32) then (0 : Int32) else (if (0 : Int32) < (lcmpW w28 w15.toInt64) then (0 : Int32) else (1 : Int32))) := ⟨_, rfl⟩
  rw [← hw34] at S33
  obtain ⟨_, _, ⟨T35, L35, k35, n35⟩, -, X35, ⟨Lc35, hQ35, l35, y35, z35⟩, st35⟩ := Jvm.LawKit.callS X0 hx (y := (⟨"com/example/mixed_signals/mixedsignals/model/LanguageModels", "isWeight", "(D)Z"⟩ : MethodName)) hown (mvT hZ (hw _ (List.mem_of_getElem? (i := 1) rfl))) (mvT hZ (hw _ (List.mem_of_getElem? (i := 2) rfl))) (mvT hZ (hw _ (List.mem_of_getElem? (i := 3) rfl))) (mvT hZ (hw _ (List.mem_of_getElem? (i := 4) rfl))) (by decide) (backOf (W := 0) (rm1 l Z a0 hw [] w24 h0 n0 Z0) hZ (hw _ (List.mem_of_getElem? (i := 4) rfl)) (hw _ (List.mem_of_getElem? (i := 3) rfl)) (by decide) (by decide)) (g := (mkF m 76 #[.val (.int n), .val (.int d), .val (.int fl), .val (.int w15), .val (.int w19), .val (.double w24), .second, .val (.long w28), .second, .val (.int w34)] [(.double w24)])) rfl (by rw [hml]; rfl) (argsL := [(.double w24)]) (rest := []) (lenOf pd_0 rfl) rfl (by show 2 * 0 + _ ≤ _; exact Nat.le_of_eq rfl) (hb hby at_76) (fun _ _ => ⟨rfl, e0, (by decide : 0 + 0 ≤ _), (by decide : 0 + 0 ≤ _)⟩)
  dsimp only [Pt.U, Pt.locs, Pt.cells, Pt.slots] at X35 l35 y35 z35 st35 hQ35
  subst l35 y35 z35
  obtain ⟨rfl, N35q, e35⟩ := hQ35
  have N35 := Fr.app N0 N35q
  have S36 : ∀ t, Steps p.tables e below (T35.setTop (mkF m 81 #[.val (.int n), .val (.int d), .val (.int fl), .val (.int w15), .val (.int w19), .val (.double w24), .second, .val (.long w28), .second, .val (.int w34)] [(.int w34), (.int (f1 w24))])) t → Steps p.tables e below (s₁.setTop (entryFrame m #[(.int n), (.int d), (.int fl)] maxLocals)) t := by
    intro t k
    refine S33 t ?_
    refine XS.istore X0.here hx rfl (hb hby at_72) rfl (l' := #[.val (.int n), .val (.int d), .val (.int fl), .val (.int w15), .val (.int w19), .val (.double w24), .second, .val (.long w28), .second, .val (.int w34)]) rfl ?_
    show Steps p.tables e below (s₁.setTop (mkF m 74 #[.val (.int n), .val (.int d), .val (.int fl), .val (.int w15), .val (.int w19), .val (.double w24), .second, .val (.long w28), .second, .val (.int w34)] [])) _
    refine XS.dload X0.here hx rfl (hb hby at_74) rfl ?_
    show Steps p.tables e below (s₁.setTop (mkF m 76 #[.val (.int n), .val (.int d), .val (.int fl), .val (.int w15), .val (.int w19), .val (.double w24), .second, .val (.long w28), .second, .val (.int w34)] [(.double w24)])) _
    refine st35 _ ?_
    show Steps p.tables e below (T35.setTop (mkF m 79 #[.val (.int n), .val (.int d), .val (.int fl), .val (.int w15), .val (.int w19), .val (.double w24), .second, .val (.long w28), .second, .val (.int w34)] [(.int (f1 w24))])) _
    refine XS.iload X35.here hx rfl (hb hby at_79) rfl ?_
    show Steps p.tables e below (T35.setTop (mkF m 81 #[.val (.int n), .val (.int d), .val (.int fl), .val (.int w15), .val (.int w19), .val (.double w24), .second, .val (.long w28), .second, .val (.int w34)] [(.int w34), (.int (f1 w24))])) _
    exact k
  obtain ⟨w37, hw37⟩ : ∃ z : Int32, z = (f1 w24) := ⟨_, rfl⟩
  rw [← hw37] at S36
  have S39 : ∀ t, Steps p.tables e below (T35.setTop (mkF m 89 #[.val (.int n), .val (.int d), .val (.int fl), .val (.int w15), .val (.int w19), .val (.double w24), .second, .val (.long w28), .second, .val (.int w34)] [(.int (if w37 = w34 then (1 : Int32) else (0 : Int32)))])) t → Steps p.tables e below (s₁.setTop (entryFrame m #[(.int n), (.int d), (.int fl)] maxLocals)) t := by
    intro t k
    refine S36 t ?_
    by_cases hc38 : w37 = w34
    · rw [if_pos hc38] at k
      refine XS.icmpNo X35.here hx rfl (hb hby at_81) rfl (teq hc38).2 ?_
      show Steps p.tables e below (T35.setTop (mkF m 84 #[.val (.int n), .val (.int d), .val (.int fl), .val (.int w15), .val (.int w19), .val (.double w24), .second, .val (.long w28), .second, .val (.int w34)] [])) _
      refine XS.iconst X35.here hx rfl (hb hby at_84) ?_
      show Steps p.tables e below (T35.setTop (mkF m 85 #[.val (.int n), .val (.int d), .val (.int fl), .val (.int w15), .val (.int w19), .val (.double w24), .second, .val (.long w28), .second, .val (.int w34)] [(.int (1 : Int32))])) _
      refine XS.goto X35.here hx rfl (pc0 := 85) (pc' := 89) rfl (hb hby at_85) (by decide) (by decide) ?_
      show Steps p.tables e below (T35.setTop (mkF m 89 #[.val (.int n), .val (.int d), .val (.int fl), .val (.int w15), .val (.int w19), .val (.double w24), .second, .val (.long w28), .second, .val (.int w34)] [(.int (1 : Int32))])) _
      exact k
    · rw [if_neg hc38] at k
      refine XS.icmpYes X35.here hx rfl (pc0 := 81) (pc' := 88) rfl (hb hby at_81) rfl (feq hc38).2 (by decide) (by decide) ?_
      show Steps p.tables e below (T35.setTop (mkF m 88 #[.val (.int n), .val (.int d), .val (.int fl), .val (.int w15), .val (.int w19), .val (.double w24), .second, .val (.long w28), .second, .val (.int w34)] [])) _
      refine XS.iconst X35.here hx rfl (hb hby at_88) ?_
      show Steps p.tables e below (T35.setTop (mkF m 89 #[.val (.int n), .val (.int d), .val (.int fl), .val (.int w15), .val (.int w19), .val (.double w24), .second, .val (.long w28), .second, .val (.int w34)] [(.int (0 : Int32))])) _
      exact k
  obtain ⟨w40, hw40⟩ : ∃ z : Int32, z = (if w37 = w34 then (1 : Int32) else (0 : Int32)) := ⟨_, rfl⟩
  rw [← hw40] at S39
  have hres : w40 = (1 : Int32) := (own_law n d fl w15 hw15 w16 hw16 w19 hw19 w21 hw21 w24 hw24 w28 hw28 w30 hw30 w34 hw34 w37 hw37 w40 hw40)
  subst hres
  obtain ⟨fs, hr, hrun, hended, hW, hsame⟩ := X35.leave (v := some (.int (1 : Int32))) (fun h => by rw [Bd.returns] at h; cases h)
  refine ⟨_, _, S39 _ ?_, hrun, hended, _, _, rfl, ?_, ⟨_, rfl⟩, hW, hsame.mono (by decide) (by decide)⟩
  · exact retN X35 hx (t := .boolean) Bd.returns (by simp) (hb hby at_89) hr
  · show Q0 Z n d fl h0 n0 _ T35.heap _
    rw [e35]
    exact ⟨rfl, N35⟩
set_option maxRecDepth 65536 in
set_option maxHeartbeats 40000000 in
theorem comes_1 {Post : Tables → Env → Array Value → State → Outcome → State → Prop} (hpost : ∀ tb e args s v u, (limb_1_1.after args s (.returned v) u = true ∧ limb_1_2.after args s (.returned v) u = true ∧ True) → FrameEnd s (.returned v) u (Jvm.fieldLocs frame_1_writes args s ++ Jvm.arrayLocs frame_1_arrays args s ++ Jvm.staticLocs frame_1_statics s) 0 0 → Post tb e args s (.returned v) u) :
    ArmFor flags0 classFile x code maxLocals ret World_1 tables_1 room_1 Calls_1 rest_1 Pre_1 Post := by
  intro l hfl _ _ p e ha hc hk s m args below hf hA hF happ hP
  obtain ⟨hcalls, hrest, hpre⟩ := hP
  obtain ⟨-, -, -, hnamed, -, -, -, hat⟩ := (Spec.applies_iff hf).mp happ
  obtain ⟨hg, hn⟩ := and_e (Cond.before_iff.mp (show (Jvm.Cond.and given_1 narrow_1).before args s = true from hpre))
  obtain ⟨g1, g2⟩ := and_e hg
  obtain ⟨g3, g4⟩ := and_e g2
  obtain ⟨g5, g6⟩ := and_e g4
  obtain ⟨w0, w1, w2, rfl⟩ : ∃ w0 w1 w2 : Value, args = #[w0, w1, w2] := by
    have hs : args.size = 3 := by simpa [Cond.value, given_1] using g1
    obtain ⟨L⟩ := args
    match L, hs with
    | [w0, w1, w2], _ => exact ⟨w0, w1, w2, rfl⟩
  have hw := fun d (hd : d ∈ tables_1) => atoms_spec (ws := Jvm.Cond.code x code maxLocals ret :: tables_1) hat d (List.mem_cons_of_mem _ hd)
  have hfit : Fit s := fun {y c} hc i hi => by
    obtain ⟨ha, rfl⟩ := Array.getElem?_eq_some_iff.mp hc
    have q := List.all_eq_true.mp ((Array.all_eq_true_iff_forall_mem.mp hF) _ (Array.getElem_mem ha)) i (List.mem_range.mpr hi)
    simpa [Array.getElem?_eq_getElem hi] using q
  obtain ⟨i0, ei0⟩ := is_v g3
  obtain rfl : w0 = (.int i0) := Option.some.inj ei0
  obtain ⟨i1, ei1⟩ := is_v g5
  obtain rfl : w1 = (.int i1) := Option.some.inj ei1
  obtain ⟨i2, ei2⟩ := is_v g6
  obtain rfl : w2 = (.int i2) := Option.some.inj ei2
  obtain ⟨n, o, h1, h2, h3, _, L, rfl, ⟨rfl, N⟩, hq⟩ := rm0 l s _ hw tables_1 i0 i1 i2  s.heap s.heap.size (Nat.le_refl _)  p e ha hc hk s m _ below hf ((Spec.applies_iff_loose hf).mp happ).1 ⟨rfl, State.Warmed39.refl s, rfl⟩ trivial
  refine ⟨n, _, h1, h2, h3, hpost _ _ _ _ _ _ ⟨Cond.after_iff.mpr rfl, Cond.after_iff.mpr (eq_i res_at (Term.int_eval (1)) rfl), trivial⟩ ⟨hq.1, hq.2.1, (hq.2.2.sift fun y hy => Or.inr (N y hy)).mono (by decide) (by decide)⟩⟩
theorem main_1_1 : Claimed_1_1 := comes_1 fun _ _ _ _ _ _ h hF => ⟨h.1, hF⟩
theorem main_1_2 : Claimed_1_2 := comes_1 fun _ _ _ _ _ _ h hF => ⟨h.2.1, hF⟩
end Jvm.Pilot.@@N@@
namespace Jvm.Pilot.@@N@@
open Jvm Jvm.ClassFile Sem Op Lib Jvm.Free Jvm.Stand Jvm.Pilot.@@N@@.Jvm.D
/-! MADE BY PROGRAM (witnessworld.py) out of the Statement's table words and the real class files: 9 classes; the members and pool entries that the words name. The judged class is class 1, her method 1. -/
namespace start1
open Jvm.ClassFile
def u (s : String) : CpInfo := .utf8 (stringToUtf16 s)
/-- a pool by its gaps: so many unusable entries, then the entry; so many at the end -/
def gap : Nat → List CpInfo → List CpInfo
  | 0, r => r
  | n + 1, r => .unusable :: gap n r
def poolList (es : List (Nat × CpInfo)) (last : Nat) : List CpInfo := es.foldr (fun e r => gap e.1 (e.2 :: r)) (gap last [])
def pool (es : List (Nat × CpInfo)) (last : Nat) : Array CpInfo := ⟨poolList es last⟩
def fileOf (pool : Array CpInfo) (this : Nat) (attrs : Array Attribute := #[]) (ms : Array MethodInfo := #[]) (fl : Nat := 33) (sup : Nat := 0) (ifs : Array Nat := #[]) (fds : Array FieldInfo := #[]) : ClassFile where
  minorVersion := 0
  majorVersion := 65
  constantPool := pool
  accessFlags := fl
  thisClass := this
  superClass := sup
  interfaces := ifs
  fields := fds
  methods := ms
  attributes := attrs
def plain (name : String) (sup : Option ClassId) : Class where
  name := name
  kind := .ordinary
  loader := none
  accessFlags := 33
  super := sup
  interfaces := #[]
  cf := none
  fields := #[]
  methods := #[]
  instanceTypes := #[]
  staticTypes := #[]
  resolved := #[]
  callSites := []
  init := .initialized
  statics := none
  mirror := none

def pool0 : Array CpInfo := pool [(5, u "<init>"), (0, u "()V"), (1, .class_ 10), (1, u "java/lang/Object")] 113

def k0m0 : Method := { name := "<init>", desc := "()V", sig := { parameters := [], returnType := none }, accessFlags := 1, code := none }
/-- java/lang/Object -/
def k0 : Class := { plain "java/lang/Object" none with
  accessFlags := 33
  interfaces := #[]
  cf := some (fileOf pool0 8 #[] #[{ accessFlags := 1, nameIndex := 5, descriptorIndex := 6, attributes := #[] }] 33 0 #[] #[])
  fields := #[]
  methods := #[k0m0]
  instanceTypes := #[]
  staticTypes := #[]
  resolved := Array.replicate 124 none
  statics := none }

def pool1 : Array CpInfo := pool [(2, .class_ 4), (1, u "java/lang/Object"), (0, u "<init>"), (0, u "()V"), (0, .integer 65535), (0, .methodref 9 10), (0, .class_ 11), (0, .nameAndType 12 13), (0, u "com/example/mixed_signals/mixedsignals/model/LanguageModels"), (0, u "isWeight"), (0, u "(D)Z"), (0, .class_ 15), (0, u "com/example/mixed_signals/mixedsignals/model/LanguageModelsIsWeightPinLaw"), (2, u "law"), (0, u "(III)Z")] 3

def k1m0 : Method := { name := "<init>", desc := "()V", sig := { parameters := [], returnType := none }, accessFlags := 2, code := none }
def k1c1 : Code := { maxStack := 4, maxLocals := 10, code := code, exceptionTable := #[], attributes := #[] }
def k1m1 : Method := { name := "law", desc := "(III)Z", sig := { parameters := [.int, .int, .int], returnType := some .boolean }, accessFlags := 9, code := some k1c1 }
/-- com/example/mixed_signals/mixedsignals/model/LanguageModelsIsWeightPinLaw -/
def k1 : Class := { plain "com/example/mixed_signals/mixedsignals/model/LanguageModelsIsWeightPinLaw" (some 0) with
  accessFlags := 49
  interfaces := #[]
  cf := some (fileOf pool1 14 #[] #[{ accessFlags := 2, nameIndex := 5, descriptorIndex := 6, attributes := #[] }, { accessFlags := 9, nameIndex := 18, descriptorIndex := 19, attributes := #[] }] 49 2 #[] #[])
  fields := #[]
  methods := #[k1m0, k1m1]
  instanceTypes := #[]
  staticTypes := #[]
  resolved := Array.replicate 23 none
  statics := none }

def pool2 : Array CpInfo := pool [(2, .class_ 4), (1, u "java/lang/Object"), (0, u "<init>"), (0, u "()V"), (128, .class_ 137), (1, u "com/example/mixed_signals/mixedsignals/model/LanguageModels"), (0, u "isWeight"), (0, u "(D)Z")] 83

def k2m0 : Method := { name := "<init>", desc := "()V", sig := { parameters := [], returnType := none }, accessFlags := 2, code := none }
def k2c1 : Code := { maxStack := 4, maxLocals := 2, code := prog_33_method_4_code, exceptionTable := #[], attributes := #[] }
def k2m1 : Method := { name := "isWeight", desc := "(D)Z", sig := { parameters := [.double], returnType := some .boolean }, accessFlags := 9, code := some k2c1 }
/-- com/example/mixed_signals/mixedsignals/model/LanguageModels -/
def k2 : Class := { plain "com/example/mixed_signals/mixedsignals/model/LanguageModels" (some 0) with
  accessFlags := 49
  interfaces := #[]
  cf := some (fileOf pool2 135 #[] #[{ accessFlags := 2, nameIndex := 5, descriptorIndex := 6, attributes := #[] }, { accessFlags := 9, nameIndex := 138, descriptorIndex := 139, attributes := #[] }] 49 2 #[] #[])
  fields := #[]
  methods := #[k2m0, k2m1]
  instanceTypes := #[]
  staticTypes := #[]
  resolved := Array.replicate 223 none
  statics := none }

def pool3 : Array CpInfo := pool [(1, u "java/lang/Cloneable"), (0, .class_ 1), (0, u "java/lang/Object"), (0, .class_ 3)] 3

/-- java/lang/Cloneable -/
def k3 : Class := { plain "java/lang/Cloneable" (some 0) with
  accessFlags := 1537
  interfaces := #[]
  cf := some (fileOf pool3 2 #[] #[] 1537 4 #[] #[])
  fields := #[]
  methods := #[]
  instanceTypes := #[]
  staticTypes := #[]
  resolved := Array.replicate 8 none
  statics := none }

def pool4 : Array CpInfo := pool [(1, u "java/io/Serializable"), (0, .class_ 1), (0, u "java/lang/Object"), (0, .class_ 3)] 3

/-- java/io/Serializable -/
def k4 : Class := { plain "java/io/Serializable" (some 0) with
  accessFlags := 1537
  interfaces := #[]
  cf := some (fileOf pool4 2 #[] #[] 1537 4 #[] #[])
  fields := #[]
  methods := #[]
  instanceTypes := #[]
  staticTypes := #[]
  resolved := Array.replicate 8 none
  statics := none }

/-- the primitive byte -/
def k5 : Class := { plain "byte" none with kind := .primitive 'B', accessFlags := 0x411 }
/-- [B -/
def k6 : Class := { plain "[B" (some 0) with kind := .array 5 .byte, interfaces := #[3, 4], accessFlags := 1041 }

/-- the primitive int -/
def k7 : Class := { plain "int" none with kind := .primitive 'I', accessFlags := 0x411 }
/-- [I -/
def k8 : Class := { plain "[I" (some 0) with kind := .array 7 .int, interfaces := #[3, 4], accessFlags := 1041 }

def heap : Heap := #[]
def classes : Array Class := #[k0, k1, k2, k3, k4, k5, k6, k7, k8]
def interned : List (Array UInt16 × Addr) := []
def slotsUsed : Nat := 0
def theMethod : MethodId := ⟨1, 1⟩
def args0 : Array Value := #[.int 5, .int 6, .int 0]
def aboutOver (below : List Frame) : State where
  vm := { classes := classes, interned := interned.toArray }
  heap := heap
  slotsUsed := slotsUsed
  threads := #[{ frames := .invoking theMethod args0 :: below }]
def below0 : List Frame := [.native { method := ⟨0, 0⟩, args := #[] }]
def about1 : State := aboutOver below0
def p0 : Program := .bare "" "" ""
def e0 : Env := launch0.env 0 0 0
theorem w_frames : about1.frames = Frame.invoking theMethod args0 :: below0 := rfl
set_option maxRecDepth 65536 in
theorem w_args : argsFit about1.vm theMethod args0 = true := by decide +kernel
set_option maxRecDepth 65536 in
theorem w_heap : heapFits about1 = true := by decide +kernel
set_option maxRecDepth 65536 in
theorem w_runnable : about1.curStatus? = some .runnable := by decide +kernel
set_option maxRecDepth 65536 in
theorem w_alone : about1.alone = true := by decide +kernel
set_option maxRecDepth 65536 in
theorem w_named : about1.methodNamed? x = some theMethod := by decide +kernel
set_option maxRecDepth 65536 in
theorem w_hears : about1.hears theMethod below0 = true := by decide +kernel
set_option maxRecDepth 65536 in
theorem w_ripe : about1.ripe theMethod args0 below0 = true := by decide +kernel
theorem w_running : about1.status = .running := rfl
set_option maxRecDepth 65536 in
theorem w_room : about1.hasRoom e0.platform room_1 = true :=
  launch0.hasRoom_least _ room_1 (by decide +kernel) (by decide +kernel) (by decide +kernel) (by decide +kernel) (by decide +kernel) (by decide +kernel)
theorem allAtoms_all (ts : List Jvm.Cond) (a : Array Jvm.Value) (st : Jvm.State) : (allAtoms ts).before a st = ts.all (fun c => c.before a st) := by
  induction ts with
  | nil => rfl
  | cons c t ih =>
    show (Jvm.Cond.and c (allAtoms t)).before a st = _
    rw [Jvm.Cond.before_and, ih, List.all_cons]
def words1 : List Jvm.Cond := Jvm.Cond.code x code maxLocals ret :: tables_1
/-- a 'code' word, met by the world's own term for the bytes: nothing is compared byte by byte -/
theorem code_word {y : MethodName} {bytes : ByteArray} {mx : Nat} {rt : Option FieldType} {a : Array Value} {s : State} {m : MethodId} {meth : Method} {c : Code} (h1 : s.methodNamed? y = some m) (h2 : s.vm.method? m = some meth) (h3 : meth.code = some c) (h4 : c.code = bytes)
    (h5 : (c.maxLocals == mx && c.exceptionTable.isEmpty && decide (c.maxStack ≤ mostOperands) && decide (meth.sig.returnType = rt) && !meth.locks && decide (parseMethodDescriptor y.desc = some meth.sig)) = true) : (Jvm.Cond.code y bytes mx rt).before a s = true := by
  simp only [Bool.and_eq_true, beq_iff_eq, Bool.not_eq_true', decide_eq_true_eq] at h5
  obtain ⟨⟨⟨⟨⟨g1, g2⟩, g3⟩, g4⟩, g5⟩, g6⟩ := h5
  simp [Cond.before, Cond.holds, Cond.value, h1, h2, h3, h4, g1, g2, g3, g4, g5, g6]
def isCode : Jvm.Cond → Bool
  | .code _ _ _ _ => true
  | _ => false
theorem all_split {L : List Jvm.Cond} {P : Jvm.Cond → Bool} (h1 : L.all (fun c => isCode c || P c) = true) (h2 : ∀ c ∈ L.filter isCode, P c = true) : L.all P = true := by
  refine List.all_eq_true.mpr fun c hc => ?_
  have h := List.all_eq_true.mp h1 c hc
  rcases Bool.eq_false_or_eq_true (isCode c) with hi | hi
  · exact h2 c (List.mem_filter.mpr ⟨hc, hi⟩)
  · simpa [hi] using h
set_option maxRecDepth 65536 in
theorem w_c0 : (Jvm.Cond.code x code maxLocals ret).before args0 about1 = true := code_word (m := ⟨1, 1⟩) (meth := k1m1) (c := k1c1) (by decide +kernel) rfl rfl rfl (by decide +kernel)
set_option maxRecDepth 65536 in
theorem w_c1 : (Jvm.Cond.code ({ cls := "com/example/mixed_signals/mixedsignals/model/LanguageModels", name := "isWeight", desc := "(D)Z" } : Jvm.MethodName) prog_33_method_4_code (2 : Nat) (Option.some Jvm.ClassFile.FieldType.boolean)).before args0 about1 = true := code_word (m := ⟨2, 1⟩) (meth := k2m1) (c := k2c1) (by decide +kernel) rfl rfl rfl (by decide +kernel)
def codes1 : List Jvm.Cond := [Jvm.Cond.code x code maxLocals ret, Jvm.Cond.code ({ cls := "com/example/mixed_signals/mixedsignals/model/LanguageModels", name := "isWeight", desc := "(D)Z" } : Jvm.MethodName) prog_33_method_4_code (2 : Nat) (Option.some Jvm.ClassFile.FieldType.boolean)]
set_option maxRecDepth 65536 in
theorem codes_eq : words1.filter isCode = codes1 := rfl
theorem w_codes : ∀ c ∈ words1.filter isCode, c.before args0 about1 = true := by
  rw [codes_eq]
  intro c hc
  simp only [codes1, List.mem_cons, List.not_mem_nil, or_false] at hc
  rcases hc with rfl | rfl
  · exact w_c0
  · exact w_c1
set_option maxRecDepth 65536 in
theorem w_t1 : words1.all (fun c => isCode c || c.before args0 about1) = true := by decide +kernel
theorem w_tables : (allAtoms (Jvm.Cond.code x code maxLocals ret :: tables_1)).before args0 about1 = true := by
  rw [allAtoms_all]
  show words1.all (fun c => c.before args0 about1) = true
  refine all_split ?_ w_codes
  rw [w_t1]
set_option maxRecDepth 65536 in
theorem w_case : (Jvm.Cond.and given_1 narrow_1).before args0 about1 = true := by decide +kernel
theorem w_applies : (headSpec (Jvm.Cond.code x code maxLocals ret :: tables_1) room_1).applies x e0.platform about1 = true :=
  (Spec.applies_iff w_frames).mpr ⟨w_running, w_runnable, w_alone, w_named, w_hears, w_ripe, w_room, w_tables⟩
theorem atStart : AtStart classFile x code maxLocals ret World_1 tables_1 room_1 Calls_1 rest_1 Pre_1 launch0 p0 e0 about1 theMethod args0 below0 :=
  ⟨lists_1, trivial, launch0.admits_env _ _ _, launch0.least_env, fairChoices_fair.cas, fairChoices_fair.clock, w_frames, w_args, w_heap, w_applies, trivial, trivial, w_case⟩
end start1
theorem witness_1 : WitnessClaimed_1 := ⟨start1.p0, start1.e0, start1.about1, start1.theMethod, start1.args0, start1.below0, start1.atStart⟩
end Jvm.Pilot.@@N@@
