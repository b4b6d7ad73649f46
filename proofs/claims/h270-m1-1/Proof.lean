import JvmDerived
import JvmDerived.Pilot.@@N@@Statement
import JvmDerived.Pilot.@@N@@Code
set_option linter.unusedVariables false
set_option linter.unusedSimpArgs false
@@BLOCK:NumsL.lean.txt@@
namespace Jvm.Pilot.@@N@@
open Jvm Jvm.ClassFile Sem Op Lib Jvm.Free Jvm.Stand Jvm.LawKit Jvm.RoadKit Bundle Jvm.Pilot.@@N@@.Jvm.D
theorem own_nb {z : Int32} (h : z = 0 ∨ z = 1) : nar .boolean z = z := by rcases h with rfl | rfl <;> decide
/-! doubles as whole numbers of 2^-1074: own_zv; the rounding of a quotient of whole numbers: own_rr -/
section FloatKit
open Jvm.FP.Core
def own_zv (a : UInt64) : Int := zval b64 (val64 a)
def own_rr (A B : Nat) : Nat := zmag b64 (roundRatio b64 false A B 0)
def own_Rep (V : Nat) : Prop := ∃ d, Jvm.FP.Core.fits b64 d ∧ d ≠ .nan ∧ zmag b64 d = V
theorem own_zmag_s (s : Bool) (A B : Nat) (e : Int) : zmag b64 (roundRatio b64 s A B e) = zmag b64 (roundRatio b64 false A B e) := by
  cases s
  · rfl
  · rw [show (true : Bool) = !false from rfl, ← negate_roundRatio]
    cases roundRatio b64 false A B e <;> rfl
theorem own_zv_round {s : Bool} {A B : Nat} {a : UInt64} (h : val64 a = roundRatio b64 s A B 0) : own_zv a = signed s (own_rr A B) := by
  unfold own_zv zval
  rw [h, sgn_roundRatio, own_zmag_s]; rfl
theorem own_units0 (A : Nat) : inUnits A 0 b64.qmin = A * one64 := by
  unfold inUnits
  rw [Int.zero_sub, pow_qmin64]
theorem own_rr_zero (B : Nat) : own_rr 0 B = 0 := by
  unfold own_rr roundRatio
  rw [if_pos rfl]; simp [zmag, inUnits]
theorem own_rr_rep (A : Nat) {B : Nat} (hB : 0 < B) : own_Rep (own_rr A B) := ⟨_, roundRatio_fits good_b64 false A hB 0, roundRatio_ne_nan _ _ _ _ _, rfl⟩
theorem own_rr_le {A B V : Nat} (hB : 0 < B) (hV : own_Rep V) (h : A * one64 ≤ V * B) : own_rr A B ≤ V := by
  obtain ⟨d, h1, h2, rfl⟩ := hV
  refine zmag_roundRatio_le good_b64 hB h1 h2 (e0 := b64.qmin) (Int.le_refl _) (by decide) ?_
  rw [own_units0, Int.sub_self, Int.toNat_zero, Nat.pow_zero, Nat.mul_one]
  exact h
theorem own_rr_ge {A B V : Nat} (hB : 0 < B) (hV : own_Rep V) (h : V * B ≤ A * one64) : V ≤ own_rr A B := by
  obtain ⟨d, h1, h2, rfl⟩ := hV
  refine zmag_roundRatio_ge good_b64 hB h1 (e0 := b64.qmin) (Int.le_refl _) (by decide) ?_
  rw [own_units0, Int.sub_self, Int.toNat_zero, Nat.pow_zero, Nat.mul_one]
  exact h
theorem own_rr_exact {A B V : Nat} (hB : 0 < B) (hV : own_Rep V) (h : A * one64 = V * B) : own_rr A B = V :=
  Nat.le_antisymm (own_rr_le hB hV (Nat.le_of_eq h)) (own_rr_ge hB hV (Nat.le_of_eq h.symm))
theorem own_rr_congr {A B A' B' : Nat} (hB : 0 < B) (hB' : 0 < B') (h : A * B' = A' * B) : own_rr A B = own_rr A' B' := by
  unfold own_rr
  rw [roundRatio_congr (e' := 0) hB hB' (by simpa using h)]
/-- what is finite -/
theorem own_fin_round {s : Bool} {A B : Nat} {a : UInt64} (h : val64 a = roundRatio b64 s A B 0) (hlt : own_rr A B < b64.tails * 2 ^ (b64.exps - 2)) : DFin a := by
  rcases roundRatio_cases b64 s A B 0 with ⟨c, q, e⟩ | e
  · exact ⟨s, c, q, by rw [h, e]⟩
  · exfalso
    rw [own_rr, ← own_zmag_s s, e] at hlt
    exact Nat.lt_irrefl _ hlt
/-- m * 2^k is a double -/
theorem own_rep_pow {m k : Nat} (hm : m < 2 ^ 53) (hk : k ≤ 2045) : own_Rep (m * 2 ^ k) := by
  have hq1 : b64.qmin ≤ (k : Int) - 1074 := by rw [qmin_b64]; omega
  have hq2 : (k : Int) - 1074 ≤ b64.qmax := by rw [show b64.qmax = 971 by decide]; omega
  obtain ⟨c', q', h1, h2⟩ := round_exact good_b64 false (c := m) (q := (k : Int) - 1074) (by exact hm) hq1 hq2
  refine ⟨_, round_fits good_b64 (.fin false m ((k : Int) - 1074)), by rw [h1]; exact Datum.noConfusion, ?_⟩
  rw [h1]
  show inUnits c' q' b64.qmin = _
  rw [h2]
  unfold inUnits
  rw [qmin_b64, show ((k : Int) - 1074 - -1074).toNat = k by omega]
theorem own_rep_zero : own_Rep 0 := by
  have := own_rep_pow (m := 0) (k := 0) (by decide) (by decide)
  simpa using this
/-- rounding keeps the order -/
theorem own_rr_mono {A B A' B' : Nat} (hB : 0 < B) (hB' : 0 < B') (h : A * B' ≤ A' * B) : own_rr A B ≤ own_rr A' B' := by
  rcases roundRatio_cases b64 false A' B' 0 with ⟨c', q', e'⟩ | e'
  · rcases roundRatio_cases b64 false A B 0 with ⟨c, q, e⟩ | e
    · refine Nat.le_of_not_lt fun hlt => ?_
      have f1 : Jvm.FP.Core.fits b64 (.fin false c q) := e ▸ roundRatio_fits good_b64 false A hB 0
      have f2 : Jvm.FP.Core.fits b64 (.fin false c' q') := e' ▸ roundRatio_fits good_b64 false A' hB' 0
      have d1 := roundRatio_nearest good_b64 hB e f2.1 f2.2.1 (e0 := b64.qmin) (Int.le_refl _) (by decide)
      have d2 := roundRatio_nearest good_b64 hB' e' f1.1 f1.2.1 (e0 := b64.qmin) (Int.le_refl _) (by decide)
      unfold distance at d1 d2
      have x1 : own_rr A B = inUnits c q b64.qmin := by unfold own_rr; rw [e]; rfl
      have x2 : own_rr A' B' = inUnits c' q' b64.qmin := by unfold own_rr; rw [e']; rfl
      rw [x1, x2] at hlt
      rw [own_units0] at d1 d2
      generalize inUnits c q b64.qmin = X at *
      generalize inUnits c' q' b64.qmin = Y at *
      have hU := one64_pos
      generalize hP : A * one64 = P at *
      generalize hP' : A' * one64 = P' at *
      have hPP : P * B' ≤ P' * B := by
        rw [← hP, ← hP', Nat.mul_right_comm, Nat.mul_right_comm A']; exact Nat.mul_le_mul_right _ h
      rw [← Int.natCast_mul, ← Int.natCast_mul] at d1 d2
      have hXB : Y * B + B ≤ X * B := by rw [← Nat.succ_mul]; exact Nat.mul_le_mul_right _ hlt
      have hXB' : Y * B' + B' ≤ X * B' := by rw [← Nat.succ_mul]; exact Nat.mul_le_mul_right _ hlt
      have g1 : X * B + Y * B ≤ 2 * P := by
        generalize X * B = xb at *; generalize Y * B = yb at *; omega
      have g2 : 2 * P' ≤ X * B' + Y * B' := by
        generalize X * B' = xb at *; generalize Y * B' = yb at *; omega
      have g3 : (X * B + Y * B) * B' ≤ 2 * P * B' := Nat.mul_le_mul_right _ g1
      have g4 : 2 * P' * B ≤ (X * B' + Y * B') * B := Nat.mul_le_mul_right _ g2
      have g5 : (X * B + Y * B) * B' = (X * B' + Y * B') * B := by
        rw [Nat.add_mul, Nat.add_mul, Nat.mul_right_comm X, Nat.mul_right_comm Y]
      have g6 : P * B' = P' * B := by
        rw [Nat.mul_assoc] at g3 g4
        rw [g5] at g3
        generalize P * B' = u at *; generalize P' * B = w at *; omega
      have g7 : A * B' = A' * B := by
        rw [← hP, ← hP', Nat.mul_right_comm, Nat.mul_right_comm A'] at g6
        exact Nat.eq_of_mul_eq_mul_right hU g6
      have g8 := own_rr_congr hB hB' g7
      rw [x1, x2] at g8
      omega
    · exfalso
      have i1 := (roundRatio_inf good_b64 (s := false) (A := A) (B := B) (e := 0) (e0 := -1075) hB (by decide) (by decide)).mp e
      have i2 : ¬ _ := fun z => by
        have := (roundRatio_inf good_b64 (s := false) (A := A') (B := B') (e := 0) (e0 := -1075) hB' (by decide) (by decide)).mpr z
        rw [this] at e'; cases e'
      apply i2
      generalize (2 ^ (b64.p + 1) - 1) * 2 ^ (b64.qmax - 1 - -1075).toNat = M at *
      have hU : ∀ z, inUnits z 0 (-1075) = z * 2 ^ (0 - (-1075 : Int)).toNat := fun z => rfl
      rw [hU] at i1 ⊢
      have hW := Nat.two_pow_pos (0 - (-1075 : Int)).toNat
      generalize 2 ^ (0 - (-1075 : Int)).toNat = W at *
      have j1 : M * B * B' ≤ A * W * B' := Nat.mul_le_mul_right _ i1
      have j2 : A * W * B' ≤ A' * W * B := by
        rw [Nat.mul_right_comm, Nat.mul_right_comm A']; exact Nat.mul_le_mul_right _ h
      have j3 : M * B' * B ≤ A' * W * B := by rw [Nat.mul_right_comm]; exact Nat.le_trans j1 j2
      exact Nat.le_of_mul_le_mul_right j3 hB
  · have f1 := roundRatio_fits good_b64 false A hB 0
    unfold own_rr
    rw [e']
    exact zmag_le_top good_b64 f1
/-- the relative error -/
theorem own_rr_err {A B : Nat} (hB : 0 < B) (hn : 2 ^ 52 * B ≤ A * one64) (hlt : own_rr A B < b64.tails * 2 ^ (b64.exps - 2)) :
    2 ^ 53 * (own_rr A B * B) ≤ 2 ^ 53 * (A * one64) + A * one64 ∧ 2 ^ 53 * (A * one64) ≤ 2 ^ 53 * (own_rr A B * B) + A * one64 := by
  have hA : 0 < A := by
    rcases Nat.eq_zero_or_pos A with rfl | h
    · rw [Nat.zero_mul] at hn; have := Nat.mul_pos (show 0 < 2 ^ 52 by decide) hB; omega
    · exact h
  rcases roundRatio_cases b64 false A B 0 with ⟨c, q, e⟩ | e
  · have x1 : own_rr A B = inUnits c q b64.qmin := by unfold own_rr; rw [e]; rfl
    have e1 := e
    unfold roundRatio at e1
    rw [if_neg (by omega)] at e1
    unfold roundAt at e1
    have hq := quantum_ge b64 A B 0
    have hnb := quantum_not_below (f := b64) hA hB 0
    have hle := nearest_units_le (f := b64) hA hB 0
    generalize hr : quantum b64 A B 0 = r at *
    obtain ⟨-, s2⟩ := settle_value good_b64 hle e1 (e0 := b64.qmin) hq
    obtain ⟨n1, n2, -⟩ := nearest_spec (unitsNum A 0 r) (unitsDen B 0 r) (unitsDen_pos hB 0 r)
    generalize nearest (unitsNum A 0 r) (unitsDen B 0 r) = m at *
    rw [x1, s2]
    -- the ratio in units of 2^r is at least 2^52
    obtain ⟨k, hk⟩ : ∃ k : Nat, r = (k : Int) - 1074 := ⟨(r + 1074).toNat, by rw [qmin_b64] at hq; omega⟩
    have hm : inUnits m r b64.qmin = m * 2 ^ k := by
      unfold inUnits; rw [qmin_b64, hk, show ((k : Int) - 1074 - -1074).toNat = k by omega]
    rw [hm]
    -- A' * 2^k * g = A * one64 * g and B' * 2^k .. : scale both
    have hsc : ∃ G : Nat, 0 < G ∧ unitsNum A 0 r * 2 ^ k = A * one64 * G ∧ unitsDen B 0 r = B * G := by
      by_cases hk2 : 1074 ≤ k
      · refine ⟨2 ^ (k - 1074), Nat.two_pow_pos _, ?_, ?_⟩
        · unfold unitsNum one64
          rw [hk, show (0 - ((k : Int) - 1074)).toNat = 0 by omega, Nat.pow_zero, Nat.mul_one, Nat.mul_assoc, ← Nat.pow_add, show 1074 + (k - 1074) = k by omega]
        · unfold unitsDen
          rw [hk, show ((k : Int) - 1074 - 0).toNat = k - 1074 by omega]
      · refine ⟨1, by decide, ?_, ?_⟩
        · unfold unitsNum one64
          rw [hk, show (0 - ((k : Int) - 1074)).toNat = 1074 - k by omega, Nat.mul_one, Nat.mul_assoc, ← Nat.pow_add, show 1074 - k + k = 1074 by omega]
        · unfold unitsDen
          rw [hk, show ((k : Int) - 1074 - 0).toNat = 0 by omega, Nat.pow_zero]
    obtain ⟨G, hG, s3, s4⟩ := hsc
    have hbig : 2 ^ 52 * unitsDen B 0 r ≤ unitsNum A 0 r := by
      rcases hnb with h0 | h0
      · have hk0 : k = 0 := by rw [qmin_b64] at h0; omega
        rw [hk0, Nat.pow_zero, Nat.mul_one] at s3
        rw [s3, s4, ← Nat.mul_assoc]
        exact Nat.mul_le_mul_right _ hn
      · rw [show (b64.p : Int) - 1 = ((52 : Nat) : Int) by decide, ← units_below] at h0
        omega
    rw [s4] at n1 n2 hbig
    generalize unitsNum A 0 r = A' at *
    have hK := Nat.two_pow_pos k
    generalize 2 ^ k = K at *
    generalize A * one64 = P at *
    -- n1 : 2A' ≤ (2m+1)(B G), n2 : 2 m (B G) ≤ 2 A' + B G, hbig : 2^52 (B G) ≤ A', s3 : A' K = P G
    have t1 : 2 * (A' * K) ≤ 2 * (m * K * (B * G)) + B * G * K := by
      have := Nat.mul_le_mul_right K n1
      calc 2 * (A' * K) = 2 * A' * K := by ((try generalize Jvm.FP.Core.one64 = own_U); ac_rfl)
        _ ≤ (2 * m + 1) * (B * G) * K := this
        _ = 2 * (m * K * (B * G)) + B * G * K := by rw [Nat.add_mul, Nat.add_mul, Nat.one_mul]; ((try generalize Jvm.FP.Core.one64 = own_U); ac_rfl)
    have t2 : 2 * (m * K * (B * G)) ≤ 2 * (A' * K) + B * G * K := by
      have := Nat.mul_le_mul_right K n2
      calc 2 * (m * K * (B * G)) = 2 * m * (B * G) * K := by ((try generalize Jvm.FP.Core.one64 = own_U); ac_rfl)
        _ ≤ (2 * A' + B * G) * K := this
        _ = 2 * (A' * K) + B * G * K := by rw [Nat.add_mul]; ((try generalize Jvm.FP.Core.one64 = own_U); ac_rfl)
    have t3 : 2 ^ 52 * (B * G * K) ≤ A' * K := by
      have := Nat.mul_le_mul_right K hbig
      rw [Nat.mul_assoc] at this; exact this
    rw [s3] at t1 t2 t3
    have t4 : m * K * (B * G) = (m * K * B) * G := by ((try generalize Jvm.FP.Core.one64 = own_U); ac_rfl)
    have t5 : B * G * K = B * K * G := by ((try generalize Jvm.FP.Core.one64 = own_U); ac_rfl)
    rw [t4, t5] at t1 t2
    rw [t5] at t3
    have u1 : 2 * P ≤ 2 * (m * K * B) + B * K := by
      refine Nat.le_of_mul_le_mul_right (c := G) ?_ hG
      rw [Nat.add_mul, Nat.mul_assoc, Nat.mul_assoc 2]; exact t1
    have u2 : 2 * (m * K * B) ≤ 2 * P + B * K := by
      refine Nat.le_of_mul_le_mul_right (c := G) ?_ hG
      rw [Nat.add_mul, Nat.mul_assoc, Nat.mul_assoc 2]; exact t2
    have u3 : 2 ^ 52 * (B * K) ≤ P := by
      refine Nat.le_of_mul_le_mul_right (c := G) ?_ hG
      rw [Nat.mul_assoc]; exact t3
    generalize m * K * B = x at *
    generalize B * K = y at *
    constructor <;> omega
  · exfalso
    rw [own_rr, e] at hlt
    exact Nat.lt_irrefl _ hlt
/-! comparisons -/
theorem own_cmp {a b : UInt64} (ha : val64 a ≠ .nan) (hb : val64 b ≠ .nan) (o : CmpOp) : cmpValue (Jvm.FP.dcmp a b) o = if own_zv a < own_zv b then -1 else if own_zv a = own_zv b then 0 else 1 := by
  have h := dcmp_zval ha hb
  unfold own_zv
  show cmpValue (dcmp a b) o = _
  rw [h, compare_ite]
  by_cases h1 : zval b64 (val64 a) < zval b64 (val64 b)
  · rw [if_pos h1, if_pos h1]; rfl
  · rw [if_neg h1, if_neg h1]
    by_cases h2 : zval b64 (val64 a) = zval b64 (val64 b)
    · rw [if_pos h2, if_pos h2]; rfl
    · rw [if_neg h2, if_neg h2]; rfl
theorem own_fin_ne {a : UInt64} (h : DFin a) : val64 a ≠ .nan := h.ne_nan
theorem own_fin_nn {a : UInt64} (h : DFin a) : Jvm.Free.Fl.NoNaN64 a := Jvm.Free.Fl.val64_no.mpr h.ne_nan
/-! whole numbers -/
theorem own_i2d (x : Int32) : own_zv (Jvm.FP.i2d x) = x.toInt * (one64 : Int) := DInt_zval (i2d_int x)
theorem own_i2d_fin (x : Int32) : DFin (Jvm.FP.i2d x) := Jvm.FP.Core.i2d_fin x
theorem own_l2d {x : Int64} (h : x.toInt.natAbs ≤ 2 ^ 53) : own_zv (Jvm.FP.l2d x) = x.toInt * (one64 : Int) := DInt_zval (l2d_int h)
theorem own_l2d_fin (x : Int64) : DFin (Jvm.FP.l2d x) := Jvm.FP.Core.l2d_fin x
/-! the sign -/
theorem own_sgn {a : UInt64} (h : own_zv a ≠ 0) : sgn (val64 a) = decide (own_zv a < 0) := by
  unfold own_zv zval at *
  have hz : 0 < zmag b64 (val64 a) := Nat.pos_of_ne_zero fun q => h (by rw [q, signed_zero])
  rw [signed_lt_zero _ hz]
theorem own_natAbs (a : UInt64) : (own_zv a).natAbs = zmag b64 (val64 a) := natAbs_signed _ _
/-! division -/
theorem own_div {a b : UInt64} (ha : DFin a) (hb : DFin b) (hz : own_zv b ≠ 0) :
    val64 (Jvm.FP.ddiv a b) = roundRatio b64 (sgn (val64 a) != sgn (val64 b)) (own_zv a).natAbs (own_zv b).natAbs 0 := by
  rw [own_natAbs, own_natAbs]
  have hzb : zmag b64 (val64 b) ≠ 0 := fun q => hz (by unfold own_zv zval; rw [q, signed_zero])
  show val64 (ddiv a b) = _
  rw [val64_ddiv]
  have fa := val64_fits a
  have fb := val64_fits b
  obtain ⟨s, c, q, e1⟩ := ha
  obtain ⟨t, d, r, e2⟩ := hb
  rw [e1] at fa ⊢
  rw [e2] at fb hzb ⊢
  have hd : d ≠ 0 := fun w => hzb (by subst w; show 0 * _ = 0; exact Nat.zero_mul _)
  show (if d = 0 then _ else roundRatio b64 (s != t) c d (q - r)) = roundRatio b64 (s != t) (inUnits c q b64.qmin) (inUnits d r b64.qmin) 0
  rw [if_neg hd]
  have hq := fa.2.1
  have hr := fb.2.1
  rw [qmin_b64] at hq hr
  refine roundRatio_congr (Nat.pos_of_ne_zero hd) ?_ ?_
  · exact Nat.mul_pos (Nat.pos_of_ne_zero hd) (Nat.two_pow_pos _)
  · unfold inUnits
    rw [qmin_b64]
    obtain ⟨u, hu⟩ : ∃ u : Nat, q = (u : Int) - 1074 := ⟨(q + 1074).toNat, by omega⟩
    obtain ⟨w, hw⟩ : ∃ w : Nat, r = (w : Int) - 1074 := ⟨(r + 1074).toNat, by omega⟩
    subst hu hw
    rw [show ((u : Int) - 1074 - -1074).toNat = u by omega, show ((w : Int) - 1074 - -1074).toNat = w by omega]
    rw [show ((u : Int) - 1074 - ((w : Int) - 1074) - 0).toNat = u - w by omega, show (0 - ((u : Int) - 1074 - ((w : Int) - 1074))).toNat = w - u by omega]
    have : w + (u - w) = u + (w - u) := by omega
    calc c * (d * 2 ^ w) * 2 ^ (u - w) = c * d * 2 ^ (w + (u - w)) := by rw [Nat.pow_add]; ((try generalize Jvm.FP.Core.one64 = own_U); ac_rfl)
      _ = c * 2 ^ u * d * 2 ^ (w - u) := by rw [this, Nat.pow_add]; ((try generalize Jvm.FP.Core.one64 = own_U); ac_rfl)
theorem own_signed_abs (z : Int) : signed (decide (z < 0)) z.natAbs = z := by
  unfold signed
  by_cases h : z < 0 <;> simp [h] <;> omega
theorem own_zv_div_pos {a b : UInt64} (ha : DFin a) (hb : DFin b) (h0 : 0 ≤ own_zv a) (hz : 0 < own_zv b) : own_zv (Jvm.FP.ddiv a b) = (own_rr (own_zv a).natAbs (own_zv b).natAbs : Int) := by
  rw [own_zv_round (own_div ha hb (by omega))]
  by_cases h : own_zv a = 0
  · rw [h]; show signed _ (own_rr 0 _) = _
    rw [show (0 : Int).natAbs = 0 from rfl, own_rr_zero, signed_zero]; rfl
  · rw [own_sgn h, own_sgn (by omega), decide_eq_false (by omega), decide_eq_false (by omega)]; rfl
theorem own_zv_div_neg {a b : UInt64} (ha : DFin a) (hb : DFin b) (h0 : own_zv a ≤ 0) (hz : 0 < own_zv b) : own_zv (Jvm.FP.ddiv a b) = -(own_rr (own_zv a).natAbs (own_zv b).natAbs : Int) := by
  rw [own_zv_round (own_div ha hb (by omega))]
  by_cases h : own_zv a = 0
  · rw [h]; show signed _ (own_rr 0 _) = _
    rw [show (0 : Int).natAbs = 0 from rfl, own_rr_zero, signed_zero]; rfl
  · rw [own_sgn h, own_sgn (by omega), decide_eq_true (by omega), decide_eq_false (by omega)]; rfl
/-- a quotient of two whole numbers -/
theorem own_rr_int (i j : Nat) (hj : 0 < j) : own_rr (i * one64) (j * one64) = own_rr i j :=
  own_rr_congr (Nat.mul_pos hj one64_pos) hj (by ((try generalize Jvm.FP.Core.one64 = own_U); ac_rfl))
theorem own_natAbs_one (i : Int) : (i * (one64 : Int)).natAbs = i.natAbs * one64 := by rw [Int.natAbs_mul]; rfl
theorem own_top {V : Nat} (h : V ≤ 2 ^ 1023 * one64) : V < b64.tails * 2 ^ (b64.exps - 2) := by
  refine Nat.lt_of_le_of_lt h ?_
  decide +kernel
/-! the sign turned -/
theorem own_dneg_bits (a : UInt64) : a.toNat = (Jvm.FP.dneg a).toNat + 2 ^ 63 ∨ (Jvm.FP.dneg a).toNat = a.toNat + 2 ^ 63 := by
  have h := a.toNat_lt
  have e : (Jvm.FP.dneg a).toNat = a.toNat ^^^ 2 ^ 63 := by
    show (a ^^^ 0x8000000000000000).toNat = _
    rw [UInt64.toNat_xor]; rfl
  rw [e]
  by_cases hb : 2 ^ 63 ≤ a.toNat
  · left
    have : a.toNat ^^^ 2 ^ 63 = a.toNat - 2 ^ 63 := by
      apply Nat.eq_of_testBit_eq; intro i
      obtain ⟨k, hk⟩ : ∃ k, a.toNat = 2 ^ 63 + k := ⟨a.toNat - 2 ^ 63, by omega⟩
      have hk2 : k < 2 ^ 63 := by omega
      rw [hk, Nat.add_sub_cancel_left, Nat.testBit_xor, Nat.testBit_two_pow]
      by_cases hi : 63 = i
      · subst hi
        rw [Nat.testBit_two_pow_add_eq, Nat.testBit_lt_two_pow hk2]; rfl
      · by_cases hi2 : i < 63
        · rw [Nat.testBit_two_pow_add_gt hi2]; simp [hi]
        · have : 63 < i := by omega
          rw [Nat.testBit_lt_two_pow (Nat.lt_of_lt_of_le (show 2 ^ 63 + k < 2 ^ 64 by omega) (Nat.pow_le_pow_right (by decide) this)), Nat.testBit_lt_two_pow (Nat.lt_of_lt_of_le hk2 (Nat.pow_le_pow_right (by decide) (Nat.le_of_lt this)))]
          simp [hi]
    omega
  · right
    have : a.toNat ^^^ 2 ^ 63 = a.toNat + 2 ^ 63 := by
      apply Nat.eq_of_testBit_eq; intro i
      have hk2 : a.toNat < 2 ^ 63 := by omega
      rw [Nat.testBit_xor, Nat.testBit_two_pow, Nat.add_comm]
      by_cases hi : 63 = i
      · subst hi
        rw [Nat.testBit_two_pow_add_eq, Nat.testBit_lt_two_pow hk2]; rfl
      · by_cases hi2 : i < 63
        · rw [Nat.testBit_two_pow_add_gt hi2]; simp [hi]
        · have : 63 < i := by omega
          rw [Nat.testBit_lt_two_pow (Nat.lt_of_lt_of_le (show 2 ^ 63 + a.toNat < 2 ^ 64 by omega) (Nat.pow_le_pow_right (by decide) this)), Nat.testBit_lt_two_pow (Nat.lt_of_lt_of_le hk2 (Nat.pow_le_pow_right (by decide) (Nat.le_of_lt this)))]
          simp [hi]
    omega
theorem own_dneg_val (a : UInt64) : val64 (Jvm.FP.dneg a) = negate (val64 a) := val64_neg_bits (own_dneg_bits a)
theorem own_dneg (a : UInt64) : own_zv (Jvm.FP.dneg a) = -own_zv a := by unfold own_zv; rw [own_dneg_val, zval_negate]
theorem own_dneg_fin {a : UInt64} (h : DFin a) : DFin (Jvm.FP.dneg a) := by
  obtain ⟨s, c, q, e⟩ := h
  exact ⟨!s, c, q, by rw [own_dneg_val, e]; rfl⟩
/-! product -/
theorem own_mul {a b : UInt64} (ha : DFin a) (hb : DFin b) :
    val64 (Jvm.FP.dmul a b) = roundRatio b64 (sgn (val64 a) != sgn (val64 b)) ((own_zv a).natAbs * (own_zv b).natAbs) (one64 * one64) 0 := by
  rw [own_natAbs, own_natAbs]
  show val64 (dmul a b) = _
  rw [val64_dmul]
  have fa := val64_fits a
  have fb := val64_fits b
  obtain ⟨s, c, q, e1⟩ := ha
  obtain ⟨t, d, r, e2⟩ := hb
  rw [e1] at fa ⊢
  rw [e2] at fb ⊢
  show roundRatio b64 (s != t) (c * d) 1 (q + r) = roundRatio b64 (s != t) (inUnits c q b64.qmin * inUnits d r b64.qmin) (one64 * one64) 0
  have hq := fa.2.1
  have hr := fb.2.1
  rw [qmin_b64] at hq hr
  refine roundRatio_congr (by decide) (Nat.mul_pos one64_pos one64_pos) ?_
  unfold inUnits one64
  rw [qmin_b64]
  obtain ⟨u, hu⟩ : ∃ u : Nat, q = (u : Int) - 1074 := ⟨(q + 1074).toNat, by omega⟩
  obtain ⟨w, hw⟩ : ∃ w : Nat, r = (w : Int) - 1074 := ⟨(r + 1074).toNat, by omega⟩
  subst hu hw
  rw [show ((u : Int) - 1074 - -1074).toNat = u by omega, show ((w : Int) - 1074 - -1074).toNat = w by omega]
  rw [show ((u : Int) - 1074 + ((w : Int) - 1074) - 0).toNat = u + w - 2148 by omega, show (0 - ((u : Int) - 1074 + ((w : Int) - 1074))).toNat = 2148 - (u + w) by omega]
  generalize hx : u + w - 2148 = x
  generalize hy : 2148 - (u + w) = y
  have h5 : 1074 + (1074 + x) = u + (w + y) := by omega
  calc c * d * (2 ^ 1074 * 2 ^ 1074) * 2 ^ x = c * d * 2 ^ (1074 + (1074 + x)) := by rw [Nat.pow_add, Nat.pow_add]; generalize 2 ^ 1074 = own_W; ac_rfl
    _ = c * 2 ^ u * (d * 2 ^ w) * 1 * 2 ^ y := by rw [h5, Nat.pow_add, Nat.pow_add, Nat.mul_one]; ((try generalize Jvm.FP.Core.one64 = own_U); ac_rfl)
theorem own_zv_mul_pos {a b : UInt64} (ha : DFin a) (hb : DFin b) (h0 : 0 ≤ own_zv a) (h1 : 0 ≤ own_zv b) : own_zv (Jvm.FP.dmul a b) = (own_rr ((own_zv a).natAbs * (own_zv b).natAbs) (one64 * one64) : Int) := by
  rw [own_zv_round (own_mul ha hb)]
  by_cases h : own_zv a = 0
  · rw [h]; show signed _ (own_rr (0 * _) _) = (own_rr (0 * _) _ : Int)
    rw [Nat.zero_mul, own_rr_zero, signed_zero]; rfl
  · by_cases h' : own_zv b = 0
    · rw [h']; show signed _ (own_rr (_ * 0) _) = (own_rr (_ * 0) _ : Int)
      rw [Nat.mul_zero, own_rr_zero, signed_zero]; rfl
    · rw [own_sgn h, own_sgn h', decide_eq_false (by omega), decide_eq_false (by omega)]; rfl
/-! sum -/
theorem own_add {a b : UInt64} (ha : DFin a) (hb : DFin b) : ∃ sg, val64 (Jvm.FP.dadd a b) = roundRatio b64 sg (own_zv a + own_zv b).natAbs one64 0 ∧ signed sg (own_zv a + own_zv b).natAbs = own_zv a + own_zv b := by
  show ∃ sg, val64 (dadd a b) = _ ∧ _
  rw [val64_dadd]
  have fa := val64_fits a
  have fb := val64_fits b
  obtain ⟨s, c, q, e1⟩ := ha
  obtain ⟨t, d, r, e2⟩ := hb
  unfold own_zv
  rw [e1] at fa ⊢
  rw [e2] at fb ⊢
  obtain ⟨sg, n, e, h1, h2, h3⟩ := sum_units fa fb
  rw [h1, ← h3, natAbs_signed]
  refine ⟨sg, ?_, rfl⟩
  show roundRatio b64 sg n 1 e = _
  refine roundRatio_congr (by decide) one64_pos ?_
  unfold inUnits one64
  rw [qmin_b64] at h2 ⊢
  obtain ⟨u, hu⟩ : ∃ u : Nat, e = (u : Int) - 1074 := ⟨(e + 1074).toNat, by omega⟩
  subst hu
  rw [show ((u : Int) - 1074 - -1074).toNat = u by omega, show ((u : Int) - 1074 - 0).toNat = u - 1074 by omega, show (0 - ((u : Int) - 1074)).toNat = 1074 - u by omega]
  have h5 : 1074 + (u - 1074) = u + (1074 - u) := by omega
  calc n * 2 ^ 1074 * 2 ^ (u - 1074) = n * 2 ^ (1074 + (u - 1074)) := by rw [Nat.pow_add 2 1074 (u - 1074), Nat.mul_assoc]
    _ = n * 2 ^ u * 1 * 2 ^ (1074 - u) := by rw [h5, Nat.pow_add, Nat.mul_one]; ((try generalize Jvm.FP.Core.one64 = own_U); ac_rfl)
theorem own_zv_add_pos {a b : UInt64} (ha : DFin a) (hb : DFin b) (h0 : 0 ≤ own_zv a + own_zv b) : own_zv (Jvm.FP.dadd a b) = (own_rr (own_zv a + own_zv b).natAbs one64 : Int) := by
  obtain ⟨sg, h1, h2⟩ := own_add ha hb
  rw [own_zv_round h1]
  generalize own_zv a + own_zv b = z at *
  by_cases h : z = 0
  · subst h; show signed sg (own_rr 0 _) = (own_rr 0 _ : Int)
    rw [own_rr_zero, signed_zero]; rfl
  · have : sg = false := by
      cases sg
      · rfl
      · exfalso; simp [signed] at h2; omega
    subst this; rfl
theorem own_add_exact {a b : UInt64} (ha : DFin a) (hb : DFin b) (hr : own_Rep (own_zv a + own_zv b).natAbs) : own_zv (Jvm.FP.dadd a b) = own_zv a + own_zv b := by
  obtain ⟨sg, h1, h2⟩ := own_add ha hb
  rw [own_zv_round h1, own_rr_exact one64_pos hr rfl, h2]
theorem own_add_fin {a b : UInt64} (ha : DFin a) (hb : DFin b) (hr : own_Rep (own_zv a + own_zv b).natAbs) (hlt : (own_zv a + own_zv b).natAbs ≤ 2 ^ 1023 * one64) : DFin (Jvm.FP.dadd a b) := by
  obtain ⟨sg, h1, h2⟩ := own_add ha hb
  exact own_fin_round h1 (by rw [own_rr_exact one64_pos hr rfl]; exact own_top hlt)
theorem own_sub_eq {a b : UInt64} (hb : DFin b) : Jvm.FP.dsub a b = Jvm.FP.dadd a (Jvm.FP.dneg b) := by
  show dsub a b = dadd a (Jvm.FP.dneg b)
  rw [dsub_eq]
  congr 1
  refine (val64_inj ?_ ?_)
  · rw [val64_dneg]; exact negate_ne_nan hb.ne_nan
  · rw [val64_dneg, own_dneg_val]
theorem own_cmp_int {i j : Int} {a b : UInt64} (ha : DInt i a) (hb : DInt j b) (o : CmpOp) : cmpValue (Jvm.FP.dcmp a b) o = if i < j then -1 else if i = j then 0 else 1 := by
  show cmpValue (dcmp a b) o = _
  rw [dcmp_int ha hb, compare_ite]
  by_cases h1 : i < j
  · rw [if_pos h1, if_pos h1]; rfl
  · rw [if_neg h1, if_neg h1]
    by_cases h2 : i = j
    · rw [if_pos h2, if_pos h2]; rfl
    · rw [if_neg h2, if_neg h2]; rfl
theorem own_cmp_i (x y : Int32) (o : CmpOp) : cmpValue (Jvm.FP.dcmp (Jvm.FP.i2d x) (Jvm.FP.i2d y)) o = if x.toInt < y.toInt then -1 else if x.toInt = y.toInt then 0 else 1 := own_cmp_int (i2d_int x) (i2d_int y) o
theorem own_dneg_int {i : Int} {a : UInt64} (h : DInt i a) : DInt (-i) (Jvm.FP.dneg a) := by
  unfold DInt; rw [own_dneg_val]; exact whole_negate h
end FloatKit
theorem own_lc (x y : Int64) : lcmpW x y = if x.toInt < y.toInt then -1 else if x.toInt = y.toInt then 0 else 1 := by
  unfold lcmpW
  simp only [gt_iff_lt, Int64.lt_iff_toInt_lt, ← Int64.toInt_inj]
  by_cases h1 : x.toInt < y.toInt
  · rw [if_neg (by omega), if_neg (by omega), if_pos h1]
  · by_cases h2 : x.toInt = y.toInt
    · rw [if_neg (by omega), if_pos h2, if_neg h1, if_pos h2]
    · rw [if_pos (by omega), if_neg h1, if_neg h2]
theorem own_mod_bounds (x y : Int32) (hx : 0 ≤ x.toInt) (hy : 0 < y.toInt) : 0 ≤ (x % y).toInt ∧ (x % y).toInt < y.toInt := by
  rw [Int32.toInt_mod]; exact ⟨Int.tmod_nonneg _ hx, Int.tmod_lt_of_pos _ hy⟩
theorem own_m31 (x : Int32) : 0 ≤ (x &&& (2147483647 : Int32)).toInt := by
  rw [Jvm.Kit.i32_mask x (2147483647 : Int32) (k := 31) (by decide) (by decide)]; omega
theorem own_mask {x m : Int32} {k : Nat} (hk : k < 32) (hm : m.toBitVec.toNat = 2 ^ k - 1) : 0 ≤ (x &&& m).toInt ∧ (x &&& m).toInt < 2 ^ k := by
  rw [Jvm.Kit.i32_mask x m hk hm]
  have : (0 : Int) < 2 ^ k := Int.pow_pos (by decide)
  exact ⟨Int.emod_nonneg _ (by omega), Int.emod_lt_of_pos _ this⟩
theorem own_lc_pos (x y : Int64) : (0 : Int32) < lcmpW x y ↔ y.toInt < x.toInt := by
  rw [own_lc]
  by_cases h1 : x.toInt < y.toInt
  · rw [if_pos h1]; exact ⟨fun h => absurd h (by decide), fun h => by omega⟩
  · rw [if_neg h1]
    by_cases h2 : x.toInt = y.toInt
    · rw [if_pos h2]; exact ⟨fun h => absurd h (by decide), fun h => by omega⟩
    · rw [if_neg h2]; exact ⟨fun _ => by omega, fun _ => by decide⟩
theorem own_lc_neg (x y : Int64) : lcmpW x y < (0 : Int32) ↔ x.toInt < y.toInt := by
  rw [own_lc]
  by_cases h1 : x.toInt < y.toInt
  · rw [if_pos h1]; exact ⟨fun _ => h1, fun _ => by decide⟩
  · rw [if_neg h1]
    by_cases h2 : x.toInt = y.toInt
    · rw [if_pos h2]; exact ⟨fun h => absurd h (by decide), fun h => by omega⟩
    · rw [if_neg h2]; exact ⟨fun h => absurd h (by decide), fun h => by omega⟩
theorem own_lc_eq (x y : Int64) : lcmpW x y = (0 : Int32) ↔ x.toInt = y.toInt := by
  rw [own_lc]
  by_cases h1 : x.toInt < y.toInt
  · rw [if_pos h1]; exact ⟨fun h => absurd h (by decide), fun h => by omega⟩
  · rw [if_neg h1]
    by_cases h2 : x.toInt = y.toInt
    · rw [if_pos h2]; exact ⟨fun _ => h2, fun _ => rfl⟩
    · rw [if_neg h2]; exact ⟨fun h => absurd h (by decide), fun h => absurd h h2⟩

theorem d2_0 : decode jdk_30_method_1_code 0 = .ok (.aload_n 0, 1) := by decide +kernel
theorem d2_1 : decode jdk_30_method_1_code 1 = .ok (.invokespecial 1, 3) := by decide +kernel
theorem d2_4 : decode jdk_30_method_1_code 4 = .ok (.return_, 1) := by decide +kernel
theorem ef_2 (m : MethodId) (x0 : Addr) : entryFrame m #[(.ref x0)] 1 = mkF m 0 #[.val (.ref x0)] [] := by first | (simp [entryFrame, mkF, argsToLocals, Value.category]; done) | rfl
theorem pn_0 : plainName "java/lang/Record" = true := by first | (simp [plainName, overriddenIn]; done) | decide +kernel
def Q2 (Z : State) (a1 : Addr) (h0 : Heap) (n0 : Nat) (v : Option Value) (h : Heap) (L : List Loc) : Prop := v = none ∧ Fr n0 L ∧ h = h0
set_option maxRecDepth 65536 in
set_option maxHeartbeats 40000000 in
theorem rm2 (l : Launch) (Z : State) (a0 : Array Value) (hw : ∀ d ∈ tables_1, d.before a0 Z = true) (ws : List Jvm.Cond) (a1 : Addr) (h0 : Heap) (n0 : Nat) (Z0 : n0 ≤ h0.size)  :
    MetFree l (⟨"java/lang/Record", "<init>", "()V"⟩ : MethodName) (head1 (Jvm.Cond.code (⟨"java/lang/Record", "<init>", "()V"⟩ : MethodName) jdk_30_method_1_code 1 none :: ws) ({ frames := 1, cells := 0, slots := 0, locals := 12 } : Room)) (fun a U => a = #[(.ref a1)] ∧ Z.Warmed39 U.vm ∧ U.heap = h0) (fun _ _ _ _ _ => True) (fun _ U o U' => ∃ v L, o = .returned v ∧ Q2 Z a1 h0 n0 v U'.heap L ∧ FrameEnd U o U' L ({ frames := 1, cells := 0, slots := 0, locals := 12 } : Room).cells ({ frames := 1, cells := 0, slots := 0, locals := 12 } : Room).slots) := by
  refine MetFree.of_bodySF (plainFor_of_name pn_0) hisR ?_
  intro p e s m args below meth c s₁ Bd hml0 hP hK
  obtain ⟨rfl, hZ, hh⟩ := hP
  have hx := Bd.exec
  have hby := Bd.bytes
  have hml : c.maxLocals = 1 := hml0
  have hown : s.vm.findClass "java/lang/Record" = some m.cls := findClass_of_methodNamed Bd.named
  have hnm := (name_of_methodNamed Bd.named Bd.method).1
  have X0 : Stand p l e ({ frames := 1, cells := 0, slots := 0, locals := 12 } : Room) s m #[(.ref a1)] below meth c s₁ [] 0 0 := Stand.of_body Bd
  have e0 : s₁.heap = h0 := by rw [← hh, Bd.state]; rfl
  have N0 := Fr.nil n0
  have pre0 : ∀ t, Steps p.tables e below (s₁.setTop (mkF m 0 #[.val (.ref a1)] [])) t → Steps p.tables e below (s₁.setTop (entryFrame m #[(.ref a1)] 1)) t := fun t k => castTop (ef_2 m a1) k
  obtain ⟨T3, X3, e3, st3⟩ := initO X0 hx hZ hown (hw _ (List.mem_of_getElem? (i := 13) rfl)) (hw _ (List.mem_of_getElem? (i := 14) rfl)) (hw _ (List.mem_of_getElem? (i := 15) rfl)) e0 (g := (mkF m 1 #[.val (.ref a1)] [(.ref a1)])) rfl (by rw [hml]; rfl) rfl (hb hby d2_1) (by decide) (W := 0) (by show 2 * 0 + _ ≤ _; exact Nat.le_of_eq rfl) (by decide)
  obtain ⟨fs, hr, hrun, hended, hW, hsame⟩ := X3.leave (v := none) (fun _ => rfl)
  refine ⟨_, _, pre0 _ ?_, hrun, hended, _, _, rfl, ?_, ⟨_, rfl⟩, hW, hsame.mono (by decide) (by decide)⟩
  · refine XS.aloadN X0.here hx rfl (hb hby d2_0) rfl rfl ?_
    show Steps p.tables e below (s₁.setTop (mkF m 1 #[.val (.ref a1)] [(.ref a1)])) _
    refine st3 _ ?_
    show Steps p.tables e below (T3.setTop (mkF m 4 #[.val (.ref a1)] [])) _
    exact X3.returnOut hx Bd.returns (hb hby d2_4) hr
  · show Q2 Z a1 h0 n0 _ T3.heap _
    rw [e3]
    exact ⟨rfl, N0, rfl⟩
theorem pd_0 : parseMethodDescriptor "()V" = some ⟨[], none⟩ := by decide +kernel
theorem d1_0 : decode prog_25_method_1_code 0 = .ok (.aload_n 0, 1) := by decide +kernel
theorem d1_1 : decode prog_25_method_1_code 1 = .ok (.invokespecial 1, 3) := by decide +kernel
theorem d1_4 : decode prog_25_method_1_code 4 = .ok (.aload_n 0, 1) := by decide +kernel
theorem d1_5 : decode prog_25_method_1_code 5 = .ok (.dload_n 1, 1) := by decide +kernel
theorem d1_6 : decode prog_25_method_1_code 6 = .ok (.putfield 7, 3) := by decide +kernel
theorem d1_9 : decode prog_25_method_1_code 9 = .ok (.aload_n 0, 1) := by decide +kernel
theorem d1_10 : decode prog_25_method_1_code 10 = .ok (.dload_n 3, 1) := by decide +kernel
theorem d1_11 : decode prog_25_method_1_code 11 = .ok (.putfield 13, 3) := by decide +kernel
theorem d1_14 : decode prog_25_method_1_code 14 = .ok (.aload_n 0, 1) := by decide +kernel
theorem d1_15 : decode prog_25_method_1_code 15 = .ok (.dload 5, 2) := by decide +kernel
theorem d1_17 : decode prog_25_method_1_code 17 = .ok (.putfield 16, 3) := by decide +kernel
theorem d1_20 : decode prog_25_method_1_code 20 = .ok (.aload_n 0, 1) := by decide +kernel
theorem d1_21 : decode prog_25_method_1_code 21 = .ok (.dload 7, 2) := by decide +kernel
theorem d1_23 : decode prog_25_method_1_code 23 = .ok (.putfield 19, 3) := by decide +kernel
theorem d1_26 : decode prog_25_method_1_code 26 = .ok (.return_, 1) := by decide +kernel
theorem ef_1 (m : MethodId) (x0 : Addr) (x1 : UInt64) (x2 : UInt64) (x3 : UInt64) (x4 : UInt64) : entryFrame m #[(.ref x0), (.double x1), (.double x2), (.double x3), (.double x4)] 9 = mkF m 0 #[.val (.ref x0), .val (.double x1), .second, .val (.double x2), .second, .val (.double x3), .second, .val (.double x4), .second] [] := by first | (simp [entryFrame, mkF, argsToLocals, Value.category]; done) | rfl
theorem pn_1 : plainName "com/example/loxodrome/loxodrome/geo/geodesy/RootFinder$Bracket" = true := by first | (simp [plainName, overriddenIn]; done) | decide +kernel
def Q1 (Z : State) (a4 : Addr) (d5 : UInt64) (d6 : UInt64) (d7 : UInt64) (d8 : UInt64) (h0 : Heap) (n0 : Nat) (v : Option Value) (h : Heap) (L : List Loc) : Prop := v = none ∧ Fr n0 L ∧ Keep h0 h [a4] ∧ Exa Z h a4 "com/example/loxodrome/loxodrome/geo/geodesy/RootFinder$Bracket" ∧ Fld Z h a4 "com/example/loxodrome/loxodrome/geo/geodesy/RootFinder$Bracket" "below" "D" (.double d5) ∧ Fld Z h a4 "com/example/loxodrome/loxodrome/geo/geodesy/RootFinder$Bracket" "above" "D" (.double d6) ∧ Fld Z h a4 "com/example/loxodrome/loxodrome/geo/geodesy/RootFinder$Bracket" "valueBelow" "D" (.double d7) ∧ Fld Z h a4 "com/example/loxodrome/loxodrome/geo/geodesy/RootFinder$Bracket" "valueAbove" "D" (.double d8)
set_option maxRecDepth 65536 in
set_option maxHeartbeats 40000000 in
theorem rm1 (l : Launch) (Z : State) (a0 : Array Value) (hw : ∀ d ∈ tables_1, d.before a0 Z = true) (ws : List Jvm.Cond) (a4 : Addr) (d5 : UInt64) (d6 : UInt64) (d7 : UInt64) (d8 : UInt64) (h0 : Heap) (n0 : Nat) (Z0 : n0 ≤ h0.size) (E1 : Exa Z h0 a4 "com/example/loxodrome/loxodrome/geo/geodesy/RootFinder$Bracket") (F_below_a4 : Fld Z h0 a4 "com/example/loxodrome/loxodrome/geo/geodesy/RootFinder$Bracket" "below" "D" (.double (0 : UInt64))) (F_above_a4 : Fld Z h0 a4 "com/example/loxodrome/loxodrome/geo/geodesy/RootFinder$Bracket" "above" "D" (.double (0 : UInt64))) (F_valueBelow_a4 : Fld Z h0 a4 "com/example/loxodrome/loxodrome/geo/geodesy/RootFinder$Bracket" "valueBelow" "D" (.double (0 : UInt64))) (F_valueAbove_a4 : Fld Z h0 a4 "com/example/loxodrome/loxodrome/geo/geodesy/RootFinder$Bracket" "valueAbove" "D" (.double (0 : UInt64))) (g1 : n0 ≤ a4) :
    MetFree l (⟨"com/example/loxodrome/loxodrome/geo/geodesy/RootFinder$Bracket", "<init>", "(DDDD)V"⟩ : MethodName) (head1 (Jvm.Cond.code (⟨"com/example/loxodrome/loxodrome/geo/geodesy/RootFinder$Bracket", "<init>", "(DDDD)V"⟩ : MethodName) prog_25_method_1_code 9 none :: ws) ({ frames := 2, cells := 0, slots := 0, locals := 24 } : Room)) (fun a U => a = #[(.ref a4), (.double d5), (.double d6), (.double d7), (.double d8)] ∧ Z.Warmed39 U.vm ∧ U.heap = h0) (fun _ _ _ _ _ => True) (fun _ U o U' => ∃ v L, o = .returned v ∧ Q1 Z a4 d5 d6 d7 d8 h0 n0 v U'.heap L ∧ FrameEnd U o U' L ({ frames := 2, cells := 0, slots := 0, locals := 24 } : Room).cells ({ frames := 2, cells := 0, slots := 0, locals := 24 } : Room).slots) := by
  refine MetFree.of_bodySF (plainFor_of_name pn_1) hisR ?_
  intro p e s m args below meth c s₁ Bd hml0 hP hK
  obtain ⟨rfl, hZ, hh⟩ := hP
  have hx := Bd.exec
  have hby := Bd.bytes
  have hml : c.maxLocals = 9 := hml0
  have hown : s.vm.findClass "com/example/loxodrome/loxodrome/geo/geodesy/RootFinder$Bracket" = some m.cls := findClass_of_methodNamed Bd.named
  have hnm := (name_of_methodNamed Bd.named Bd.method).1
  have X0 : Stand p l e ({ frames := 2, cells := 0, slots := 0, locals := 24 } : Room) s m #[(.ref a4), (.double d5), (.double d6), (.double d7), (.double d8)] below meth c s₁ [] 0 0 := Stand.of_body Bd
  have e0 : s₁.heap = h0 := by rw [← hh, Bd.state]; rfl
  have N0 := Fr.nil n0
  have pre0 : ∀ t, Steps p.tables e below (s₁.setTop (mkF m 0 #[.val (.ref a4), .val (.double d5), .second, .val (.double d6), .second, .val (.double d7), .second, .val (.double d8), .second] [])) t → Steps p.tables e below (s₁.setTop (entryFrame m #[(.ref a4), (.double d5), (.double d6), (.double d7), (.double d8)] 9)) t := fun t k => castTop (ef_1 m a4 d5 d6 d7 d8) k
  obtain ⟨_, _, ⟨T9, L9, k9, n9⟩, -, X9, ⟨Lc9, hQ9, l9, y9, z9⟩, st9⟩ := X0.specialBack hx (y := (⟨"java/lang/Record", "<init>", "()V"⟩ : MethodName)) rfl hown (mvT hZ (hw _ (List.mem_of_getElem? (i := 8) rfl))) (mvT hZ (hw _ (List.mem_of_getElem? (i := 9) rfl))) (mvT hZ (hw _ (List.mem_of_getElem? (i := 12) rfl))) (by decide) (backOf (W := 0) (rm2 l Z a0 hw [] a4 h0 n0 Z0) hZ (hw _ (List.mem_of_getElem? (i := 12) rfl)) (hw _ (List.mem_of_getElem? (i := 11) rfl)) (by decide) (by decide)) (g := (mkF m 1 #[.val (.ref a4), .val (.double d5), .second, .val (.double d6), .second, .val (.double d7), .second, .val (.double d8), .second] [(.ref a4)])) rfl (by rw [hml]; rfl) (Steps.refl _) (a := a4) (argsL := []) (rest := []) (lenOf pd_0 rfl) rfl (by show 2 * 0 + _ ≤ _; exact Nat.le_of_eq rfl) (hb hby d1_1) (fun _ _ => ⟨rfl, e0, (by decide : 0 + 0 ≤ _), (by decide : 0 + 0 ≤ _)⟩)
  dsimp only [Pt.U, Pt.locs, Pt.cells, Pt.slots] at X9 l9 y9 z9 st9 hQ9
  subst l9 y9 z9
  obtain ⟨rfl, N9q, e9⟩ := hQ9
  have N9 := Fr.app N0 N9q
  obtain ⟨T10, h10, X10, e10, W10, st10⟩ := putF X9 hx hZ hown (host := "") (Or.inl (hw _ (List.mem_of_getElem? (i := 16) rfl))) Via.refl e9 F_below_a4 E1 (Or.inr ⟨(hw _ (List.mem_of_getElem? (i := 17) rfl)), rfl, hnm⟩) (hw _ (List.mem_of_getElem? (i := 3) rfl)) (ty := .double) (by decide) rfl rfl (g := (mkF m 6 #[.val (.ref a4), .val (.double d5), .second, .val (.double d6), .second, .val (.double d7), .second, .val (.double d8), .second] [(.double d5), (.ref a4)])) rfl rfl (hb hby d1_6)
  have f11 : Exa Z h10 a4 "com/example/loxodrome/loxodrome/geo/geodesy/RootFinder$Bracket" := E1.wr W10
  have f12 : Fld Z h10 a4 "com/example/loxodrome/loxodrome/geo/geodesy/RootFinder$Bracket" "below" "D" (.double d5) := F_below_a4.same W10
  have f13 : Fld Z h10 a4 "com/example/loxodrome/loxodrome/geo/geodesy/RootFinder$Bracket" "above" "D" (.double (0 : UInt64)) := F_above_a4.other W10 (Or.inr (slot_ne (Or.inr (hw _ (List.mem_of_getElem? (i := 19) rfl))) (Or.inr (hw _ (List.mem_of_getElem? (i := 17) rfl))) (by decide) (t := .double) (t' := .double) (by decide) (by decide)))
  have f14 : Fld Z h10 a4 "com/example/loxodrome/loxodrome/geo/geodesy/RootFinder$Bracket" "valueBelow" "D" (.double (0 : UInt64)) := F_valueBelow_a4.other W10 (Or.inr (slot_ne (Or.inr (hw _ (List.mem_of_getElem? (i := 21) rfl))) (Or.inr (hw _ (List.mem_of_getElem? (i := 17) rfl))) (by decide) (t := .double) (t' := .double) (by decide) (by decide)))
  have f15 : Fld Z h10 a4 "com/example/loxodrome/loxodrome/geo/geodesy/RootFinder$Bracket" "valueAbove" "D" (.double (0 : UInt64)) := F_valueAbove_a4.other W10 (Or.inr (slot_ne (Or.inr (hw _ (List.mem_of_getElem? (i := 23) rfl))) (Or.inr (hw _ (List.mem_of_getElem? (i := 17) rfl))) (by decide) (t := .double) (t' := .double) (by decide) (by decide)))
  have N16 := Fr.snoc X10 N9 g1
  have K17 : Keep h0 h10 [a4] := (Keep.refl h0 [a4]).wr W10 (Or.inl (List.mem_of_getElem? (i := 0) rfl))
  have Z18 : n0 ≤ h10.size := Nat.le_trans Z0 (Keep.of_wr W10).1
  obtain ⟨T19, h19, X19, e19, W19, st19⟩ := putF X10 hx hZ hown (host := "") (Or.inl (hw _ (List.mem_of_getElem? (i := 18) rfl))) Via.refl e10 f13 f11 (Or.inr ⟨(hw _ (List.mem_of_getElem? (i := 19) rfl)), rfl, hnm⟩) (hw _ (List.mem_of_getElem? (i := 3) rfl)) (ty := .double) (by decide) rfl rfl (g := (mkF m 11 #[.val (.ref a4), .val (.double d5), .second, .val (.double d6), .second, .val (.double d7), .second, .val (.double d8), .second] [(.double d6), (.ref a4)])) rfl rfl (hb hby d1_11)
  have f20 : Exa Z h19 a4 "com/example/loxodrome/loxodrome/geo/geodesy/RootFinder$Bracket" := f11.wr W19
  have f21 : Fld Z h19 a4 "com/example/loxodrome/loxodrome/geo/geodesy/RootFinder$Bracket" "below" "D" (.double d5) := f12.other W19 (Or.inr (slot_ne (Or.inr (hw _ (List.mem_of_getElem? (i := 17) rfl))) (Or.inr (hw _ (List.mem_of_getElem? (i := 19) rfl))) (by decide) (t := .double) (t' := .double) (by decide) (by decide)))
  have f22 : Fld Z h19 a4 "com/example/loxodrome/loxodrome/geo/geodesy/RootFinder$Bracket" "above" "D" (.double d6) := f13.same W19
  have f23 : Fld Z h19 a4 "com/example/loxodrome/loxodrome/geo/geodesy/RootFinder$Bracket" "valueBelow" "D" (.double (0 : UInt64)) := f14.other W19 (Or.inr (slot_ne (Or.inr (hw _ (List.mem_of_getElem? (i := 21) rfl))) (Or.inr (hw _ (List.mem_of_getElem? (i := 19) rfl))) (by decide) (t := .double) (t' := .double) (by decide) (by decide)))
  have f24 : Fld Z h19 a4 "com/example/loxodrome/loxodrome/geo/geodesy/RootFinder$Bracket" "valueAbove" "D" (.double (0 : UInt64)) := f15.other W19 (Or.inr (slot_ne (Or.inr (hw _ (List.mem_of_getElem? (i := 23) rfl))) (Or.inr (hw _ (List.mem_of_getElem? (i := 19) rfl))) (by decide) (t := .double) (t' := .double) (by decide) (by decide)))
  have N25 := Fr.snoc X19 N16 g1
  have K26 : Keep h0 h19 [a4] := K17.wr W19 (Or.inl (List.mem_of_getElem? (i := 0) rfl))
  have Z27 : n0 ≤ h19.size := Nat.le_trans Z18 (Keep.of_wr W19).1
  obtain ⟨T28, h28, X28, e28, W28, st28⟩ := putF X19 hx hZ hown (host := "") (Or.inl (hw _ (List.mem_of_getElem? (i := 20) rfl))) Via.refl e19 f23 f20 (Or.inr ⟨(hw _ (List.mem_of_getElem? (i := 21) rfl)), rfl, hnm⟩) (hw _ (List.mem_of_getElem? (i := 3) rfl)) (ty := .double) (by decide) rfl rfl (g := (mkF m 17 #[.val (.ref a4), .val (.double d5), .second, .val (.double d6), .second, .val (.double d7), .second, .val (.double d8), .second] [(.double d7), (.ref a4)])) rfl rfl (hb hby d1_17)
  have f29 : Exa Z h28 a4 "com/example/loxodrome/loxodrome/geo/geodesy/RootFinder$Bracket" := f20.wr W28
  have f30 : Fld Z h28 a4 "com/example/loxodrome/loxodrome/geo/geodesy/RootFinder$Bracket" "below" "D" (.double d5) := f21.other W28 (Or.inr (slot_ne (Or.inr (hw _ (List.mem_of_getElem? (i := 17) rfl))) (Or.inr (hw _ (List.mem_of_getElem? (i := 21) rfl))) (by decide) (t := .double) (t' := .double) (by decide) (by decide)))
  have f31 : Fld Z h28 a4 "com/example/loxodrome/loxodrome/geo/geodesy/RootFinder$Bracket" "above" "D" (.double d6) := f22.other W28 (Or.inr (slot_ne (Or.inr (hw _ (List.mem_of_getElem? (i := 19) rfl))) (Or.inr (hw _ (List.mem_of_getElem? (i := 21) rfl))) (by decide) (t := .double) (t' := .double) (by decide) (by decide)))
  have f32 : Fld Z h28 a4 "com/example/loxodrome/loxodrome/geo/geodesy/RootFinder$Bracket" "valueBelow" "D" (.double d7) := f23.same W28
  have f33 : Fld Z h28 a4 "com/example/loxodrome/loxodrome/geo/geodesy/RootFinder$Bracket" "valueAbove" "D" (.double (0 : UInt64)) := f24.other W28 (Or.inr (slot_ne (Or.inr (hw _ (List.mem_of_getElem? (i := 23) rfl))) (Or.inr (hw _ (List.mem_of_getElem? (i := 21) rfl))) (by decide) (t := .double) (t' := .double) (by decide) (by decide)))
  have N34 := Fr.snoc X28 N25 g1
  have K35 : Keep h0 h28 [a4] := K26.wr W28 (Or.inl (List.mem_of_getElem? (i := 0) rfl))
  have Z36 : n0 ≤ h28.size := Nat.le_trans Z27 (Keep.of_wr W28).1
  obtain ⟨T37, h37, X37, e37, W37, st37⟩ := putF X28 hx hZ hown (host := "") (Or.inl (hw _ (List.mem_of_getElem? (i := 22) rfl))) Via.refl e28 f33 f29 (Or.inr ⟨(hw _ (List.mem_of_getElem? (i := 23) rfl)), rfl, hnm⟩) (hw _ (List.mem_of_getElem? (i := 3) rfl)) (ty := .double) (by decide) rfl rfl (g := (mkF m 23 #[.val (.ref a4), .val (.double d5), .second, .val (.double d6), .second, .val (.double d7), .second, .val (.double d8), .second] [(.double d8), (.ref a4)])) rfl rfl (hb hby d1_23)
  have f38 : Exa Z h37 a4 "com/example/loxodrome/loxodrome/geo/geodesy/RootFinder$Bracket" := f29.wr W37
  have f39 : Fld Z h37 a4 "com/example/loxodrome/loxodrome/geo/geodesy/RootFinder$Bracket" "below" "D" (.double d5) := f30.other W37 (Or.inr (slot_ne (Or.inr (hw _ (List.mem_of_getElem? (i := 17) rfl))) (Or.inr (hw _ (List.mem_of_getElem? (i := 23) rfl))) (by decide) (t := .double) (t' := .double) (by decide) (by decide)))
  have f40 : Fld Z h37 a4 "com/example/loxodrome/loxodrome/geo/geodesy/RootFinder$Bracket" "above" "D" (.double d6) := f31.other W37 (Or.inr (slot_ne (Or.inr (hw _ (List.mem_of_getElem? (i := 19) rfl))) (Or.inr (hw _ (List.mem_of_getElem? (i := 23) rfl))) (by decide) (t := .double) (t' := .double) (by decide) (by decide)))
  have f41 : Fld Z h37 a4 "com/example/loxodrome/loxodrome/geo/geodesy/RootFinder$Bracket" "valueBelow" "D" (.double d7) := f32.other W37 (Or.inr (slot_ne (Or.inr (hw _ (List.mem_of_getElem? (i := 21) rfl))) (Or.inr (hw _ (List.mem_of_getElem? (i := 23) rfl))) (by decide) (t := .double) (t' := .double) (by decide) (by decide)))
  have f42 : Fld Z h37 a4 "com/example/loxodrome/loxodrome/geo/geodesy/RootFinder$Bracket" "valueAbove" "D" (.double d8) := f33.same W37
  have N43 := Fr.snoc X37 N34 g1
  have K44 : Keep h0 h37 [a4] := K35.wr W37 (Or.inl (List.mem_of_getElem? (i := 0) rfl))
  have Z45 : n0 ≤ h37.size := Nat.le_trans Z36 (Keep.of_wr W37).1
  obtain ⟨fs, hr, hrun, hended, hW, hsame⟩ := X37.leave (v := none) (fun _ => rfl)
  refine ⟨_, _, pre0 _ ?_, hrun, hended, _, _, rfl, ?_, ⟨_, rfl⟩, hW, hsame.mono (by decide) (by decide)⟩
  · refine XS.aloadN X0.here hx rfl (hb hby d1_0) rfl rfl ?_
    show Steps p.tables e below (s₁.setTop (mkF m 1 #[.val (.ref a4), .val (.double d5), .second, .val (.double d6), .second, .val (.double d7), .second, .val (.double d8), .second] [(.ref a4)])) _
    refine st9.trans ?_
    show Steps p.tables e below (T9.setTop (mkF m 4 #[.val (.ref a4), .val (.double d5), .second, .val (.double d6), .second, .val (.double d7), .second, .val (.double d8), .second] [])) _
    refine XS.aloadN X9.here hx rfl (hb hby d1_4) rfl rfl ?_
    show Steps p.tables e below (T9.setTop (mkF m 5 #[.val (.ref a4), .val (.double d5), .second, .val (.double d6), .second, .val (.double d7), .second, .val (.double d8), .second] [(.ref a4)])) _
    refine XS.dloadN X9.here hx rfl (hb hby d1_5) rfl ?_
    show Steps p.tables e below (T9.setTop (mkF m 6 #[.val (.ref a4), .val (.double d5), .second, .val (.double d6), .second, .val (.double d7), .second, .val (.double d8), .second] [(.double d5), (.ref a4)])) _
    refine st10 _ ?_
    show Steps p.tables e below (T10.setTop (mkF m 9 #[.val (.ref a4), .val (.double d5), .second, .val (.double d6), .second, .val (.double d7), .second, .val (.double d8), .second] [])) _
    refine XS.aloadN X10.here hx rfl (hb hby d1_9) rfl rfl ?_
    show Steps p.tables e below (T10.setTop (mkF m 10 #[.val (.ref a4), .val (.double d5), .second, .val (.double d6), .second, .val (.double d7), .second, .val (.double d8), .second] [(.ref a4)])) _
    refine XS.dloadN X10.here hx rfl (hb hby d1_10) rfl ?_
    show Steps p.tables e below (T10.setTop (mkF m 11 #[.val (.ref a4), .val (.double d5), .second, .val (.double d6), .second, .val (.double d7), .second, .val (.double d8), .second] [(.double d6), (.ref a4)])) _
    refine st19 _ ?_
    show Steps p.tables e below (T19.setTop (mkF m 14 #[.val (.ref a4), .val (.double d5), .second, .val (.double d6), .second, .val (.double d7), .second, .val (.double d8), .second] [])) _
    refine XS.aloadN X19.here hx rfl (hb hby d1_14) rfl rfl ?_
    show Steps p.tables e below (T19.setTop (mkF m 15 #[.val (.ref a4), .val (.double d5), .second, .val (.double d6), .second, .val (.double d7), .second, .val (.double d8), .second] [(.ref a4)])) _
    refine XS.dload X19.here hx rfl (hb hby d1_15) rfl ?_
    show Steps p.tables e below (T19.setTop (mkF m 17 #[.val (.ref a4), .val (.double d5), .second, .val (.double d6), .second, .val (.double d7), .second, .val (.double d8), .second] [(.double d7), (.ref a4)])) _
    refine st28 _ ?_
    show Steps p.tables e below (T28.setTop (mkF m 20 #[.val (.ref a4), .val (.double d5), .second, .val (.double d6), .second, .val (.double d7), .second, .val (.double d8), .second] [])) _
    refine XS.aloadN X28.here hx rfl (hb hby d1_20) rfl rfl ?_
    show Steps p.tables e below (T28.setTop (mkF m 21 #[.val (.ref a4), .val (.double d5), .second, .val (.double d6), .second, .val (.double d7), .second, .val (.double d8), .second] [(.ref a4)])) _
    refine XS.dload X28.here hx rfl (hb hby d1_21) rfl ?_
    show Steps p.tables e below (T28.setTop (mkF m 23 #[.val (.ref a4), .val (.double d5), .second, .val (.double d6), .second, .val (.double d7), .second, .val (.double d8), .second] [(.double d8), (.ref a4)])) _
    refine st37 _ ?_
    show Steps p.tables e below (T37.setTop (mkF m 26 #[.val (.ref a4), .val (.double d5), .second, .val (.double d6), .second, .val (.double d7), .second, .val (.double d8), .second] [])) _
    exact X37.returnOut hx Bd.returns (hb hby d1_26) hr
  · show Q1 Z a4 d5 d6 d7 d8 h0 n0 _ T37.heap _
    rw [e37]
    exact ⟨rfl, N43, K44, f38, f39, f40, f41, f42⟩
def f4 (z47 : UInt64) (z49 : UInt64) (z54 : UInt64) (z57 : UInt64) : UInt64 := (if (0 : Int32) < (cmpValue (FP.dcmp (FP.dneg z47) z49) .g) then z54 else z57)
theorem d4_0 : decode prog_25_method_2_code 0 = .ok (.aload_n 0, 1) := by decide +kernel
theorem d4_1 : decode prog_25_method_2_code 1 = .ok (.getfield 16, 3) := by decide +kernel
theorem d4_4 : decode prog_25_method_2_code 4 = .ok (.dneg, 1) := by decide +kernel
theorem d4_5 : decode prog_25_method_2_code 5 = .ok (.aload_n 0, 1) := by decide +kernel
theorem d4_6 : decode prog_25_method_2_code 6 = .ok (.getfield 19, 3) := by decide +kernel
theorem d4_9 : decode prog_25_method_2_code 9 = .ok (.dcmp .g, 1) := by decide +kernel
theorem d4_10 : decode prog_25_method_2_code 10 = .ok (.ifCond .gt 10, 3) := by decide +kernel
theorem d4_13 : decode prog_25_method_2_code 13 = .ok (.aload_n 0, 1) := by decide +kernel
theorem d4_14 : decode prog_25_method_2_code 14 = .ok (.getfield 7, 3) := by decide +kernel
theorem d4_17 : decode prog_25_method_2_code 17 = .ok (.goto 7, 3) := by decide +kernel
theorem d4_20 : decode prog_25_method_2_code 20 = .ok (.aload_n 0, 1) := by decide +kernel
theorem d4_21 : decode prog_25_method_2_code 21 = .ok (.getfield 13, 3) := by decide +kernel
theorem d4_24 : decode prog_25_method_2_code 24 = .ok (.dreturn, 1) := by decide +kernel
theorem ef_4 (m : MethodId) (x0 : Addr) : entryFrame m #[(.ref x0)] 1 = mkF m 0 #[.val (.ref x0)] [] := by first | (simp [entryFrame, mkF, argsToLocals, Value.category]; done) | rfl
def Q4 (Z : State) (a46 : Addr) (z47 : UInt64) (z49 : UInt64) (z54 : UInt64) (z57 : UInt64) (h0 : Heap) (n0 : Nat) (v : Option Value) (h : Heap) (L : List Loc) : Prop := v = some (.double (f4 z47 z49 z54 z57)) ∧ Fr n0 L ∧ h = h0
set_option maxRecDepth 65536 in
set_option maxHeartbeats 40000000 in
theorem rm4 (l : Launch) (Z : State) (a0 : Array Value) (hw : ∀ d ∈ tables_1, d.before a0 Z = true) (ws : List Jvm.Cond) (a46 : Addr) (z47 : UInt64) (z49 : UInt64) (z54 : UInt64) (z57 : UInt64) (h0 : Heap) (n0 : Nat) (Z0 : n0 ≤ h0.size) (F_valueBelow_a46 : Fld Z h0 a46 "com/example/loxodrome/loxodrome/geo/geodesy/RootFinder$Bracket" "valueBelow" "D" (.double z47)) (F_valueAbove_a46 : Fld Z h0 a46 "com/example/loxodrome/loxodrome/geo/geodesy/RootFinder$Bracket" "valueAbove" "D" (.double z49)) (F_above_a46 : Fld Z h0 a46 "com/example/loxodrome/loxodrome/geo/geodesy/RootFinder$Bracket" "above" "D" (.double z54)) (F_below_a46 : Fld Z h0 a46 "com/example/loxodrome/loxodrome/geo/geodesy/RootFinder$Bracket" "below" "D" (.double z57)) :
    MetFree l (⟨"com/example/loxodrome/loxodrome/geo/geodesy/RootFinder$Bracket", "nearerEnd", "()D"⟩ : MethodName) (head1 (Jvm.Cond.code (⟨"com/example/loxodrome/loxodrome/geo/geodesy/RootFinder$Bracket", "nearerEnd", "()D"⟩ : MethodName) prog_25_method_2_code 1 (some .double) :: ws) ({ frames := 0, cells := 0, slots := 0, locals := 0 } : Room)) (fun a U => a = #[(.ref a46)] ∧ Z.Warmed39 U.vm ∧ U.heap = h0) (fun _ _ _ _ _ => True) (fun _ U o U' => ∃ v L, o = .returned v ∧ Q4 Z a46 z47 z49 z54 z57 h0 n0 v U'.heap L ∧ FrameEnd U o U' L ({ frames := 0, cells := 0, slots := 0, locals := 0 } : Room).cells ({ frames := 0, cells := 0, slots := 0, locals := 0 } : Room).slots) := by
  refine MetFree.of_bodySF (plainFor_of_name pn_1) hisR ?_
  intro p e s m args below meth c s₁ Bd hml0 hP hK
  obtain ⟨rfl, hZ, hh⟩ := hP
  have hx := Bd.exec
  have hby := Bd.bytes
  have hml : c.maxLocals = 1 := hml0
  have hown : s.vm.findClass "com/example/loxodrome/loxodrome/geo/geodesy/RootFinder$Bracket" = some m.cls := findClass_of_methodNamed Bd.named
  have hnm := (name_of_methodNamed Bd.named Bd.method).1
  have X0 : Stand p l e ({ frames := 0, cells := 0, slots := 0, locals := 0 } : Room) s m #[(.ref a46)] below meth c s₁ [] 0 0 := Stand.of_body Bd
  have e0 : s₁.heap = h0 := by rw [← hh, Bd.state]; rfl
  have N0 := Fr.nil n0
  have pre0 : ∀ t, Steps p.tables e below (s₁.setTop (mkF m 0 #[.val (.ref a46)] [])) t → Steps p.tables e below (s₁.setTop (entryFrame m #[(.ref a46)] 1)) t := fun t k => castTop (ef_4 m a46) k
  obtain ⟨T60, X60, e60, st60⟩ := getF X0 hx hZ hown (host := "") (Or.inl (hw _ (List.mem_of_getElem? (i := 20) rfl))) Via.refl e0 F_valueBelow_a46 (g := (mkF m 1 #[.val (.ref a46)] [(.ref a46)])) rfl rfl (hb hby d4_1)
  obtain ⟨T61, X61, e61, st61⟩ := getF X60 hx hZ hown (host := "") (Or.inl (hw _ (List.mem_of_getElem? (i := 22) rfl))) Via.refl e60 F_valueAbove_a46 (g := (mkF m 6 #[.val (.ref a46)] [(.ref a46), (.double (FP.dneg z47))])) rfl rfl (hb hby d4_6)
  have S62 : ∀ t, Steps p.tables e below (T61.setTop (mkF m 10 #[.val (.ref a46)] [(.int (cmpValue (FP.dcmp (FP.dneg z47) z49) .g))])) t → Steps p.tables e below (s₁.setTop (entryFrame m #[(.ref a46)] 1)) t := by
    intro t k
    refine pre0 t ?_
    refine XS.aloadN X0.here hx rfl (hb hby d4_0) rfl rfl ?_
    show Steps p.tables e below (s₁.setTop (mkF m 1 #[.val (.ref a46)] [(.ref a46)])) _
    refine st60 _ ?_
    show Steps p.tables e below (T60.setTop (mkF m 4 #[.val (.ref a46)] [(.double z47)])) _
    refine XS.dnegS X60.here hx rfl (hb hby d4_4) rfl rfl ?_
    show Steps p.tables e below (T60.setTop (mkF m 5 #[.val (.ref a46)] [(.double (FP.dneg z47))])) _
    refine XS.aloadN X60.here hx rfl (hb hby d4_5) rfl rfl ?_
    show Steps p.tables e below (T60.setTop (mkF m 6 #[.val (.ref a46)] [(.ref a46), (.double (FP.dneg z47))])) _
    refine st61 _ ?_
    show Steps p.tables e below (T61.setTop (mkF m 9 #[.val (.ref a46)] [(.double z49), (.double (FP.dneg z47))])) _
    refine XS.dcmpS X61.here hx rfl (hb hby d4_9) rfl rfl ?_
    show Steps p.tables e below (T61.setTop (mkF m 10 #[.val (.ref a46)] [(.int (cmpValue (FP.dcmp (FP.dneg z47) z49) .g))])) _
    exact k
  obtain ⟨w63, hw63⟩ : ∃ z : Int32, z = (cmpValue (FP.dcmp (FP.dneg z47) z49) .g) := ⟨_, rfl⟩
  rw [← hw63] at S62
  by_cases hc64 : (0 : Int32) < w63
  · obtain ⟨T65, X65, e65, st65⟩ := getF X61 hx hZ hown (host := "") (Or.inl (hw _ (List.mem_of_getElem? (i := 18) rfl))) Via.refl e61 F_above_a46 (g := (mkF m 21 #[.val (.ref a46)] [(.ref a46)])) rfl rfl (hb hby d4_21)
    have S66 : ∀ t, Steps p.tables e below (T65.setTop (mkF m 24 #[.val (.ref a46)] [(.double z54)])) t → Steps p.tables e below (s₁.setTop (entryFrame m #[(.ref a46)] 1)) t := by
      intro t k
      refine S62 t ?_
      refine XS.ifYes X61.here hx rfl (pc0 := 10) (pc' := 20) rfl (hb hby d4_10) rfl ((if0 _ _).trans (tlt hc64).2.2.1) (by decide) (by decide) ?_
      show Steps p.tables e below (T61.setTop (mkF m 20 #[.val (.ref a46)] [])) _
      refine XS.aloadN X61.here hx rfl (hb hby d4_20) rfl rfl ?_
      show Steps p.tables e below (T61.setTop (mkF m 21 #[.val (.ref a46)] [(.ref a46)])) _
      refine st65 _ ?_
      show Steps p.tables e below (T65.setTop (mkF m 24 #[.val (.ref a46)] [(.double z54)])) _
      exact k
    have hf : f4 z47 z49 z54 z57 = z54 := by
      unfold f4
      subst hw63
      rw [if_pos hc64]
    obtain ⟨fs, hr, hrun, hended, hW, hsame⟩ := X65.leave (v := some (.double z54)) (fun h => by rw [Bd.returns] at h; cases h)
    refine ⟨_, _, S66 _ ?_, hrun, hended, _, _, rfl, ?_, ⟨_, rfl⟩, hW, hsame.mono (by decide) (by decide)⟩
    · exact retOut X65 hx Bd.returns rfl (Or.inr (Or.inr (Or.inl ⟨rfl, rfl, _, rfl⟩))) (hb hby d4_24) hr
    · show Q4 Z a46 z47 z49 z54 z57 h0 n0 _ T65.heap _
      rw [e65]
      exact ⟨by rw [hf], N0, rfl⟩
  · obtain ⟨T67, X67, e67, st67⟩ := getF X61 hx hZ hown (host := "") (Or.inl (hw _ (List.mem_of_getElem? (i := 16) rfl))) Via.refl e61 F_below_a46 (g := (mkF m 14 #[.val (.ref a46)] [(.ref a46)])) rfl rfl (hb hby d4_14)
    have S68 : ∀ t, Steps p.tables e below (T67.setTop (mkF m 24 #[.val (.ref a46)] [(.double z57)])) t → Steps p.tables e below (s₁.setTop (entryFrame m #[(.ref a46)] 1)) t := by
      intro t k
      refine S62 t ?_
      refine XS.ifNo X61.here hx rfl (hb hby d4_10) rfl ((if0 _ _).trans (flt hc64).2.2.1) ?_
      show Steps p.tables e below (T61.setTop (mkF m 13 #[.val (.ref a46)] [])) _
      refine XS.aloadN X61.here hx rfl (hb hby d4_13) rfl rfl ?_
      show Steps p.tables e below (T61.setTop (mkF m 14 #[.val (.ref a46)] [(.ref a46)])) _
      refine st67 _ ?_
      show Steps p.tables e below (T67.setTop (mkF m 17 #[.val (.ref a46)] [(.double z57)])) _
      refine XS.goto X67.here hx rfl (pc0 := 17) (pc' := 24) rfl (hb hby d4_17) (by decide) (by decide) ?_
      show Steps p.tables e below (T67.setTop (mkF m 24 #[.val (.ref a46)] [(.double z57)])) _
      exact k
    have hf : f4 z47 z49 z54 z57 = z57 := by
      unfold f4
      subst hw63
      rw [if_neg hc64]
    obtain ⟨fs, hr, hrun, hended, hW, hsame⟩ := X67.leave (v := some (.double z57)) (fun h => by rw [Bd.returns] at h; cases h)
    refine ⟨_, _, S68 _ ?_, hrun, hended, _, _, rfl, ?_, ⟨_, rfl⟩, hW, hsame.mono (by decide) (by decide)⟩
    · exact retOut X67 hx Bd.returns rfl (Or.inr (Or.inr (Or.inl ⟨rfl, rfl, _, rfl⟩))) (hb hby d4_24) hr
    · show Q4 Z a46 z47 z49 z54 z57 h0 n0 _ T67.heap _
      rw [e67]
      exact ⟨by rw [hf], N0, rfl⟩
theorem own_m32 (x : Int64) : 0 ≤ (x &&& (4294967295 : Int64)).toInt ∧ (x &&& (4294967295 : Int64)).toInt < 4294967296 := by
  have h := Jvm.Kit.i64_mask x (4294967295 : Int64) (k := 32) (by decide) (by decide)
  rw [h]; omega
theorem own_cmpk {v2 v3 v8 v11 : Int64} {v5 v6 v9 v12 : UInt64} {b1 b2 : Prop} [Decidable b1] [Decidable b2] (m2 : 0 ≤ v2.toInt ∧ v2.toInt < 4294967296) (m3 : 0 ≤ v3.toInt ∧ v3.toInt < 4294967296)
    (hv5 : v5 = (FP.dneg (FP.l2d v2))) (hv6 : v6 = (FP.l2d v3)) (hv8 : v8 = (if b1 then v2 else (9223372036854775807 : Int64))) (hv9 : v9 = (if b1 then v5 else (18442240474082181120 : UInt64)))
    (hv11 : v11 = (if b2 then v3 else (9223372036854775807 : Int64))) (hv12 : v12 = (if b2 then v6 else (9218868437227405312 : UInt64))) : cmpValue (FP.dcmp (FP.dneg v9) v12) .g = lcmpW v8 v11 := by
  have hM : (9223372036854775807 : Int64).toInt = 9223372036854775807 := by decide
  have d2 : Jvm.FP.Core.DInt (- -v2.toInt) (FP.dneg (FP.dneg (FP.l2d v2))) := own_dneg_int (own_dneg_int (Jvm.FP.Core.l2d_int (by omega)))
  rw [Int.neg_neg] at d2
  have d3 : Jvm.FP.Core.DInt v3.toInt (FP.l2d v3) := Jvm.FP.Core.l2d_int (by omega)
  by_cases h1 : b1
  · rw [if_pos h1] at hv8 hv9
    subst hv8 hv9 hv5
    by_cases h2 : b2
    · rw [if_pos h2] at hv11 hv12
      subst hv11 hv12 hv6
      rw [own_cmp_int d2 d3, own_lc]
    · rw [if_neg h2] at hv11 hv12
      subst hv11 hv12
      rw [own_lc, hM, if_pos (by omega)]
      exact dcmp_pinf (Jvm.Free.Fl.fin64_core.mpr (own_dneg_fin (own_dneg_fin (own_l2d_fin _)))) .g
  · rw [if_neg h1] at hv8 hv9
    subst hv8 hv9
    rw [show FP.dneg (18442240474082181120 : UInt64) = (9218868437227405312 : UInt64) by decide +kernel]
    by_cases h2 : b2
    · rw [if_pos h2] at hv11 hv12
      subst hv11 hv12 hv6
      rw [own_lc, hM, if_neg (by omega), if_neg (by omega)]
      exact dcmp_pinf' (Jvm.Free.Fl.l2d_fin _) .g
    · rw [if_neg h2] at hv11 hv12
      subst hv11 hv12
      decide +kernel
theorem own_lc_cases (x y : Int64) : (lcmpW x y < 0 ∧ ¬ (lcmpW y x < 0) ∧ lcmpW x y = -1) ∨ (¬ (lcmpW x y < 0) ∧ lcmpW y x < 0 ∧ lcmpW x y = 1) ∨ (¬ (lcmpW x y < 0) ∧ ¬ (lcmpW y x < 0) ∧ lcmpW x y = 0) := by
  rw [own_lc x y, own_lc y x]
  by_cases h1 : x.toInt < y.toInt
  · rw [if_pos h1, if_neg (by omega), if_neg (by omega)]; decide
  · rw [if_neg h1]
    by_cases h2 : x.toInt = y.toInt
    · rw [if_pos h2, if_neg (by omega), if_pos (by omega)]; decide
    · rw [if_neg h2, if_pos (by omega)]; decide
theorem pd_1 : parseMethodDescriptor "(DDDD)V" = some ⟨[.double, .double, .double, .double], none⟩ := by decide +kernel
theorem pd_2 : parseMethodDescriptor "()D" = some ⟨[], some .double⟩ := by decide +kernel
set_option maxRecDepth 65536 in
theorem own_law1 (r : Int32) (s0 : Int32) (p0 : Int32) (q0 : Int32) (fl : Int32)  (v0 : UInt64) (hv0 : v0 = (FP.i2d r)) (v1 : Int32) (hv1 : v1 = (fl &&& (4 : Int32))) (v2 : Int64) (hv2 : v2 = (p0.toInt64 &&& (4294967295 : Int64))) (v3 : Int64) (hv3 : v3 = (q0.toInt64 &&& (4294967295 : Int64))) (v4 : UInt64) (hv4 : v4 = (FP.l2d ((r.toInt64 + (1 : Int64)) + (s0.toInt64 &&& (2147483647 : Int64))))) (v5 : UInt64) (hv5 : v5 = (FP.dneg (FP.l2d v2))) (v6 : UInt64) (hv6 : v6 = (FP.l2d v3)) (v7 : Int32) (hv7 : v7 = (fl &&& (1 : Int32))) (v8 : Int64) (hv8 : v8 = (if v7 = (0 : Int32) then v2 else (9223372036854775807 : Int64))) (v9 : UInt64) (hv9 : v9 = (if v7 = (0 : Int32) then v5 else (18442240474082181120 : UInt64))) (v10 : Int32) (hv10 : v10 = (fl &&& (2 : Int32))) (v11 : Int64) (hv11 : v11 = (if v10 = (0 : Int32) then v3 else (9223372036854775807 : Int64))) (v12 : UInt64) (hv12 : v12 = (if v10 = (0 : Int32) then v6 else (9218868437227405312 : UInt64))) (v13 : UInt64) (hv13 : v13 = (f4 v9 v12 v4 v0)) (v14 : Int32) (hv14 : v14 = (lcmpW v8 v11)) (v15 : Int32) (hv15 : v15 = (cmpValue (FP.dcmp v13 v0) .l)) (v16 : Int32) (hv16 : v16 = (if v15 = (0 : Int32) then (1 : Int32) else (0 : Int32))) (hp0 : v1 = (0 : Int32)) (hp1 : v14 < (0 : Int32)) : v16 = (1 : Int32) := by
  have k := own_cmpk (hv2 ▸ own_m32 _) (hv3 ▸ own_m32 _) hv5 hv6 hv8 hv9 hv11 hv12
  unfold f4 at hv13
  rw [k] at hv13
  
  rw [hv14] at hp1
  rcases own_lc_cases v8 v11 with ⟨g1, g2, g3⟩ | ⟨g1, g2, g3⟩ | ⟨g1, g2, g3⟩
  · rw [g3, if_neg (by decide)] at hv13
    rw [hv13, hv0, dcmpV_self (Jvm.Free.Fl.i2d_fin r).noNaN] at hv15
    rw [hv16, hv15]; decide
  · exact absurd hp1 g1
  · exact absurd hp1 g1
set_option maxRecDepth 65536 in
theorem own_law2 (r : Int32) (s0 : Int32) (p0 : Int32) (q0 : Int32) (fl : Int32)  (v0 : UInt64) (hv0 : v0 = (FP.i2d r)) (v1 : Int32) (hv1 : v1 = (fl &&& (4 : Int32))) (v2 : Int64) (hv2 : v2 = (p0.toInt64 &&& (4294967295 : Int64))) (v3 : Int64) (hv3 : v3 = (q0.toInt64 &&& (4294967295 : Int64))) (v4 : UInt64) (hv4 : v4 = (FP.l2d ((r.toInt64 + (1 : Int64)) + (s0.toInt64 &&& (2147483647 : Int64))))) (v5 : UInt64) (hv5 : v5 = (FP.dneg (FP.l2d v2))) (v6 : UInt64) (hv6 : v6 = (FP.l2d v3)) (v7 : Int32) (hv7 : v7 = (fl &&& (1 : Int32))) (v8 : Int64) (hv8 : v8 = (if v7 = (0 : Int32) then v2 else (9223372036854775807 : Int64))) (v9 : UInt64) (hv9 : v9 = (if v7 = (0 : Int32) then v5 else (18442240474082181120 : UInt64))) (v10 : Int32) (hv10 : v10 = (fl &&& (2 : Int32))) (v11 : Int64) (hv11 : v11 = (if v10 = (0 : Int32) then v3 else (9223372036854775807 : Int64))) (v12 : UInt64) (hv12 : v12 = (if v10 = (0 : Int32) then v6 else (9218868437227405312 : UInt64))) (v13 : UInt64) (hv13 : v13 = (f4 v9 v12 v4 v0)) (v14 : Int32) (hv14 : v14 = (lcmpW v8 v11)) (v15 : Int32) (hv15 : v15 = (lcmpW v11 v8)) (v16 : Int32) (hv16 : v16 = (cmpValue (FP.dcmp v13 v4) .l)) (v17 : Int32) (hv17 : v17 = (if v16 = (0 : Int32) then (1 : Int32) else (0 : Int32))) (hp0 : v1 = (0 : Int32)) (hp1 : ¬ (v14 < (0 : Int32))) (hp2 : v15 < (0 : Int32)) : v17 = (1 : Int32) := by
  have k := own_cmpk (hv2 ▸ own_m32 _) (hv3 ▸ own_m32 _) hv5 hv6 hv8 hv9 hv11 hv12
  unfold f4 at hv13
  rw [k] at hv13
  
  rw [hv14] at hp1
  rw [hv15] at hp2
  rcases own_lc_cases v8 v11 with ⟨g1, g2, g3⟩ | ⟨g1, g2, g3⟩ | ⟨g1, g2, g3⟩
  · exact absurd g1 hp1
  · rw [g3, if_pos (by decide)] at hv13
    rw [hv13, hv4, dcmpV_self (Jvm.Free.Fl.l2d_fin _).noNaN] at hv16
    rw [hv17, hv16]; decide
  · exact absurd hp2 g2
set_option maxRecDepth 65536 in
theorem own_law3 (r : Int32) (s0 : Int32) (p0 : Int32) (q0 : Int32) (fl : Int32)  (v0 : UInt64) (hv0 : v0 = (FP.i2d r)) (v1 : Int32) (hv1 : v1 = (fl &&& (4 : Int32))) (v2 : Int64) (hv2 : v2 = (p0.toInt64 &&& (4294967295 : Int64))) (v3 : Int64) (hv3 : v3 = (q0.toInt64 &&& (4294967295 : Int64))) (v4 : UInt64) (hv4 : v4 = (FP.l2d ((r.toInt64 + (1 : Int64)) + (s0.toInt64 &&& (2147483647 : Int64))))) (v5 : UInt64) (hv5 : v5 = (FP.dneg (FP.l2d v2))) (v6 : UInt64) (hv6 : v6 = (FP.l2d v3)) (v7 : Int32) (hv7 : v7 = (fl &&& (1 : Int32))) (v8 : Int64) (hv8 : v8 = (if v7 = (0 : Int32) then v2 else (9223372036854775807 : Int64))) (v9 : UInt64) (hv9 : v9 = (if v7 = (0 : Int32) then v5 else (18442240474082181120 : UInt64))) (v10 : Int32) (hv10 : v10 = (fl &&& (2 : Int32))) (v11 : Int64) (hv11 : v11 = (if v10 = (0 : Int32) then v3 else (9223372036854775807 : Int64))) (v12 : UInt64) (hv12 : v12 = (if v10 = (0 : Int32) then v6 else (9218868437227405312 : UInt64))) (v13 : UInt64) (hv13 : v13 = (f4 v9 v12 v4 v0)) (v14 : Int32) (hv14 : v14 = (lcmpW v8 v11)) (v15 : Int32) (hv15 : v15 = (lcmpW v11 v8)) (v16 : Int32) (hv16 : v16 = (cmpValue (FP.dcmp v13 v0) .l)) (v17 : Int32) (hv17 : v17 = (if v16 = (0 : Int32) then (1 : Int32) else (if (cmpValue (FP.dcmp v13 v4) .l) = (0 : Int32) then (1 : Int32) else (0 : Int32)))) (hp0 : v1 = (0 : Int32)) (hp1 : ¬ (v14 < (0 : Int32))) (hp2 : ¬ (v15 < (0 : Int32))) : v17 = (1 : Int32) := by
  have k := own_cmpk (hv2 ▸ own_m32 _) (hv3 ▸ own_m32 _) hv5 hv6 hv8 hv9 hv11 hv12
  unfold f4 at hv13
  rw [k] at hv13
  
  rw [hv14] at hp1
  rw [hv15] at hp2
  rcases own_lc_cases v8 v11 with ⟨g1, g2, g3⟩ | ⟨g1, g2, g3⟩ | ⟨g1, g2, g3⟩
  · exact absurd g1 hp1
  · exact absurd g2 hp2
  · rw [g3, if_neg (by decide)] at hv13
    rw [hv13, hv0, dcmpV_self (Jvm.Free.Fl.i2d_fin r).noNaN] at hv16
    rw [hv17, if_pos (by rw [hv16])]
set_option maxRecDepth 65536 in
theorem own_law4 (r : Int32) (q0 : Int32) (fl : Int32)  (v0 : UInt64) (hv0 : v0 = (FP.i2d r)) (v1 : Int32) (hv1 : v1 = (fl &&& (4 : Int32))) (v2 : UInt64) (hv2 : v2 = (FP.i2d q0)) (v3 : Int32) (hv3 : v3 = (cmpValue (FP.dcmp (f4 v2 v2 v0 v0) v0) .l)) (v4 : Int32) (hv4 : v4 = (if v3 = (0 : Int32) then (1 : Int32) else (0 : Int32))) (hp0 : ¬ (v1 = (0 : Int32))) : v4 = (1 : Int32) := by
  have h : f4 v2 v2 v0 v0 = v0 := by unfold f4; split <;> rfl
  rw [h, hv0, dcmpV_self (Jvm.Free.Fl.i2d_fin r).noNaN] at hv3
  rw [hv4, hv3]; decide
theorem ef_0 (m : MethodId) (x0 : Int32) (x1 : Int32) (x2 : Int32) (x3 : Int32) (x4 : Int32) : entryFrame m #[(.int x0), (.int x1), (.int x2), (.int x3), (.int x4)] maxLocals = mkF m 0 #[.val (.int x0), .val (.int x1), .val (.int x2), .val (.int x3), .val (.int x4), .unset, .unset, .unset, .unset, .unset, .unset, .unset, .unset, .unset, .unset, .unset, .unset, .unset, .unset] [] := by first | (simp [entryFrame, mkF, argsToLocals, Value.category, maxLocals]; done) | rfl
theorem pn_2 : plainName "com/example/loxodrome/loxodrome/geo/geodesy/BracketNearerEndPinLaw" = true := by first | (simp [plainName, overriddenIn]; done) | decide +kernel
def Q0 (Z : State) (r : Int32) (s0 : Int32) (p0 : Int32) (q0 : Int32) (fl : Int32) (h0 : Heap) (n0 : Nat) (v : Option Value) (h : Heap) (L : List Loc) : Prop := v = some (.int 1) ∧ Fr n0 L
set_option maxRecDepth 65536 in
set_option maxHeartbeats 40000000 in
theorem rm0 (l : Launch) (Z : State) (a0 : Array Value) (hw : ∀ d ∈ tables_1, d.before a0 Z = true) (ws : List Jvm.Cond) (r : Int32) (s0 : Int32) (p0 : Int32) (q0 : Int32) (fl : Int32) (h0 : Heap) (n0 : Nat) (Z0 : n0 ≤ h0.size)  :
    MetFree l x (head1 (Jvm.Cond.code x code maxLocals ret :: ws) room_1) (fun a U => a = #[(.int r), (.int s0), (.int p0), (.int q0), (.int fl)] ∧ Z.Warmed39 U.vm ∧ U.heap = h0) (fun _ _ _ _ _ => True) (fun _ U o U' => ∃ v L, o = .returned v ∧ Q0 Z r s0 p0 q0 fl h0 n0 v U'.heap L ∧ FrameEnd U o U' L room_1.cells room_1.slots) := by
  refine MetFree.of_bodySF (plainFor_of_name pn_2) hisR ?_
  intro p e s m args below meth c s₁ Bd hml0 hP hK
  obtain ⟨rfl, hZ, hh⟩ := hP
  have hx := Bd.exec
  have hby := Bd.bytes
  have hml : c.maxLocals = 19 := hml0
  have hown : s.vm.findClass "com/example/loxodrome/loxodrome/geo/geodesy/BracketNearerEndPinLaw" = some m.cls := findClass_of_methodNamed Bd.named
  have hnm := (name_of_methodNamed Bd.named Bd.method).1
  have X0 : Stand p l e room_1 s m #[(.int r), (.int s0), (.int p0), (.int q0), (.int fl)] below meth c s₁ [] 0 0 := Stand.of_body Bd
  have e0 : s₁.heap = h0 := by rw [← hh, Bd.state]; rfl
  have N0 := Fr.nil n0
  have pre0 : ∀ t, Steps p.tables e below (s₁.setTop (mkF m 0 #[.val (.int r), .val (.int s0), .val (.int p0), .val (.int q0), .val (.int fl), .unset, .unset, .unset, .unset, .unset, .unset, .unset, .unset, .unset, .unset, .unset, .unset, .unset, .unset] [])) t → Steps p.tables e below (s₁.setTop (entryFrame m #[(.int r), (.int s0), (.int p0), (.int q0), (.int fl)] maxLocals)) t := fun t k => castTop (ef_0 m r s0 p0 q0 fl) k
  have S69 : ∀ t, Steps p.tables e below (s₁.setTop (mkF m 8 #[.val (.int r), .val (.int s0), .val (.int p0), .val (.int q0), .val (.int fl), .val (.double (FP.i2d r)), .second, .unset, .unset, .unset, .unset, .unset, .unset, .unset, .unset, .unset, .unset, .unset, .unset] [(.int (fl &&& (4 : Int32)))])) t → Steps p.tables e below (s₁.setTop (entryFrame m #[(.int r), (.int s0), (.int p0), (.int q0), (.int fl)] maxLocals)) t := by
    intro t k
    refine pre0 t ?_
    refine XS.iloadN X0.here hx rfl (hb hby at_0) rfl ?_
    show Steps p.tables e below (s₁.setTop (mkF m 1 #[.val (.int r), .val (.int s0), .val (.int p0), .val (.int q0), .val (.int fl), .unset, .unset, .unset, .unset, .unset, .unset, .unset, .unset, .unset, .unset, .unset, .unset, .unset, .unset] [(.int r)])) _
    refine XS.i2dS X0.here hx rfl (hb hby at_1) rfl rfl ?_
    show Steps p.tables e below (s₁.setTop (mkF m 2 #[.val (.int r), .val (.int s0), .val (.int p0), .val (.int q0), .val (.int fl), .unset, .unset, .unset, .unset, .unset, .unset, .unset, .unset, .unset, .unset, .unset, .unset, .unset, .unset] [(.double (FP.i2d r))])) _
    refine XS.dstore X0.here hx rfl (hb hby at_2) rfl (l' := #[.val (.int r), .val (.int s0), .val (.int p0), .val (.int q0), .val (.int fl), .val (.double (FP.i2d r)), .second, .unset, .unset, .unset, .unset, .unset, .unset, .unset, .unset, .unset, .unset, .unset, .unset]) rfl ?_
    show Steps p.tables e below (s₁.setTop (mkF m 4 #[.val (.int r), .val (.int s0), .val (.int p0), .val (.int q0), .val (.int fl), .val (.double (FP.i2d r)), .second, .unset, .unset, .unset, .unset, .unset, .unset, .unset, .unset, .unset, .unset, .unset, .unset] [])) _
    refine XS.iload X0.here hx rfl (hb hby at_4) rfl ?_
    show Steps p.tables e below (s₁.setTop (mkF m 6 #[.val (.int r), .val (.int s0), .val (.int p0), .val (.int q0), .val (.int fl), .val (.double (FP.i2d r)), .second, .unset, .unset, .unset, .unset, .unset, .unset, .unset, .unset, .unset, .unset, .unset, .unset] [(.int fl)])) _
    refine XS.iconst X0.here hx rfl (hb hby at_6) ?_
    show Steps p.tables e below (s₁.setTop (mkF m 7 #[.val (.int r), .val (.int s0), .val (.int p0), .val (.int q0), .val (.int fl), .val (.double (FP.i2d r)), .second, .unset, .unset, .unset, .unset, .unset, .unset, .unset, .unset, .unset, .unset, .unset, .unset] [(.int (4 : Int32)), (.int fl)])) _
    refine XS.iand X0.here hx rfl (hb hby at_7) rfl ?_
    show Steps p.tables e below (s₁.setTop (mkF m 8 #[.val (.int r), .val (.int s0), .val (.int p0), .val (.int q0), .val (.int fl), .val (.double (FP.i2d r)), .second, .unset, .unset, .unset, .unset, .unset, .unset, .unset, .unset, .unset, .unset, .unset, .unset] [(.int (fl &&& (4 : Int32)))])) _
    exact k
  obtain ⟨w70, hw70⟩ : ∃ z : UInt64, z = (FP.i2d r) := ⟨_, rfl⟩
  rw [← hw70] at S69
  obtain ⟨w71, hw71⟩ : ∃ z : Int32, z = (fl &&& (4 : Int32)) := ⟨_, rfl⟩
  rw [← hw71] at S69
  by_cases hc72 : w71 = (0 : Int32)
  · have S73 : ∀ t, Steps p.tables e below (s₁.setTop (mkF m 79 #[.val (.int r), .val (.int s0), .val (.int p0), .val (.int q0), .val (.int fl), .val (.double w70), .second, .val (.long (p0.toInt64 &&& (4294967295 : Int64))), .second, .val (.long (q0.toInt64 &&& (4294967295 : Int64))), .second, .val (.double (FP.l2d ((r.toInt64 + (1 : Int64)) + (s0.toInt64 &&& (2147483647 : Int64))))), .second, .unset, .unset, .unset, .unset, .unset, .unset] [])) t → Steps p.tables e below (s₁.setTop (entryFrame m #[(.int r), (.int s0), (.int p0), (.int q0), (.int fl)] maxLocals)) t := by
      intro t k
      refine S69 t ?_
      refine XS.ifYes X0.here hx rfl (pc0 := 8) (pc' := 49) rfl (hb hby at_8) rfl ((if0 _ _).trans (teq hc72).1) (by decide) (by decide) ?_
      show Steps p.tables e below (s₁.setTop (mkF m 49 #[.val (.int r), .val (.int s0), .val (.int p0), .val (.int q0), .val (.int fl), .val (.double w70), .second, .unset, .unset, .unset, .unset, .unset, .unset, .unset, .unset, .unset, .unset, .unset, .unset] [])) _
      refine XS.iloadN X0.here hx rfl (hb hby at_49) rfl ?_
      show Steps p.tables e below (s₁.setTop (mkF m 50 #[.val (.int r), .val (.int s0), .val (.int p0), .val (.int q0), .val (.int fl), .val (.double w70), .second, .unset, .unset, .unset, .unset, .unset, .unset, .unset, .unset, .unset, .unset, .unset, .unset] [(.int p0)])) _
      refine XS.i2l X0.here hx rfl (hb hby at_50) rfl ?_
      show Steps p.tables e below (s₁.setTop (mkF m 51 #[.val (.int r), .val (.int s0), .val (.int p0), .val (.int q0), .val (.int fl), .val (.double w70), .second, .unset, .unset, .unset, .unset, .unset, .unset, .unset, .unset, .unset, .unset, .unset, .unset] [(.long p0.toInt64)])) _
      refine X0.ldc2Long hx hown (mvT hZ (hw _ (List.mem_of_getElem? (i := 0) rfl))) (g := (mkF m 51 #[.val (.int r), .val (.int s0), .val (.int p0), .val (.int q0), .val (.int fl), .val (.double w70), .second, .unset, .unset, .unset, .unset, .unset, .unset, .unset, .unset, .unset, .unset, .unset, .unset] [(.long p0.toInt64)])) rfl (hb hby at_51) _ ?_
      show Steps p.tables e below (s₁.setTop (mkF m 54 #[.val (.int r), .val (.int s0), .val (.int p0), .val (.int q0), .val (.int fl), .val (.double w70), .second, .unset, .unset, .unset, .unset, .unset, .unset, .unset, .unset, .unset, .unset, .unset, .unset] [(.long (4294967295 : Int64)), (.long p0.toInt64)])) _
      refine XS.land X0.here hx rfl (hb hby at_54) rfl ?_
      show Steps p.tables e below (s₁.setTop (mkF m 55 #[.val (.int r), .val (.int s0), .val (.int p0), .val (.int q0), .val (.int fl), .val (.double w70), .second, .unset, .unset, .unset, .unset, .unset, .unset, .unset, .unset, .unset, .unset, .unset, .unset] [(.long (p0.toInt64 &&& (4294967295 : Int64)))])) _
      refine XS.lstore X0.here hx rfl (hb hby at_55) rfl (l' := #[.val (.int r), .val (.int s0), .val (.int p0), .val (.int q0), .val (.int fl), .val (.double w70), .second, .val (.long (p0.toInt64 &&& (4294967295 : Int64))), .second, .unset, .unset, .unset, .unset, .unset, .unset, .unset, .unset, .unset, .unset]) rfl ?_
      show Steps p.tables e below (s₁.setTop (mkF m 57 #[.val (.int r), .val (.int s0), .val (.int p0), .val (.int q0), .val (.int fl), .val (.double w70), .second, .val (.long (p0.toInt64 &&& (4294967295 : Int64))), .second, .unset, .unset, .unset, .unset, .unset, .unset, .unset, .unset, .unset, .unset] [])) _
      refine XS.iloadN X0.here hx rfl (hb hby at_57) rfl ?_
      show Steps p.tables e below (s₁.setTop (mkF m 58 #[.val (.int r), .val (.int s0), .val (.int p0), .val (.int q0), .val (.int fl), .val (.double w70), .second, .val (.long (p0.toInt64 &&& (4294967295 : Int64))), .second, .unset, .unset, .unset, .unset, .unset, .unset, .unset, .unset, .unset, .unset] [(.int q0)])) _
      refine XS.i2l X0.here hx rfl (hb hby at_58) rfl ?_
      show Steps p.tables e below (s₁.setTop (mkF m 59 #[.val (.int r), .val (.int s0), .val (.int p0), .val (.int q0), .val (.int fl), .val (.double w70), .second, .val (.long (p0.toInt64 &&& (4294967295 : Int64))), .second, .unset, .unset, .unset, .unset, .unset, .unset, .unset, .unset, .unset, .unset] [(.long q0.toInt64)])) _
      refine X0.ldc2Long hx hown (mvT hZ (hw _ (List.mem_of_getElem? (i := 0) rfl))) (g := (mkF m 59 #[.val (.int r), .val (.int s0), .val (.int p0), .val (.int q0), .val (.int fl), .val (.double w70), .second, .val (.long (p0.toInt64 &&& (4294967295 : Int64))), .second, .unset, .unset, .unset, .unset, .unset, .unset, .unset, .unset, .unset, .unset] [(.long q0.toInt64)])) rfl (hb hby at_59) _ ?_
      show Steps p.tables e below (s₁.setTop (mkF m 62 #[.val (.int r), .val (.int s0), .val (.int p0), .val (.int q0), .val (.int fl), .val (.double w70), .second, .val (.long (p0.toInt64 &&& (4294967295 : Int64))), .second, .unset, .unset, .unset, .unset, .unset, .unset, .unset, .unset, .unset, .unset] [(.long (4294967295 : Int64)), (.long q0.toInt64)])) _
      refine XS.land X0.here hx rfl (hb hby at_62) rfl ?_
      show Steps p.tables e below (s₁.setTop (mkF m 63 #[.val (.int r), .val (.int s0), .val (.int p0), .val (.int q0), .val (.int fl), .val (.double w70), .second, .val (.long (p0.toInt64 &&& (4294967295 : Int64))), .second, .unset, .unset, .unset, .unset, .unset, .unset, .unset, .unset, .unset, .unset] [(.long (q0.toInt64 &&& (4294967295 : Int64)))])) _
      refine XS.lstore X0.here hx rfl (hb hby at_63) rfl (l' := #[.val (.int r), .val (.int s0), .val (.int p0), .val (.int q0), .val (.int fl), .val (.double w70), .second, .val (.long (p0.toInt64 &&& (4294967295 : Int64))), .second, .val (.long (q0.toInt64 &&& (4294967295 : Int64))), .second, .unset, .unset, .unset, .unset, .unset, .unset, .unset, .unset]) rfl ?_
      show Steps p.tables e below (s₁.setTop (mkF m 65 #[.val (.int r), .val (.int s0), .val (.int p0), .val (.int q0), .val (.int fl), .val (.double w70), .second, .val (.long (p0.toInt64 &&& (4294967295 : Int64))), .second, .val (.long (q0.toInt64 &&& (4294967295 : Int64))), .second, .unset, .unset, .unset, .unset, .unset, .unset, .unset, .unset] [])) _
      refine XS.iloadN X0.here hx rfl (hb hby at_65) rfl ?_
      show Steps p.tables e below (s₁.setTop (mkF m 66 #[.val (.int r), .val (.int s0), .val (.int p0), .val (.int q0), .val (.int fl), .val (.double w70), .second, .val (.long (p0.toInt64 &&& (4294967295 : Int64))), .second, .val (.long (q0.toInt64 &&& (4294967295 : Int64))), .second, .unset, .unset, .unset, .unset, .unset, .unset, .unset, .unset] [(.int r)])) _
      refine XS.i2l X0.here hx rfl (hb hby at_66) rfl ?_
      show Steps p.tables e below (s₁.setTop (mkF m 67 #[.val (.int r), .val (.int s0), .val (.int p0), .val (.int q0), .val (.int fl), .val (.double w70), .second, .val (.long (p0.toInt64 &&& (4294967295 : Int64))), .second, .val (.long (q0.toInt64 &&& (4294967295 : Int64))), .second, .unset, .unset, .unset, .unset, .unset, .unset, .unset, .unset] [(.long r.toInt64)])) _
      refine XS.lconst X0.here hx rfl (hb hby at_67) ?_
      show Steps p.tables e below (s₁.setTop (mkF m 68 #[.val (.int r), .val (.int s0), .val (.int p0), .val (.int q0), .val (.int fl), .val (.double w70), .second, .val (.long (p0.toInt64 &&& (4294967295 : Int64))), .second, .val (.long (q0.toInt64 &&& (4294967295 : Int64))), .second, .unset, .unset, .unset, .unset, .unset, .unset, .unset, .unset] [(.long (1 : Int64)), (.long r.toInt64)])) _
      refine XS.ladd X0.here hx rfl (hb hby at_68) rfl ?_
      show Steps p.tables e below (s₁.setTop (mkF m 69 #[.val (.int r), .val (.int s0), .val (.int p0), .val (.int q0), .val (.int fl), .val (.double w70), .second, .val (.long (p0.toInt64 &&& (4294967295 : Int64))), .second, .val (.long (q0.toInt64 &&& (4294967295 : Int64))), .second, .unset, .unset, .unset, .unset, .unset, .unset, .unset, .unset] [(.long (r.toInt64 + (1 : Int64)))])) _
      refine XS.iloadN X0.here hx rfl (hb hby at_69) rfl ?_
      show Steps p.tables e below (s₁.setTop (mkF m 70 #[.val (.int r), .val (.int s0), .val (.int p0), .val (.int q0), .val (.int fl), .val (.double w70), .second, .val (.long (p0.toInt64 &&& (4294967295 : Int64))), .second, .val (.long (q0.toInt64 &&& (4294967295 : Int64))), .second, .unset, .unset, .unset, .unset, .unset, .unset, .unset, .unset] [(.int s0), (.long (r.toInt64 + (1 : Int64)))])) _
      refine XS.i2l X0.here hx rfl (hb hby at_70) rfl ?_
      show Steps p.tables e below (s₁.setTop (mkF m 71 #[.val (.int r), .val (.int s0), .val (.int p0), .val (.int q0), .val (.int fl), .val (.double w70), .second, .val (.long (p0.toInt64 &&& (4294967295 : Int64))), .second, .val (.long (q0.toInt64 &&& (4294967295 : Int64))), .second, .unset, .unset, .unset, .unset, .unset, .unset, .unset, .unset] [(.long s0.toInt64), (.long (r.toInt64 + (1 : Int64)))])) _
      refine X0.ldc2Long hx hown (mvT hZ (hw _ (List.mem_of_getElem? (i := 1) rfl))) (g := (mkF m 71 #[.val (.int r), .val (.int s0), .val (.int p0), .val (.int q0), .val (.int fl), .val (.double w70), .second, .val (.long (p0.toInt64 &&& (4294967295 : Int64))), .second, .val (.long (q0.toInt64 &&& (4294967295 : Int64))), .second, .unset, .unset, .unset, .unset, .unset, .unset, .unset, .unset] [(.long s0.toInt64), (.long (r.toInt64 + (1 : Int64)))])) rfl (hb hby at_71) _ ?_
      show Steps p.tables e below (s₁.setTop (mkF m 74 #[.val (.int r), .val (.int s0), .val (.int p0), .val (.int q0), .val (.int fl), .val (.double w70), .second, .val (.long (p0.toInt64 &&& (4294967295 : Int64))), .second, .val (.long (q0.toInt64 &&& (4294967295 : Int64))), .second, .unset, .unset, .unset, .unset, .unset, .unset, .unset, .unset] [(.long (2147483647 : Int64)), (.long s0.toInt64), (.long (r.toInt64 + (1 : Int64)))])) _
      refine XS.land X0.here hx rfl (hb hby at_74) rfl ?_
      show Steps p.tables e below (s₁.setTop (mkF m 75 #[.val (.int r), .val (.int s0), .val (.int p0), .val (.int q0), .val (.int fl), .val (.double w70), .second, .val (.long (p0.toInt64 &&& (4294967295 : Int64))), .second, .val (.long (q0.toInt64 &&& (4294967295 : Int64))), .second, .unset, .unset, .unset, .unset, .unset, .unset, .unset, .unset] [(.long (s0.toInt64 &&& (2147483647 : Int64))), (.long (r.toInt64 + (1 : Int64)))])) _
      refine XS.ladd X0.here hx rfl (hb hby at_75) rfl ?_
      show Steps p.tables e below (s₁.setTop (mkF m 76 #[.val (.int r), .val (.int s0), .val (.int p0), .val (.int q0), .val (.int fl), .val (.double w70), .second, .val (.long (p0.toInt64 &&& (4294967295 : Int64))), .second, .val (.long (q0.toInt64 &&& (4294967295 : Int64))), .second, .unset, .unset, .unset, .unset, .unset, .unset, .unset, .unset] [(.long ((r.toInt64 + (1 : Int64)) + (s0.toInt64 &&& (2147483647 : Int64))))])) _
      refine XS.l2dS X0.here hx rfl (hb hby at_76) rfl rfl ?_
      show Steps p.tables e below (s₁.setTop (mkF m 77 #[.val (.int r), .val (.int s0), .val (.int p0), .val (.int q0), .val (.int fl), .val (.double w70), .second, .val (.long (p0.toInt64 &&& (4294967295 : Int64))), .second, .val (.long (q0.toInt64 &&& (4294967295 : Int64))), .second, .unset, .unset, .unset, .unset, .unset, .unset, .unset, .unset] [(.double (FP.l2d ((r.toInt64 + (1 : Int64)) + (s0.toInt64 &&& (2147483647 : Int64)))))])) _
      refine XS.dstore X0.here hx rfl (hb hby at_77) rfl (l' := #[.val (.int r), .val (.int s0), .val (.int p0), .val (.int q0), .val (.int fl), .val (.double w70), .second, .val (.long (p0.toInt64 &&& (4294967295 : Int64))), .second, .val (.long (q0.toInt64 &&& (4294967295 : Int64))), .second, .val (.double (FP.l2d ((r.toInt64 + (1 : Int64)) + (s0.toInt64 &&& (2147483647 : Int64))))), .second, .unset, .unset, .unset, .unset, .unset, .unset]) rfl ?_
      show Steps p.tables e below (s₁.setTop (mkF m 79 #[.val (.int r), .val (.int s0), .val (.int p0), .val (.int q0), .val (.int fl), .val (.double w70), .second, .val (.long (p0.toInt64 &&& (4294967295 : Int64))), .second, .val (.long (q0.toInt64 &&& (4294967295 : Int64))), .second, .val (.double (FP.l2d ((r.toInt64 + (1 : Int64)) + (s0.toInt64 &&& (2147483647 : Int64))))), .second, .unset, .unset, .unset, .unset, .unset, .unset] [])) _
      exact k
    obtain ⟨w74, hw74⟩ : ∃ z : Int64, z = (p0.toInt64 &&& (4294967295 : Int64)) := ⟨_, rfl⟩
    rw [← hw74] at S73
    obtain ⟨w75, hw75⟩ : ∃ z : Int64, z = (q0.toInt64 &&& (4294967295 : Int64)) := ⟨_, rfl⟩
    rw [← hw75] at S73
    obtain ⟨w76, hw76⟩ : ∃ z : UInt64, z = (FP.l2d ((r.toInt64 + (1 : Int64)) + (s0.toInt64 &&& (2147483647 : Int64)))) := ⟨_, rfl⟩
    rw [← hw76] at S73
    have S77 : ∀ t, Steps p.tables e below (s₁.setTop (mkF m 94 #[.val (.int r), .val (.int s0), .val (.int p0), .val (.int q0), .val (.int fl), .val (.double w70), .second, .val (.long w74), .second, .val (.long w75), .second, .val (.double w76), .second, .val (.double (FP.dneg (FP.l2d w74))), .second, .val (.double (FP.l2d w75)), .second, .unset, .unset] [(.int (fl &&& (1 : Int32)))])) t → Steps p.tables e below (s₁.setTop (entryFrame m #[(.int r), (.int s0), (.int p0), (.int q0), (.int fl)] maxLocals)) t := by
      intro t k
      refine S73 t ?_
      refine XS.lload X0.here hx rfl (hb hby at_79) rfl ?_
      show Steps p.tables e below (s₁.setTop (mkF m 81 #[.val (.int r), .val (.int s0), .val (.int p0), .val (.int q0), .val (.int fl), .val (.double w70), .second, .val (.long w74), .second, .val (.long w75), .second, .val (.double w76), .second, .unset, .unset, .unset, .unset, .unset, .unset] [(.long w74)])) _
      refine XS.l2dS X0.here hx rfl (hb hby at_81) rfl rfl ?_
      show Steps p.tables e below (s₁.setTop (mkF m 82 #[.val (.int r), .val (.int s0), .val (.int p0), .val (.int q0), .val (.int fl), .val (.double w70), .second, .val (.long w74), .second, .val (.long w75), .second, .val (.double w76), .second, .unset, .unset, .unset, .unset, .unset, .unset] [(.double (FP.l2d w74))])) _
      refine XS.dnegS X0.here hx rfl (hb hby at_82) rfl rfl ?_
      show Steps p.tables e below (s₁.setTop (mkF m 83 #[.val (.int r), .val (.int s0), .val (.int p0), .val (.int q0), .val (.int fl), .val (.double w70), .second, .val (.long w74), .second, .val (.long w75), .second, .val (.double w76), .second, .unset, .unset, .unset, .unset, .unset, .unset] [(.double (FP.dneg (FP.l2d w74)))])) _
      refine XS.dstore X0.here hx rfl (hb hby at_83) rfl (l' := #[.val (.int r), .val (.int s0), .val (.int p0), .val (.int q0), .val (.int fl), .val (.double w70), .second, .val (.long w74), .second, .val (.long w75), .second, .val (.double w76), .second, .val (.double (FP.dneg (FP.l2d w74))), .second, .unset, .unset, .unset, .unset]) rfl ?_
      show Steps p.tables e below (s₁.setTop (mkF m 85 #[.val (.int r), .val (.int s0), .val (.int p0), .val (.int q0), .val (.int fl), .val (.double w70), .second, .val (.long w74), .second, .val (.long w75), .second, .val (.double w76), .second, .val (.double (FP.dneg (FP.l2d w74))), .second, .unset, .unset, .unset, .unset] [])) _
      refine XS.lload X0.here hx rfl (hb hby at_85) rfl ?_
      show Steps p.tables e below (s₁.setTop (mkF m 87 #[.val (.int r), .val (.int s0), .val (.int p0), .val (.int q0), .val (.int fl), .val (.double w70), .second, .val (.long w74), .second, .val (.long w75), .second, .val (.double w76), .second, .val (.double (FP.dneg (FP.l2d w74))), .second, .unset, .unset, .unset, .unset] [(.long w75)])) _
      refine XS.l2dS X0.here hx rfl (hb hby at_87) rfl rfl ?_
      show Steps p.tables e below (s₁.setTop (mkF m 88 #[.val (.int r), .val (.int s0), .val (.int p0), .val (.int q0), .val (.int fl), .val (.double w70), .second, .val (.long w74), .second, .val (.long w75), .second, .val (.double w76), .second, .val (.double (FP.dneg (FP.l2d w74))), .second, .unset, .unset, .unset, .unset] [(.double (FP.l2d w75))])) _
      refine XS.dstore X0.here hx rfl (hb hby at_88) rfl (l' := #[.val (.int r), .val (.int s0), .val (.int p0), .val (.int q0), .val (.int fl), .val (.double w70), .second, .val (.long w74), .second, .val (.long w75), .second, .val (.double w76), .second, .val (.double (FP.dneg (FP.l2d w74))), .second, .val (.double (FP.l2d w75)), .second, .unset, .unset]) rfl ?_
      show Steps p.tables e below (s₁.setTop (mkF m 90 #[.val (.int r), .val (.int s0), .val (.int p0), .val (.int q0), .val (.int fl), .val (.double w70), .second, .val (.long w74), .second, .val (.long w75), .second, .val (.double w76), .second, .val (.double (FP.dneg (FP.l2d w74))), .second, .val (.double (FP.l2d w75)), .second, .unset, .unset] [])) _
      refine XS.iload X0.here hx rfl (hb hby at_90) rfl ?_
      show Steps p.tables e below (s₁.setTop (mkF m 92 #[.val (.int r), .val (.int s0), .val (.int p0), .val (.int q0), .val (.int fl), .val (.double w70), .second, .val (.long w74), .second, .val (.long w75), .second, .val (.double w76), .second, .val (.double (FP.dneg (FP.l2d w74))), .second, .val (.double (FP.l2d w75)), .second, .unset, .unset] [(.int fl)])) _
      refine XS.iconst X0.here hx rfl (hb hby at_92) ?_
      show Steps p.tables e below (s₁.setTop (mkF m 93 #[.val (.int r), .val (.int s0), .val (.int p0), .val (.int q0), .val (.int fl), .val (.double w70), .second, .val (.long w74), .second, .val (.long w75), .second, .val (.double w76), .second, .val (.double (FP.dneg (FP.l2d w74))), .second, .val (.double (FP.l2d w75)), .second, .unset, .unset] [(.int (1 : Int32)), (.int fl)])) _
      refine XS.iand X0.here hx rfl (hb hby at_93) rfl ?_
      show Steps p.tables e below (s₁.setTop (mkF m 94 #[.val (.int r), .val (.int s0), .val (.int p0), .val (.int q0), .val (.int fl), .val (.double w70), .second, .val (.long w74), .second, .val (.long w75), .second, .val (.double w76), .second, .val (.double (FP.dneg (FP.l2d w74))), .second, .val (.double (FP.l2d w75)), .second, .unset, .unset] [(.int (fl &&& (1 : Int32)))])) _
      exact k
    obtain ⟨w78, hw78⟩ : ∃ z : UInt64, z = (FP.dneg (FP.l2d w74)) := ⟨_, rfl⟩
    rw [← hw78] at S77
    obtain ⟨w79, hw79⟩ : ∃ z : UInt64, z = (FP.l2d w75) := ⟨_, rfl⟩
    rw [← hw79] at S77
    obtain ⟨w80, hw80⟩ : ∃ z : Int32, z = (fl &&& (1 : Int32)) := ⟨_, rfl⟩
    rw [← hw80] at S77
    have S82 : ∀ t, Steps p.tables e below (s₁.setTop (mkF m 107 #[.val (.int r), .val (.int s0), .val (.int p0), .val (.int q0), .val (.int fl), .val (.double w70), .second, .val (.long (if w80 = (0 : Int32) then w74 else (9223372036854775807 : Int64))), .second, .val (.long w75), .second, .val (.double w76), .second, .val (.double (if w80 = (0 : Int32) then w78 else (18442240474082181120 : UInt64))), .second, .val (.double w79), .second, .unset, .unset] [])) t → Steps p.tables e below (s₁.setTop (entryFrame m #[(.int r), (.int s0), (.int p0), (.int q0), (.int fl)] maxLocals)) t := by
      intro t k
      refine S77 t ?_
      by_cases hc81 : w80 = (0 : Int32)
      · rw [if_pos hc81, if_pos hc81] at k
        refine XS.ifYes X0.here hx rfl (pc0 := 94) (pc' := 107) rfl (hb hby at_94) rfl ((if0 _ _).trans (teq hc81).1) (by decide) (by decide) ?_
        show Steps p.tables e below (s₁.setTop (mkF m 107 #[.val (.int r), .val (.int s0), .val (.int p0), .val (.int q0), .val (.int fl), .val (.double w70), .second, .val (.long w74), .second, .val (.long w75), .second, .val (.double w76), .second, .val (.double w78), .second, .val (.double w79), .second, .unset, .unset] [])) _
        exact k
      · rw [if_neg hc81, if_neg hc81] at k
        refine XS.ifNo X0.here hx rfl (hb hby at_94) rfl ((if0 _ _).trans (feq hc81).1) ?_
        show Steps p.tables e below (s₁.setTop (mkF m 97 #[.val (.int r), .val (.int s0), .val (.int p0), .val (.int q0), .val (.int fl), .val (.double w70), .second, .val (.long w74), .second, .val (.long w75), .second, .val (.double w76), .second, .val (.double w78), .second, .val (.double w79), .second, .unset, .unset] [])) _
        refine X0.ldc2DoubleC hx hown (mvT hZ (hw _ (List.mem_of_getElem? (i := 29) rfl))) (g := (mkF m 97 #[.val (.int r), .val (.int s0), .val (.int p0), .val (.int q0), .val (.int fl), .val (.double w70), .second, .val (.long w74), .second, .val (.long w75), .second, .val (.double w76), .second, .val (.double w78), .second, .val (.double w79), .second, .unset, .unset] [])) rfl (hb hby at_97) _ ?_
        show Steps p.tables e below (s₁.setTop (mkF m 100 #[.val (.int r), .val (.int s0), .val (.int p0), .val (.int q0), .val (.int fl), .val (.double w70), .second, .val (.long w74), .second, .val (.long w75), .second, .val (.double w76), .second, .val (.double w78), .second, .val (.double w79), .second, .unset, .unset] [(.double (18442240474082181120 : UInt64))])) _
        refine XS.dstore X0.here hx rfl (hb hby at_100) rfl (l' := #[.val (.int r), .val (.int s0), .val (.int p0), .val (.int q0), .val (.int fl), .val (.double w70), .second, .val (.long w74), .second, .val (.long w75), .second, .val (.double w76), .second, .val (.double (18442240474082181120 : UInt64)), .second, .val (.double w79), .second, .unset, .unset]) rfl ?_
        show Steps p.tables e below (s₁.setTop (mkF m 102 #[.val (.int r), .val (.int s0), .val (.int p0), .val (.int q0), .val (.int fl), .val (.double w70), .second, .val (.long w74), .second, .val (.long w75), .second, .val (.double w76), .second, .val (.double (18442240474082181120 : UInt64)), .second, .val (.double w79), .second, .unset, .unset] [])) _
        refine X0.ldc2Long hx hown (mvT hZ (hw _ (List.mem_of_getElem? (i := 30) rfl))) (g := (mkF m 102 #[.val (.int r), .val (.int s0), .val (.int p0), .val (.int q0), .val (.int fl), .val (.double w70), .second, .val (.long w74), .second, .val (.long w75), .second, .val (.double w76), .second, .val (.double (18442240474082181120 : UInt64)), .second, .val (.double w79), .second, .unset, .unset] [])) rfl (hb hby at_102) _ ?_
        show Steps p.tables e below (s₁.setTop (mkF m 105 #[.val (.int r), .val (.int s0), .val (.int p0), .val (.int q0), .val (.int fl), .val (.double w70), .second, .val (.long w74), .second, .val (.long w75), .second, .val (.double w76), .second, .val (.double (18442240474082181120 : UInt64)), .second, .val (.double w79), .second, .unset, .unset] [(.long (9223372036854775807 : Int64))])) _
        refine XS.lstore X0.here hx rfl (hb hby at_105) rfl (l' := #[.val (.int r), .val (.int s0), .val (.int p0), .val (.int q0), .val (.int fl), .val (.double w70), .second, .val (.long (9223372036854775807 : Int64)), .second, .val (.long w75), .second, .val (.double w76), .second, .val (.double (18442240474082181120 : UInt64)), .second, .val (.double w79), .second, .unset, .unset]) rfl ?_
        show Steps p.tables e below (s₁.setTop (mkF m 107 #[.val (.int r), .val (.int s0), .val (.int p0), .val (.int q0), .val (.int fl), .val (.double w70), .second, .val (.long (9223372036854775807 : Int64)), .second, .val (.long w75), .second, .val (.double w76), .second, .val (.double (18442240474082181120 : UInt64)), .second, .val (.double w79), .second, .unset, .unset] [])) _
        exact k
    obtain ⟨w83, hw83⟩ : ∃ z : Int64, z = (if w80 = (0 : Int32) then w74 else (9223372036854775807 : Int64)) := ⟨_, rfl⟩
    rw [← hw83] at S82
    obtain ⟨w84, hw84⟩ : ∃ z : UInt64, z = (if w80 = (0 : Int32) then w78 else (18442240474082181120 : UInt64)) := ⟨_, rfl⟩
    rw [← hw84] at S82
    have S85 : ∀ t, Steps p.tables e below (s₁.setTop (mkF m 111 #[.val (.int r), .val (.int s0), .val (.int p0), .val (.int q0), .val (.int fl), .val (.double w70), .second, .val (.long w83), .second, .val (.long w75), .second, .val (.double w76), .second, .val (.double w84), .second, .val (.double w79), .second, .unset, .unset] [(.int (fl &&& (2 : Int32)))])) t → Steps p.tables e below (s₁.setTop (entryFrame m #[(.int r), (.int s0), (.int p0), (.int q0), (.int fl)] maxLocals)) t := by
      intro t k
      refine S82 t ?_
      refine XS.iload X0.here hx rfl (hb hby at_107) rfl ?_
      show Steps p.tables e below (s₁.setTop (mkF m 109 #[.val (.int r), .val (.int s0), .val (.int p0), .val (.int q0), .val (.int fl), .val (.double w70), .second, .val (.long w83), .second, .val (.long w75), .second, .val (.double w76), .second, .val (.double w84), .second, .val (.double w79), .second, .unset, .unset] [(.int fl)])) _
      refine XS.iconst X0.here hx rfl (hb hby at_109) ?_
      show Steps p.tables e below (s₁.setTop (mkF m 110 #[.val (.int r), .val (.int s0), .val (.int p0), .val (.int q0), .val (.int fl), .val (.double w70), .second, .val (.long w83), .second, .val (.long w75), .second, .val (.double w76), .second, .val (.double w84), .second, .val (.double w79), .second, .unset, .unset] [(.int (2 : Int32)), (.int fl)])) _
      refine XS.iand X0.here hx rfl (hb hby at_110) rfl ?_
      show Steps p.tables e below (s₁.setTop (mkF m 111 #[.val (.int r), .val (.int s0), .val (.int p0), .val (.int q0), .val (.int fl), .val (.double w70), .second, .val (.long w83), .second, .val (.long w75), .second, .val (.double w76), .second, .val (.double w84), .second, .val (.double w79), .second, .unset, .unset] [(.int (fl &&& (2 : Int32)))])) _
      exact k
    obtain ⟨w86, hw86⟩ : ∃ z : Int32, z = (fl &&& (2 : Int32)) := ⟨_, rfl⟩
    rw [← hw86] at S85
    have S88 : ∀ t, Steps p.tables e below (s₁.setTop (mkF m 124 #[.val (.int r), .val (.int s0), .val (.int p0), .val (.int q0), .val (.int fl), .val (.double w70), .second, .val (.long w83), .second, .val (.long (if w86 = (0 : Int32) then w75 else (9223372036854775807 : Int64))), .second, .val (.double w76), .second, .val (.double w84), .second, .val (.double (if w86 = (0 : Int32) then w79 else (9218868437227405312 : UInt64))), .second, .unset, .unset] [])) t → Steps p.tables e below (s₁.setTop (entryFrame m #[(.int r), (.int s0), (.int p0), (.int q0), (.int fl)] maxLocals)) t := by
      intro t k
      refine S85 t ?_
      by_cases hc87 : w86 = (0 : Int32)
      · rw [if_pos hc87, if_pos hc87] at k
        refine XS.ifYes X0.here hx rfl (pc0 := 111) (pc' := 124) rfl (hb hby at_111) rfl ((if0 _ _).trans (teq hc87).1) (by decide) (by decide) ?_
        show Steps p.tables e below (s₁.setTop (mkF m 124 #[.val (.int r), .val (.int s0), .val (.int p0), .val (.int q0), .val (.int fl), .val (.double w70), .second, .val (.long w83), .second, .val (.long w75), .second, .val (.double w76), .second, .val (.double w84), .second, .val (.double w79), .second, .unset, .unset] [])) _
        exact k
      · rw [if_neg hc87, if_neg hc87] at k
        refine XS.ifNo X0.here hx rfl (hb hby at_111) rfl ((if0 _ _).trans (feq hc87).1) ?_
        show Steps p.tables e below (s₁.setTop (mkF m 114 #[.val (.int r), .val (.int s0), .val (.int p0), .val (.int q0), .val (.int fl), .val (.double w70), .second, .val (.long w83), .second, .val (.long w75), .second, .val (.double w76), .second, .val (.double w84), .second, .val (.double w79), .second, .unset, .unset] [])) _
        refine X0.ldc2DoubleC hx hown (mvT hZ (hw _ (List.mem_of_getElem? (i := 31) rfl))) (g := (mkF m 114 #[.val (.int r), .val (.int s0), .val (.int p0), .val (.int q0), .val (.int fl), .val (.double w70), .second, .val (.long w83), .second, .val (.long w75), .second, .val (.double w76), .second, .val (.double w84), .second, .val (.double w79), .second, .unset, .unset] [])) rfl (hb hby at_114) _ ?_
        show Steps p.tables e below (s₁.setTop (mkF m 117 #[.val (.int r), .val (.int s0), .val (.int p0), .val (.int q0), .val (.int fl), .val (.double w70), .second, .val (.long w83), .second, .val (.long w75), .second, .val (.double w76), .second, .val (.double w84), .second, .val (.double w79), .second, .unset, .unset] [(.double (9218868437227405312 : UInt64))])) _
        refine XS.dstore X0.here hx rfl (hb hby at_117) rfl (l' := #[.val (.int r), .val (.int s0), .val (.int p0), .val (.int q0), .val (.int fl), .val (.double w70), .second, .val (.long w83), .second, .val (.long w75), .second, .val (.double w76), .second, .val (.double w84), .second, .val (.double (9218868437227405312 : UInt64)), .second, .unset, .unset]) rfl ?_
        show Steps p.tables e below (s₁.setTop (mkF m 119 #[.val (.int r), .val (.int s0), .val (.int p0), .val (.int q0), .val (.int fl), .val (.double w70), .second, .val (.long w83), .second, .val (.long w75), .second, .val (.double w76), .second, .val (.double w84), .second, .val (.double (9218868437227405312 : UInt64)), .second, .unset, .unset] [])) _
        refine X0.ldc2Long hx hown (mvT hZ (hw _ (List.mem_of_getElem? (i := 30) rfl))) (g := (mkF m 119 #[.val (.int r), .val (.int s0), .val (.int p0), .val (.int q0), .val (.int fl), .val (.double w70), .second, .val (.long w83), .second, .val (.long w75), .second, .val (.double w76), .second, .val (.double w84), .second, .val (.double (9218868437227405312 : UInt64)), .second, .unset, .unset] [])) rfl (hb hby at_119) _ ?_
        show Steps p.tables e below (s₁.setTop (mkF m 122 #[.val (.int r), .val (.int s0), .val (.int p0), .val (.int q0), .val (.int fl), .val (.double w70), .second, .val (.long w83), .second, .val (.long w75), .second, .val (.double w76), .second, .val (.double w84), .second, .val (.double (9218868437227405312 : UInt64)), .second, .unset, .unset] [(.long (9223372036854775807 : Int64))])) _
        refine XS.lstore X0.here hx rfl (hb hby at_122) rfl (l' := #[.val (.int r), .val (.int s0), .val (.int p0), .val (.int q0), .val (.int fl), .val (.double w70), .second, .val (.long w83), .second, .val (.long (9223372036854775807 : Int64)), .second, .val (.double w76), .second, .val (.double w84), .second, .val (.double (9218868437227405312 : UInt64)), .second, .unset, .unset]) rfl ?_
        show Steps p.tables e below (s₁.setTop (mkF m 124 #[.val (.int r), .val (.int s0), .val (.int p0), .val (.int q0), .val (.int fl), .val (.double w70), .second, .val (.long w83), .second, .val (.long (9223372036854775807 : Int64)), .second, .val (.double w76), .second, .val (.double w84), .second, .val (.double (9218868437227405312 : UInt64)), .second, .unset, .unset] [])) _
        exact k
    obtain ⟨w89, hw89⟩ : ∃ z : Int64, z = (if w86 = (0 : Int32) then w75 else (9223372036854775807 : Int64)) := ⟨_, rfl⟩
    rw [← hw89] at S88
    obtain ⟨w90, hw90⟩ : ∃ z : UInt64, z = (if w86 = (0 : Int32) then w79 else (9218868437227405312 : UInt64)) := ⟨_, rfl⟩
    rw [← hw90] at S88
    obtain ⟨T91, h91, X91, e91, E91, A91, D91, -, st91⟩ := newO X0 hx hZ hown (hw _ (List.mem_of_getElem? (i := 2) rfl)) (hw _ (List.mem_of_getElem? (i := 3) rfl)) (hw _ (List.mem_of_getElem? (i := 4) rfl)) e0 (g := (mkF m 124 #[.val (.int r), .val (.int s0), .val (.int p0), .val (.int q0), .val (.int fl), .val (.double w70), .second, .val (.long w83), .second, .val (.long w89), .second, .val (.double w76), .second, .val (.double w84), .second, .val (.double w90), .second, .unset, .unset] [])) rfl (hb hby at_124) (by decide) (by decide)
    obtain ⟨b91, g91⟩ : ∃ z, z = h0.size := ⟨_, rfl⟩
    rw [← g91] at A91 D91 st91
    have gg91 : n0 ≤ b91 := Nat.le_trans Z0 (Nat.le_of_eq g91.symm)
    have sz91 : h0.size ≤ b91 := Nat.le_trans (Keep.refl h0 []).1 (Nat.le_of_eq g91.symm)
    have K92 : Keep h0 h91 [] := (Keep.refl h0 []).ext E91
    have Z93 : n0 ≤ h91.size := Nat.le_trans Z0 E91.1
    have f94 : Fld Z h91 b91 "com/example/loxodrome/loxodrome/geo/geodesy/RootFinder$Bracket" "below" "D" (.double (0 : UInt64)) := D91 (Or.inr (hw _ (List.mem_of_getElem? (i := 17) rfl))) (ty := .double) (by decide)
    have f95 : Fld Z h91 b91 "com/example/loxodrome/loxodrome/geo/geodesy/RootFinder$Bracket" "above" "D" (.double (0 : UInt64)) := D91 (Or.inr (hw _ (List.mem_of_getElem? (i := 19) rfl))) (ty := .double) (by decide)
    have f96 : Fld Z h91 b91 "com/example/loxodrome/loxodrome/geo/geodesy/RootFinder$Bracket" "valueBelow" "D" (.double (0 : UInt64)) := D91 (Or.inr (hw _ (List.mem_of_getElem? (i := 21) rfl))) (ty := .double) (by decide)
    have f97 : Fld Z h91 b91 "com/example/loxodrome/loxodrome/geo/geodesy/RootFinder$Bracket" "valueAbove" "D" (.double (0 : UInt64)) := D91 (Or.inr (hw _ (List.mem_of_getElem? (i := 23) rfl))) (ty := .double) (by decide)
    obtain ⟨_, _, ⟨T98, L98, k98, n98⟩, -, X98, ⟨Lc98, hQ98, l98, y98, z98⟩, st98⟩ := X91.specialBack hx (y := (⟨"com/example/loxodrome/loxodrome/geo/geodesy/RootFinder$Bracket", "<init>", "(DDDD)V"⟩ : MethodName)) rfl hown (mvT hZ (hw _ (List.mem_of_getElem? (i := 5) rfl))) (mvT hZ (hw _ (List.mem_of_getElem? (i := 6) rfl))) (mvT hZ (hw _ (List.mem_of_getElem? (i := 7) rfl))) (by decide) (backOf (W := 1) (rm1 l Z a0 hw [] b91 w70 w76 w84 w90 h91 n0 Z93 A91 f94 f95 f96 f97 gg91) hZ (hw _ (List.mem_of_getElem? (i := 7) rfl)) (hw _ (List.mem_of_getElem? (i := 4) rfl)) (by decide) (by decide)) (g := (mkF m 136 #[.val (.int r), .val (.int s0), .val (.int p0), .val (.int q0), .val (.int fl), .val (.double w70), .second, .val (.long w83), .second, .val (.long w89), .second, .val (.double w76), .second, .val (.double w84), .second, .val (.double w90), .second, .unset, .unset] [(.double w90), (.double w84), (.double w76), (.double w70), (.ref b91), (.ref b91)])) rfl (by rw [hml]; rfl) (Steps.refl _) (a := b91) (argsL := [(.double w70), (.double w76), (.double w84), (.double w90)]) (rest := [(.ref b91)]) (lenOf pd_1 rfl) rfl (by show 2 * 0 + _ ≤ _; exact Nat.le_of_eq rfl) (hb hby at_136) (fun _ _ => ⟨rfl, e91, (by decide : 1 + 0 ≤ _), (by decide : 4 + 0 ≤ _)⟩)
    dsimp only [Pt.U, Pt.locs, Pt.cells, Pt.slots] at X98 l98 y98 z98 st98 hQ98
    subst l98 y98 z98
    obtain ⟨rfl, N98q, K98, Eq98, fq98_0, fq98_1, fq98_2, fq98_3⟩ := hQ98
    have N98 := Fr.app N0 N98q
    have K99 : Keep h0 T98.heap [] := K92.trans K98 (allS (Or.inr sz91) all0)
    have Z100 : n0 ≤ T98.heap.size := Nat.le_trans Z93 K98.1
    obtain ⟨cq101, kq101, q101a, q101b, q101c⟩ := isOf hZ rfl Eq98
    obtain ⟨_, _, ⟨T101, L101, k101, n101⟩, -, X101, ⟨Lc101, hQ101, l101, y101, z101⟩, st101⟩ := X98.virtualBack hx (y := (⟨"com/example/loxodrome/loxodrome/geo/geodesy/RootFinder$Bracket", "nearerEnd", "()D"⟩ : MethodName)) (z := (⟨"com/example/loxodrome/loxodrome/geo/geodesy/RootFinder$Bracket", "nearerEnd", "()D"⟩ : MethodName)) hown (mvT hZ (hw _ (List.mem_of_getElem? (i := 24) rfl))) (mvT hZ (hw _ (List.mem_of_getElem? (i := 25) rfl))) (notFace_of_selects (args := #[]) (mvT hZ (hw _ (List.mem_of_getElem? (i := 27) rfl)))) (mvT hZ (hw _ (List.mem_of_getElem? (i := 27) rfl))) (mvT hZ (hw _ (List.mem_of_getElem? (i := 26) rfl))) (by decide) (backOf (W := 0) (rm4 l Z a0 hw [] b91 w84 w90 w76 w70 T98.heap n0 Z100 fq98_2 fq98_3 fq98_1 fq98_0) hZ (hw _ (List.mem_of_getElem? (i := 28) rfl)) (hw _ (List.mem_of_getElem? (i := 4) rfl)) (by decide) (by decide)) q101a q101c (g := (mkF m 139 #[.val (.int r), .val (.int s0), .val (.int p0), .val (.int q0), .val (.int fl), .val (.double w70), .second, .val (.long w83), .second, .val (.long w89), .second, .val (.double w76), .second, .val (.double w84), .second, .val (.double w90), .second, .unset, .unset] [(.ref b91)])) rfl (by rw [hml]; rfl) (Steps.refl _) (argsL := []) (rest := []) (lenOf pd_2 rfl) rfl (by show 2 * 0 + _ ≤ _; exact Nat.le_of_eq rfl) (hb hby at_139) (fun _ _ => ⟨rfl, rfl, (by decide : 1 + 0 ≤ _), (by decide : 4 + 0 ≤ _)⟩)
    dsimp only [Pt.U, Pt.locs, Pt.cells, Pt.slots] at X101 l101 y101 z101 st101 hQ101
    subst l101 y101 z101
    obtain ⟨rfl, N101q, e101⟩ := hQ101
    have N101 := Fr.app N98 N101q
    have S102 : ∀ t, Steps p.tables e below (T101.setTop (mkF m 149 #[.val (.int r), .val (.int s0), .val (.int p0), .val (.int q0), .val (.int fl), .val (.double w70), .second, .val (.long w83), .second, .val (.long w89), .second, .val (.double w76), .second, .val (.double w84), .second, .val (.double w90), .second, .val (.double (f4 w84 w90 w76 w70)), .second] [(.int (lcmpW w83 w89))])) t → Steps p.tables e below (s₁.setTop (entryFrame m #[(.int r), (.int s0), (.int p0), (.int q0), (.int fl)] maxLocals)) t := by
      intro t k
      refine S88 t ?_
      refine st91 _ ?_
      show Steps p.tables e below (T91.setTop (mkF m 127 #[.val (.int r), .val (.int s0), .val (.int p0), .val (.int q0), .val (.int fl), .val (.double w70), .second, .val (.long w83), .second, .val (.long w89), .second, .val (.double w76), .second, .val (.double w84), .second, .val (.double w90), .second, .unset, .unset] [(.ref b91)])) _
      refine XS.dup X91.here hx rfl (hb hby at_127) rfl rfl ?_
      show Steps p.tables e below (T91.setTop (mkF m 128 #[.val (.int r), .val (.int s0), .val (.int p0), .val (.int q0), .val (.int fl), .val (.double w70), .second, .val (.long w83), .second, .val (.long w89), .second, .val (.double w76), .second, .val (.double w84), .second, .val (.double w90), .second, .unset, .unset] [(.ref b91), (.ref b91)])) _
      refine XS.dload X91.here hx rfl (hb hby at_128) rfl ?_
      show Steps p.tables e below (T91.setTop (mkF m 130 #[.val (.int r), .val (.int s0), .val (.int p0), .val (.int q0), .val (.int fl), .val (.double w70), .second, .val (.long w83), .second, .val (.long w89), .second, .val (.double w76), .second, .val (.double w84), .second, .val (.double w90), .second, .unset, .unset] [(.double w70), (.ref b91), (.ref b91)])) _
      refine XS.dload X91.here hx rfl (hb hby at_130) rfl ?_
      show Steps p.tables e below (T91.setTop (mkF m 132 #[.val (.int r), .val (.int s0), .val (.int p0), .val (.int q0), .val (.int fl), .val (.double w70), .second, .val (.long w83), .second, .val (.long w89), .second, .val (.double w76), .second, .val (.double w84), .second, .val (.double w90), .second, .unset, .unset] [(.double w76), (.double w70), (.ref b91), (.ref b91)])) _
      refine XS.dload X91.here hx rfl (hb hby at_132) rfl ?_
      show Steps p.tables e below (T91.setTop (mkF m 134 #[.val (.int r), .val (.int s0), .val (.int p0), .val (.int q0), .val (.int fl), .val (.double w70), .second, .val (.long w83), .second, .val (.long w89), .second, .val (.double w76), .second, .val (.double w84), .second, .val (.double w90), .second, .unset, .unset] [(.double w84), (.double w76), (.double w70), (.ref b91), (.ref b91)])) _
      refine XS.dload X91.here hx rfl (hb hby at_134) rfl ?_
      show Steps p.tables e below (T91.setTop (mkF m 136 #[.val (.int r), .val (.int s0), .val (.int p0), .val (.int q0), .val (.int fl), .val (.double w70), .second, .val (.long w83), .second, .val (.long w89), .second, .val (.double w76), .second, .val (.double w84), .second, .val (.double w90), .second, .unset, .unset] [(.double w90), (.double w84), (.double w76), (.double w70), (.ref b91), (.ref b91)])) _
      refine st98.trans ?_
      show Steps p.tables e below (T98.setTop (mkF m 139 #[.val (.int r), .val (.int s0), .val (.int p0), .val (.int q0), .val (.int fl), .val (.double w70), .second, .val (.long w83), .second, .val (.long w89), .second, .val (.double w76), .second, .val (.double w84), .second, .val (.double w90), .second, .unset, .unset] [(.ref b91)])) _
      refine st101.trans ?_
      show Steps p.tables e below (T101.setTop (mkF m 142 #[.val (.int r), .val (.int s0), .val (.int p0), .val (.int q0), .val (.int fl), .val (.double w70), .second, .val (.long w83), .second, .val (.long w89), .second, .val (.double w76), .second, .val (.double w84), .second, .val (.double w90), .second, .unset, .unset] [(.double (f4 w84 w90 w76 w70))])) _
      refine XS.dstore X101.here hx rfl (hb hby at_142) rfl (l' := #[.val (.int r), .val (.int s0), .val (.int p0), .val (.int q0), .val (.int fl), .val (.double w70), .second, .val (.long w83), .second, .val (.long w89), .second, .val (.double w76), .second, .val (.double w84), .second, .val (.double w90), .second, .val (.double (f4 w84 w90 w76 w70)), .second]) rfl ?_
      show Steps p.tables e below (T101.setTop (mkF m 144 #[.val (.int r), .val (.int s0), .val (.int p0), .val (.int q0), .val (.int fl), .val (.double w70), .second, .val (.long w83), .second, .val (.long w89), .second, .val (.double w76), .second, .val (.double w84), .second, .val (.double w90), .second, .val (.double (f4 w84 w90 w76 w70)), .second] [])) _
      refine XS.lload X101.here hx rfl (hb hby at_144) rfl ?_
      show Steps p.tables e below (T101.setTop (mkF m 146 #[.val (.int r), .val (.int s0), .val (.int p0), .val (.int q0), .val (.int fl), .val (.double w70), .second, .val (.long w83), .second, .val (.long w89), .second, .val (.double w76), .second, .val (.double w84), .second, .val (.double w90), .second, .val (.double (f4 w84 w90 w76 w70)), .second] [(.long w83)])) _
      refine XS.lload X101.here hx rfl (hb hby at_146) rfl ?_
      show Steps p.tables e below (T101.setTop (mkF m 148 #[.val (.int r), .val (.int s0), .val (.int p0), .val (.int q0), .val (.int fl), .val (.double w70), .second, .val (.long w83), .second, .val (.long w89), .second, .val (.double w76), .second, .val (.double w84), .second, .val (.double w90), .second, .val (.double (f4 w84 w90 w76 w70)), .second] [(.long w89), (.long w83)])) _
      refine XS.lcmp X101.here hx rfl (hb hby at_148) rfl ?_
      show Steps p.tables e below (T101.setTop (mkF m 149 #[.val (.int r), .val (.int s0), .val (.int p0), .val (.int q0), .val (.int fl), .val (.double w70), .second, .val (.long w83), .second, .val (.long w89), .second, .val (.double w76), .second, .val (.double w84), .second, .val (.double w90), .second, .val (.double (f4 w84 w90 w76 w70)), .second] [(.int (lcmpW w83 w89))])) _
      exact k
    obtain ⟨w103, hw103⟩ : ∃ z : UInt64, z = (f4 w84 w90 w76 w70) := ⟨_, rfl⟩
    rw [← hw103] at S102
    obtain ⟨w104, hw104⟩ : ∃ z : Int32, z = (lcmpW w83 w89) := ⟨_, rfl⟩
    rw [← hw104] at S102
    by_cases hc105 : w104 < (0 : Int32)
    · have S106 : ∀ t, Steps p.tables e below (T101.setTop (mkF m 157 #[.val (.int r), .val (.int s0), .val (.int p0), .val (.int q0), .val (.int fl), .val (.double w70), .second, .val (.long w83), .second, .val (.long w89), .second, .val (.double w76), .second, .val (.double w84), .second, .val (.double w90), .second, .val (.double w103), .second] [(.int (cmpValue (FP.dcmp w103 w70) .l))])) t → Steps p.tables e below (s₁.setTop (entryFrame m #[(.int r), (.int s0), (.int p0), (.int q0), (.int fl)] maxLocals)) t := by
        intro t k
        refine S102 t ?_
        refine XS.ifNo X101.here hx rfl (hb hby at_149) rfl ((if0 _ _).trans (tlt hc105).2.1) ?_
        show Steps p.tables e below (T101.setTop (mkF m 152 #[.val (.int r), .val (.int s0), .val (.int p0), .val (.int q0), .val (.int fl), .val (.double w70), .second, .val (.long w83), .second, .val (.long w89), .second, .val (.double w76), .second, .val (.double w84), .second, .val (.double w90), .second, .val (.double w103), .second] [])) _
        refine XS.dload X101.here hx rfl (hb hby at_152) rfl ?_
        show Steps p.tables e below (T101.setTop (mkF m 154 #[.val (.int r), .val (.int s0), .val (.int p0), .val (.int q0), .val (.int fl), .val (.double w70), .second, .val (.long w83), .second, .val (.long w89), .second, .val (.double w76), .second, .val (.double w84), .second, .val (.double w90), .second, .val (.double w103), .second] [(.double w103)])) _
        refine XS.dload X101.here hx rfl (hb hby at_154) rfl ?_
        show Steps p.tables e below (T101.setTop (mkF m 156 #[.val (.int r), .val (.int s0), .val (.int p0), .val (.int q0), .val (.int fl), .val (.double w70), .second, .val (.long w83), .second, .val (.long w89), .second, .val (.double w76), .second, .val (.double w84), .second, .val (.double w90), .second, .val (.double w103), .second] [(.double w70), (.double w103)])) _
        refine XS.dcmpS X101.here hx rfl (hb hby at_156) rfl rfl ?_
        show Steps p.tables e below (T101.setTop (mkF m 157 #[.val (.int r), .val (.int s0), .val (.int p0), .val (.int q0), .val (.int fl), .val (.double w70), .second, .val (.long w83), .second, .val (.long w89), .second, .val (.double w76), .second, .val (.double w84), .second, .val (.double w90), .second, .val (.double w103), .second] [(.int (cmpValue (FP.dcmp w103 w70) .l))])) _
        exact k
      obtain ⟨w107, hw107⟩ : ∃ z : Int32, z = (cmpValue (FP.dcmp w103 w70) .l) := ⟨_, rfl⟩
      rw [← hw107] at S106
      have S109 : ∀ t, Steps p.tables e below (T101.setTop (mkF m 165 #[.val (.int r), .val (.int s0), .val (.int p0), .val (.int q0), .val (.int fl), .val (.double w70), .second, .val (.long w83), .second, .val (.long w89), .second, .val (.double w76), .second, .val (.double w84), .second, .val (.double w90), .second, .val (.double w103), .second] [(.int (if w107 = (0 : Int32) then (1 : Int32) else (0 : Int32)))])) t → Steps p.tables e below (s₁.setTop (entryFrame m #[(.int r), (.int s0), (.int p0), (.int q0), (.int fl)] maxLocals)) t := by
        intro t k
        refine S106 t ?_
        by_cases hc108 : w107 = (0 : Int32)
        · rw [if_pos hc108] at k
          refine XS.ifNo X101.here hx rfl (hb hby at_157) rfl ((if0 _ _).trans (teq hc108).2) ?_
          show Steps p.tables e below (T101.setTop (mkF m 160 #[.val (.int r), .val (.int s0), .val (.int p0), .val (.int q0), .val (.int fl), .val (.double w70), .second, .val (.long w83), .second, .val (.long w89), .second, .val (.double w76), .second, .val (.double w84), .second, .val (.double w90), .second, .val (.double w103), .second] [])) _
          refine XS.iconst X101.here hx rfl (hb hby at_160) ?_
          show Steps p.tables e below (T101.setTop (mkF m 161 #[.val (.int r), .val (.int s0), .val (.int p0), .val (.int q0), .val (.int fl), .val (.double w70), .second, .val (.long w83), .second, .val (.long w89), .second, .val (.double w76), .second, .val (.double w84), .second, .val (.double w90), .second, .val (.double w103), .second] [(.int (1 : Int32))])) _
          refine XS.goto X101.here hx rfl (pc0 := 161) (pc' := 165) rfl (hb hby at_161) (by decide) (by decide) ?_
          show Steps p.tables e below (T101.setTop (mkF m 165 #[.val (.int r), .val (.int s0), .val (.int p0), .val (.int q0), .val (.int fl), .val (.double w70), .second, .val (.long w83), .second, .val (.long w89), .second, .val (.double w76), .second, .val (.double w84), .second, .val (.double w90), .second, .val (.double w103), .second] [(.int (1 : Int32))])) _
          exact k
        · rw [if_neg hc108] at k
          refine XS.ifYes X101.here hx rfl (pc0 := 157) (pc' := 164) rfl (hb hby at_157) rfl ((if0 _ _).trans (feq hc108).2) (by decide) (by decide) ?_
          show Steps p.tables e below (T101.setTop (mkF m 164 #[.val (.int r), .val (.int s0), .val (.int p0), .val (.int q0), .val (.int fl), .val (.double w70), .second, .val (.long w83), .second, .val (.long w89), .second, .val (.double w76), .second, .val (.double w84), .second, .val (.double w90), .second, .val (.double w103), .second] [])) _
          refine XS.iconst X101.here hx rfl (hb hby at_164) ?_
          show Steps p.tables e below (T101.setTop (mkF m 165 #[.val (.int r), .val (.int s0), .val (.int p0), .val (.int q0), .val (.int fl), .val (.double w70), .second, .val (.long w83), .second, .val (.long w89), .second, .val (.double w76), .second, .val (.double w84), .second, .val (.double w90), .second, .val (.double w103), .second] [(.int (0 : Int32))])) _
          exact k
      obtain ⟨w110, hw110⟩ : ∃ z : Int32, z = (if w107 = (0 : Int32) then (1 : Int32) else (0 : Int32)) := ⟨_, rfl⟩
      rw [← hw110] at S109
      have hres : w110 = (1 : Int32) := (own_law1 r s0 p0 q0 fl w70 hw70 w71 hw71 w74 hw74 w75 hw75 w76 hw76 w78 hw78 w79 hw79 w80 hw80 w83 hw83 w84 hw84 w86 hw86 w89 hw89 w90 hw90 w103 hw103 w104 hw104 w107 hw107 w110 hw110 hc72 hc105)
      subst hres
      obtain ⟨fs, hr, hrun, hended, hW, hsame⟩ := X101.leave (v := some (.int (1 : Int32))) (fun h => by rw [Bd.returns] at h; cases h)
      refine ⟨_, _, S109 _ ?_, hrun, hended, _, _, rfl, ?_, ⟨_, rfl⟩, hW, hsame.mono (by decide) (by decide)⟩
      · exact retN X101 hx (t := .boolean) Bd.returns (by simp) (hb hby at_165) hr
      · show Q0 Z r s0 p0 q0 fl h0 n0 _ T101.heap _
        rw [e101]
        exact ⟨rfl, N101⟩
    · have S111 : ∀ t, Steps p.tables e below (T101.setTop (mkF m 171 #[.val (.int r), .val (.int s0), .val (.int p0), .val (.int q0), .val (.int fl), .val (.double w70), .second, .val (.long w83), .second, .val (.long w89), .second, .val (.double w76), .second, .val (.double w84), .second, .val (.double w90), .second, .val (.double w103), .second] [(.int (lcmpW w89 w83))])) t → Steps p.tables e below (s₁.setTop (entryFrame m #[(.int r), (.int s0), (.int p0), (.int q0), (.int fl)] maxLocals)) t := by
        intro t k
        refine S102 t ?_
        refine XS.ifYes X101.here hx rfl (pc0 := 149) (pc' := 166) rfl (hb hby at_149) rfl ((if0 _ _).trans (flt hc105).2.1) (by decide) (by decide) ?_
        show Steps p.tables e below (T101.setTop (mkF m 166 #[.val (.int r), .val (.int s0), .val (.int p0), .val (.int q0), .val (.int fl), .val (.double w70), .second, .val (.long w83), .second, .val (.long w89), .second, .val (.double w76), .second, .val (.double w84), .second, .val (.double w90), .second, .val (.double w103), .second] [])) _
        refine XS.lload X101.here hx rfl (hb hby at_166) rfl ?_
        show Steps p.tables e below (T101.setTop (mkF m 168 #[.val (.int r), .val (.int s0), .val (.int p0), .val (.int q0), .val (.int fl), .val (.double w70), .second, .val (.long w83), .second, .val (.long w89), .second, .val (.double w76), .second, .val (.double w84), .second, .val (.double w90), .second, .val (.double w103), .second] [(.long w89)])) _
        refine XS.lload X101.here hx rfl (hb hby at_168) rfl ?_
        show Steps p.tables e below (T101.setTop (mkF m 170 #[.val (.int r), .val (.int s0), .val (.int p0), .val (.int q0), .val (.int fl), .val (.double w70), .second, .val (.long w83), .second, .val (.long w89), .second, .val (.double w76), .second, .val (.double w84), .second, .val (.double w90), .second, .val (.double w103), .second] [(.long w83), (.long w89)])) _
        refine XS.lcmp X101.here hx rfl (hb hby at_170) rfl ?_
        show Steps p.tables e below (T101.setTop (mkF m 171 #[.val (.int r), .val (.int s0), .val (.int p0), .val (.int q0), .val (.int fl), .val (.double w70), .second, .val (.long w83), .second, .val (.long w89), .second, .val (.double w76), .second, .val (.double w84), .second, .val (.double w90), .second, .val (.double w103), .second] [(.int (lcmpW w89 w83))])) _
        exact k
      obtain ⟨w112, hw112⟩ : ∃ z : Int32, z = (lcmpW w89 w83) := ⟨_, rfl⟩
      rw [← hw112] at S111
      by_cases hc113 : w112 < (0 : Int32)
      · have S114 : ∀ t, Steps p.tables e below (T101.setTop (mkF m 179 #[.val (.int r), .val (.int s0), .val (.int p0), .val (.int q0), .val (.int fl), .val (.double w70), .second, .val (.long w83), .second, .val (.long w89), .second, .val (.double w76), .second, .val (.double w84), .second, .val (.double w90), .second, .val (.double w103), .second] [(.int (cmpValue (FP.dcmp w103 w76) .l))])) t → Steps p.tables e below (s₁.setTop (entryFrame m #[(.int r), (.int s0), (.int p0), (.int q0), (.int fl)] maxLocals)) t := by
          intro t k
          refine S111 t ?_
          refine XS.ifNo X101.here hx rfl (hb hby at_171) rfl ((if0 _ _).trans (tlt hc113).2.1) ?_
          show Steps p.tables e below (T101.setTop (mkF m 174 #[.val (.int r), .val (.int s0), .val (.int p0), .val (.int q0), .val (.int fl), .val (.double w70), .second, .val (.long w83), .second, .val (.long w89), .second, .val (.double w76), .second, .val (.double w84), .second, .val (.double w90), .second, .val (.double w103), .second] [])) _
          refine XS.dload X101.here hx rfl (hb hby at_174) rfl ?_
          show Steps p.tables e below (T101.setTop (mkF m 176 #[.val (.int r), .val (.int s0), .val (.int p0), .val (.int q0), .val (.int fl), .val (.double w70), .second, .val (.long w83), .second, .val (.long w89), .second, .val (.double w76), .second, .val (.double w84), .second, .val (.double w90), .second, .val (.double w103), .second] [(.double w103)])) _
          refine XS.dload X101.here hx rfl (hb hby at_176) rfl ?_
          show Steps p.tables e below (T101.setTop (mkF m 178 #[.val (.int r), .val (.int s0), .val (.int p0), .val (.int q0), .val (.int fl), .val (.double w70), .second, .val (.long w83), .second, .val (.long w89), .second, .val (.double w76), .second, .val (.double w84), .second, .val (.double w90), .second, .val (.double w103), .second] [(.double w76), (.double w103)])) _
          refine XS.dcmpS X101.here hx rfl (hb hby at_178) rfl rfl ?_
          show Steps p.tables e below (T101.setTop (mkF m 179 #[.val (.int r), .val (.int s0), .val (.int p0), .val (.int q0), .val (.int fl), .val (.double w70), .second, .val (.long w83), .second, .val (.long w89), .second, .val (.double w76), .second, .val (.double w84), .second, .val (.double w90), .second, .val (.double w103), .second] [(.int (cmpValue (FP.dcmp w103 w76) .l))])) _
          exact k
        obtain ⟨w115, hw115⟩ : ∃ z : Int32, z = (cmpValue (FP.dcmp w103 w76) .l) := ⟨_, rfl⟩
        rw [← hw115] at S114
        have S117 : ∀ t, Steps p.tables e below (T101.setTop (mkF m 187 #[.val (.int r), .val (.int s0), .val (.int p0), .val (.int q0), .val (.int fl), .val (.double w70), .second, .val (.long w83), .second, .val (.long w89), .second, .val (.double w76), .second, .val (.double w84), .second, .val (.double w90), .second, .val (.double w103), .second] [(.int (if w115 = (0 : Int32) then (1 : Int32) else (0 : Int32)))])) t → Steps p.tables e below (s₁.setTop (entryFrame m #[(.int r), (.int s0), (.int p0), (.int q0), (.int fl)] maxLocals)) t := by
          intro t k
          refine S114 t ?_
          by_cases hc116 : w115 = (0 : Int32)
          · rw [if_pos hc116] at k
            refine XS.ifNo X101.here hx rfl (hb hby at_179) rfl ((if0 _ _).trans (teq hc116).2) ?_
            show Steps p.tables e below (T101.setTop (mkF m 182 #[.val (.int r), .val (.int s0), .val (.int p0), .val (.int q0), .val (.int fl), .val (.double w70), .second, .val (.long w83), .second, .val (.long w89), .second, .val (.double w76), .second, .val (.double w84), .second, .val (.double w90), .second, .val (.double w103), .second] [])) _
            refine XS.iconst X101.here hx rfl (hb hby at_182) ?_
            show Steps p.tables e below (T101.setTop (mkF m 183 #[.val (.int r), .val (.int s0), .val (.int p0), .val (.int q0), .val (.int fl), .val (.double w70), .second, .val (.long w83), .second, .val (.long w89), .second, .val (.double w76), .second, .val (.double w84), .second, .val (.double w90), .second, .val (.double w103), .second] [(.int (1 : Int32))])) _
            refine XS.goto X101.here hx rfl (pc0 := 183) (pc' := 187) rfl (hb hby at_183) (by decide) (by decide) ?_
            show Steps p.tables e below (T101.setTop (mkF m 187 #[.val (.int r), .val (.int s0), .val (.int p0), .val (.int q0), .val (.int fl), .val (.double w70), .second, .val (.long w83), .second, .val (.long w89), .second, .val (.double w76), .second, .val (.double w84), .second, .val (.double w90), .second, .val (.double w103), .second] [(.int (1 : Int32))])) _
            exact k
          · rw [if_neg hc116] at k
            refine XS.ifYes X101.here hx rfl (pc0 := 179) (pc' := 186) rfl (hb hby at_179) rfl ((if0 _ _).trans (feq hc116).2) (by decide) (by decide) ?_
            show Steps p.tables e below (T101.setTop (mkF m 186 #[.val (.int r), .val (.int s0), .val (.int p0), .val (.int q0), .val (.int fl), .val (.double w70), .second, .val (.long w83), .second, .val (.long w89), .second, .val (.double w76), .second, .val (.double w84), .second, .val (.double w90), .second, .val (.double w103), .second] [])) _
            refine XS.iconst X101.here hx rfl (hb hby at_186) ?_
            show Steps p.tables e below (T101.setTop (mkF m 187 #[.val (.int r), .val (.int s0), .val (.int p0), .val (.int q0), .val (.int fl), .val (.double w70), .second, .val (.long w83), .second, .val (.long w89), .second, .val (.double w76), .second, .val (.double w84), .second, .val (.double w90), .second, .val (.double w103), .second] [(.int (0 : Int32))])) _
            exact k
        obtain ⟨w118, hw118⟩ : ∃ z : Int32, z = (if w115 = (0 : Int32) then (1 : Int32) else (0 : Int32)) := ⟨_, rfl⟩
        rw [← hw118] at S117
        have hres : w118 = (1 : Int32) := (own_law2 r s0 p0 q0 fl w70 hw70 w71 hw71 w74 hw74 w75 hw75 w76 hw76 w78 hw78 w79 hw79 w80 hw80 w83 hw83 w84 hw84 w86 hw86 w89 hw89 w90 hw90 w103 hw103 w104 hw104 w112 hw112 w115 hw115 w118 hw118 hc72 hc105 hc113)
        subst hres
        obtain ⟨fs, hr, hrun, hended, hW, hsame⟩ := X101.leave (v := some (.int (1 : Int32))) (fun h => by rw [Bd.returns] at h; cases h)
        refine ⟨_, _, S117 _ ?_, hrun, hended, _, _, rfl, ?_, ⟨_, rfl⟩, hW, hsame.mono (by decide) (by decide)⟩
        · exact retN X101 hx (t := .boolean) Bd.returns (by simp) (hb hby at_187) hr
        · show Q0 Z r s0 p0 q0 fl h0 n0 _ T101.heap _
          rw [e101]
          exact ⟨rfl, N101⟩
      · have S119 : ∀ t, Steps p.tables e below (T101.setTop (mkF m 193 #[.val (.int r), .val (.int s0), .val (.int p0), .val (.int q0), .val (.int fl), .val (.double w70), .second, .val (.long w83), .second, .val (.long w89), .second, .val (.double w76), .second, .val (.double w84), .second, .val (.double w90), .second, .val (.double w103), .second] [(.int (cmpValue (FP.dcmp w103 w70) .l))])) t → Steps p.tables e below (s₁.setTop (entryFrame m #[(.int r), (.int s0), (.int p0), (.int q0), (.int fl)] maxLocals)) t := by
          intro t k
          refine S111 t ?_
          refine XS.ifYes X101.here hx rfl (pc0 := 171) (pc' := 188) rfl (hb hby at_171) rfl ((if0 _ _).trans (flt hc113).2.1) (by decide) (by decide) ?_
          show Steps p.tables e below (T101.setTop (mkF m 188 #[.val (.int r), .val (.int s0), .val (.int p0), .val (.int q0), .val (.int fl), .val (.double w70), .second, .val (.long w83), .second, .val (.long w89), .second, .val (.double w76), .second, .val (.double w84), .second, .val (.double w90), .second, .val (.double w103), .second] [])) _
          refine XS.dload X101.here hx rfl (hb hby at_188) rfl ?_
          show Steps p.tables e below (T101.setTop (mkF m 190 #[.val (.int r), .val (.int s0), .val (.int p0), .val (.int q0), .val (.int fl), .val (.double w70), .second, .val (.long w83), .second, .val (.long w89), .second, .val (.double w76), .second, .val (.double w84), .second, .val (.double w90), .second, .val (.double w103), .second] [(.double w103)])) _
          refine XS.dload X101.here hx rfl (hb hby at_190) rfl ?_
          show Steps p.tables e below (T101.setTop (mkF m 192 #[.val (.int r), .val (.int s0), .val (.int p0), .val (.int q0), .val (.int fl), .val (.double w70), .second, .val (.long w83), .second, .val (.long w89), .second, .val (.double w76), .second, .val (.double w84), .second, .val (.double w90), .second, .val (.double w103), .second] [(.double w70), (.double w103)])) _
          refine XS.dcmpS X101.here hx rfl (hb hby at_192) rfl rfl ?_
          show Steps p.tables e below (T101.setTop (mkF m 193 #[.val (.int r), .val (.int s0), .val (.int p0), .val (.int q0), .val (.int fl), .val (.double w70), .second, .val (.long w83), .second, .val (.long w89), .second, .val (.double w76), .second, .val (.double w84), .second, .val (.double w90), .second, .val (.double w103), .second] [(.int (cmpValue (FP.dcmp w103 w70) .l))])) _
          exact k
        obtain ⟨w120, hw120⟩ : ∃ z : Int32, z = (cmpValue (FP.dcmp w103 w70) .l) := ⟨_, rfl⟩
        rw [← hw120] at S119
        have S123 : ∀ t, Steps p.tables e below (T101.setTop (mkF m 209 #[.val (.int r), .val (.int s0), .val (.int p0), .val (.int q0), .val (.int fl), .val (.double w70), .second, .val (.long w83), .second, .val (.long w89), .second, .val (.double w76), .second, .val (.double w84), .second, .val (.double w90), .second, .val (.double w103), .second] [(.int (if w120 = (0 : Int32) then (1 : Int32) else (if (cmpValue (FP.dcmp w103 w76) .l) = (0 : Int32) then (1 : Int32) else (0 : Int32))))])) t → Steps p.tables e below (s₁.setTop (entryFrame m #[(.int r), (.int s0), (.int p0), (.int q0), (.int fl)] maxLocals)) t := by
          intro t k
          refine S119 t ?_
          by_cases hc121 : w120 = (0 : Int32)
          · rw [if_pos hc121] at k
            refine XS.ifYes X101.here hx rfl (pc0 := 193) (pc' := 204) rfl (hb hby at_193) rfl ((if0 _ _).trans (teq hc121).1) (by decide) (by decide) ?_
            show Steps p.tables e below (T101.setTop (mkF m 204 #[.val (.int r), .val (.int s0), .val (.int p0), .val (.int q0), .val (.int fl), .val (.double w70), .second, .val (.long w83), .second, .val (.long w89), .second, .val (.double w76), .second, .val (.double w84), .second, .val (.double w90), .second, .val (.double w103), .second] [])) _
            refine XS.iconst X101.here hx rfl (hb hby at_204) ?_
            show Steps p.tables e below (T101.setTop (mkF m 205 #[.val (.int r), .val (.int s0), .val (.int p0), .val (.int q0), .val (.int fl), .val (.double w70), .second, .val (.long w83), .second, .val (.long w89), .second, .val (.double w76), .second, .val (.double w84), .second, .val (.double w90), .second, .val (.double w103), .second] [(.int (1 : Int32))])) _
            refine XS.goto X101.here hx rfl (pc0 := 205) (pc' := 209) rfl (hb hby at_205) (by decide) (by decide) ?_
            show Steps p.tables e below (T101.setTop (mkF m 209 #[.val (.int r), .val (.int s0), .val (.int p0), .val (.int q0), .val (.int fl), .val (.double w70), .second, .val (.long w83), .second, .val (.long w89), .second, .val (.double w76), .second, .val (.double w84), .second, .val (.double w90), .second, .val (.double w103), .second] [(.int (1 : Int32))])) _
            exact k
          · rw [if_neg hc121] at k
            refine XS.ifNo X101.here hx rfl (hb hby at_193) rfl ((if0 _ _).trans (feq hc121).1) ?_
            show Steps p.tables e below (T101.setTop (mkF m 196 #[.val (.int r), .val (.int s0), .val (.int p0), .val (.int q0), .val (.int fl), .val (.double w70), .second, .val (.long w83), .second, .val (.long w89), .second, .val (.double w76), .second, .val (.double w84), .second, .val (.double w90), .second, .val (.double w103), .second] [])) _
            refine XS.dload X101.here hx rfl (hb hby at_196) rfl ?_
            show Steps p.tables e below (T101.setTop (mkF m 198 #[.val (.int r), .val (.int s0), .val (.int p0), .val (.int q0), .val (.int fl), .val (.double w70), .second, .val (.long w83), .second, .val (.long w89), .second, .val (.double w76), .second, .val (.double w84), .second, .val (.double w90), .second, .val (.double w103), .second] [(.double w103)])) _
            refine XS.dload X101.here hx rfl (hb hby at_198) rfl ?_
            show Steps p.tables e below (T101.setTop (mkF m 200 #[.val (.int r), .val (.int s0), .val (.int p0), .val (.int q0), .val (.int fl), .val (.double w70), .second, .val (.long w83), .second, .val (.long w89), .second, .val (.double w76), .second, .val (.double w84), .second, .val (.double w90), .second, .val (.double w103), .second] [(.double w76), (.double w103)])) _
            refine XS.dcmpS X101.here hx rfl (hb hby at_200) rfl rfl ?_
            show Steps p.tables e below (T101.setTop (mkF m 201 #[.val (.int r), .val (.int s0), .val (.int p0), .val (.int q0), .val (.int fl), .val (.double w70), .second, .val (.long w83), .second, .val (.long w89), .second, .val (.double w76), .second, .val (.double w84), .second, .val (.double w90), .second, .val (.double w103), .second] [(.int (cmpValue (FP.dcmp w103 w76) .l))])) _
            by_cases hc122 : (cmpValue (FP.dcmp w103 w76) .l) = (0 : Int32)
            · rw [if_pos hc122] at k
              refine XS.ifNo X101.here hx rfl (hb hby at_201) rfl ((if0 _ _).trans (teq hc122).2) ?_
              show Steps p.tables e below (T101.setTop (mkF m 204 #[.val (.int r), .val (.int s0), .val (.int p0), .val (.int q0), .val (.int fl), .val (.double w70), .second, .val (.long w83), .second, .val (.long w89), .second, .val (.double w76), .second, .val (.double w84), .second, .val (.double w90), .second, .val (.double w103), .second] [])) _
              refine XS.iconst X101.here hx rfl (hb hby at_204) ?_
              show Steps p.tables e below (T101.setTop (mkF m 205 #[.val (.int r), .val (.int s0), .val (.int p0), .val (.int q0), .val (.int fl), .val (.double w70), .second, .val (.long w83), .second, .val (.long w89), .second, .val (.double w76), .second, .val (.double w84), .second, .val (.double w90), .second, .val (.double w103), .second] [(.int (1 : Int32))])) _
              refine XS.goto X101.here hx rfl (pc0 := 205) (pc' := 209) rfl (hb hby at_205) (by decide) (by decide) ?_
              show Steps p.tables e below (T101.setTop (mkF m 209 #[.val (.int r), .val (.int s0), .val (.int p0), .val (.int q0), .val (.int fl), .val (.double w70), .second, .val (.long w83), .second, .val (.long w89), .second, .val (.double w76), .second, .val (.double w84), .second, .val (.double w90), .second, .val (.double w103), .second] [(.int (1 : Int32))])) _
              exact k
            · rw [if_neg hc122] at k
              refine XS.ifYes X101.here hx rfl (pc0 := 201) (pc' := 208) rfl (hb hby at_201) rfl ((if0 _ _).trans (feq hc122).2) (by decide) (by decide) ?_
              show Steps p.tables e below (T101.setTop (mkF m 208 #[.val (.int r), .val (.int s0), .val (.int p0), .val (.int q0), .val (.int fl), .val (.double w70), .second, .val (.long w83), .second, .val (.long w89), .second, .val (.double w76), .second, .val (.double w84), .second, .val (.double w90), .second, .val (.double w103), .second] [])) _
              refine XS.iconst X101.here hx rfl (hb hby at_208) ?_
              show Steps p.tables e below (T101.setTop (mkF m 209 #[.val (.int r), .val (.int s0), .val (.int p0), .val (.int q0), .val (.int fl), .val (.double w70), .second, .val (.long w83), .second, .val (.long w89), .second, .val (.double w76), .second, .val (.double w84), .second, .val (.double w90), .second, .val (.double w103), .second] [(.int (0 : Int32))])) _
              exact k
        obtain ⟨w124, hw124⟩ : ∃ z : Int32, z = (if w120 = (0 : Int32) then (1 : Int32) else (if (cmpValue (FP.dcmp w103 w76) .l) = (0 : Int32) then (1 : Int32) else (0 : Int32))) := ⟨_, rfl⟩
        rw [← hw124] at S123
        have hres : w124 = (1 : Int32) := (own_law3 r s0 p0 q0 fl w70 hw70 w71 hw71 w74 hw74 w75 hw75 w76 hw76 w78 hw78 w79 hw79 w80 hw80 w83 hw83 w84 hw84 w86 hw86 w89 hw89 w90 hw90 w103 hw103 w104 hw104 w112 hw112 w120 hw120 w124 hw124 hc72 hc105 hc113)
        subst hres
        obtain ⟨fs, hr, hrun, hended, hW, hsame⟩ := X101.leave (v := some (.int (1 : Int32))) (fun h => by rw [Bd.returns] at h; cases h)
        refine ⟨_, _, S123 _ ?_, hrun, hended, _, _, rfl, ?_, ⟨_, rfl⟩, hW, hsame.mono (by decide) (by decide)⟩
        · exact retN X101 hx (t := .boolean) Bd.returns (by simp) (hb hby at_209) hr
        · show Q0 Z r s0 p0 q0 fl h0 n0 _ T101.heap _
          rw [e101]
          exact ⟨rfl, N101⟩
  · obtain ⟨T125, h125, X125, e125, E125, A125, D125, -, st125⟩ := newO X0 hx hZ hown (hw _ (List.mem_of_getElem? (i := 2) rfl)) (hw _ (List.mem_of_getElem? (i := 3) rfl)) (hw _ (List.mem_of_getElem? (i := 4) rfl)) e0 (g := (mkF m 15 #[.val (.int r), .val (.int s0), .val (.int p0), .val (.int q0), .val (.int fl), .val (.double w70), .second, .val (.double (FP.i2d q0)), .second, .unset, .unset, .unset, .unset, .unset, .unset, .unset, .unset, .unset, .unset] [])) rfl (hb hby at_15) (by decide) (by decide)
    obtain ⟨b125, g125⟩ : ∃ z, z = h0.size := ⟨_, rfl⟩
    rw [← g125] at A125 D125 st125
    have gg125 : n0 ≤ b125 := Nat.le_trans Z0 (Nat.le_of_eq g125.symm)
    have sz125 : h0.size ≤ b125 := Nat.le_trans (Keep.refl h0 []).1 (Nat.le_of_eq g125.symm)
    have K126 : Keep h0 h125 [] := (Keep.refl h0 []).ext E125
    have Z127 : n0 ≤ h125.size := Nat.le_trans Z0 E125.1
    have f128 : Fld Z h125 b125 "com/example/loxodrome/loxodrome/geo/geodesy/RootFinder$Bracket" "below" "D" (.double (0 : UInt64)) := D125 (Or.inr (hw _ (List.mem_of_getElem? (i := 17) rfl))) (ty := .double) (by decide)
    have f129 : Fld Z h125 b125 "com/example/loxodrome/loxodrome/geo/geodesy/RootFinder$Bracket" "above" "D" (.double (0 : UInt64)) := D125 (Or.inr (hw _ (List.mem_of_getElem? (i := 19) rfl))) (ty := .double) (by decide)
    have f130 : Fld Z h125 b125 "com/example/loxodrome/loxodrome/geo/geodesy/RootFinder$Bracket" "valueBelow" "D" (.double (0 : UInt64)) := D125 (Or.inr (hw _ (List.mem_of_getElem? (i := 21) rfl))) (ty := .double) (by decide)
    have f131 : Fld Z h125 b125 "com/example/loxodrome/loxodrome/geo/geodesy/RootFinder$Bracket" "valueAbove" "D" (.double (0 : UInt64)) := D125 (Or.inr (hw _ (List.mem_of_getElem? (i := 23) rfl))) (ty := .double) (by decide)
    obtain ⟨_, _, ⟨T132, L132, k132, n132⟩, -, X132, ⟨Lc132, hQ132, l132, y132, z132⟩, st132⟩ := X125.specialBack hx (y := (⟨"com/example/loxodrome/loxodrome/geo/geodesy/RootFinder$Bracket", "<init>", "(DDDD)V"⟩ : MethodName)) rfl hown (mvT hZ (hw _ (List.mem_of_getElem? (i := 5) rfl))) (mvT hZ (hw _ (List.mem_of_getElem? (i := 6) rfl))) (mvT hZ (hw _ (List.mem_of_getElem? (i := 7) rfl))) (by decide) (backOf (W := 1) (rm1 l Z a0 hw [] b125 w70 w70 (FP.i2d q0) (FP.i2d q0) h125 n0 Z127 A125 f128 f129 f130 f131 gg125) hZ (hw _ (List.mem_of_getElem? (i := 7) rfl)) (hw _ (List.mem_of_getElem? (i := 4) rfl)) (by decide) (by decide)) (g := (mkF m 27 #[.val (.int r), .val (.int s0), .val (.int p0), .val (.int q0), .val (.int fl), .val (.double w70), .second, .val (.double (FP.i2d q0)), .second, .unset, .unset, .unset, .unset, .unset, .unset, .unset, .unset, .unset, .unset] [(.double (FP.i2d q0)), (.double (FP.i2d q0)), (.double w70), (.double w70), (.ref b125), (.ref b125)])) rfl (by rw [hml]; rfl) (Steps.refl _) (a := b125) (argsL := [(.double w70), (.double w70), (.double (FP.i2d q0)), (.double (FP.i2d q0))]) (rest := [(.ref b125)]) (lenOf pd_1 rfl) rfl (by show 2 * 0 + _ ≤ _; exact Nat.le_of_eq rfl) (hb hby at_27) (fun _ _ => ⟨rfl, e125, (by decide : 1 + 0 ≤ _), (by decide : 4 + 0 ≤ _)⟩)
    dsimp only [Pt.U, Pt.locs, Pt.cells, Pt.slots] at X132 l132 y132 z132 st132 hQ132
    subst l132 y132 z132
    obtain ⟨rfl, N132q, K132, Eq132, fq132_0, fq132_1, fq132_2, fq132_3⟩ := hQ132
    have N132 := Fr.app N0 N132q
    have K133 : Keep h0 T132.heap [] := K126.trans K132 (allS (Or.inr sz125) all0)
    have Z134 : n0 ≤ T132.heap.size := Nat.le_trans Z127 K132.1
    obtain ⟨cq135, kq135, q135a, q135b, q135c⟩ := isOf hZ rfl Eq132
    obtain ⟨_, _, ⟨T135, L135, k135, n135⟩, -, X135, ⟨Lc135, hQ135, l135, y135, z135⟩, st135⟩ := X132.virtualBack hx (y := (⟨"com/example/loxodrome/loxodrome/geo/geodesy/RootFinder$Bracket", "nearerEnd", "()D"⟩ : MethodName)) (z := (⟨"com/example/loxodrome/loxodrome/geo/geodesy/RootFinder$Bracket", "nearerEnd", "()D"⟩ : MethodName)) hown (mvT hZ (hw _ (List.mem_of_getElem? (i := 24) rfl))) (mvT hZ (hw _ (List.mem_of_getElem? (i := 25) rfl))) (notFace_of_selects (args := #[]) (mvT hZ (hw _ (List.mem_of_getElem? (i := 27) rfl)))) (mvT hZ (hw _ (List.mem_of_getElem? (i := 27) rfl))) (mvT hZ (hw _ (List.mem_of_getElem? (i := 26) rfl))) (by decide) (backOf (W := 0) (rm4 l Z a0 hw [] b125 (FP.i2d q0) (FP.i2d q0) w70 w70 T132.heap n0 Z134 fq132_2 fq132_3 fq132_1 fq132_0) hZ (hw _ (List.mem_of_getElem? (i := 28) rfl)) (hw _ (List.mem_of_getElem? (i := 4) rfl)) (by decide) (by decide)) q135a q135c (g := (mkF m 34 #[.val (.int r), .val (.int s0), .val (.int p0), .val (.int q0), .val (.int fl), .val (.double w70), .second, .val (.double (FP.i2d q0)), .second, .val (.ref b125), .unset, .unset, .unset, .unset, .unset, .unset, .unset, .unset, .unset] [(.ref b125)])) rfl (by rw [hml]; rfl) (Steps.refl _) (argsL := []) (rest := []) (lenOf pd_2 rfl) rfl (by show 2 * 0 + _ ≤ _; exact Nat.le_of_eq rfl) (hb hby at_34) (fun _ _ => ⟨rfl, rfl, (by decide : 1 + 0 ≤ _), (by decide : 4 + 0 ≤ _)⟩)
    dsimp only [Pt.U, Pt.locs, Pt.cells, Pt.slots] at X135 l135 y135 z135 st135 hQ135
    subst l135 y135 z135
    obtain ⟨rfl, N135q, e135⟩ := hQ135
    have N135 := Fr.app N132 N135q
    have S136 : ∀ t, Steps p.tables e below (T135.setTop (mkF m 40 #[.val (.int r), .val (.int s0), .val (.int p0), .val (.int q0), .val (.int fl), .val (.double w70), .second, .val (.double (FP.i2d q0)), .second, .val (.ref b125), .unset, .unset, .unset, .unset, .unset, .unset, .unset, .unset, .unset] [(.int (cmpValue (FP.dcmp (f4 (FP.i2d q0) (FP.i2d q0) w70 w70) w70) .l))])) t → Steps p.tables e below (s₁.setTop (entryFrame m #[(.int r), (.int s0), (.int p0), (.int q0), (.int fl)] maxLocals)) t := by
      intro t k
      refine S69 t ?_
      refine XS.ifNo X0.here hx rfl (hb hby at_8) rfl ((if0 _ _).trans (feq hc72).1) ?_
      show Steps p.tables e below (s₁.setTop (mkF m 11 #[.val (.int r), .val (.int s0), .val (.int p0), .val (.int q0), .val (.int fl), .val (.double w70), .second, .unset, .unset, .unset, .unset, .unset, .unset, .unset, .unset, .unset, .unset, .unset, .unset] [])) _
      refine XS.iloadN X0.here hx rfl (hb hby at_11) rfl ?_
      show Steps p.tables e below (s₁.setTop (mkF m 12 #[.val (.int r), .val (.int s0), .val (.int p0), .val (.int q0), .val (.int fl), .val (.double w70), .second, .unset, .unset, .unset, .unset, .unset, .unset, .unset, .unset, .unset, .unset, .unset, .unset] [(.int q0)])) _
      refine XS.i2dS X0.here hx rfl (hb hby at_12) rfl rfl ?_
      show Steps p.tables e below (s₁.setTop (mkF m 13 #[.val (.int r), .val (.int s0), .val (.int p0), .val (.int q0), .val (.int fl), .val (.double w70), .second, .unset, .unset, .unset, .unset, .unset, .unset, .unset, .unset, .unset, .unset, .unset, .unset] [(.double (FP.i2d q0))])) _
      refine XS.dstore X0.here hx rfl (hb hby at_13) rfl (l' := #[.val (.int r), .val (.int s0), .val (.int p0), .val (.int q0), .val (.int fl), .val (.double w70), .second, .val (.double (FP.i2d q0)), .second, .unset, .unset, .unset, .unset, .unset, .unset, .unset, .unset, .unset, .unset]) rfl ?_
      show Steps p.tables e below (s₁.setTop (mkF m 15 #[.val (.int r), .val (.int s0), .val (.int p0), .val (.int q0), .val (.int fl), .val (.double w70), .second, .val (.double (FP.i2d q0)), .second, .unset, .unset, .unset, .unset, .unset, .unset, .unset, .unset, .unset, .unset] [])) _
      refine st125 _ ?_
      show Steps p.tables e below (T125.setTop (mkF m 18 #[.val (.int r), .val (.int s0), .val (.int p0), .val (.int q0), .val (.int fl), .val (.double w70), .second, .val (.double (FP.i2d q0)), .second, .unset, .unset, .unset, .unset, .unset, .unset, .unset, .unset, .unset, .unset] [(.ref b125)])) _
      refine XS.dup X125.here hx rfl (hb hby at_18) rfl rfl ?_
      show Steps p.tables e below (T125.setTop (mkF m 19 #[.val (.int r), .val (.int s0), .val (.int p0), .val (.int q0), .val (.int fl), .val (.double w70), .second, .val (.double (FP.i2d q0)), .second, .unset, .unset, .unset, .unset, .unset, .unset, .unset, .unset, .unset, .unset] [(.ref b125), (.ref b125)])) _
      refine XS.dload X125.here hx rfl (hb hby at_19) rfl ?_
      show Steps p.tables e below (T125.setTop (mkF m 21 #[.val (.int r), .val (.int s0), .val (.int p0), .val (.int q0), .val (.int fl), .val (.double w70), .second, .val (.double (FP.i2d q0)), .second, .unset, .unset, .unset, .unset, .unset, .unset, .unset, .unset, .unset, .unset] [(.double w70), (.ref b125), (.ref b125)])) _
      refine XS.dload X125.here hx rfl (hb hby at_21) rfl ?_
      show Steps p.tables e below (T125.setTop (mkF m 23 #[.val (.int r), .val (.int s0), .val (.int p0), .val (.int q0), .val (.int fl), .val (.double w70), .second, .val (.double (FP.i2d q0)), .second, .unset, .unset, .unset, .unset, .unset, .unset, .unset, .unset, .unset, .unset] [(.double w70), (.double w70), (.ref b125), (.ref b125)])) _
      refine XS.dload X125.here hx rfl (hb hby at_23) rfl ?_
      show Steps p.tables e below (T125.setTop (mkF m 25 #[.val (.int r), .val (.int s0), .val (.int p0), .val (.int q0), .val (.int fl), .val (.double w70), .second, .val (.double (FP.i2d q0)), .second, .unset, .unset, .unset, .unset, .unset, .unset, .unset, .unset, .unset, .unset] [(.double (FP.i2d q0)), (.double w70), (.double w70), (.ref b125), (.ref b125)])) _
      refine XS.dload X125.here hx rfl (hb hby at_25) rfl ?_
      show Steps p.tables e below (T125.setTop (mkF m 27 #[.val (.int r), .val (.int s0), .val (.int p0), .val (.int q0), .val (.int fl), .val (.double w70), .second, .val (.double (FP.i2d q0)), .second, .unset, .unset, .unset, .unset, .unset, .unset, .unset, .unset, .unset, .unset] [(.double (FP.i2d q0)), (.double (FP.i2d q0)), (.double w70), (.double w70), (.ref b125), (.ref b125)])) _
      refine st132.trans ?_
      show Steps p.tables e below (T132.setTop (mkF m 30 #[.val (.int r), .val (.int s0), .val (.int p0), .val (.int q0), .val (.int fl), .val (.double w70), .second, .val (.double (FP.i2d q0)), .second, .unset, .unset, .unset, .unset, .unset, .unset, .unset, .unset, .unset, .unset] [(.ref b125)])) _
      refine XS.astore X132.here hx rfl (hb hby at_30) rfl rfl (l' := #[.val (.int r), .val (.int s0), .val (.int p0), .val (.int q0), .val (.int fl), .val (.double w70), .second, .val (.double (FP.i2d q0)), .second, .val (.ref b125), .unset, .unset, .unset, .unset, .unset, .unset, .unset, .unset, .unset]) rfl ?_
      show Steps p.tables e below (T132.setTop (mkF m 32 #[.val (.int r), .val (.int s0), .val (.int p0), .val (.int q0), .val (.int fl), .val (.double w70), .second, .val (.double (FP.i2d q0)), .second, .val (.ref b125), .unset, .unset, .unset, .unset, .unset, .unset, .unset, .unset, .unset] [])) _
      refine XS.aload X132.here hx rfl (hb hby at_32) rfl rfl ?_
      show Steps p.tables e below (T132.setTop (mkF m 34 #[.val (.int r), .val (.int s0), .val (.int p0), .val (.int q0), .val (.int fl), .val (.double w70), .second, .val (.double (FP.i2d q0)), .second, .val (.ref b125), .unset, .unset, .unset, .unset, .unset, .unset, .unset, .unset, .unset] [(.ref b125)])) _
      refine st135.trans ?_
      show Steps p.tables e below (T135.setTop (mkF m 37 #[.val (.int r), .val (.int s0), .val (.int p0), .val (.int q0), .val (.int fl), .val (.double w70), .second, .val (.double (FP.i2d q0)), .second, .val (.ref b125), .unset, .unset, .unset, .unset, .unset, .unset, .unset, .unset, .unset] [(.double (f4 (FP.i2d q0) (FP.i2d q0) w70 w70))])) _
      refine XS.dload X135.here hx rfl (hb hby at_37) rfl ?_
      show Steps p.tables e below (T135.setTop (mkF m 39 #[.val (.int r), .val (.int s0), .val (.int p0), .val (.int q0), .val (.int fl), .val (.double w70), .second, .val (.double (FP.i2d q0)), .second, .val (.ref b125), .unset, .unset, .unset, .unset, .unset, .unset, .unset, .unset, .unset] [(.double w70), (.double (f4 (FP.i2d q0) (FP.i2d q0) w70 w70))])) _
      refine XS.dcmpS X135.here hx rfl (hb hby at_39) rfl rfl ?_
      show Steps p.tables e below (T135.setTop (mkF m 40 #[.val (.int r), .val (.int s0), .val (.int p0), .val (.int q0), .val (.int fl), .val (.double w70), .second, .val (.double (FP.i2d q0)), .second, .val (.ref b125), .unset, .unset, .unset, .unset, .unset, .unset, .unset, .unset, .unset] [(.int (cmpValue (FP.dcmp (f4 (FP.i2d q0) (FP.i2d q0) w70 w70) w70) .l))])) _
      exact k
    obtain ⟨w137, hw137⟩ : ∃ z : UInt64, z = (FP.i2d q0) := ⟨_, rfl⟩
    rw [← hw137] at S136
    obtain ⟨w138, hw138⟩ : ∃ z : Int32, z = (cmpValue (FP.dcmp (f4 w137 w137 w70 w70) w70) .l) := ⟨_, rfl⟩
    rw [← hw138] at S136
    have S140 : ∀ t, Steps p.tables e below (T135.setTop (mkF m 48 #[.val (.int r), .val (.int s0), .val (.int p0), .val (.int q0), .val (.int fl), .val (.double w70), .second, .val (.double w137), .second, .val (.ref b125), .unset, .unset, .unset, .unset, .unset, .unset, .unset, .unset, .unset] [(.int (if w138 = (0 : Int32) then (1 : Int32) else (0 : Int32)))])) t → Steps p.tables e below (s₁.setTop (entryFrame m #[(.int r), (.int s0), (.int p0), (.int q0), (.int fl)] maxLocals)) t := by
      intro t k
      refine S136 t ?_
      by_cases hc139 : w138 = (0 : Int32)
      · rw [if_pos hc139] at k
        refine XS.ifNo X135.here hx rfl (hb hby at_40) rfl ((if0 _ _).trans (teq hc139).2) ?_
        show Steps p.tables e below (T135.setTop (mkF m 43 #[.val (.int r), .val (.int s0), .val (.int p0), .val (.int q0), .val (.int fl), .val (.double w70), .second, .val (.double w137), .second, .val (.ref b125), .unset, .unset, .unset, .unset, .unset, .unset, .unset, .unset, .unset] [])) _
        refine XS.iconst X135.here hx rfl (hb hby at_43) ?_
        show Steps p.tables e below (T135.setTop (mkF m 44 #[.val (.int r), .val (.int s0), .val (.int p0), .val (.int q0), .val (.int fl), .val (.double w70), .second, .val (.double w137), .second, .val (.ref b125), .unset, .unset, .unset, .unset, .unset, .unset, .unset, .unset, .unset] [(.int (1 : Int32))])) _
        refine XS.goto X135.here hx rfl (pc0 := 44) (pc' := 48) rfl (hb hby at_44) (by decide) (by decide) ?_
        show Steps p.tables e below (T135.setTop (mkF m 48 #[.val (.int r), .val (.int s0), .val (.int p0), .val (.int q0), .val (.int fl), .val (.double w70), .second, .val (.double w137), .second, .val (.ref b125), .unset, .unset, .unset, .unset, .unset, .unset, .unset, .unset, .unset] [(.int (1 : Int32))])) _
        exact k
      · rw [if_neg hc139] at k
        refine XS.ifYes X135.here hx rfl (pc0 := 40) (pc' := 47) rfl (hb hby at_40) rfl ((if0 _ _).trans (feq hc139).2) (by decide) (by decide) ?_
        show Steps p.tables e below (T135.setTop (mkF m 47 #[.val (.int r), .val (.int s0), .val (.int p0), .val (.int q0), .val (.int fl), .val (.double w70), .second, .val (.double w137), .second, .val (.ref b125), .unset, .unset, .unset, .unset, .unset, .unset, .unset, .unset, .unset] [])) _
        refine XS.iconst X135.here hx rfl (hb hby at_47) ?_
        show Steps p.tables e below (T135.setTop (mkF m 48 #[.val (.int r), .val (.int s0), .val (.int p0), .val (.int q0), .val (.int fl), .val (.double w70), .second, .val (.double w137), .second, .val (.ref b125), .unset, .unset, .unset, .unset, .unset, .unset, .unset, .unset, .unset] [(.int (0 : Int32))])) _
        exact k
    obtain ⟨w141, hw141⟩ : ∃ z : Int32, z = (if w138 = (0 : Int32) then (1 : Int32) else (0 : Int32)) := ⟨_, rfl⟩
    rw [← hw141] at S140
    have hres : w141 = (1 : Int32) := (own_law4 r q0 fl w70 hw70 w71 hw71 w137 hw137 w138 hw138 w141 hw141 hc72)
    subst hres
    obtain ⟨fs, hr, hrun, hended, hW, hsame⟩ := X135.leave (v := some (.int (1 : Int32))) (fun h => by rw [Bd.returns] at h; cases h)
    refine ⟨_, _, S140 _ ?_, hrun, hended, _, _, rfl, ?_, ⟨_, rfl⟩, hW, hsame.mono (by decide) (by decide)⟩
    · exact retN X135 hx (t := .boolean) Bd.returns (by simp) (hb hby at_48) hr
    · show Q0 Z r s0 p0 q0 fl h0 n0 _ T135.heap _
      rw [e135]
      exact ⟨rfl, N135⟩
set_option maxRecDepth 65536 in
set_option maxHeartbeats 40000000 in
theorem comes_1 {Post : Tables → Env → Array Value → State → Outcome → State → Prop} (hpost : ∀ tb e args s v u, (limb_1_1.after args s (.returned v) u = true ∧ limb_1_2.after args s (.returned v) u = true ∧ True) → FrameEnd s (.returned v) u (Jvm.fieldLocs frame_1_writes args s ++ Jvm.arrayLocs frame_1_arrays args s ++ Jvm.staticLocs frame_1_statics s) 16 128 → Post tb e args s (.returned v) u) :
    ArmFor flags0 classFile x code maxLocals ret World_1 tables_1 room_1 Calls_1 rest_1 Pre_1 Post := by
  intro l hfl _ _ p e ha hc hk s m args below hf hA hF happ hP
  obtain ⟨hcalls, hrest, hpre⟩ := hP
  obtain ⟨-, -, -, hnamed, -, -, -, hat⟩ := (Spec.applies_iff hf).mp happ
  obtain ⟨hg, hn⟩ := and_e (Cond.before_iff.mp (show (Jvm.Cond.and given_1 narrow_1).before args s = true from hpre))
  obtain ⟨g1, g2⟩ := and_e hg
  obtain ⟨g3, g4⟩ := and_e g2
  obtain ⟨g5, g6⟩ := and_e g4
  obtain ⟨g7, g8⟩ := and_e g6
  obtain ⟨g9, g10⟩ := and_e g8
  obtain ⟨w0, w1, w2, w3, w4, rfl⟩ : ∃ w0 w1 w2 w3 w4 : Value, args = #[w0, w1, w2, w3, w4] := by
    have hs : args.size = 5 := by simpa [Cond.value, given_1] using g1
    obtain ⟨L⟩ := args
    match L, hs with
    | [w0, w1, w2, w3, w4], _ => exact ⟨w0, w1, w2, w3, w4, rfl⟩
  have hw := fun d (hd : d ∈ tables_1) => atoms_spec (ws := Jvm.Cond.code x code maxLocals ret :: tables_1) hat d (List.mem_cons_of_mem _ hd)
  have hfit : Fit s := fun {y c} hc i hi => by
    obtain ⟨ha, rfl⟩ := Array.getElem?_eq_some_iff.mp hc
    have q := List.all_eq_true.mp ((Array.all_eq_true_iff_forall_mem.mp hF) _ (Array.getElem_mem ha)) i (List.mem_range.mpr hi)
    simpa [Array.getElem?_eq_getElem hi] using q
  obtain ⟨i0, ei0⟩ := is_v g3
  obtain rfl : w0 = (.int i0) := Option.some.inj ei0
  obtain ⟨i1, ei1⟩ := is_v g5
  obtain rfl : w1 = (.int i1) := Option.some.inj ei1
  obtain ⟨i2, ei2⟩ := is_v g7
  obtain rfl : w2 = (.int i2) := Option.some.inj ei2
  obtain ⟨i3, ei3⟩ := is_v g9
  obtain rfl : w3 = (.int i3) := Option.some.inj ei3
  obtain ⟨i4, ei4⟩ := is_v g10
  obtain rfl : w4 = (.int i4) := Option.some.inj ei4
  obtain ⟨n, o, h1, h2, h3, _, L, rfl, ⟨rfl, N⟩, hq⟩ := rm0 l s _ hw tables_1 i0 i1 i2 i3 i4  s.heap s.heap.size (Nat.le_refl _)  p e ha hc hk s m _ below hf ((Spec.applies_iff_loose hf).mp happ).1 ⟨rfl, State.Warmed39.refl s, rfl⟩ trivial
  refine ⟨n, _, h1, h2, h3, hpost _ _ _ _ _ _ ⟨Cond.after_iff.mpr rfl, Cond.after_iff.mpr (eq_i res_at (Term.int_eval (1)) rfl), trivial⟩ ⟨hq.1, hq.2.1, (hq.2.2.sift fun y hy => Or.inr (N y hy)).mono (by decide) (by decide)⟩⟩
theorem main_1_1 : Claimed_1_1 := comes_1 fun _ _ _ _ _ _ h hF => ⟨h.1, hF⟩
theorem main_1_2 : Claimed_1_2 := comes_1 fun _ _ _ _ _ _ h hF => ⟨h.2.1, hF⟩
end Jvm.Pilot.@@N@@
namespace Jvm.Pilot.@@N@@
open Jvm Jvm.ClassFile Sem Op Lib Jvm.Free Jvm.Stand Jvm.Pilot.@@N@@.Jvm.D
/-! MADE BY PROGRAM (witnessworld.py) out of the Statement's table words and the real class files: 10 classes; the members and pool entries that the words name. The judged class is class 1, her method 1. -/
namespace start1
open Jvm.ClassFile
def u (s : String) : CpInfo := .utf8 (stringToUtf16 s)
/-- a pool by its gaps: so many unusable entries, then the entry; so many at the end -/
def gap : Nat → List CpInfo → List CpInfo
  | 0, r => r
  | n + 1, r => .unusable :: gap n r
def poolList (es : List (Nat × CpInfo)) (last : Nat) : List CpInfo := es.foldr (fun e r => gap e.1 (e.2 :: r)) (gap last [])
def pool (es : List (Nat × CpInfo)) (last : Nat) : Array CpInfo := ⟨poolList es last⟩
def fileOf (pool : Array CpInfo) (this : Nat) (attrs : Array Attribute := #[]) (ms : Array MethodInfo := #[]) (fl : Nat := 33) (sup : Nat := 0) (ifs : Array Nat := #[]) (fds : Array FieldInfo := #[]) : ClassFile where
  minorVersion := 0
  majorVersion := 65
  constantPool := pool
  accessFlags := fl
  thisClass := this
  superClass := sup
  interfaces := ifs
  fields := fds
  methods := ms
  attributes := attrs
def plain (name : String) (sup : Option ClassId) : Class where
  name := name
  kind := .ordinary
  loader := none
  accessFlags := 33
  super := sup
  interfaces := #[]
  cf := none
  fields := #[]
  methods := #[]
  instanceTypes := #[]
  staticTypes := #[]
  resolved := #[]
  callSites := []
  init := .initialized
  statics := none
  mirror := none

def pool0 : Array CpInfo := pool [(5, u "<init>"), (0, u "()V"), (1, .class_ 10), (1, u "java/lang/Object")] 113

def k0c0 : Code := { maxStack := 0, maxLocals := 1, code := object_method_1_code, exceptionTable := #[], attributes := #[] }
def k0m0 : Method := { name := "<init>", desc := "()V", sig := { parameters := [], returnType := none }, accessFlags := 1, code := some k0c0 }
/-- java/lang/Object -/
def k0 : Class := { plain "java/lang/Object" none with
  accessFlags := 33
  interfaces := #[]
  cf := some (fileOf pool0 8 #[] #[{ accessFlags := 1, nameIndex := 5, descriptorIndex := 6, attributes := #[] }] 33 0 #[] #[])
  fields := #[]
  methods := #[k0m0]
  instanceTypes := #[]
  staticTypes := #[]
  resolved := Array.replicate 124 none
  statics := none }

def pool1 : Array CpInfo := pool [(2, .class_ 4), (1, u "java/lang/Object"), (0, u "<init>"), (0, u "()V"), (0, .class_ 8), (0, u "com/example/loxodrome/loxodrome/geo/geodesy/RootFinder$Bracket"), (0, .methodref 7 10), (0, .nameAndType 5 11), (0, u "(DDDD)V"), (0, .methodref 7 13), (0, .nameAndType 14 15), (0, u "nearerEnd"), (0, u "()D"), (0, .long 4294967295), (1, .long 2147483647), (3, .double 18442240474082181120), (3, .long 9223372036854775807), (1, .double 9218868437227405312), (1, .class_ 31), (0, u "com/example/loxodrome/loxodrome/geo/geodesy/BracketNearerEndPinLaw"), (2, u "law"), (0, u "(IIIII)Z")] 7

def k1m0 : Method := { name := "<init>", desc := "()V", sig := { parameters := [], returnType := none }, accessFlags := 1, code := none }
def k1c1 : Code := { maxStack := 10, maxLocals := 19, code := code, exceptionTable := #[], attributes := #[] }
def k1m1 : Method := { name := "law", desc := "(IIIII)Z", sig := { parameters := [.int, .int, .int, .int, .int], returnType := some .boolean }, accessFlags := 9, code := some k1c1 }
/-- com/example/loxodrome/loxodrome/geo/geodesy/BracketNearerEndPinLaw -/
def k1 : Class := { plain "com/example/loxodrome/loxodrome/geo/geodesy/BracketNearerEndPinLaw" (some 0) with
  accessFlags := 49
  interfaces := #[]
  cf := some (fileOf pool1 30 #[] #[{ accessFlags := 1, nameIndex := 5, descriptorIndex := 6, attributes := #[] }, { accessFlags := 9, nameIndex := 34, descriptorIndex := 35, attributes := #[] }] 49 2 #[] #[])
  fields := #[]
  methods := #[k1m0, k1m1]
  instanceTypes := #[]
  staticTypes := #[]
  resolved := Array.replicate 43 none
  statics := none }

def pool2 : Array CpInfo := pool [(1, .methodref 2 3), (0, .class_ 4), (0, .nameAndType 5 6), (0, u "java/lang/Object"), (0, u "<init>"), (0, u "()V"), (0, .class_ 8), (0, u "java/lang/Record")] 13

def k2c0 : Code := { maxStack := 1, maxLocals := 1, code := jdk_30_method_1_code, exceptionTable := #[], attributes := #[] }
def k2m0 : Method := { name := "<init>", desc := "()V", sig := { parameters := [], returnType := none }, accessFlags := 4, code := some k2c0 }
/-- java/lang/Record -/
def k2 : Class := { plain "java/lang/Record" (some 0) with
  accessFlags := 1057
  interfaces := #[]
  cf := some (fileOf pool2 7 #[] #[{ accessFlags := 4, nameIndex := 5, descriptorIndex := 6, attributes := #[] }] 1057 2 #[] #[])
  fields := #[]
  methods := #[k2m0]
  instanceTypes := #[]
  staticTypes := #[]
  resolved := Array.replicate 22 none
  statics := none }

def pool3 : Array CpInfo := pool [(1, .methodref 2 3), (0, .class_ 4), (0, .nameAndType 5 6), (0, u "java/lang/Record"), (0, u "<init>"), (0, u "()V"), (0, .fieldref 8 9), (0, .class_ 10), (0, .nameAndType 11 12), (0, u "com/example/loxodrome/loxodrome/geo/geodesy/RootFinder$Bracket"), (0, u "below"), (0, u "D"), (0, .fieldref 8 14), (0, .nameAndType 15 12), (0, u "above"), (0, .fieldref 8 17), (0, .nameAndType 18 12), (0, u "valueBelow"), (0, .fieldref 8 20), (0, .nameAndType 21 12), (0, u "valueAbove"), (12, u "(DDDD)V"), (3, u "nearerEnd"), (0, u "()D"), (7, .class_ 48), (0, u "com/example/loxodrome/loxodrome/geo/geodesy/RootFinder")] 22

def k3c0 : Code := { maxStack := 3, maxLocals := 9, code := prog_25_method_1_code, exceptionTable := #[], attributes := #[] }
def k3m0 : Method := { name := "<init>", desc := "(DDDD)V", sig := { parameters := [.double, .double, .double, .double], returnType := none }, accessFlags := 0, code := some k3c0 }
def k3c1 : Code := { maxStack := 4, maxLocals := 1, code := prog_25_method_2_code, exceptionTable := #[], attributes := #[] }
def k3m1 : Method := { name := "nearerEnd", desc := "()D", sig := { parameters := [], returnType := some .double }, accessFlags := 0, code := some k3c1 }
/-- com/example/loxodrome/loxodrome/geo/geodesy/RootFinder$Bracket -/
def k3 : Class := { plain "com/example/loxodrome/loxodrome/geo/geodesy/RootFinder$Bracket" (some 2) with
  accessFlags := 48
  interfaces := #[]
  cf := some (fileOf pool3 8 #[.nestHost 47] #[{ accessFlags := 0, nameIndex := 5, descriptorIndex := 34, attributes := #[] }, { accessFlags := 0, nameIndex := 38, descriptorIndex := 39, attributes := #[] }] 48 2 #[] #[{ accessFlags := 18, nameIndex := 11, descriptorIndex := 12, attributes := #[] }, { accessFlags := 18, nameIndex := 15, descriptorIndex := 12, attributes := #[] }, { accessFlags := 18, nameIndex := 18, descriptorIndex := 12, attributes := #[] }, { accessFlags := 18, nameIndex := 21, descriptorIndex := 12, attributes := #[] }])
  fields := #[{ name := "below", type := .double, accessFlags := 18, slot := 0, constantValue := 0 }, { name := "above", type := .double, accessFlags := 18, slot := 1, constantValue := 0 }, { name := "valueBelow", type := .double, accessFlags := 18, slot := 2, constantValue := 0 }, { name := "valueAbove", type := .double, accessFlags := 18, slot := 3, constantValue := 0 }]
  methods := #[k3m0, k3m1]
  instanceTypes := #[.double, .double, .double, .double]
  staticTypes := #[]
  resolved := Array.replicate 71 none
  statics := none }

def pool4 : Array CpInfo := pool [(1, u "java/lang/Cloneable"), (0, .class_ 1), (0, u "java/lang/Object"), (0, .class_ 3)] 3

/-- java/lang/Cloneable -/
def k4 : Class := { plain "java/lang/Cloneable" (some 0) with
  accessFlags := 1537
  interfaces := #[]
  cf := some (fileOf pool4 2 #[] #[] 1537 4 #[] #[])
  fields := #[]
  methods := #[]
  instanceTypes := #[]
  staticTypes := #[]
  resolved := Array.replicate 8 none
  statics := none }

def pool5 : Array CpInfo := pool [(1, u "java/io/Serializable"), (0, .class_ 1), (0, u "java/lang/Object"), (0, .class_ 3)] 3

/-- java/io/Serializable -/
def k5 : Class := { plain "java/io/Serializable" (some 0) with
  accessFlags := 1537
  interfaces := #[]
  cf := some (fileOf pool5 2 #[] #[] 1537 4 #[] #[])
  fields := #[]
  methods := #[]
  instanceTypes := #[]
  staticTypes := #[]
  resolved := Array.replicate 8 none
  statics := none }

/-- the primitive byte -/
def k6 : Class := { plain "byte" none with kind := .primitive 'B', accessFlags := 0x411 }
/-- [B -/
def k7 : Class := { plain "[B" (some 0) with kind := .array 6 .byte, interfaces := #[4, 5], accessFlags := 1041 }

/-- the primitive int -/
def k8 : Class := { plain "int" none with kind := .primitive 'I', accessFlags := 0x411 }
/-- [I -/
def k9 : Class := { plain "[I" (some 0) with kind := .array 8 .int, interfaces := #[4, 5], accessFlags := 1041 }

def heap : Heap := #[]
def classes : Array Class := #[k0, k1, k2, k3, k4, k5, k6, k7, k8, k9]
def interned : List (Array UInt16 × Addr) := []
def slotsUsed : Nat := 0
def theMethod : MethodId := ⟨1, 1⟩
def args0 : Array Value := #[.int 5, .int 6, .int 3, .int 2, .int 0]
def aboutOver (below : List Frame) : State where
  vm := { classes := classes, interned := interned.toArray }
  heap := heap
  slotsUsed := slotsUsed
  threads := #[{ frames := .invoking theMethod args0 :: below }]
def below0 : List Frame := [.native { method := ⟨0, 0⟩, args := #[] }]
def about1 : State := aboutOver below0
def p0 : Program := .bare "" "" ""
def e0 : Env := launch0.env 0 0 0
theorem w_frames : about1.frames = Frame.invoking theMethod args0 :: below0 := rfl
set_option maxRecDepth 65536 in
theorem w_args : argsFit about1.vm theMethod args0 = true := by decide +kernel
set_option maxRecDepth 65536 in
theorem w_heap : heapFits about1 = true := by decide +kernel
set_option maxRecDepth 65536 in
theorem w_runnable : about1.curStatus? = some .runnable := by decide +kernel
set_option maxRecDepth 65536 in
theorem w_alone : about1.alone = true := by decide +kernel
set_option maxRecDepth 65536 in
theorem w_named : about1.methodNamed? x = some theMethod := by decide +kernel
set_option maxRecDepth 65536 in
theorem w_hears : about1.hears theMethod below0 = true := by decide +kernel
set_option maxRecDepth 65536 in
theorem w_ripe : about1.ripe theMethod args0 below0 = true := by decide +kernel
theorem w_running : about1.status = .running := rfl
set_option maxRecDepth 65536 in
theorem w_room : about1.hasRoom e0.platform room_1 = true :=
  launch0.hasRoom_least _ room_1 (by decide +kernel) (by decide +kernel) (by decide +kernel) (by decide +kernel) (by decide +kernel) (by decide +kernel)
theorem allAtoms_all (ts : List Jvm.Cond) (a : Array Jvm.Value) (st : Jvm.State) : (allAtoms ts).before a st = ts.all (fun c => c.before a st) := by
  induction ts with
  | nil => rfl
  | cons c t ih =>
    show (Jvm.Cond.and c (allAtoms t)).before a st = _
    rw [Jvm.Cond.before_and, ih, List.all_cons]
def words1 : List Jvm.Cond := Jvm.Cond.code x code maxLocals ret :: tables_1
/-- a 'code' word, met by the world's own term for the bytes: nothing is compared byte by byte -/
theorem code_word {y : MethodName} {bytes : ByteArray} {mx : Nat} {rt : Option FieldType} {a : Array Value} {s : State} {m : MethodId} {meth : Method} {c : Code} (h1 : s.methodNamed? y = some m) (h2 : s.vm.method? m = some meth) (h3 : meth.code = some c) (h4 : c.code = bytes)
    (h5 : (c.maxLocals == mx && c.exceptionTable.isEmpty && decide (c.maxStack ≤ mostOperands) && decide (meth.sig.returnType = rt) && !meth.locks && decide (parseMethodDescriptor y.desc = some meth.sig)) = true) : (Jvm.Cond.code y bytes mx rt).before a s = true := by
  simp only [Bool.and_eq_true, beq_iff_eq, Bool.not_eq_true', decide_eq_true_eq] at h5
  obtain ⟨⟨⟨⟨⟨g1, g2⟩, g3⟩, g4⟩, g5⟩, g6⟩ := h5
  simp [Cond.before, Cond.holds, Cond.value, h1, h2, h3, h4, g1, g2, g3, g4, g5, g6]
def isCode : Jvm.Cond → Bool
  | .code _ _ _ _ => true
  | _ => false
theorem all_split {L : List Jvm.Cond} {P : Jvm.Cond → Bool} (h1 : L.all (fun c => isCode c || P c) = true) (h2 : ∀ c ∈ L.filter isCode, P c = true) : L.all P = true := by
  refine List.all_eq_true.mpr fun c hc => ?_
  have h := List.all_eq_true.mp h1 c hc
  rcases Bool.eq_false_or_eq_true (isCode c) with hi | hi
  · exact h2 c (List.mem_filter.mpr ⟨hc, hi⟩)
  · simpa [hi] using h
set_option maxRecDepth 65536 in
theorem w_c0 : (Jvm.Cond.code x code maxLocals ret).before args0 about1 = true := code_word (m := ⟨1, 1⟩) (meth := k1m1) (c := k1c1) (by decide +kernel) rfl rfl rfl (by decide +kernel)
set_option maxRecDepth 65536 in
theorem w_c1 : (Jvm.Cond.code ({ cls := "com/example/loxodrome/loxodrome/geo/geodesy/RootFinder$Bracket", name := "<init>", desc := "(DDDD)V" } : Jvm.MethodName) prog_25_method_1_code (9 : Nat) (Option.none : Option Jvm.ClassFile.FieldType)).before args0 about1 = true := code_word (m := ⟨3, 0⟩) (meth := k3m0) (c := k3c0) (by decide +kernel) rfl rfl rfl (by decide +kernel)
set_option maxRecDepth 65536 in
theorem w_c2 : (Jvm.Cond.code ({ cls := "java/lang/Record", name := "<init>", desc := "()V" } : Jvm.MethodName) jdk_30_method_1_code (1 : Nat) (Option.none : Option Jvm.ClassFile.FieldType)).before args0 about1 = true := code_word (m := ⟨2, 0⟩) (meth := k2m0) (c := k2c0) (by decide +kernel) rfl rfl rfl (by decide +kernel)
set_option maxRecDepth 65536 in
theorem w_c3 : (Jvm.Cond.code ({ cls := "java/lang/Object", name := "<init>", desc := "()V" } : Jvm.MethodName) object_method_1_code (1 : Nat) (Option.none : Option Jvm.ClassFile.FieldType)).before args0 about1 = true := code_word (m := ⟨0, 0⟩) (meth := k0m0) (c := k0c0) (by decide +kernel) rfl rfl rfl (by decide +kernel)
set_option maxRecDepth 65536 in
theorem w_c4 : (Jvm.Cond.code ({ cls := "com/example/loxodrome/loxodrome/geo/geodesy/RootFinder$Bracket", name := "nearerEnd", desc := "()D" } : Jvm.MethodName) prog_25_method_2_code (1 : Nat) (Option.some Jvm.ClassFile.FieldType.double)).before args0 about1 = true := code_word (m := ⟨3, 1⟩) (meth := k3m1) (c := k3c1) (by decide +kernel) rfl rfl rfl (by decide +kernel)
def codes1 : List Jvm.Cond := [Jvm.Cond.code x code maxLocals ret, Jvm.Cond.code ({ cls := "com/example/loxodrome/loxodrome/geo/geodesy/RootFinder$Bracket", name := "<init>", desc := "(DDDD)V" } : Jvm.MethodName) prog_25_method_1_code (9 : Nat) (Option.none : Option Jvm.ClassFile.FieldType), Jvm.Cond.code ({ cls := "java/lang/Record", name := "<init>", desc := "()V" } : Jvm.MethodName) jdk_30_method_1_code (1 : Nat) (Option.none : Option Jvm.ClassFile.FieldType), Jvm.Cond.code ({ cls := "java/lang/Object", name := "<init>", desc := "()V" } : Jvm.MethodName) object_method_1_code (1 : Nat) (Option.none : Option Jvm.ClassFile.FieldType), Jvm.Cond.code ({ cls := "com/example/loxodrome/loxodrome/geo/geodesy/RootFinder$Bracket", name := "nearerEnd", desc := "()D" } : Jvm.MethodName) prog_25_method_2_code (1 : Nat) (Option.some Jvm.ClassFile.FieldType.double)]
set_option maxRecDepth 65536 in
theorem codes_eq : words1.filter isCode = codes1 := rfl
theorem w_codes : ∀ c ∈ words1.filter isCode, c.before args0 about1 = true := by
  rw [codes_eq]
  intro c hc
  simp only [codes1, List.mem_cons, List.not_mem_nil, or_false] at hc
  rcases hc with rfl | rfl | rfl | rfl | rfl
  · exact w_c0
  · exact w_c1
  · exact w_c2
  · exact w_c3
  · exact w_c4
set_option maxRecDepth 65536 in
theorem w_t1 : (words1.take 24).all (fun c => isCode c || c.before args0 about1) = true := by decide +kernel
set_option maxRecDepth 65536 in
theorem w_t2 : (words1.drop 24).all (fun c => isCode c || c.before args0 about1) = true := by decide +kernel
theorem w_tables : (allAtoms (Jvm.Cond.code x code maxLocals ret :: tables_1)).before args0 about1 = true := by
  rw [allAtoms_all]
  show words1.all (fun c => c.before args0 about1) = true
  refine all_split ?_ w_codes
  rw [← List.take_append_drop 24 words1, List.all_append, w_t1, w_t2]
  rfl
set_option maxRecDepth 65536 in
theorem w_case : (Jvm.Cond.and given_1 narrow_1).before args0 about1 = true := by decide +kernel
theorem w_applies : (headSpec (Jvm.Cond.code x code maxLocals ret :: tables_1) room_1).applies x e0.platform about1 = true :=
  (Spec.applies_iff w_frames).mpr ⟨w_running, w_runnable, w_alone, w_named, w_hears, w_ripe, w_room, w_tables⟩
theorem atStart : AtStart classFile x code maxLocals ret World_1 tables_1 room_1 Calls_1 rest_1 Pre_1 launch0 p0 e0 about1 theMethod args0 below0 :=
  ⟨lists_1, trivial, launch0.admits_env _ _ _, launch0.least_env, fairChoices_fair.cas, fairChoices_fair.clock, w_frames, w_args, w_heap, w_applies, trivial, trivial, w_case⟩
end start1
theorem witness_1 : WitnessClaimed_1 := ⟨start1.p0, start1.e0, start1.about1, start1.theMethod, start1.args0, start1.below0, start1.atStart⟩
end Jvm.Pilot.@@N@@
