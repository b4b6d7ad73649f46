import JvmDerived
import JvmDerived.Pilot.@@N@@Statement
import JvmDerived.Pilot.@@N@@Code
set_option linter.unusedVariables false
set_option linter.unusedSimpArgs false
@@BLOCK:NumsL.lean.txt@@
namespace Jvm.Pilot.@@N@@
open Jvm Jvm.ClassFile Sem Op Lib Jvm.Free Jvm.Stand Jvm.LawKit Jvm.RoadKit Bundle Jvm.Pilot.@@N@@.Jvm.D
theorem own_nb {z : Int32} (h : z = 0 ∨ z = 1) : nar .boolean z = z := by rcases h with rfl | rfl <;> decide
/-! doubles as whole numbers of 2^-1074: own_zv; the rounding of a quotient of whole numbers: own_rr -/
section FloatKit
open Jvm.FP.Core
def own_zv (a : UInt64) : Int := zval b64 (val64 a)
def own_rr (A B : Nat) : Nat := zmag b64 (roundRatio b64 false A B 0)
def own_Rep (V : Nat) : Prop := ∃ d, Jvm.FP.Core.fits b64 d ∧ d ≠ .nan ∧ zmag b64 d = V
theorem own_zmag_s (s : Bool) (A B : Nat) (e : Int) : zmag b64 (roundRatio b64 s A B e) = zmag b64 (roundRatio b64 false A B e) := by
  cases s
  · rfl
  · rw [show (true : Bool) = !false from rfl, ← negate_roundRatio]
    cases roundRatio b64 false A B e <;> rfl
theorem own_zv_round {s : Bool} {A B : Nat} {a : UInt64} (h : val64 a = roundRatio b64 s A B 0) : own_zv a = signed s (own_rr A B) := by
  unfold own_zv zval
  rw [h, sgn_roundRatio, own_zmag_s]; rfl
theorem own_units0 (A : Nat) : inUnits A 0 b64.qmin = A * one64 := by
  unfold inUnits
  rw [Int.zero_sub, pow_qmin64]
theorem own_rr_zero (B : Nat) : own_rr 0 B = 0 := by
  unfold own_rr roundRatio
  rw [if_pos rfl]; simp [zmag, inUnits]
theorem own_rr_rep (A : Nat) {B : Nat} (hB : 0 < B) : own_Rep (own_rr A B) := ⟨_, roundRatio_fits good_b64 false A hB 0, roundRatio_ne_nan _ _ _ _ _, rfl⟩
theorem own_rr_le {A B V : Nat} (hB : 0 < B) (hV : own_Rep V) (h : A * one64 ≤ V * B) : own_rr A B ≤ V := by
  obtain ⟨d, h1, h2, rfl⟩ := hV
  refine zmag_roundRatio_le good_b64 hB h1 h2 (e0 := b64.qmin) (Int.le_refl _) (by decide) ?_
  rw [own_units0, Int.sub_self, Int.toNat_zero, Nat.pow_zero, Nat.mul_one]
  exact h
theorem own_rr_ge {A B V : Nat} (hB : 0 < B) (hV : own_Rep V) (h : V * B ≤ A * one64) : V ≤ own_rr A B := by
  obtain ⟨d, h1, h2, rfl⟩ := hV
  refine zmag_roundRatio_ge good_b64 hB h1 (e0 := b64.qmin) (Int.le_refl _) (by decide) ?_
  rw [own_units0, Int.sub_self, Int.toNat_zero, Nat.pow_zero, Nat.mul_one]
  exact h
theorem own_rr_exact {A B V : Nat} (hB : 0 < B) (hV : own_Rep V) (h : A * one64 = V * B) : own_rr A B = V :=
  Nat.le_antisymm (own_rr_le hB hV (Nat.le_of_eq h)) (own_rr_ge hB hV (Nat.le_of_eq h.symm))
theorem own_rr_congr {A B A' B' : Nat} (hB : 0 < B) (hB' : 0 < B') (h : A * B' = A' * B) : own_rr A B = own_rr A' B' := by
  unfold own_rr
  rw [roundRatio_congr (e' := 0) hB hB' (by simpa using h)]
/-- what is finite -/
theorem own_fin_round {s : Bool} {A B : Nat} {a : UInt64} (h : val64 a = roundRatio b64 s A B 0) (hlt : own_rr A B < b64.tails * 2 ^ (b64.exps - 2)) : DFin a := by
  rcases roundRatio_cases b64 s A B 0 with ⟨c, q, e⟩ | e
  · exact ⟨s, c, q, by rw [h, e]⟩
  · exfalso
    rw [own_rr, ← own_zmag_s s, e] at hlt
    exact Nat.lt_irrefl _ hlt
/-- m * 2^k is a double -/
theorem own_rep_pow {m k : Nat} (hm : m < 2 ^ 53) (hk : k ≤ 2045) : own_Rep (m * 2 ^ k) := by
  have hq1 : b64.qmin ≤ (k : Int) - 1074 := by rw [qmin_b64]; omega
  have hq2 : (k : Int) - 1074 ≤ b64.qmax := by rw [show b64.qmax = 971 by decide]; omega
  obtain ⟨c', q', h1, h2⟩ := round_exact good_b64 false (c := m) (q := (k : Int) - 1074) (by exact hm) hq1 hq2
  refine ⟨_, round_fits good_b64 (.fin false m ((k : Int) - 1074)), by rw [h1]; exact Datum.noConfusion, ?_⟩
  rw [h1]
  show inUnits c' q' b64.qmin = _
  rw [h2]
  unfold inUnits
  rw [qmin_b64, show ((k : Int) - 1074 - -1074).toNat = k by omega]
theorem own_rep_zero : own_Rep 0 := by
  have := own_rep_pow (m := 0) (k := 0) (by decide) (by decide)
  simpa using this
/-- rounding keeps the order -/
theorem own_rr_mono {A B A' B' : Nat} (hB : 0 < B) (hB' : 0 < B') (h : A * B' ≤ A' * B) : own_rr A B ≤ own_rr A' B' := by
  rcases roundRatio_cases b64 false A' B' 0 with ⟨c', q', e'⟩ | e'
  · rcases roundRatio_cases b64 false A B 0 with ⟨c, q, e⟩ | e
    · refine Nat.le_of_not_lt fun hlt => ?_
      have f1 : Jvm.FP.Core.fits b64 (.fin false c q) := e ▸ roundRatio_fits good_b64 false A hB 0
      have f2 : Jvm.FP.Core.fits b64 (.fin false c' q') := e' ▸ roundRatio_fits good_b64 false A' hB' 0
      have d1 := roundRatio_nearest good_b64 hB e f2.1 f2.2.1 (e0 := b64.qmin) (Int.le_refl _) (by decide)
      have d2 := roundRatio_nearest good_b64 hB' e' f1.1 f1.2.1 (e0 := b64.qmin) (Int.le_refl _) (by decide)
      unfold distance at d1 d2
      have x1 : own_rr A B = inUnits c q b64.qmin := by unfold own_rr; rw [e]; rfl
      have x2 : own_rr A' B' = inUnits c' q' b64.qmin := by unfold own_rr; rw [e']; rfl
      rw [x1, x2] at hlt
      rw [own_units0] at d1 d2
      generalize inUnits c q b64.qmin = X at *
      generalize inUnits c' q' b64.qmin = Y at *
      have hU := one64_pos
      generalize hP : A * one64 = P at *
      generalize hP' : A' * one64 = P' at *
      have hPP : P * B' ≤ P' * B := by
        rw [← hP, ← hP', Nat.mul_right_comm, Nat.mul_right_comm A']; exact Nat.mul_le_mul_right _ h
      rw [← Int.natCast_mul, ← Int.natCast_mul] at d1 d2
      have hXB : Y * B + B ≤ X * B := by rw [← Nat.succ_mul]; exact Nat.mul_le_mul_right _ hlt
      have hXB' : Y * B' + B' ≤ X * B' := by rw [← Nat.succ_mul]; exact Nat.mul_le_mul_right _ hlt
      have g1 : X * B + Y * B ≤ 2 * P := by
        generalize X * B = xb at *; generalize Y * B = yb at *; omega
      have g2 : 2 * P' ≤ X * B' + Y * B' := by
        generalize X * B' = xb at *; generalize Y * B' = yb at *; omega
      have g3 : (X * B + Y * B) * B' ≤ 2 * P * B' := Nat.mul_le_mul_right _ g1
      have g4 : 2 * P' * B ≤ (X * B' + Y * B') * B := Nat.mul_le_mul_right _ g2
      have g5 : (X * B + Y * B) * B' = (X * B' + Y * B') * B := by
        rw [Nat.add_mul, Nat.add_mul, Nat.mul_right_comm X, Nat.mul_right_comm Y]
      have g6 : P * B' = P' * B := by
        rw [Nat.mul_assoc] at g3 g4
        rw [g5] at g3
        generalize P * B' = u at *; generalize P' * B = w at *; omega
      have g7 : A * B' = A' * B := by
        rw [← hP, ← hP', Nat.mul_right_comm, Nat.mul_right_comm A'] at g6
        exact Nat.eq_of_mul_eq_mul_right hU g6
      have g8 := own_rr_congr hB hB' g7
      rw [x1, x2] at g8
      omega
    · exfalso
      have i1 := (roundRatio_inf good_b64 (s := false) (A := A) (B := B) (e := 0) (e0 := -1075) hB (by decide) (by decide)).mp e
      have i2 : ¬ _ := fun z => by
        have := (roundRatio_inf good_b64 (s := false) (A := A') (B := B') (e := 0) (e0 := -1075) hB' (by decide) (by decide)).mpr z
        rw [this] at e'; cases e'
      apply i2
      generalize (2 ^ (b64.p + 1) - 1) * 2 ^ (b64.qmax - 1 - -1075).toNat = M at *
      have hU : ∀ z, inUnits z 0 (-1075) = z * 2 ^ (0 - (-1075 : Int)).toNat := fun z => rfl
      rw [hU] at i1 ⊢
      have hW := Nat.two_pow_pos (0 - (-1075 : Int)).toNat
      generalize 2 ^ (0 - (-1075 : Int)).toNat = W at *
      have j1 : M * B * B' ≤ A * W * B' := Nat.mul_le_mul_right _ i1
      have j2 : A * W * B' ≤ A' * W * B := by
        rw [Nat.mul_right_comm, Nat.mul_right_comm A']; exact Nat.mul_le_mul_right _ h
      have j3 : M * B' * B ≤ A' * W * B := by rw [Nat.mul_right_comm]; exact Nat.le_trans j1 j2
      exact Nat.le_of_mul_le_mul_right j3 hB
  · have f1 := roundRatio_fits good_b64 false A hB 0
    unfold own_rr
    rw [e']
    exact zmag_le_top good_b64 f1
/-- the relative error -/
theorem own_rr_err {A B : Nat} (hB : 0 < B) (hn : 2 ^ 52 * B ≤ A * one64) (hlt : own_rr A B < b64.tails * 2 ^ (b64.exps - 2)) :
    2 ^ 53 * (own_rr A B * B) ≤ 2 ^ 53 * (A * one64) + A * one64 ∧ 2 ^ 53 * (A * one64) ≤ 2 ^ 53 * (own_rr A B * B) + A * one64 := by
  have hA : 0 < A := by
    rcases Nat.eq_zero_or_pos A with rfl | h
    · rw [Nat.zero_mul] at hn; have := Nat.mul_pos (show 0 < 2 ^ 52 by decide) hB; omega
    · exact h
  rcases roundRatio_cases b64 false A B 0 with ⟨c, q, e⟩ | e
  · have x1 : own_rr A B = inUnits c q b64.qmin := by unfold own_rr; rw [e]; rfl
    have e1 := e
    unfold roundRatio at e1
    rw [if_neg (by omega)] at e1
    unfold roundAt at e1
    have hq := quantum_ge b64 A B 0
    have hnb := quantum_not_below (f := b64) hA hB 0
    have hle := nearest_units_le (f := b64) hA hB 0
    generalize hr : quantum b64 A B 0 = r at *
    obtain ⟨-, s2⟩ := settle_value good_b64 hle e1 (e0 := b64.qmin) hq
    obtain ⟨n1, n2, -⟩ := nearest_spec (unitsNum A 0 r) (unitsDen B 0 r) (unitsDen_pos hB 0 r)
    generalize nearest (unitsNum A 0 r) (unitsDen B 0 r) = m at *
    rw [x1, s2]
    -- the ratio in units of 2^r is at least 2^52
    obtain ⟨k, hk⟩ : ∃ k : Nat, r = (k : Int) - 1074 := ⟨(r + 1074).toNat, by rw [qmin_b64] at hq; omega⟩
    have hm : inUnits m r b64.qmin = m * 2 ^ k := by
      unfold inUnits; rw [qmin_b64, hk, show ((k : Int) - 1074 - -1074).toNat = k by omega]
    rw [hm]
    -- A' * 2^k * g = A * one64 * g and B' * 2^k .. : scale both
    have hsc : ∃ G : Nat, 0 < G ∧ unitsNum A 0 r * 2 ^ k = A * one64 * G ∧ unitsDen B 0 r = B * G := by
      by_cases hk2 : 1074 ≤ k
      · refine ⟨2 ^ (k - 1074), Nat.two_pow_pos _, ?_, ?_⟩
        · unfold unitsNum one64
          rw [hk, show (0 - ((k : Int) - 1074)).toNat = 0 by omega, Nat.pow_zero, Nat.mul_one, Nat.mul_assoc, ← Nat.pow_add, show 1074 + (k - 1074) = k by omega]
        · unfold unitsDen
          rw [hk, show ((k : Int) - 1074 - 0).toNat = k - 1074 by omega]
      · refine ⟨1, by decide, ?_, ?_⟩
        · unfold unitsNum one64
          rw [hk, show (0 - ((k : Int) - 1074)).toNat = 1074 - k by omega, Nat.mul_one, Nat.mul_assoc, ← Nat.pow_add, show 1074 - k + k = 1074 by omega]
        · unfold unitsDen
          rw [hk, show ((k : Int) - 1074 - 0).toNat = 0 by omega, Nat.pow_zero]
    obtain ⟨G, hG, s3, s4⟩ := hsc
    have hbig : 2 ^ 52 * unitsDen B 0 r ≤ unitsNum A 0 r := by
      rcases hnb with h0 | h0
      · have hk0 : k = 0 := by rw [qmin_b64] at h0; omega
        rw [hk0, Nat.pow_zero, Nat.mul_one] at s3
        rw [s3, s4, ← Nat.mul_assoc]
        exact Nat.mul_le_mul_right _ hn
      · rw [show (b64.p : Int) - 1 = ((52 : Nat) : Int) by decide, ← units_below] at h0
        omega
    rw [s4] at n1 n2 hbig
    generalize unitsNum A 0 r = A' at *
    have hK := Nat.two_pow_pos k
    generalize 2 ^ k = K at *
    generalize A * one64 = P at *
    -- n1 : 2A' ≤ (2m+1)(B G), n2 : 2 m (B G) ≤ 2 A' + B G, hbig : 2^52 (B G) ≤ A', s3 : A' K = P G
    have t1 : 2 * (A' * K) ≤ 2 * (m * K * (B * G)) + B * G * K := by
      have := Nat.mul_le_mul_right K n1
      calc 2 * (A' * K) = 2 * A' * K := by ((try generalize Jvm.FP.Core.one64 = own_U); ac_rfl)
        _ ≤ (2 * m + 1) * (B * G) * K := this
        _ = 2 * (m * K * (B * G)) + B * G * K := by rw [Nat.add_mul, Nat.add_mul, Nat.one_mul]; ((try generalize Jvm.FP.Core.one64 = own_U); ac_rfl)
    have t2 : 2 * (m * K * (B * G)) ≤ 2 * (A' * K) + B * G * K := by
      have := Nat.mul_le_mul_right K n2
      calc 2 * (m * K * (B * G)) = 2 * m * (B * G) * K := by ((try generalize Jvm.FP.Core.one64 = own_U); ac_rfl)
        _ ≤ (2 * A' + B * G) * K := this
        _ = 2 * (A' * K) + B * G * K := by rw [Nat.add_mul]; ((try generalize Jvm.FP.Core.one64 = own_U); ac_rfl)
    have t3 : 2 ^ 52 * (B * G * K) ≤ A' * K := by
      have := Nat.mul_le_mul_right K hbig
      rw [Nat.mul_assoc] at this; exact this
    rw [s3] at t1 t2 t3
    have t4 : m * K * (B * G) = (m * K * B) * G := by ((try generalize Jvm.FP.Core.one64 = own_U); ac_rfl)
    have t5 : B * G * K = B * K * G := by ((try generalize Jvm.FP.Core.one64 = own_U); ac_rfl)
    rw [t4, t5] at t1 t2
    rw [t5] at t3
    have u1 : 2 * P ≤ 2 * (m * K * B) + B * K := by
      refine Nat.le_of_mul_le_mul_right (c := G) ?_ hG
      rw [Nat.add_mul, Nat.mul_assoc, Nat.mul_assoc 2]; exact t1
    have u2 : 2 * (m * K * B) ≤ 2 * P + B * K := by
      refine Nat.le_of_mul_le_mul_right (c := G) ?_ hG
      rw [Nat.add_mul, Nat.mul_assoc, Nat.mul_assoc 2]; exact t2
    have u3 : 2 ^ 52 * (B * K) ≤ P := by
      refine Nat.le_of_mul_le_mul_right (c := G) ?_ hG
      rw [Nat.mul_assoc]; exact t3
    generalize m * K * B = x at *
    generalize B * K = y at *
    constructor <;> omega
  · exfalso
    rw [own_rr, e] at hlt
    exact Nat.lt_irrefl _ hlt
/-! comparisons -/
theorem own_cmp {a b : UInt64} (ha : val64 a ≠ .nan) (hb : val64 b ≠ .nan) (o : CmpOp) : cmpValue (Jvm.FP.dcmp a b) o = if own_zv a < own_zv b then -1 else if own_zv a = own_zv b then 0 else 1 := by
  have h := dcmp_zval ha hb
  unfold own_zv
  show cmpValue (dcmp a b) o = _
  rw [h, compare_ite]
  by_cases h1 : zval b64 (val64 a) < zval b64 (val64 b)
  · rw [if_pos h1, if_pos h1]; rfl
  · rw [if_neg h1, if_neg h1]
    by_cases h2 : zval b64 (val64 a) = zval b64 (val64 b)
    · rw [if_pos h2, if_pos h2]; rfl
    · rw [if_neg h2, if_neg h2]; rfl
theorem own_fin_ne {a : UInt64} (h : DFin a) : val64 a ≠ .nan := h.ne_nan
theorem own_fin_nn {a : UInt64} (h : DFin a) : Jvm.Free.Fl.NoNaN64 a := Jvm.Free.Fl.val64_no.mpr h.ne_nan
/-! whole numbers -/
theorem own_i2d (x : Int32) : own_zv (Jvm.FP.i2d x) = x.toInt * (one64 : Int) := DInt_zval (i2d_int x)
theorem own_i2d_fin (x : Int32) : DFin (Jvm.FP.i2d x) := Jvm.FP.Core.i2d_fin x
theorem own_l2d {x : Int64} (h : x.toInt.natAbs ≤ 2 ^ 53) : own_zv (Jvm.FP.l2d x) = x.toInt * (one64 : Int) := DInt_zval (l2d_int h)
theorem own_l2d_fin (x : Int64) : DFin (Jvm.FP.l2d x) := Jvm.FP.Core.l2d_fin x
/-! the sign -/
theorem own_sgn {a : UInt64} (h : own_zv a ≠ 0) : sgn (val64 a) = decide (own_zv a < 0) := by
  unfold own_zv zval at *
  have hz : 0 < zmag b64 (val64 a) := Nat.pos_of_ne_zero fun q => h (by rw [q, signed_zero])
  rw [signed_lt_zero _ hz]
theorem own_natAbs (a : UInt64) : (own_zv a).natAbs = zmag b64 (val64 a) := natAbs_signed _ _
/-! division -/
theorem own_div {a b : UInt64} (ha : DFin a) (hb : DFin b) (hz : own_zv b ≠ 0) :
    val64 (Jvm.FP.ddiv a b) = roundRatio b64 (sgn (val64 a) != sgn (val64 b)) (own_zv a).natAbs (own_zv b).natAbs 0 := by
  rw [own_natAbs, own_natAbs]
  have hzb : zmag b64 (val64 b) ≠ 0 := fun q => hz (by unfold own_zv zval; rw [q, signed_zero])
  show val64 (ddiv a b) = _
  rw [val64_ddiv]
  have fa := val64_fits a
  have fb := val64_fits b
  obtain ⟨s, c, q, e1⟩ := ha
  obtain ⟨t, d, r, e2⟩ := hb
  rw [e1] at fa ⊢
  rw [e2] at fb hzb ⊢
  have hd : d ≠ 0 := fun w => hzb (by subst w; show 0 * _ = 0; exact Nat.zero_mul _)
  show (if d = 0 then _ else roundRatio b64 (s != t) c d (q - r)) = roundRatio b64 (s != t) (inUnits c q b64.qmin) (inUnits d r b64.qmin) 0
  rw [if_neg hd]
  have hq := fa.2.1
  have hr := fb.2.1
  rw [qmin_b64] at hq hr
  refine roundRatio_congr (Nat.pos_of_ne_zero hd) ?_ ?_
  · exact Nat.mul_pos (Nat.pos_of_ne_zero hd) (Nat.two_pow_pos _)
  · unfold inUnits
    rw [qmin_b64]
    obtain ⟨u, hu⟩ : ∃ u : Nat, q = (u : Int) - 1074 := ⟨(q + 1074).toNat, by omega⟩
    obtain ⟨w, hw⟩ : ∃ w : Nat, r = (w : Int) - 1074 := ⟨(r + 1074).toNat, by omega⟩
    subst hu hw
    rw [show ((u : Int) - 1074 - -1074).toNat = u by omega, show ((w : Int) - 1074 - -1074).toNat = w by omega]
    rw [show ((u : Int) - 1074 - ((w : Int) - 1074) - 0).toNat = u - w by omega, show (0 - ((u : Int) - 1074 - ((w : Int) - 1074))).toNat = w - u by omega]
    have : w + (u - w) = u + (w - u) := by omega
    calc c * (d * 2 ^ w) * 2 ^ (u - w) = c * d * 2 ^ (w + (u - w)) := by rw [Nat.pow_add]; ((try generalize Jvm.FP.Core.one64 = own_U); ac_rfl)
      _ = c * 2 ^ u * d * 2 ^ (w - u) := by rw [this, Nat.pow_add]; ((try generalize Jvm.FP.Core.one64 = own_U); ac_rfl)
theorem own_signed_abs (z : Int) : signed (decide (z < 0)) z.natAbs = z := by
  unfold signed
  by_cases h : z < 0 <;> simp [h] <;> omega
theorem own_zv_div_pos {a b : UInt64} (ha : DFin a) (hb : DFin b) (h0 : 0 ≤ own_zv a) (hz : 0 < own_zv b) : own_zv (Jvm.FP.ddiv a b) = (own_rr (own_zv a).natAbs (own_zv b).natAbs : Int) := by
  rw [own_zv_round (own_div ha hb (by omega))]
  by_cases h : own_zv a = 0
  · rw [h]; show signed _ (own_rr 0 _) = _
    rw [show (0 : Int).natAbs = 0 from rfl, own_rr_zero, signed_zero]; rfl
  · rw [own_sgn h, own_sgn (by omega), decide_eq_false (by omega), decide_eq_false (by omega)]; rfl
theorem own_zv_div_neg {a b : UInt64} (ha : DFin a) (hb : DFin b) (h0 : own_zv a ≤ 0) (hz : 0 < own_zv b) : own_zv (Jvm.FP.ddiv a b) = -(own_rr (own_zv a).natAbs (own_zv b).natAbs : Int) := by
  rw [own_zv_round (own_div ha hb (by omega))]
  by_cases h : own_zv a = 0
  · rw [h]; show signed _ (own_rr 0 _) = _
    rw [show (0 : Int).natAbs = 0 from rfl, own_rr_zero, signed_zero]; rfl
  · rw [own_sgn h, own_sgn (by omega), decide_eq_true (by omega), decide_eq_false (by omega)]; rfl
/-- a quotient of two whole numbers -/
theorem own_rr_int (i j : Nat) (hj : 0 < j) : own_rr (i * one64) (j * one64) = own_rr i j :=
  own_rr_congr (Nat.mul_pos hj one64_pos) hj (by ((try generalize Jvm.FP.Core.one64 = own_U); ac_rfl))
theorem own_natAbs_one (i : Int) : (i * (one64 : Int)).natAbs = i.natAbs * one64 := by rw [Int.natAbs_mul]; rfl
theorem own_top {V : Nat} (h : V ≤ 2 ^ 1023 * one64) : V < b64.tails * 2 ^ (b64.exps - 2) := by
  refine Nat.lt_of_le_of_lt h ?_
  decide +kernel
/-! the sign turned -/
theorem own_dneg_bits (a : UInt64) : a.toNat = (Jvm.FP.dneg a).toNat + 2 ^ 63 ∨ (Jvm.FP.dneg a).toNat = a.toNat + 2 ^ 63 := by
  have h := a.toNat_lt
  have e : (Jvm.FP.dneg a).toNat = a.toNat ^^^ 2 ^ 63 := by
    show (a ^^^ 0x8000000000000000).toNat = _
    rw [UInt64.toNat_xor]; rfl
  rw [e]
  by_cases hb : 2 ^ 63 ≤ a.toNat
  · left
    have : a.toNat ^^^ 2 ^ 63 = a.toNat - 2 ^ 63 := by
      apply Nat.eq_of_testBit_eq; intro i
      obtain ⟨k, hk⟩ : ∃ k, a.toNat = 2 ^ 63 + k := ⟨a.toNat - 2 ^ 63, by omega⟩
      have hk2 : k < 2 ^ 63 := by omega
      rw [hk, Nat.add_sub_cancel_left, Nat.testBit_xor, Nat.testBit_two_pow]
      by_cases hi : 63 = i
      · subst hi
        rw [Nat.testBit_two_pow_add_eq, Nat.testBit_lt_two_pow hk2]; rfl
      · by_cases hi2 : i < 63
        · rw [Nat.testBit_two_pow_add_gt hi2]; simp [hi]
        · have : 63 < i := by omega
          rw [Nat.testBit_lt_two_pow (Nat.lt_of_lt_of_le (show 2 ^ 63 + k < 2 ^ 64 by omega) (Nat.pow_le_pow_right (by decide) this)), Nat.testBit_lt_two_pow (Nat.lt_of_lt_of_le hk2 (Nat.pow_le_pow_right (by decide) (Nat.le_of_lt this)))]
          simp [hi]
    omega
  · right
    have : a.toNat ^^^ 2 ^ 63 = a.toNat + 2 ^ 63 := by
      apply Nat.eq_of_testBit_eq; intro i
      have hk2 : a.toNat < 2 ^ 63 := by omega
      rw [Nat.testBit_xor, Nat.testBit_two_pow, Nat.add_comm]
      by_cases hi : 63 = i
      · subst hi
        rw [Nat.testBit_two_pow_add_eq, Nat.testBit_lt_two_pow hk2]; rfl
      · by_cases hi2 : i < 63
        · rw [Nat.testBit_two_pow_add_gt hi2]; simp [hi]
        · have : 63 < i := by omega
          rw [Nat.testBit_lt_two_pow (Nat.lt_of_lt_of_le (show 2 ^ 63 + a.toNat < 2 ^ 64 by omega) (Nat.pow_le_pow_right (by decide) this)), Nat.testBit_lt_two_pow (Nat.lt_of_lt_of_le hk2 (Nat.pow_le_pow_right (by decide) (Nat.le_of_lt this)))]
          simp [hi]
    omega
theorem own_dneg_val (a : UInt64) : val64 (Jvm.FP.dneg a) = negate (val64 a) := val64_neg_bits (own_dneg_bits a)
theorem own_dneg (a : UInt64) : own_zv (Jvm.FP.dneg a) = -own_zv a := by unfold own_zv; rw [own_dneg_val, zval_negate]
theorem own_dneg_fin {a : UInt64} (h : DFin a) : DFin (Jvm.FP.dneg a) := by
  obtain ⟨s, c, q, e⟩ := h
  exact ⟨!s, c, q, by rw [own_dneg_val, e]; rfl⟩
/-! product -/
theorem own_mul {a b : UInt64} (ha : DFin a) (hb : DFin b) :
    val64 (Jvm.FP.dmul a b) = roundRatio b64 (sgn (val64 a) != sgn (val64 b)) ((own_zv a).natAbs * (own_zv b).natAbs) (one64 * one64) 0 := by
  rw [own_natAbs, own_natAbs]
  show val64 (dmul a b) = _
  rw [val64_dmul]
  have fa := val64_fits a
  have fb := val64_fits b
  obtain ⟨s, c, q, e1⟩ := ha
  obtain ⟨t, d, r, e2⟩ := hb
  rw [e1] at fa ⊢
  rw [e2] at fb ⊢
  show roundRatio b64 (s != t) (c * d) 1 (q + r) = roundRatio b64 (s != t) (inUnits c q b64.qmin * inUnits d r b64.qmin) (one64 * one64) 0
  have hq := fa.2.1
  have hr := fb.2.1
  rw [qmin_b64] at hq hr
  refine roundRatio_congr (by decide) (Nat.mul_pos one64_pos one64_pos) ?_
  unfold inUnits one64
  rw [qmin_b64]
  obtain ⟨u, hu⟩ : ∃ u : Nat, q = (u : Int) - 1074 := ⟨(q + 1074).toNat, by omega⟩
  obtain ⟨w, hw⟩ : ∃ w : Nat, r = (w : Int) - 1074 := ⟨(r + 1074).toNat, by omega⟩
  subst hu hw
  rw [show ((u : Int) - 1074 - -1074).toNat = u by omega, show ((w : Int) - 1074 - -1074).toNat = w by omega]
  rw [show ((u : Int) - 1074 + ((w : Int) - 1074) - 0).toNat = u + w - 2148 by omega, show (0 - ((u : Int) - 1074 + ((w : Int) - 1074))).toNat = 2148 - (u + w) by omega]
  generalize hx : u + w - 2148 = x
  generalize hy : 2148 - (u + w) = y
  have h5 : 1074 + (1074 + x) = u + (w + y) := by omega
  calc c * d * (2 ^ 1074 * 2 ^ 1074) * 2 ^ x = c * d * 2 ^ (1074 + (1074 + x)) := by rw [Nat.pow_add, Nat.pow_add]; generalize 2 ^ 1074 = own_W; ac_rfl
    _ = c * 2 ^ u * (d * 2 ^ w) * 1 * 2 ^ y := by rw [h5, Nat.pow_add, Nat.pow_add, Nat.mul_one]; ((try generalize Jvm.FP.Core.one64 = own_U); ac_rfl)
theorem own_zv_mul_pos {a b : UInt64} (ha : DFin a) (hb : DFin b) (h0 : 0 ≤ own_zv a) (h1 : 0 ≤ own_zv b) : own_zv (Jvm.FP.dmul a b) = (own_rr ((own_zv a).natAbs * (own_zv b).natAbs) (one64 * one64) : Int) := by
  rw [own_zv_round (own_mul ha hb)]
  by_cases h : own_zv a = 0
  · rw [h]; show signed _ (own_rr (0 * _) _) = (own_rr (0 * _) _ : Int)
    rw [Nat.zero_mul, own_rr_zero, signed_zero]; rfl
  · by_cases h' : own_zv b = 0
    · rw [h']; show signed _ (own_rr (_ * 0) _) = (own_rr (_ * 0) _ : Int)
      rw [Nat.mul_zero, own_rr_zero, signed_zero]; rfl
    · rw [own_sgn h, own_sgn h', decide_eq_false (by omega), decide_eq_false (by omega)]; rfl
/-! sum -/
theorem own_add {a b : UInt64} (ha : DFin a) (hb : DFin b) : ∃ sg, val64 (Jvm.FP.dadd a b) = roundRatio b64 sg (own_zv a + own_zv b).natAbs one64 0 ∧ signed sg (own_zv a + own_zv b).natAbs = own_zv a + own_zv b := by
  show ∃ sg, val64 (dadd a b) = _ ∧ _
  rw [val64_dadd]
  have fa := val64_fits a
  have fb := val64_fits b
  obtain ⟨s, c, q, e1⟩ := ha
  obtain ⟨t, d, r, e2⟩ := hb
  unfold own_zv
  rw [e1] at fa ⊢
  rw [e2] at fb ⊢
  obtain ⟨sg, n, e, h1, h2, h3⟩ := sum_units fa fb
  rw [h1, ← h3, natAbs_signed]
  refine ⟨sg, ?_, rfl⟩
  show roundRatio b64 sg n 1 e = _
  refine roundRatio_congr (by decide) one64_pos ?_
  unfold inUnits one64
  rw [qmin_b64] at h2 ⊢
  obtain ⟨u, hu⟩ : ∃ u : Nat, e = (u : Int) - 1074 := ⟨(e + 1074).toNat, by omega⟩
  subst hu
  rw [show ((u : Int) - 1074 - -1074).toNat = u by omega, show ((u : Int) - 1074 - 0).toNat = u - 1074 by omega, show (0 - ((u : Int) - 1074)).toNat = 1074 - u by omega]
  have h5 : 1074 + (u - 1074) = u + (1074 - u) := by omega
  calc n * 2 ^ 1074 * 2 ^ (u - 1074) = n * 2 ^ (1074 + (u - 1074)) := by rw [Nat.pow_add 2 1074 (u - 1074), Nat.mul_assoc]
    _ = n * 2 ^ u * 1 * 2 ^ (1074 - u) := by rw [h5, Nat.pow_add, Nat.mul_one]; ((try generalize Jvm.FP.Core.one64 = own_U); ac_rfl)
theorem own_zv_add_pos {a b : UInt64} (ha : DFin a) (hb : DFin b) (h0 : 0 ≤ own_zv a + own_zv b) : own_zv (Jvm.FP.dadd a b) = (own_rr (own_zv a + own_zv b).natAbs one64 : Int) := by
  obtain ⟨sg, h1, h2⟩ := own_add ha hb
  rw [own_zv_round h1]
  generalize own_zv a + own_zv b = z at *
  by_cases h : z = 0
  · subst h; show signed sg (own_rr 0 _) = (own_rr 0 _ : Int)
    rw [own_rr_zero, signed_zero]; rfl
  · have : sg = false := by
      cases sg
      · rfl
      · exfalso; simp [signed] at h2; omega
    subst this; rfl
theorem own_add_exact {a b : UInt64} (ha : DFin a) (hb : DFin b) (hr : own_Rep (own_zv a + own_zv b).natAbs) : own_zv (Jvm.FP.dadd a b) = own_zv a + own_zv b := by
  obtain ⟨sg, h1, h2⟩ := own_add ha hb
  rw [own_zv_round h1, own_rr_exact one64_pos hr rfl, h2]
theorem own_add_fin {a b : UInt64} (ha : DFin a) (hb : DFin b) (hr : own_Rep (own_zv a + own_zv b).natAbs) (hlt : (own_zv a + own_zv b).natAbs ≤ 2 ^ 1023 * one64) : DFin (Jvm.FP.dadd a b) := by
  obtain ⟨sg, h1, h2⟩ := own_add ha hb
  exact own_fin_round h1 (by rw [own_rr_exact one64_pos hr rfl]; exact own_top hlt)
theorem own_sub_eq {a b : UInt64} (hb : DFin b) : Jvm.FP.dsub a b = Jvm.FP.dadd a (Jvm.FP.dneg b) := by
  show dsub a b = dadd a (Jvm.FP.dneg b)
  rw [dsub_eq]
  congr 1
  refine (val64_inj ?_ ?_)
  · rw [val64_dneg]; exact negate_ne_nan hb.ne_nan
  · rw [val64_dneg, own_dneg_val]
theorem own_cmp_int {i j : Int} {a b : UInt64} (ha : DInt i a) (hb : DInt j b) (o : CmpOp) : cmpValue (Jvm.FP.dcmp a b) o = if i < j then -1 else if i = j then 0 else 1 := by
  show cmpValue (dcmp a b) o = _
  rw [dcmp_int ha hb, compare_ite]
  by_cases h1 : i < j
  · rw [if_pos h1, if_pos h1]; rfl
  · rw [if_neg h1, if_neg h1]
    by_cases h2 : i = j
    · rw [if_pos h2, if_pos h2]; rfl
    · rw [if_neg h2, if_neg h2]; rfl
theorem own_cmp_i (x y : Int32) (o : CmpOp) : cmpValue (Jvm.FP.dcmp (Jvm.FP.i2d x) (Jvm.FP.i2d y)) o = if x.toInt < y.toInt then -1 else if x.toInt = y.toInt then 0 else 1 := own_cmp_int (i2d_int x) (i2d_int y) o
theorem own_dneg_int {i : Int} {a : UInt64} (h : DInt i a) : DInt (-i) (Jvm.FP.dneg a) := by
  unfold DInt; rw [own_dneg_val]; exact whole_negate h
end FloatKit
theorem own_lc (x y : Int64) : lcmpW x y = if x.toInt < y.toInt then -1 else if x.toInt = y.toInt then 0 else 1 := by
  unfold lcmpW
  simp only [gt_iff_lt, Int64.lt_iff_toInt_lt, ← Int64.toInt_inj]
  by_cases h1 : x.toInt < y.toInt
  · rw [if_neg (by omega), if_neg (by omega), if_pos h1]
  · by_cases h2 : x.toInt = y.toInt
    · rw [if_neg (by omega), if_pos h2, if_neg h1, if_pos h2]
    · rw [if_pos (by omega), if_neg h1, if_neg h2]
theorem own_mod_bounds (x y : Int32) (hx : 0 ≤ x.toInt) (hy : 0 < y.toInt) : 0 ≤ (x % y).toInt ∧ (x % y).toInt < y.toInt := by
  rw [Int32.toInt_mod]; exact ⟨Int.tmod_nonneg _ hx, Int.tmod_lt_of_pos _ hy⟩
theorem own_m31 (x : Int32) : 0 ≤ (x &&& (2147483647 : Int32)).toInt := by
  rw [Jvm.Kit.i32_mask x (2147483647 : Int32) (k := 31) (by decide) (by decide)]; omega
theorem own_mask {x m : Int32} {k : Nat} (hk : k < 32) (hm : m.toBitVec.toNat = 2 ^ k - 1) : 0 ≤ (x &&& m).toInt ∧ (x &&& m).toInt < 2 ^ k := by
  rw [Jvm.Kit.i32_mask x m hk hm]
  have : (0 : Int) < 2 ^ k := Int.pow_pos (by decide)
  exact ⟨Int.emod_nonneg _ (by omega), Int.emod_lt_of_pos _ this⟩
theorem own_lc_pos (x y : Int64) : (0 : Int32) < lcmpW x y ↔ y.toInt < x.toInt := by
  rw [own_lc]
  by_cases h1 : x.toInt < y.toInt
  · rw [if_pos h1]; exact ⟨fun h => absurd h (by decide), fun h => by omega⟩
  · rw [if_neg h1]
    by_cases h2 : x.toInt = y.toInt
    · rw [if_pos h2]; exact ⟨fun h => absurd h (by decide), fun h => by omega⟩
    · rw [if_neg h2]; exact ⟨fun _ => by omega, fun _ => by decide⟩
theorem own_lc_neg (x y : Int64) : lcmpW x y < (0 : Int32) ↔ x.toInt < y.toInt := by
  rw [own_lc]
  by_cases h1 : x.toInt < y.toInt
  · rw [if_pos h1]; exact ⟨fun _ => h1, fun _ => by decide⟩
  · rw [if_neg h1]
    by_cases h2 : x.toInt = y.toInt
    · rw [if_pos h2]; exact ⟨fun h => absurd h (by decide), fun h => by omega⟩
    · rw [if_neg h2]; exact ⟨fun h => absurd h (by decide), fun h => by omega⟩
theorem own_lc_eq (x y : Int64) : lcmpW x y = (0 : Int32) ↔ x.toInt = y.toInt := by
  rw [own_lc]
  by_cases h1 : x.toInt < y.toInt
  · rw [if_pos h1]; exact ⟨fun h => absurd h (by decide), fun h => by omega⟩
  · rw [if_neg h1]
    by_cases h2 : x.toInt = y.toInt
    · rw [if_pos h2]; exact ⟨fun _ => h2, fun _ => rfl⟩
    · rw [if_neg h2]; exact ⟨fun h => absurd h (by decide), fun h => absurd h h2⟩

def own_D (r : Nat → UInt64) : List Value := (List.range 2048).map fun i => Value.double (r i)
def own_E (r : Nat → Int32) : List Value := (List.range 2048).map fun i => Value.int (r i)
def own_L (r : Nat → Int64) : List Value := (List.range 32).map fun i => Value.long (r i)
def own_up {A : Type} (r : Nat → A) (p : Nat) (c : A) : Nat → A := fun i => if i = p then c else r i
theorem own_up_ne {A : Type} (xs : Nat → A) {p i : Nat} (d : A) (h : i ≠ p) : own_up xs p d i = xs i := if_neg h
theorem own_up_eq {A : Type} (xs : Nat → A) (p : Nat) (d : A) : own_up xs p d p = d := if_pos rfl
theorem own_get {A : Type} (v : A → Value) (r : Nat → A) (n i : Nat) (d : Value) : ((List.range n).map fun i => v (r i)).getD i d = if i < n then v (r i) else d := by
  rw [List.getD_eq_getElem?_getD, List.getElem?_map]
  by_cases h : i < n
  · rw [List.getElem?_range h, if_pos h]; rfl
  · rw [List.getElem?_eq_none (by rw [List.length_range]; omega), if_neg h]; rfl
theorem own_len {A : Type} (v : A → Value) (r : Nat → A) {n p : Nat} (hp : p < n) : p < ((List.range n).map fun i => v (r i)).length := by rw [List.length_map, List.length_range]; exact hp
theorem own_set {A : Type} (v : A → Value) (r : Nat → A) {n p : Nat} (hp : p < n) (c : A) (i : Nat) (d : Value) : ((List.range n).map fun i => v (own_up r p c i)).getD i d = (((List.range n).map fun i => v (r i)).set p (v c)).getD i d := by
  have e := own_len v r hp
  rw [own_get v (own_up r p c), List.getD_eq_getElem?_getD, List.getElem?_set]
  by_cases h : p = i
  · subst h; rw [if_pos hp, if_pos rfl, if_pos e, own_up_eq]; rfl
  · rw [if_neg h]
    have := own_get v r n i d
    rw [List.getD_eq_getElem?_getD] at this
    rw [this, own_up_ne r c (fun q => h q.symm)]
theorem own_D0 (i : Nat) : (own_D (fun _ => 0)).getD i (.double (0 : UInt64)) = ([] : List Value).getD i (.double (0 : UInt64)) := by
  unfold own_D; rw [own_get (fun z => Value.double z)]; split <;> rfl
theorem own_E0 (i : Nat) : (own_E (fun _ => 0)).getD i (.int (0 : Int32)) = ([] : List Value).getD i (.int (0 : Int32)) := by
  unfold own_E; rw [own_get (fun z => Value.int z)]; split <;> rfl
theorem own_L0 (i : Nat) : (own_L (fun _ => 0)).getD i (.long (0 : Int64)) = (List.replicate 32 (Value.long (0 : Int64))).getD i (.long (0 : Int64)) := by
  unfold own_L; rw [own_get (fun z => Value.long z), List.getD_eq_getElem?_getD, List.getElem?_replicate]; split <;> rfl
theorem own_Dl (r : Nat → UInt64) {p : Nat} (hp : p < 2048) : p < (own_D r).length := own_len (fun z => Value.double z) r hp
theorem own_El (r : Nat → Int32) {p : Nat} (hp : p < 2048) : p < (own_E r).length := own_len (fun z => Value.int z) r hp
theorem own_Ll (r : Nat → Int64) {p : Nat} (hp : p < 32) : p < (own_L r).length := own_len (fun z => Value.long z) r hp
theorem own_Dset (r : Nat → UInt64) {p : Nat} (hp : p < 2048) (c : UInt64) (i : Nat) : (own_D (own_up r p c)).getD i (.double (0 : UInt64)) = ((own_D r).set p (.double c)).getD i (.double (0 : UInt64)) := own_set (fun z => Value.double z) r hp c i _
theorem own_Eset (r : Nat → Int32) {p : Nat} (hp : p < 2048) (c : Int32) (i : Nat) : (own_E (own_up r p c)).getD i (.int (0 : Int32)) = ((own_E r).set p (.int c)).getD i (.int (0 : Int32)) := own_set (fun z => Value.int z) r hp c i _
theorem own_Lset (r : Nat → Int64) {p : Nat} (hp : p < 32) (c : Int64) (i : Nat) : (own_L (own_up r p c)).getD i (.long (0 : Int64)) = ((own_L r).set p (.long c)).getD i (.long (0 : Int64)) := own_set (fun z => Value.long z) r hp c i _
/-- a word that holds 0 already -/
theorem own_Lsame (r : Nat → Int64) (h : ∀ i, r i = 0) {p : Nat} (hp : p < 32) (i : Nat) : (own_L r).getD i (.long (0 : Int64)) = ((own_L r).set p (.long (0 : Int64))).getD i (.long (0 : Int64)) := by
  rw [← own_Lset r hp]
  have : own_up r p 0 = r := funext fun j => by
    unfold own_up
    by_cases w : j = p
    · rw [if_pos w, h j]
    · rw [if_neg w]
  rw [this]
theorem own_ix {j : Int32} (h : ¬ (j < 0) ∧ j < (2048 : Int32)) : j.toNatClampNeg < 2048 := by
  have e : (2048 : Int32).toInt = 2048 := by decide
  rw [Int32.lt_iff_toInt_lt, Int32.lt_iff_toInt_lt, Int32.toInt_zero, e] at h
  unfold Int32.toNatClampNeg; omega
theorem own_ixl {j : Int32} (h : ¬ (j < 0) ∧ j < (32 : Int32)) : j.toNatClampNeg < 32 := by
  have e : (32 : Int32).toInt = 32 := by decide
  rw [Int32.lt_iff_toInt_lt, Int32.lt_iff_toInt_lt, Int32.toInt_zero, e] at h
  unfold Int32.toNatClampNeg; omega
theorem own_rdD (r : Nat → UInt64) {j : Int32} (h : ¬ (j < 0) ∧ j < (2048 : Int32)) : (own_D r).getD j.toNatClampNeg (.double (0 : UInt64)) = .double (r j.toNatClampNeg) := by
  unfold own_D; rw [own_get (fun z => Value.double z), if_pos (own_ix h)]
theorem own_rdE (r : Nat → Int32) {j : Int32} (h : ¬ (j < 0) ∧ j < (2048 : Int32)) : (own_E r).getD j.toNatClampNeg (.int (0 : Int32)) = .int (r j.toNatClampNeg) := by
  unfold own_E; rw [own_get (fun z => Value.int z), if_pos (own_ix h)]
theorem own_rdL (r : Nat → Int64) {j : Int32} (h : ¬ (j < 0) ∧ j < (32 : Int32)) : (own_L r).getD j.toNatClampNeg (.long (0 : Int64)) = .long (r j.toNatClampNeg) := by
  unfold own_L; rw [own_get (fun z => Value.long z), if_pos (own_ixl h)]
theorem own_rd0 (r : Nat → Int64) (h0 : ∀ i, r i = 0) {j : Int32} (h : ¬ (j < 0) ∧ j < (32 : Int32)) : (own_L r).getD j.toNatClampNeg (.long (0 : Int64)) = .long (0 : Int64) := by
  rw [own_rdL r h, h0]
/-- the slot's bounds, as the array accesses ask for them -/
theorem own_sb {j : Int32} (h : 0 ≤ j.toInt ∧ j.toInt < 2048) : ¬ (j < 0) ∧ j < (2048 : Int32) := by
  have e : (2048 : Int32).toInt = 2048 := by decide
  rw [Int32.lt_iff_toInt_lt, Int32.lt_iff_toInt_lt, Int32.toInt_zero, e]; omega
theorem own_d64 (j : Int32) : (j / (64 : Int32)).toInt = j.toInt.tdiv 64 := by
  rw [Int32.toInt_div]
  have : (64 : Int32).toInt = 64 := by decide
  rw [this]
  have h1 := j.le_toInt
  have h2 := j.toInt_lt
  apply Int.bmod_eq_of_le
  · have : j.toInt.tdiv 64 = j.toInt.tdiv 64 := rfl
    rcases Int.le_total 0 j.toInt with q | q
    · have := Int.tdiv_nonneg q (show (0 : Int) ≤ 64 by decide); omega
    · have : (-j.toInt).tdiv 64 ≤ -j.toInt := Int.tdiv_le_self _ (by omega)
      rw [Int.neg_tdiv] at this; omega
  · rcases Int.le_total 0 j.toInt with q | q
    · have := Int.tdiv_le_self 64 q; omega
    · have : 0 ≤ (-j.toInt).tdiv 64 := Int.tdiv_nonneg (by omega) (by decide)
      rw [Int.neg_tdiv] at this; omega
theorem own_dd {j : Int32} (h : 0 ≤ j.toInt) : (j / (64 : Int32)).toInt = j.toInt / 64 := by rw [own_d64, Int.tdiv_eq_ediv_of_nonneg h]
theorem own_wb {j : Int32} (h : 0 ≤ j.toInt ∧ j.toInt < 2048) : ¬ ((j / (64 : Int32)) < 0) ∧ (j / (64 : Int32)) < (32 : Int32) := by
  have e : (32 : Int32).toInt = 32 := by decide
  rw [Int32.lt_iff_toInt_lt, Int32.lt_iff_toInt_lt, Int32.toInt_zero, e, own_dd h.1]; omega
theorem own_wb' {j : Int32} (h : 0 ≤ j.toInt ∧ j.toInt ≤ 2048) (q : (j / (64 : Int32)) < (32 : Int32)) : ¬ ((j / (64 : Int32)) < 0) ∧ (j / (64 : Int32)) < (32 : Int32) := by
  refine ⟨?_, q⟩
  rw [Int32.lt_iff_toInt_lt, Int32.toInt_zero, own_dd h.1]; omega
/-- the loop of next: the words behind w, k of them -/
def own_lw (x : Nat → Int64) : Nat → Int32 → Int64 → Int32
  | 0, w, _ => w
  | k + 1, w, b => if (lcmpW b (0 : Int64)) = (0 : Int32) then own_lw x k (w + (1 : Int32)) (x (w + (1 : Int32)).toNatClampNeg) else w
def own_lb (x : Nat → Int64) : Nat → Int32 → Int64 → Int64
  | 0, _, b => b
  | k + 1, w, b => if (lcmpW b (0 : Int64)) = (0 : Int32) then own_lb x k (w + (1 : Int32)) (x (w + (1 : Int32)).toNatClampNeg) else b
theorem own_lw0 (x : Nat → Int64) (w : Int32) (b : Int64) : own_lw x 0 w b = w := rfl
theorem own_lb0 (x : Nat → Int64) (w : Int32) (b : Int64) : own_lb x 0 w b = b := rfl
theorem own_lw1 {x : Nat → Int64} {k : Nat} {w : Int32} {b : Int64} (h : (lcmpW b (0 : Int64)) = (0 : Int32)) : own_lw x (k + 1) w b = own_lw x k (w + (1 : Int32)) (x (w + (1 : Int32)).toNatClampNeg) := if_pos h
theorem own_lb1 {x : Nat → Int64} {k : Nat} {w : Int32} {b : Int64} (h : (lcmpW b (0 : Int64)) = (0 : Int32)) : own_lb x (k + 1) w b = own_lb x k (w + (1 : Int32)) (x (w + (1 : Int32)).toNatClampNeg) := if_pos h
theorem own_lw2 {x : Nat → Int64} {k : Nat} {w : Int32} {b : Int64} (h : ¬ (lcmpW b (0 : Int64)) = (0 : Int32)) : own_lw x (k + 1) w b = w := if_neg h
theorem own_lb2 {x : Nat → Int64} {k : Nat} {w : Int32} {b : Int64} (h : ¬ (lcmpW b (0 : Int64)) = (0 : Int32)) : own_lb x (k + 1) w b = b := if_neg h
def own_lk (k : Nat) (w : Int32) : Prop := 0 ≤ w.toInt ∧ w.toInt ≤ 32 ∧ (31 - w.toInt).toNat = k
theorem own_lp {w : Int32} (h : 0 ≤ w.toInt ∧ w.toInt ≤ 32) : (w + (1 : Int32)).toInt = w.toInt + 1 := by
  have c1 : (1 : Int32).toInt = 1 := by decide
  rw [Jvm.Kit.i32_add] <;> rw [c1] <;> omega
theorem own_lkz {w : Int32} (h : own_lk 0 w) : ¬ ((w + (1 : Int32)) < (32 : Int32)) := by
  have e : (32 : Int32).toInt = 32 := by decide
  have := h.2.2
  rw [Int32.lt_iff_toInt_lt, own_lp ⟨h.1, h.2.1⟩, e]; omega
theorem own_lks {w : Int32} {k : Nat} (h : own_lk (k + 1) w) : (w + (1 : Int32)) < (32 : Int32) := by
  have e : (32 : Int32).toInt = 32 := by decide
  have := h.2.2
  rw [Int32.lt_iff_toInt_lt, own_lp ⟨h.1, h.2.1⟩, e]; omega
theorem own_lkb {w : Int32} {k : Nat} (h : own_lk (k + 1) w) : ¬ ((w + (1 : Int32)) < 0) ∧ (w + (1 : Int32)) < (32 : Int32) := by
  refine ⟨?_, own_lks h⟩
  have := h.1
  rw [Int32.lt_iff_toInt_lt, own_lp ⟨h.1, h.2.1⟩, Int32.toInt_zero]; omega
theorem own_lkn {w : Int32} {k : Nat} (h : own_lk (k + 1) w) : own_lk k (w + (1 : Int32)) := by
  have a := h.1
  have b := h.2.1
  have c := h.2.2
  unfold own_lk
  rw [own_lp ⟨a, b⟩]; omega
theorem own_lki {j : Int32} (h : 0 ≤ j.toInt ∧ j.toInt ≤ 2048) : own_lk (31 - (j / (64 : Int32)).toInt).toNat (j / (64 : Int32)) := by
  refine ⟨?_, ?_, rfl⟩ <;> rw [own_dd h.1] <;> omega
/-- the rounds of start that are left -/
def own_sk (k : Nat) (w : Int32) : Prop := 0 ≤ w.toInt ∧ w.toInt + (k : Int) = 32
theorem own_ski : own_sk 31 (1 : Int32) := ⟨by decide, by decide⟩
theorem own_skz {w : Int32} (h : own_sk 0 w) : w = (32 : Int32) := by
  have e : (32 : Int32).toInt = 32 := by decide
  have := h.2
  exact Int32.toInt_inj.mp (by omega)
theorem own_sks {k : Nat} {w : Int32} (h : own_sk (k + 1) w) : w < (32 : Int32) := by
  have e : (32 : Int32).toInt = 32 := by decide
  have := h.2
  rw [Int32.lt_iff_toInt_lt, e]; omega
theorem own_skb {k : Nat} {w : Int32} (h : own_sk (k + 1) w) : ¬ (w < 0) ∧ w < (32 : Int32) := by
  refine ⟨?_, own_sks h⟩
  have := h.1
  rw [Int32.lt_iff_toInt_lt, Int32.toInt_zero]; omega
theorem own_skn {k : Nat} {w : Int32} (h : own_sk (k + 1) w) : own_sk k (w + (1 : Int32)) := by
  have a := h.1
  have b := h.2
  have c1 : (1 : Int32).toInt = 1 := by decide
  unfold own_sk
  rw [Jvm.Kit.i32_add] <;> rw [c1] <;> omega
theorem d1_0 : decode prog_62_method_1_code 0 = .ok (.aload_n 0, 1) := by decide +kernel
theorem d1_1 : decode prog_62_method_1_code 1 = .ok (.invokespecial 1, 3) := by decide +kernel
theorem d1_4 : decode prog_62_method_1_code 4 = .ok (.aload_n 0, 1) := by decide +kernel
theorem d1_5 : decode prog_62_method_1_code 5 = .ok (.sipush 2048, 3) := by decide +kernel
theorem d1_8 : decode prog_62_method_1_code 8 = .ok (.newarray .double, 2) := by decide +kernel
theorem d1_10 : decode prog_62_method_1_code 10 = .ok (.putfield 9, 3) := by decide +kernel
theorem d1_13 : decode prog_62_method_1_code 13 = .ok (.aload_n 0, 1) := by decide +kernel
theorem d1_14 : decode prog_62_method_1_code 14 = .ok (.sipush 2048, 3) := by decide +kernel
theorem d1_17 : decode prog_62_method_1_code 17 = .ok (.newarray .int, 2) := by decide +kernel
theorem d1_19 : decode prog_62_method_1_code 19 = .ok (.putfield 13, 3) := by decide +kernel
theorem d1_22 : decode prog_62_method_1_code 22 = .ok (.aload_n 0, 1) := by decide +kernel
theorem d1_23 : decode prog_62_method_1_code 23 = .ok (.bipush 32, 2) := by decide +kernel
theorem d1_25 : decode prog_62_method_1_code 25 = .ok (.newarray .long, 2) := by decide +kernel
theorem d1_27 : decode prog_62_method_1_code 27 = .ok (.putfield 19, 3) := by decide +kernel
theorem d1_30 : decode prog_62_method_1_code 30 = .ok (.return_, 1) := by decide +kernel
theorem ef_1 (m : MethodId) (x0 : Addr) : entryFrame m #[(.ref x0)] 1 = mkF m 0 #[.val (.ref x0)] [] := by first | (simp [entryFrame, mkF, argsToLocals, Value.category]; done) | rfl
theorem pn_0 : plainName "com/example/libclause/libclause/search/ScoreWindow" = true := by first | (simp [plainName, overriddenIn]; done) | decide +kernel
def Q1 (Z : State) (a1 : Addr) (h0 : Heap) (n0 : Nat) (v : Option Value) (h : Heap) (L : List Loc) : Prop := v = none ∧ Fr n0 L ∧ Keep h0 h [a1] ∧ Exa Z h a1 "com/example/libclause/libclause/search/ScoreWindow" ∧ ∃ (b_scores : Addr) (b_counts : Addr) (b_marked : Addr) (k_scores : ClassId) (k_counts : ClassId) (k_marked : ClassId), n0 ≤ b_scores ∧ n0 ≤ b_counts ∧ n0 ≤ b_marked ∧ h0.size ≤ b_scores ∧ h0.size ≤ b_counts ∧ h0.size ≤ b_marked ∧ b_counts ≠ b_scores ∧ b_marked ≠ b_scores ∧ b_marked ≠ b_counts ∧ Fld Z h a1 "com/example/libclause/libclause/search/ScoreWindow" "scores" "[D" (.ref b_scores) ∧ Fld Z h a1 "com/example/libclause/libclause/search/ScoreWindow" "counts" "[I" (.ref b_counts) ∧ Fld Z h a1 "com/example/libclause/libclause/search/ScoreWindow" "marked" "[J" (.ref b_marked) ∧ Fld Z h a1 "com/example/libclause/libclause/search/ScoreWindow" "first" "I" (.int (0 : Int32)) ∧ Fld Z h a1 "com/example/libclause/libclause/search/ScoreWindow" "end" "I" (.int (0 : Int32)) ∧ Arv Z h b_scores k_scores .double (2048 : Int32) (own_D (fun _ => (0 : UInt64))) (.double (0 : UInt64)) ∧ Arv Z h b_counts k_counts .int (2048 : Int32) (own_E (fun _ => (0 : Int32))) (.int (0 : Int32)) ∧ Arv Z h b_marked k_marked .long (32 : Int32) (own_L (fun _ => (0 : Int64))) (.long (0 : Int64))
set_option maxRecDepth 65536 in
set_option maxHeartbeats 40000000 in
theorem rm1 (l : Launch) (Z : State) (a0 : Array Value) (hw : ∀ d ∈ tables_1, d.before a0 Z = true) (ws : List Jvm.Cond) (a1 : Addr) (h0 : Heap) (n0 : Nat) (Z0 : n0 ≤ h0.size) (E1 : Exa Z h0 a1 "com/example/libclause/libclause/search/ScoreWindow") (F_scores_a1 : Fld Z h0 a1 "com/example/libclause/libclause/search/ScoreWindow" "scores" "[D" .null) (F_counts_a1 : Fld Z h0 a1 "com/example/libclause/libclause/search/ScoreWindow" "counts" "[I" .null) (F_marked_a1 : Fld Z h0 a1 "com/example/libclause/libclause/search/ScoreWindow" "marked" "[J" .null) (F_first_a1 : Fld Z h0 a1 "com/example/libclause/libclause/search/ScoreWindow" "first" "I" (.int (0 : Int32))) (F_end_a1 : Fld Z h0 a1 "com/example/libclause/libclause/search/ScoreWindow" "end" "I" (.int (0 : Int32))) (g1 : n0 ≤ a1) :
    MetFree l (⟨"com/example/libclause/libclause/search/ScoreWindow", "<init>", "()V"⟩ : MethodName) (head1 (Jvm.Cond.code (⟨"com/example/libclause/libclause/search/ScoreWindow", "<init>", "()V"⟩ : MethodName) prog_62_method_1_code 1 none :: ws) ({ frames := 1, cells := 3, slots := 4128, locals := 12 } : Room)) (fun a U => a = #[(.ref a1)] ∧ Z.Warmed39 U.vm ∧ U.heap = h0) (fun _ _ _ _ _ => True) (fun _ U o U' => ∃ v L, o = .returned v ∧ Q1 Z a1 h0 n0 v U'.heap L ∧ FrameEnd U o U' L ({ frames := 1, cells := 3, slots := 4128, locals := 12 } : Room).cells ({ frames := 1, cells := 3, slots := 4128, locals := 12 } : Room).slots) := by
  refine MetFree.of_bodySF (plainFor_of_name pn_0) hisR ?_
  intro p e s m args below meth c s₁ Bd hml0 hP hK
  obtain ⟨rfl, hZ, hh⟩ := hP
  have hx := Bd.exec
  have hby := Bd.bytes
  have hml : c.maxLocals = 1 := hml0
  have hown : s.vm.findClass "com/example/libclause/libclause/search/ScoreWindow" = some m.cls := findClass_of_methodNamed Bd.named
  have hnm := (name_of_methodNamed Bd.named Bd.method).1
  have X0 : Stand p l e ({ frames := 1, cells := 3, slots := 4128, locals := 12 } : Room) s m #[(.ref a1)] below meth c s₁ [] 0 0 := Stand.of_body Bd
  have e0 : s₁.heap = h0 := by rw [← hh, Bd.state]; rfl
  have N0 := Fr.nil n0
  have pre0 : ∀ t, Steps p.tables e below (s₁.setTop (mkF m 0 #[.val (.ref a1)] [])) t → Steps p.tables e below (s₁.setTop (entryFrame m #[(.ref a1)] 1)) t := fun t k => castTop (ef_1 m a1) k
  obtain ⟨T1, X1, e1, st1⟩ := initO X0 hx hZ hown (hw _ (List.mem_of_getElem? (i := 7) rfl)) (hw _ (List.mem_of_getElem? (i := 8) rfl)) (hw _ (List.mem_of_getElem? (i := 9) rfl)) e0 (g := (mkF m 1 #[.val (.ref a1)] [(.ref a1)])) rfl (by rw [hml]; rfl) rfl (hb hby d1_1) (by decide) (W := 0) (by show 2 * 0 + _ ≤ _; exact Nat.le_of_eq rfl) (by decide)
  obtain ⟨T2, h2, k2, X2, e2, E2, A2, st2⟩ := newP X1 hx hZ (hw _ (List.mem_of_getElem? (i := 10) rfl)) e1 (g := (mkF m 8 #[.val (.ref a1)] [(.int (2048 : Int32)), (.ref a1)])) rfl (hb hby d1_8) rfl (by decide) (cap := 2048) (by decide) (by decide) (by decide) (by decide)
  obtain ⟨b2, g2⟩ : ∃ z, z = h0.size := ⟨_, rfl⟩
  rw [← g2] at A2 st2
  have ne3 : a1 ≠ b2 := Nat.ne_of_lt (Nat.lt_of_lt_of_le E1.lt (Nat.le_of_eq g2.symm))
  have gg2 : n0 ≤ b2 := Nat.le_trans Z0 (Nat.le_of_eq g2.symm)
  have sz2 : h0.size ≤ b2 := Nat.le_trans (Keep.refl h0 [a1]).1 (Nat.le_of_eq g2.symm)
  have f4 : Exa Z h2 a1 "com/example/libclause/libclause/search/ScoreWindow" := E1.ext E2
  have f5 : Fld Z h2 a1 "com/example/libclause/libclause/search/ScoreWindow" "scores" "[D" .null := F_scores_a1.ext E2
  have f6 : Fld Z h2 a1 "com/example/libclause/libclause/search/ScoreWindow" "counts" "[I" .null := F_counts_a1.ext E2
  have f7 : Fld Z h2 a1 "com/example/libclause/libclause/search/ScoreWindow" "marked" "[J" .null := F_marked_a1.ext E2
  have f8 : Fld Z h2 a1 "com/example/libclause/libclause/search/ScoreWindow" "first" "I" (.int (0 : Int32)) := F_first_a1.ext E2
  have f9 : Fld Z h2 a1 "com/example/libclause/libclause/search/ScoreWindow" "end" "I" (.int (0 : Int32)) := F_end_a1.ext E2
  have K10 : Keep h0 h2 [a1] := (Keep.refl h0 [a1]).ext E2
  have Z11 : n0 ≤ h2.size := Nat.le_trans Z0 E2.1
  have fa2 : Arv Z h2 b2 k2 .double (2048 : Int32) [] (.double (0 : UInt64)) := (Arv.new A2 (by decide))
  obtain ⟨T12, h12, X12, e12, W12, st12⟩ := putF X2 hx hZ hown (host := "") (Or.inl (hw _ (List.mem_of_getElem? (i := 11) rfl))) Via.refl e2 f5 f4 (Or.inr ⟨(hw _ (List.mem_of_getElem? (i := 12) rfl)), rfl, hnm⟩) (hw _ (List.mem_of_getElem? (i := 2) rfl)) (ty := (.array .double)) (by decide) rfl rfl (g := (mkF m 10 #[.val (.ref a1)] [(.ref b2), (.ref a1)])) rfl rfl (hb hby d1_10)
  have f13 : Exa Z h12 a1 "com/example/libclause/libclause/search/ScoreWindow" := f4.wr W12
  have f14 : Fld Z h12 a1 "com/example/libclause/libclause/search/ScoreWindow" "scores" "[D" (.ref b2) := f5.same W12
  have f15 : Fld Z h12 a1 "com/example/libclause/libclause/search/ScoreWindow" "counts" "[I" .null := f6.other W12 (Or.inr (slot_ne (Or.inr (hw _ (List.mem_of_getElem? (i := 15) rfl))) (Or.inr (hw _ (List.mem_of_getElem? (i := 12) rfl))) (by decide) (t := (.array .int)) (t' := (.array .double)) (by decide) (by decide)))
  have f16 : Fld Z h12 a1 "com/example/libclause/libclause/search/ScoreWindow" "marked" "[J" .null := f7.other W12 (Or.inr (slot_ne (Or.inr (hw _ (List.mem_of_getElem? (i := 18) rfl))) (Or.inr (hw _ (List.mem_of_getElem? (i := 12) rfl))) (by decide) (t := (.array .long)) (t' := (.array .double)) (by decide) (by decide)))
  have f17 : Fld Z h12 a1 "com/example/libclause/libclause/search/ScoreWindow" "first" "I" (.int (0 : Int32)) := f8.other W12 (Or.inr (slot_ne (Or.inl (hw _ (List.mem_of_getElem? (i := 25) rfl))) (Or.inr (hw _ (List.mem_of_getElem? (i := 12) rfl))) (by decide) (t := .int) (t' := (.array .double)) (by decide) (by decide)))
  have f18 : Fld Z h12 a1 "com/example/libclause/libclause/search/ScoreWindow" "end" "I" (.int (0 : Int32)) := f9.other W12 (Or.inr (slot_ne (Or.inl (hw _ (List.mem_of_getElem? (i := 33) rfl))) (Or.inr (hw _ (List.mem_of_getElem? (i := 12) rfl))) (by decide) (t := .int) (t' := (.array .double)) (by decide) (by decide)))
  have f19 : Arv Z h12 b2 k2 .double (2048 : Int32) [] (.double (0 : UInt64)) := fa2.other W12 (Ne.symm ne3)
  have N20 := Fr.snoc X12 N0 g1
  have K21 : Keep h0 h12 [a1] := K10.wr W12 (Or.inl (List.mem_of_getElem? (i := 0) rfl))
  have Z22 : n0 ≤ h12.size := Nat.le_trans Z11 (Keep.of_wr W12).1
  obtain ⟨T23, h23, k23, X23, e23, E23, A23, st23⟩ := newP X12 hx hZ (hw _ (List.mem_of_getElem? (i := 13) rfl)) e12 (g := (mkF m 17 #[.val (.ref a1)] [(.int (2048 : Int32)), (.ref a1)])) rfl (hb hby d1_17) rfl (by decide) (cap := 2048) (by decide) (by decide) (by decide) (by decide)
  obtain ⟨b23, g23⟩ : ∃ z, z = h12.size := ⟨_, rfl⟩
  rw [← g23] at A23 st23
  have ne24 : a1 ≠ b23 := Nat.ne_of_lt (Nat.lt_of_lt_of_le f13.lt (Nat.le_of_eq g23.symm))
  have ne25 : b2 ≠ b23 := Nat.ne_of_lt (Nat.lt_of_lt_of_le f19.lt (Nat.le_of_eq g23.symm))
  have gg23 : n0 ≤ b23 := Nat.le_trans Z22 (Nat.le_of_eq g23.symm)
  have sz23 : h0.size ≤ b23 := Nat.le_trans K21.1 (Nat.le_of_eq g23.symm)
  have f26 : Exa Z h23 a1 "com/example/libclause/libclause/search/ScoreWindow" := f13.ext E23
  have f27 : Fld Z h23 a1 "com/example/libclause/libclause/search/ScoreWindow" "scores" "[D" (.ref b2) := f14.ext E23
  have f28 : Fld Z h23 a1 "com/example/libclause/libclause/search/ScoreWindow" "counts" "[I" .null := f15.ext E23
  have f29 : Fld Z h23 a1 "com/example/libclause/libclause/search/ScoreWindow" "marked" "[J" .null := f16.ext E23
  have f30 : Fld Z h23 a1 "com/example/libclause/libclause/search/ScoreWindow" "first" "I" (.int (0 : Int32)) := f17.ext E23
  have f31 : Fld Z h23 a1 "com/example/libclause/libclause/search/ScoreWindow" "end" "I" (.int (0 : Int32)) := f18.ext E23
  have f32 : Arv Z h23 b2 k2 .double (2048 : Int32) [] (.double (0 : UInt64)) := f19.ext E23
  have K33 : Keep h0 h23 [a1] := K21.ext E23
  have Z34 : n0 ≤ h23.size := Nat.le_trans Z22 E23.1
  have fa23 : Arv Z h23 b23 k23 .int (2048 : Int32) [] (.int (0 : Int32)) := (Arv.new A23 (by decide))
  obtain ⟨T35, h35, X35, e35, W35, st35⟩ := putF X23 hx hZ hown (host := "") (Or.inl (hw _ (List.mem_of_getElem? (i := 14) rfl))) Via.refl e23 f28 f26 (Or.inr ⟨(hw _ (List.mem_of_getElem? (i := 15) rfl)), rfl, hnm⟩) (hw _ (List.mem_of_getElem? (i := 2) rfl)) (ty := (.array .int)) (by decide) rfl rfl (g := (mkF m 19 #[.val (.ref a1)] [(.ref b23), (.ref a1)])) rfl rfl (hb hby d1_19)
  have f36 : Exa Z h35 a1 "com/example/libclause/libclause/search/ScoreWindow" := f26.wr W35
  have f37 : Fld Z h35 a1 "com/example/libclause/libclause/search/ScoreWindow" "scores" "[D" (.ref b2) := f27.other W35 (Or.inr (slot_ne (Or.inr (hw _ (List.mem_of_getElem? (i := 12) rfl))) (Or.inr (hw _ (List.mem_of_getElem? (i := 15) rfl))) (by decide) (t := (.array .double)) (t' := (.array .int)) (by decide) (by decide)))
  have f38 : Fld Z h35 a1 "com/example/libclause/libclause/search/ScoreWindow" "counts" "[I" (.ref b23) := f28.same W35
  have f39 : Fld Z h35 a1 "com/example/libclause/libclause/search/ScoreWindow" "marked" "[J" .null := f29.other W35 (Or.inr (slot_ne (Or.inr (hw _ (List.mem_of_getElem? (i := 18) rfl))) (Or.inr (hw _ (List.mem_of_getElem? (i := 15) rfl))) (by decide) (t := (.array .long)) (t' := (.array .int)) (by decide) (by decide)))
  have f40 : Fld Z h35 a1 "com/example/libclause/libclause/search/ScoreWindow" "first" "I" (.int (0 : Int32)) := f30.other W35 (Or.inr (slot_ne (Or.inl (hw _ (List.mem_of_getElem? (i := 25) rfl))) (Or.inr (hw _ (List.mem_of_getElem? (i := 15) rfl))) (by decide) (t := .int) (t' := (.array .int)) (by decide) (by decide)))
  have f41 : Fld Z h35 a1 "com/example/libclause/libclause/search/ScoreWindow" "end" "I" (.int (0 : Int32)) := f31.other W35 (Or.inr (slot_ne (Or.inl (hw _ (List.mem_of_getElem? (i := 33) rfl))) (Or.inr (hw _ (List.mem_of_getElem? (i := 15) rfl))) (by decide) (t := .int) (t' := (.array .int)) (by decide) (by decide)))
  have f42 : Arv Z h35 b2 k2 .double (2048 : Int32) [] (.double (0 : UInt64)) := f32.other W35 (Ne.symm ne3)
  have f43 : Arv Z h35 b23 k23 .int (2048 : Int32) [] (.int (0 : Int32)) := fa23.other W35 (Ne.symm ne24)
  have N44 := Fr.snoc X35 N20 g1
  have K45 : Keep h0 h35 [a1] := K33.wr W35 (Or.inl (List.mem_of_getElem? (i := 0) rfl))
  have Z46 : n0 ≤ h35.size := Nat.le_trans Z34 (Keep.of_wr W35).1
  obtain ⟨T47, h47, k47, X47, e47, E47, A47, st47⟩ := newP X35 hx hZ (hw _ (List.mem_of_getElem? (i := 16) rfl)) e35 (g := (mkF m 25 #[.val (.ref a1)] [(.int (32 : Int32)), (.ref a1)])) rfl (hb hby d1_25) rfl (by decide) (cap := 32) (by decide) (by decide) (by decide) (by decide)
  obtain ⟨b47, g47⟩ : ∃ z, z = h35.size := ⟨_, rfl⟩
  rw [← g47] at A47 st47
  have ne48 : a1 ≠ b47 := Nat.ne_of_lt (Nat.lt_of_lt_of_le f36.lt (Nat.le_of_eq g47.symm))
  have ne49 : b2 ≠ b47 := Nat.ne_of_lt (Nat.lt_of_lt_of_le f42.lt (Nat.le_of_eq g47.symm))
  have ne50 : b23 ≠ b47 := Nat.ne_of_lt (Nat.lt_of_lt_of_le f43.lt (Nat.le_of_eq g47.symm))
  have gg47 : n0 ≤ b47 := Nat.le_trans Z46 (Nat.le_of_eq g47.symm)
  have sz47 : h0.size ≤ b47 := Nat.le_trans K45.1 (Nat.le_of_eq g47.symm)
  have f51 : Exa Z h47 a1 "com/example/libclause/libclause/search/ScoreWindow" := f36.ext E47
  have f52 : Fld Z h47 a1 "com/example/libclause/libclause/search/ScoreWindow" "scores" "[D" (.ref b2) := f37.ext E47
  have f53 : Fld Z h47 a1 "com/example/libclause/libclause/search/ScoreWindow" "counts" "[I" (.ref b23) := f38.ext E47
  have f54 : Fld Z h47 a1 "com/example/libclause/libclause/search/ScoreWindow" "marked" "[J" .null := f39.ext E47
  have f55 : Fld Z h47 a1 "com/example/libclause/libclause/search/ScoreWindow" "first" "I" (.int (0 : Int32)) := f40.ext E47
  have f56 : Fld Z h47 a1 "com/example/libclause/libclause/search/ScoreWindow" "end" "I" (.int (0 : Int32)) := f41.ext E47
  have f57 : Arv Z h47 b2 k2 .double (2048 : Int32) [] (.double (0 : UInt64)) := f42.ext E47
  have f58 : Arv Z h47 b23 k23 .int (2048 : Int32) [] (.int (0 : Int32)) := f43.ext E47
  have K59 : Keep h0 h47 [a1] := K45.ext E47
  have Z60 : n0 ≤ h47.size := Nat.le_trans Z46 E47.1
  have fa47 : Arv Z h47 b47 k47 .long (32 : Int32) [(.long (0 : Int64)), (.long (0 : Int64)), (.long (0 : Int64)), (.long (0 : Int64)), (.long (0 : Int64)), (.long (0 : Int64)), (.long (0 : Int64)), (.long (0 : Int64)), (.long (0 : Int64)), (.long (0 : Int64)), (.long (0 : Int64)), (.long (0 : Int64)), (.long (0 : Int64)), (.long (0 : Int64)), (.long (0 : Int64)), (.long (0 : Int64)), (.long (0 : Int64)), (.long (0 : Int64)), (.long (0 : Int64)), (.long (0 : Int64)), (.long (0 : Int64)), (.long (0 : Int64)), (.long (0 : Int64)), (.long (0 : Int64)), (.long (0 : Int64)), (.long (0 : Int64)), (.long (0 : Int64)), (.long (0 : Int64)), (.long (0 : Int64)), (.long (0 : Int64)), (.long (0 : Int64)), (.long (0 : Int64))] (.long (0 : Int64)) := (Arv.new A47 (by decide)).pad (pad_rep [] (.long (0 : Int64)) 32)
  obtain ⟨T61, h61, X61, e61, W61, st61⟩ := putF X47 hx hZ hown (host := "") (Or.inl (hw _ (List.mem_of_getElem? (i := 17) rfl))) Via.refl e47 f54 f51 (Or.inr ⟨(hw _ (List.mem_of_getElem? (i := 18) rfl)), rfl, hnm⟩) (hw _ (List.mem_of_getElem? (i := 2) rfl)) (ty := (.array .long)) (by decide) rfl rfl (g := (mkF m 27 #[.val (.ref a1)] [(.ref b47), (.ref a1)])) rfl rfl (hb hby d1_27)
  have f62 : Exa Z h61 a1 "com/example/libclause/libclause/search/ScoreWindow" := f51.wr W61
  have f63 : Fld Z h61 a1 "com/example/libclause/libclause/search/ScoreWindow" "scores" "[D" (.ref b2) := f52.other W61 (Or.inr (slot_ne (Or.inr (hw _ (List.mem_of_getElem? (i := 12) rfl))) (Or.inr (hw _ (List.mem_of_getElem? (i := 18) rfl))) (by decide) (t := (.array .double)) (t' := (.array .long)) (by decide) (by decide)))
  have f64 : Fld Z h61 a1 "com/example/libclause/libclause/search/ScoreWindow" "counts" "[I" (.ref b23) := f53.other W61 (Or.inr (slot_ne (Or.inr (hw _ (List.mem_of_getElem? (i := 15) rfl))) (Or.inr (hw _ (List.mem_of_getElem? (i := 18) rfl))) (by decide) (t := (.array .int)) (t' := (.array .long)) (by decide) (by decide)))
  have f65 : Fld Z h61 a1 "com/example/libclause/libclause/search/ScoreWindow" "marked" "[J" (.ref b47) := f54.same W61
  have f66 : Fld Z h61 a1 "com/example/libclause/libclause/search/ScoreWindow" "first" "I" (.int (0 : Int32)) := f55.other W61 (Or.inr (slot_ne (Or.inl (hw _ (List.mem_of_getElem? (i := 25) rfl))) (Or.inr (hw _ (List.mem_of_getElem? (i := 18) rfl))) (by decide) (t := .int) (t' := (.array .long)) (by decide) (by decide)))
  have f67 : Fld Z h61 a1 "com/example/libclause/libclause/search/ScoreWindow" "end" "I" (.int (0 : Int32)) := f56.other W61 (Or.inr (slot_ne (Or.inl (hw _ (List.mem_of_getElem? (i := 33) rfl))) (Or.inr (hw _ (List.mem_of_getElem? (i := 18) rfl))) (by decide) (t := .int) (t' := (.array .long)) (by decide) (by decide)))
  have f68 : Arv Z h61 b2 k2 .double (2048 : Int32) [] (.double (0 : UInt64)) := f57.other W61 (Ne.symm ne3)
  have f69 : Arv Z h61 b23 k23 .int (2048 : Int32) [] (.int (0 : Int32)) := f58.other W61 (Ne.symm ne24)
  have f70 : Arv Z h61 b47 k47 .long (32 : Int32) [(.long (0 : Int64)), (.long (0 : Int64)), (.long (0 : Int64)), (.long (0 : Int64)), (.long (0 : Int64)), (.long (0 : Int64)), (.long (0 : Int64)), (.long (0 : Int64)), (.long (0 : Int64)), (.long (0 : Int64)), (.long (0 : Int64)), (.long (0 : Int64)), (.long (0 : Int64)), (.long (0 : Int64)), (.long (0 : Int64)), (.long (0 : Int64)), (.long (0 : Int64)), (.long (0 : Int64)), (.long (0 : Int64)), (.long (0 : Int64)), (.long (0 : Int64)), (.long (0 : Int64)), (.long (0 : Int64)), (.long (0 : Int64)), (.long (0 : Int64)), (.long (0 : Int64)), (.long (0 : Int64)), (.long (0 : Int64)), (.long (0 : Int64)), (.long (0 : Int64)), (.long (0 : Int64)), (.long (0 : Int64))] (.long (0 : Int64)) := fa47.other W61 (Ne.symm ne48)
  have N71 := Fr.snoc X61 N44 g1
  have K72 : Keep h0 h61 [a1] := K59.wr W61 (Or.inl (List.mem_of_getElem? (i := 0) rfl))
  have Z73 : n0 ≤ h61.size := Nat.le_trans Z60 (Keep.of_wr W61).1
  obtain ⟨fs, hr, hrun, hended, hW, hsame⟩ := X61.leave (v := none) (fun _ => rfl)
  refine ⟨_, _, pre0 _ ?_, hrun, hended, _, _, rfl, ?_, ⟨_, rfl⟩, hW, hsame.mono (by decide) (by decide)⟩
  · refine XS.aloadN X0.here hx rfl (hb hby d1_0) rfl rfl ?_
    show Steps p.tables e below (s₁.setTop (mkF m 1 #[.val (.ref a1)] [(.ref a1)])) _
    refine st1 _ ?_
    show Steps p.tables e below (T1.setTop (mkF m 4 #[.val (.ref a1)] [])) _
    refine XS.aloadN X1.here hx rfl (hb hby d1_4) rfl rfl ?_
    show Steps p.tables e below (T1.setTop (mkF m 5 #[.val (.ref a1)] [(.ref a1)])) _
    refine XS.sipush X1.here hx rfl (hb hby d1_5) ?_
    show Steps p.tables e below (T1.setTop (mkF m 8 #[.val (.ref a1)] [(.int (2048 : Int32)), (.ref a1)])) _
    refine st2 _ ?_
    show Steps p.tables e below (T2.setTop (mkF m 10 #[.val (.ref a1)] [(.ref b2), (.ref a1)])) _
    refine st12 _ ?_
    show Steps p.tables e below (T12.setTop (mkF m 13 #[.val (.ref a1)] [])) _
    refine XS.aloadN X12.here hx rfl (hb hby d1_13) rfl rfl ?_
    show Steps p.tables e below (T12.setTop (mkF m 14 #[.val (.ref a1)] [(.ref a1)])) _
    refine XS.sipush X12.here hx rfl (hb hby d1_14) ?_
    show Steps p.tables e below (T12.setTop (mkF m 17 #[.val (.ref a1)] [(.int (2048 : Int32)), (.ref a1)])) _
    refine st23 _ ?_
    show Steps p.tables e below (T23.setTop (mkF m 19 #[.val (.ref a1)] [(.ref b23), (.ref a1)])) _
    refine st35 _ ?_
    show Steps p.tables e below (T35.setTop (mkF m 22 #[.val (.ref a1)] [])) _
    refine XS.aloadN X35.here hx rfl (hb hby d1_22) rfl rfl ?_
    show Steps p.tables e below (T35.setTop (mkF m 23 #[.val (.ref a1)] [(.ref a1)])) _
    refine XS.bipush X35.here hx rfl (hb hby d1_23) ?_
    show Steps p.tables e below (T35.setTop (mkF m 25 #[.val (.ref a1)] [(.int (32 : Int32)), (.ref a1)])) _
    refine st47 _ ?_
    show Steps p.tables e below (T47.setTop (mkF m 27 #[.val (.ref a1)] [(.ref b47), (.ref a1)])) _
    refine st61 _ ?_
    show Steps p.tables e below (T61.setTop (mkF m 30 #[.val (.ref a1)] [])) _
    exact X61.returnOut hx Bd.returns (hb hby d1_30) hr
  · show Q1 Z a1 h0 n0 _ T61.heap _
    rw [e61]
    exact ⟨rfl, N71, K72, f62, b2, b23, b47, k2, k23, k47, gg2, gg23, gg47, sz2, sz23, sz47, (Ne.symm ne25), (Ne.symm ne49), (Ne.symm ne50), f63, f64, f65, f66, f67, f68.pad own_D0, f69.pad own_E0, f70.pad own_L0⟩
def f4 (ja : Int64) (jb : Int64) : Int64 := (if (0 : Int32) < (lcmpW ja jb) then jb else ja)
theorem d4_0 : decode jdk_29_method_70_code 0 = .ok (.lload_n 0, 1) := by decide +kernel
theorem d4_1 : decode jdk_29_method_70_code 1 = .ok (.lload_n 2, 1) := by decide +kernel
theorem d4_2 : decode jdk_29_method_70_code 2 = .ok (.lcmp, 1) := by decide +kernel
theorem d4_3 : decode jdk_29_method_70_code 3 = .ok (.ifCond .gt 7, 3) := by decide +kernel
theorem d4_6 : decode jdk_29_method_70_code 6 = .ok (.lload_n 0, 1) := by decide +kernel
theorem d4_7 : decode jdk_29_method_70_code 7 = .ok (.goto 4, 3) := by decide +kernel
theorem d4_10 : decode jdk_29_method_70_code 10 = .ok (.lload_n 2, 1) := by decide +kernel
theorem d4_11 : decode jdk_29_method_70_code 11 = .ok (.lreturn, 1) := by decide +kernel
theorem ef_4 (m : MethodId) (x0 : Int64) (x1 : Int64) : entryFrame m #[(.long x0), (.long x1)] 4 = mkF m 0 #[.val (.long x0), .second, .val (.long x1), .second] [] := by first | (simp [entryFrame, mkF, argsToLocals, Value.category]; done) | rfl
def Q4 (Z : State) (ja : Int64) (jb : Int64) (h0 : Heap) (n0 : Nat) (v : Option Value) (h : Heap) (L : List Loc) : Prop := v = some (.long (f4 ja jb)) ∧ Fr n0 L ∧ h = h0
set_option maxRecDepth 65536 in
set_option maxHeartbeats 40000000 in
theorem rm4 (l : Launch) (Z : State) (a0 : Array Value) (hw : ∀ d ∈ tables_1, d.before a0 Z = true) (ws : List Jvm.Cond) (ja : Int64) (jb : Int64) (h0 : Heap) (n0 : Nat) (Z0 : n0 ≤ h0.size)  :
    MetFree l (⟨"java/lang/Math", "min", "(JJ)J"⟩ : MethodName) (head1 (Jvm.Cond.code (⟨"java/lang/Math", "min", "(JJ)J"⟩ : MethodName) jdk_29_method_70_code 4 (some .long) :: ws) ({ frames := 0, cells := 0, slots := 0, locals := 0 } : Room)) (fun a U => a = #[(.long ja), (.long jb)] ∧ Z.Warmed39 U.vm ∧ U.heap = h0) (fun _ _ _ _ _ => True) (fun _ U o U' => ∃ v L, o = .returned v ∧ Q4 Z ja jb h0 n0 v U'.heap L ∧ FrameEnd U o U' L ({ frames := 0, cells := 0, slots := 0, locals := 0 } : Room).cells ({ frames := 0, cells := 0, slots := 0, locals := 0 } : Room).slots) := by
  refine MetFree.of_bodySF (Jvm.Free.JP.mathPlain rfl (by decide +kernel)) hisR ?_
  intro p e s m args below meth c s₁ Bd hml0 hP hK
  obtain ⟨rfl, hZ, hh⟩ := hP
  have hx := Bd.exec
  have hby := Bd.bytes
  have hml : c.maxLocals = 4 := hml0
  have hown : s.vm.findClass "java/lang/Math" = some m.cls := findClass_of_methodNamed Bd.named
  have hnm := (name_of_methodNamed Bd.named Bd.method).1
  have X0 : Stand p l e ({ frames := 0, cells := 0, slots := 0, locals := 0 } : Room) s m #[(.long ja), (.long jb)] below meth c s₁ [] 0 0 := Stand.of_body Bd
  have e0 : s₁.heap = h0 := by rw [← hh, Bd.state]; rfl
  have N0 := Fr.nil n0
  have pre0 : ∀ t, Steps p.tables e below (s₁.setTop (mkF m 0 #[.val (.long ja), .second, .val (.long jb), .second] [])) t → Steps p.tables e below (s₁.setTop (entryFrame m #[(.long ja), (.long jb)] 4)) t := fun t k => castTop (ef_4 m ja jb) k
  have S79 : ∀ t, Steps p.tables e below (s₁.setTop (mkF m 3 #[.val (.long ja), .second, .val (.long jb), .second] [(.int (lcmpW ja jb))])) t → Steps p.tables e below (s₁.setTop (entryFrame m #[(.long ja), (.long jb)] 4)) t := by
    intro t k
    refine pre0 t ?_
    refine XS.lloadN X0.here hx rfl (hb hby d4_0) rfl ?_
    show Steps p.tables e below (s₁.setTop (mkF m 1 #[.val (.long ja), .second, .val (.long jb), .second] [(.long ja)])) _
    refine XS.lloadN X0.here hx rfl (hb hby d4_1) rfl ?_
    show Steps p.tables e below (s₁.setTop (mkF m 2 #[.val (.long ja), .second, .val (.long jb), .second] [(.long jb), (.long ja)])) _
    refine XS.lcmp X0.here hx rfl (hb hby d4_2) rfl ?_
    show Steps p.tables e below (s₁.setTop (mkF m 3 #[.val (.long ja), .second, .val (.long jb), .second] [(.int (lcmpW ja jb))])) _
    exact k
  obtain ⟨w80, hw80⟩ : ∃ z : Int32, z = (lcmpW ja jb) := ⟨_, rfl⟩
  rw [← hw80] at S79
  have S82 : ∀ t, Steps p.tables e below (s₁.setTop (mkF m 11 #[.val (.long ja), .second, .val (.long jb), .second] [(.long (if (0 : Int32) < w80 then jb else ja))])) t → Steps p.tables e below (s₁.setTop (entryFrame m #[(.long ja), (.long jb)] 4)) t := by
    intro t k
    refine S79 t ?_
    by_cases hc81 : (0 : Int32) < w80
    · rw [if_pos hc81] at k
      refine XS.ifYes X0.here hx rfl (pc0 := 3) (pc' := 10) rfl (hb hby d4_3) rfl ((if0 _ _).trans (tlt hc81).2.2.1) (by decide) (by decide) ?_
      show Steps p.tables e below (s₁.setTop (mkF m 10 #[.val (.long ja), .second, .val (.long jb), .second] [])) _
      refine XS.lloadN X0.here hx rfl (hb hby d4_10) rfl ?_
      show Steps p.tables e below (s₁.setTop (mkF m 11 #[.val (.long ja), .second, .val (.long jb), .second] [(.long jb)])) _
      exact k
    · rw [if_neg hc81] at k
      refine XS.ifNo X0.here hx rfl (hb hby d4_3) rfl ((if0 _ _).trans (flt hc81).2.2.1) ?_
      show Steps p.tables e below (s₁.setTop (mkF m 6 #[.val (.long ja), .second, .val (.long jb), .second] [])) _
      refine XS.lloadN X0.here hx rfl (hb hby d4_6) rfl ?_
      show Steps p.tables e below (s₁.setTop (mkF m 7 #[.val (.long ja), .second, .val (.long jb), .second] [(.long ja)])) _
      refine XS.goto X0.here hx rfl (pc0 := 7) (pc' := 11) rfl (hb hby d4_7) (by decide) (by decide) ?_
      show Steps p.tables e below (s₁.setTop (mkF m 11 #[.val (.long ja), .second, .val (.long jb), .second] [(.long ja)])) _
      exact k
  obtain ⟨w83, hw83⟩ : ∃ z : Int64, z = (if (0 : Int32) < w80 then jb else ja) := ⟨_, rfl⟩
  rw [← hw83] at S82
  have hf : f4 ja jb = w83 := by
    unfold f4
    subst hw80 hw83
    rfl
  obtain ⟨fs, hr, hrun, hended, hW, hsame⟩ := X0.leave (v := some (.long w83)) (fun h => by rw [Bd.returns] at h; cases h)
  refine ⟨_, _, S82 _ ?_, hrun, hended, _, _, rfl, ?_, ⟨_, rfl⟩, hW, hsame.mono (by decide) (by decide)⟩
  · exact retOut X0 hx Bd.returns rfl (Or.inr (Or.inl ⟨rfl, rfl, _, rfl⟩)) (hb hby d4_11) hr
  · show Q4 Z ja jb h0 n0 _ s₁.heap _
    rw [e0]
    exact ⟨by rw [hf], N0, rfl⟩
def f7 (ia : Int32) (ib : Int32) : Int32 := (if ib < ia then ib else ia)
theorem d7_0 : decode jdk_29_method_69_code 0 = .ok (.iload_n 0, 1) := by decide +kernel
theorem d7_1 : decode jdk_29_method_69_code 1 = .ok (.iload_n 1, 1) := by decide +kernel
theorem d7_2 : decode jdk_29_method_69_code 2 = .ok (.if_icmp .gt 7, 3) := by decide +kernel
theorem d7_5 : decode jdk_29_method_69_code 5 = .ok (.iload_n 0, 1) := by decide +kernel
theorem d7_6 : decode jdk_29_method_69_code 6 = .ok (.goto 4, 3) := by decide +kernel
theorem d7_9 : decode jdk_29_method_69_code 9 = .ok (.iload_n 1, 1) := by decide +kernel
theorem d7_10 : decode jdk_29_method_69_code 10 = .ok (.ireturn, 1) := by decide +kernel
theorem ef_7 (m : MethodId) (x0 : Int32) (x1 : Int32) : entryFrame m #[(.int x0), (.int x1)] 2 = mkF m 0 #[.val (.int x0), .val (.int x1)] [] := by first | (simp [entryFrame, mkF, argsToLocals, Value.category]; done) | rfl
def Q7 (Z : State) (ia : Int32) (ib : Int32) (h0 : Heap) (n0 : Nat) (v : Option Value) (h : Heap) (L : List Loc) : Prop := v = some (.int (f7 ia ib)) ∧ Fr n0 L ∧ h = h0
set_option maxRecDepth 65536 in
set_option maxHeartbeats 40000000 in
theorem rm7 (l : Launch) (Z : State) (a0 : Array Value) (hw : ∀ d ∈ tables_1, d.before a0 Z = true) (ws : List Jvm.Cond) (ia : Int32) (ib : Int32) (h0 : Heap) (n0 : Nat) (Z0 : n0 ≤ h0.size)  :
    MetFree l (⟨"java/lang/Math", "min", "(II)I"⟩ : MethodName) (head1 (Jvm.Cond.code (⟨"java/lang/Math", "min", "(II)I"⟩ : MethodName) jdk_29_method_69_code 2 (some .int) :: ws) ({ frames := 0, cells := 0, slots := 0, locals := 0 } : Room)) (fun a U => a = #[(.int ia), (.int ib)] ∧ Z.Warmed39 U.vm ∧ U.heap = h0) (fun _ _ _ _ _ => True) (fun _ U o U' => ∃ v L, o = .returned v ∧ Q7 Z ia ib h0 n0 v U'.heap L ∧ FrameEnd U o U' L ({ frames := 0, cells := 0, slots := 0, locals := 0 } : Room).cells ({ frames := 0, cells := 0, slots := 0, locals := 0 } : Room).slots) := by
  refine MetFree.of_bodySF (Jvm.Free.JP.mathPlain rfl (by decide +kernel)) hisR ?_
  intro p e s m args below meth c s₁ Bd hml0 hP hK
  obtain ⟨rfl, hZ, hh⟩ := hP
  have hx := Bd.exec
  have hby := Bd.bytes
  have hml : c.maxLocals = 2 := hml0
  have hown : s.vm.findClass "java/lang/Math" = some m.cls := findClass_of_methodNamed Bd.named
  have hnm := (name_of_methodNamed Bd.named Bd.method).1
  have X0 : Stand p l e ({ frames := 0, cells := 0, slots := 0, locals := 0 } : Room) s m #[(.int ia), (.int ib)] below meth c s₁ [] 0 0 := Stand.of_body Bd
  have e0 : s₁.heap = h0 := by rw [← hh, Bd.state]; rfl
  have N0 := Fr.nil n0
  have pre0 : ∀ t, Steps p.tables e below (s₁.setTop (mkF m 0 #[.val (.int ia), .val (.int ib)] [])) t → Steps p.tables e below (s₁.setTop (entryFrame m #[(.int ia), (.int ib)] 2)) t := fun t k => castTop (ef_7 m ia ib) k
  have S88 : ∀ t, Steps p.tables e below (s₁.setTop (mkF m 2 #[.val (.int ia), .val (.int ib)] [(.int ib), (.int ia)])) t → Steps p.tables e below (s₁.setTop (entryFrame m #[(.int ia), (.int ib)] 2)) t := by
    intro t k
    refine pre0 t ?_
    refine XS.iloadN X0.here hx rfl (hb hby d7_0) rfl ?_
    show Steps p.tables e below (s₁.setTop (mkF m 1 #[.val (.int ia), .val (.int ib)] [(.int ia)])) _
    refine XS.iloadN X0.here hx rfl (hb hby d7_1) rfl ?_
    show Steps p.tables e below (s₁.setTop (mkF m 2 #[.val (.int ia), .val (.int ib)] [(.int ib), (.int ia)])) _
    exact k
  have S90 : ∀ t, Steps p.tables e below (s₁.setTop (mkF m 10 #[.val (.int ia), .val (.int ib)] [(.int (if ib < ia then ib else ia))])) t → Steps p.tables e below (s₁.setTop (entryFrame m #[(.int ia), (.int ib)] 2)) t := by
    intro t k
    refine S88 t ?_
    by_cases hc89 : ib < ia
    · rw [if_pos hc89] at k
      refine XS.icmpYes X0.here hx rfl (pc0 := 2) (pc' := 9) rfl (hb hby d7_2) rfl (tlt hc89).2.2.1 (by decide) (by decide) ?_
      show Steps p.tables e below (s₁.setTop (mkF m 9 #[.val (.int ia), .val (.int ib)] [])) _
      refine XS.iloadN X0.here hx rfl (hb hby d7_9) rfl ?_
      show Steps p.tables e below (s₁.setTop (mkF m 10 #[.val (.int ia), .val (.int ib)] [(.int ib)])) _
      exact k
    · rw [if_neg hc89] at k
      refine XS.icmpNo X0.here hx rfl (hb hby d7_2) rfl (flt hc89).2.2.1 ?_
      show Steps p.tables e below (s₁.setTop (mkF m 5 #[.val (.int ia), .val (.int ib)] [])) _
      refine XS.iloadN X0.here hx rfl (hb hby d7_5) rfl ?_
      show Steps p.tables e below (s₁.setTop (mkF m 6 #[.val (.int ia), .val (.int ib)] [(.int ia)])) _
      refine XS.goto X0.here hx rfl (pc0 := 6) (pc' := 10) rfl (hb hby d7_6) (by decide) (by decide) ?_
      show Steps p.tables e below (s₁.setTop (mkF m 10 #[.val (.int ia), .val (.int ib)] [(.int ia)])) _
      exact k
  obtain ⟨w91, hw91⟩ : ∃ z : Int32, z = (if ib < ia then ib else ia) := ⟨_, rfl⟩
  rw [← hw91] at S90
  have hf : f7 ia ib = w91 := by
    unfold f7
    subst hw91
    rfl
  obtain ⟨fs, hr, hrun, hended, hW, hsame⟩ := X0.leave (v := some (.int w91)) (fun h => by rw [Bd.returns] at h; cases h)
  refine ⟨_, _, S90 _ ?_, hrun, hended, _, _, rfl, ?_, ⟨_, rfl⟩, hW, hsame.mono (by decide) (by decide)⟩
  · exact retOut X0 hx Bd.returns rfl (Or.inl ⟨rfl, Or.inl rfl, _, rfl⟩) (hb hby d7_10) hr
  · show Q7 Z ia ib h0 n0 _ s₁.heap _
    rw [e0]
    exact ⟨by rw [hf], N0, rfl⟩
def f8 (ia : Int32) (ib : Int32) : Int32 := (if ia < ib then ib else ia)
theorem d8_0 : decode jdk_29_method_65_code 0 = .ok (.iload_n 0, 1) := by decide +kernel
theorem d8_1 : decode jdk_29_method_65_code 1 = .ok (.iload_n 1, 1) := by decide +kernel
theorem d8_2 : decode jdk_29_method_65_code 2 = .ok (.if_icmp .lt 7, 3) := by decide +kernel
theorem d8_5 : decode jdk_29_method_65_code 5 = .ok (.iload_n 0, 1) := by decide +kernel
theorem d8_6 : decode jdk_29_method_65_code 6 = .ok (.goto 4, 3) := by decide +kernel
theorem d8_9 : decode jdk_29_method_65_code 9 = .ok (.iload_n 1, 1) := by decide +kernel
theorem d8_10 : decode jdk_29_method_65_code 10 = .ok (.ireturn, 1) := by decide +kernel
theorem ef_8 (m : MethodId) (x0 : Int32) (x1 : Int32) : entryFrame m #[(.int x0), (.int x1)] 2 = mkF m 0 #[.val (.int x0), .val (.int x1)] [] := by first | (simp [entryFrame, mkF, argsToLocals, Value.category]; done) | rfl
def Q8 (Z : State) (ia : Int32) (ib : Int32) (h0 : Heap) (n0 : Nat) (v : Option Value) (h : Heap) (L : List Loc) : Prop := v = some (.int (f8 ia ib)) ∧ Fr n0 L ∧ h = h0
set_option maxRecDepth 65536 in
set_option maxHeartbeats 40000000 in
theorem rm8 (l : Launch) (Z : State) (a0 : Array Value) (hw : ∀ d ∈ tables_1, d.before a0 Z = true) (ws : List Jvm.Cond) (ia : Int32) (ib : Int32) (h0 : Heap) (n0 : Nat) (Z0 : n0 ≤ h0.size)  :
    MetFree l (⟨"java/lang/Math", "max", "(II)I"⟩ : MethodName) (head1 (Jvm.Cond.code (⟨"java/lang/Math", "max", "(II)I"⟩ : MethodName) jdk_29_method_65_code 2 (some .int) :: ws) ({ frames := 0, cells := 0, slots := 0, locals := 0 } : Room)) (fun a U => a = #[(.int ia), (.int ib)] ∧ Z.Warmed39 U.vm ∧ U.heap = h0) (fun _ _ _ _ _ => True) (fun _ U o U' => ∃ v L, o = .returned v ∧ Q8 Z ia ib h0 n0 v U'.heap L ∧ FrameEnd U o U' L ({ frames := 0, cells := 0, slots := 0, locals := 0 } : Room).cells ({ frames := 0, cells := 0, slots := 0, locals := 0 } : Room).slots) := by
  refine MetFree.of_bodySF (Jvm.Free.JP.mathPlain rfl (by decide +kernel)) hisR ?_
  intro p e s m args below meth c s₁ Bd hml0 hP hK
  obtain ⟨rfl, hZ, hh⟩ := hP
  have hx := Bd.exec
  have hby := Bd.bytes
  have hml : c.maxLocals = 2 := hml0
  have hown : s.vm.findClass "java/lang/Math" = some m.cls := findClass_of_methodNamed Bd.named
  have hnm := (name_of_methodNamed Bd.named Bd.method).1
  have X0 : Stand p l e ({ frames := 0, cells := 0, slots := 0, locals := 0 } : Room) s m #[(.int ia), (.int ib)] below meth c s₁ [] 0 0 := Stand.of_body Bd
  have e0 : s₁.heap = h0 := by rw [← hh, Bd.state]; rfl
  have N0 := Fr.nil n0
  have pre0 : ∀ t, Steps p.tables e below (s₁.setTop (mkF m 0 #[.val (.int ia), .val (.int ib)] [])) t → Steps p.tables e below (s₁.setTop (entryFrame m #[(.int ia), (.int ib)] 2)) t := fun t k => castTop (ef_8 m ia ib) k
  have S96 : ∀ t, Steps p.tables e below (s₁.setTop (mkF m 2 #[.val (.int ia), .val (.int ib)] [(.int ib), (.int ia)])) t → Steps p.tables e below (s₁.setTop (entryFrame m #[(.int ia), (.int ib)] 2)) t := by
    intro t k
    refine pre0 t ?_
    refine XS.iloadN X0.here hx rfl (hb hby d8_0) rfl ?_
    show Steps p.tables e below (s₁.setTop (mkF m 1 #[.val (.int ia), .val (.int ib)] [(.int ia)])) _
    refine XS.iloadN X0.here hx rfl (hb hby d8_1) rfl ?_
    show Steps p.tables e below (s₁.setTop (mkF m 2 #[.val (.int ia), .val (.int ib)] [(.int ib), (.int ia)])) _
    exact k
  have S98 : ∀ t, Steps p.tables e below (s₁.setTop (mkF m 10 #[.val (.int ia), .val (.int ib)] [(.int (if ia < ib then ib else ia))])) t → Steps p.tables e below (s₁.setTop (entryFrame m #[(.int ia), (.int ib)] 2)) t := by
    intro t k
    refine S96 t ?_
    by_cases hc97 : ia < ib
    · rw [if_pos hc97] at k
      refine XS.icmpYes X0.here hx rfl (pc0 := 2) (pc' := 9) rfl (hb hby d8_2) rfl (tlt hc97).1 (by decide) (by decide) ?_
      show Steps p.tables e below (s₁.setTop (mkF m 9 #[.val (.int ia), .val (.int ib)] [])) _
      refine XS.iloadN X0.here hx rfl (hb hby d8_9) rfl ?_
      show Steps p.tables e below (s₁.setTop (mkF m 10 #[.val (.int ia), .val (.int ib)] [(.int ib)])) _
      exact k
    · rw [if_neg hc97] at k
      refine XS.icmpNo X0.here hx rfl (hb hby d8_2) rfl (flt hc97).1 ?_
      show Steps p.tables e below (s₁.setTop (mkF m 5 #[.val (.int ia), .val (.int ib)] [])) _
      refine XS.iloadN X0.here hx rfl (hb hby d8_5) rfl ?_
      show Steps p.tables e below (s₁.setTop (mkF m 6 #[.val (.int ia), .val (.int ib)] [(.int ia)])) _
      refine XS.goto X0.here hx rfl (pc0 := 6) (pc' := 10) rfl (hb hby d8_6) (by decide) (by decide) ?_
      show Steps p.tables e below (s₁.setTop (mkF m 10 #[.val (.int ia), .val (.int ib)] [(.int ia)])) _
      exact k
  obtain ⟨w99, hw99⟩ : ∃ z : Int32, z = (if ia < ib then ib else ia) := ⟨_, rfl⟩
  rw [← hw99] at S98
  have hf : f8 ia ib = w99 := by
    unfold f8
    subst hw99
    rfl
  obtain ⟨fs, hr, hrun, hended, hW, hsame⟩ := X0.leave (v := some (.int w99)) (fun h => by rw [Bd.returns] at h; cases h)
  refine ⟨_, _, S98 _ ?_, hrun, hended, _, _, rfl, ?_, ⟨_, rfl⟩, hW, hsame.mono (by decide) (by decide)⟩
  · exact retOut X0 hx Bd.returns rfl (Or.inl ⟨rfl, Or.inl rfl, _, rfl⟩) (hb hby d8_10) hr
  · show Q8 Z ia ib h0 n0 _ s₁.heap _
    rw [e0]
    exact ⟨by rw [hf], N0, rfl⟩
def f13 (ix : Int32) : Int32 := (if (0 : Int32) < ((ix ^^^ (-1 : Int32)) &&& (ix - (1 : Int32))) then ((if (4 : Int32) < (if (16 : Int32) < (if (256 : Int32) < (if (65536 : Int32) < ((ix ^^^ (-1 : Int32)) &&& (ix - (1 : Int32))) then ((((ix ^^^ (-1 : Int32)) &&& (ix - (1 : Int32))).toUInt32 >>> ((16 : Int32) &&& 31).toUInt32).toInt32) else ((ix ^^^ (-1 : Int32)) &&& (ix - (1 : Int32)))) then (((if (65536 : Int32) < ((ix ^^^ (-1 : Int32)) &&& (ix - (1 : Int32))) then ((((ix ^^^ (-1 : Int32)) &&& (ix - (1 : Int32))).toUInt32 >>> ((16 : Int32) &&& 31).toUInt32).toInt32) else ((ix ^^^ (-1 : Int32)) &&& (ix - (1 : Int32)))).toUInt32 >>> ((8 : Int32) &&& 31).toUInt32).toInt32) else (if (65536 : Int32) < ((ix ^^^ (-1 : Int32)) &&& (ix - (1 : Int32))) then ((((ix ^^^ (-1 : Int32)) &&& (ix - (1 : Int32))).toUInt32 >>> ((16 : Int32) &&& 31).toUInt32).toInt32) else ((ix ^^^ (-1 : Int32)) &&& (ix - (1 : Int32))))) then (((if (256 : Int32) < (if (65536 : Int32) < ((ix ^^^ (-1 : Int32)) &&& (ix - (1 : Int32))) then ((((ix ^^^ (-1 : Int32)) &&& (ix - (1 : Int32))).toUInt32 >>> ((16 : Int32) &&& 31).toUInt32).toInt32) else ((ix ^^^ (-1 : Int32)) &&& (ix - (1 : Int32)))) then (((if (65536 : Int32) < ((ix ^^^ (-1 : Int32)) &&& (ix - (1 : Int32))) then ((((ix ^^^ (-1 : Int32)) &&& (ix - (1 : Int32))).toUInt32 >>> ((16 : Int32) &&& 31).toUInt32).toInt32) else ((ix ^^^ (-1 : Int32)) &&& (ix - (1 : Int32)))).toUInt32 >>> ((8 : Int32) &&& 31).toUInt32).toInt32) else (if (65536 : Int32) < ((ix ^^^ (-1 : Int32)) &&& (ix - (1 : Int32))) then ((((ix ^^^ (-1 : Int32)) &&& (ix - (1 : Int32))).toUInt32 >>> ((16 : Int32) &&& 31).toUInt32).toInt32) else ((ix ^^^ (-1 : Int32)) &&& (ix - (1 : Int32))))).toUInt32 >>> ((4 : Int32) &&& 31).toUInt32).toInt32) else (if (256 : Int32) < (if (65536 : Int32) < ((ix ^^^ (-1 : Int32)) &&& (ix - (1 : Int32))) then ((((ix ^^^ (-1 : Int32)) &&& (ix - (1 : Int32))).toUInt32 >>> ((16 : Int32) &&& 31).toUInt32).toInt32) else ((ix ^^^ (-1 : Int32)) &&& (ix - (1 : Int32)))) then (((if (65536 : Int32) < ((ix ^^^ (-1 : Int32)) &&& (ix - (1 : Int32))) then ((((ix ^^^ (-1 : Int32)) &&& (ix - (1 : Int32))).toUInt32 >>> ((16 : Int32) &&& 31).toUInt32).toInt32) else ((ix ^^^ (-1 : Int32)) &&& (ix - (1 : Int32)))).toUInt32 >>> ((8 : Int32) &&& 31).toUInt32).toInt32) else (if (65536 : Int32) < ((ix ^^^ (-1 : Int32)) &&& (ix - (1 : Int32))) then ((((ix ^^^ (-1 : Int32)) &&& (ix - (1 : Int32))).toUInt32 >>> ((16 : Int32) &&& 31).toUInt32).toInt32) else ((ix ^^^ (-1 : Int32)) &&& (ix - (1 : Int32)))))) then ((if (16 : Int32) < (if (256 : Int32) < (if (65536 : Int32) < ((ix ^^^ (-1 : Int32)) &&& (ix - (1 : Int32))) then ((((ix ^^^ (-1 : Int32)) &&& (ix - (1 : Int32))).toUInt32 >>> ((16 : Int32) &&& 31).toUInt32).toInt32) else ((ix ^^^ (-1 : Int32)) &&& (ix - (1 : Int32)))) then (((if (65536 : Int32) < ((ix ^^^ (-1 : Int32)) &&& (ix - (1 : Int32))) then ((((ix ^^^ (-1 : Int32)) &&& (ix - (1 : Int32))).toUInt32 >>> ((16 : Int32) &&& 31).toUInt32).toInt32) else ((ix ^^^ (-1 : Int32)) &&& (ix - (1 : Int32)))).toUInt32 >>> ((8 : Int32) &&& 31).toUInt32).toInt32) else (if (65536 : Int32) < ((ix ^^^ (-1 : Int32)) &&& (ix - (1 : Int32))) then ((((ix ^^^ (-1 : Int32)) &&& (ix - (1 : Int32))).toUInt32 >>> ((16 : Int32) &&& 31).toUInt32).toInt32) else ((ix ^^^ (-1 : Int32)) &&& (ix - (1 : Int32))))) then ((if (256 : Int32) < (if (65536 : Int32) < ((ix ^^^ (-1 : Int32)) &&& (ix - (1 : Int32))) then ((((ix ^^^ (-1 : Int32)) &&& (ix - (1 : Int32))).toUInt32 >>> ((16 : Int32) &&& 31).toUInt32).toInt32) else ((ix ^^^ (-1 : Int32)) &&& (ix - (1 : Int32)))) then ((if (65536 : Int32) < ((ix ^^^ (-1 : Int32)) &&& (ix - (1 : Int32))) then (17 : Int32) else (1 : Int32)) + (8 : Int32)) else (if (65536 : Int32) < ((ix ^^^ (-1 : Int32)) &&& (ix - (1 : Int32))) then (17 : Int32) else (1 : Int32))) + (4 : Int32)) else (if (256 : Int32) < (if (65536 : Int32) < ((ix ^^^ (-1 : Int32)) &&& (ix - (1 : Int32))) then ((((ix ^^^ (-1 : Int32)) &&& (ix - (1 : Int32))).toUInt32 >>> ((16 : Int32) &&& 31).toUInt32).toInt32) else ((ix ^^^ (-1 : Int32)) &&& (ix - (1 : Int32)))) then ((if (65536 : Int32) < ((ix ^^^ (-1 : Int32)) &&& (ix - (1 : Int32))) then (17 : Int32) else (1 : Int32)) + (8 : Int32)) else (if (65536 : Int32) < ((ix ^^^ (-1 : Int32)) &&& (ix - (1 : Int32))) then (17 : Int32) else (1 : Int32)))) + (2 : Int32)) else (if (16 : Int32) < (if (256 : Int32) < (if (65536 : Int32) < ((ix ^^^ (-1 : Int32)) &&& (ix - (1 : Int32))) then ((((ix ^^^ (-1 : Int32)) &&& (ix - (1 : Int32))).toUInt32 >>> ((16 : Int32) &&& 31).toUInt32).toInt32) else ((ix ^^^ (-1 : Int32)) &&& (ix - (1 : Int32)))) then (((if (65536 : Int32) < ((ix ^^^ (-1 : Int32)) &&& (ix - (1 : Int32))) then ((((ix ^^^ (-1 : Int32)) &&& (ix - (1 : Int32))).toUInt32 >>> ((16 : Int32) &&& 31).toUInt32).toInt32) else ((ix ^^^ (-1 : Int32)) &&& (ix - (1 : Int32)))).toUInt32 >>> ((8 : Int32) &&& 31).toUInt32).toInt32) else (if (65536 : Int32) < ((ix ^^^ (-1 : Int32)) &&& (ix - (1 : Int32))) then ((((ix ^^^ (-1 : Int32)) &&& (ix - (1 : Int32))).toUInt32 >>> ((16 : Int32) &&& 31).toUInt32).toInt32) else ((ix ^^^ (-1 : Int32)) &&& (ix - (1 : Int32))))) then ((if (256 : Int32) < (if (65536 : Int32) < ((ix ^^^ (-1 : Int32)) &&& (ix - (1 : Int32))) then ((((ix ^^^ (-1 : Int32)) &&& (ix - (1 : Int32))).toUInt32 >>> ((16 : Int32) &&& 31).toUInt32).toInt32) else ((ix ^^^ (-1 : Int32)) &&& (ix - (1 : Int32)))) then ((if (65536 : Int32) < ((ix ^^^ (-1 : Int32)) &&& (ix - (1 : Int32))) then (17 : Int32) else (1 : Int32)) + (8 : Int32)) else (if (65536 : Int32) < ((ix ^^^ (-1 : Int32)) &&& (ix - (1 : Int32))) then (17 : Int32) else (1 : Int32))) + (4 : Int32)) else (if (256 : Int32) < (if (65536 : Int32) < ((ix ^^^ (-1 : Int32)) &&& (ix - (1 : Int32))) then ((((ix ^^^ (-1 : Int32)) &&& (ix - (1 : Int32))).toUInt32 >>> ((16 : Int32) &&& 31).toUInt32).toInt32) else ((ix ^^^ (-1 : Int32)) &&& (ix - (1 : Int32)))) then ((if (65536 : Int32) < ((ix ^^^ (-1 : Int32)) &&& (ix - (1 : Int32))) then (17 : Int32) else (1 : Int32)) + (8 : Int32)) else (if (65536 : Int32) < ((ix ^^^ (-1 : Int32)) &&& (ix - (1 : Int32))) then (17 : Int32) else (1 : Int32))))) + (((if (4 : Int32) < (if (16 : Int32) < (if (256 : Int32) < (if (65536 : Int32) < ((ix ^^^ (-1 : Int32)) &&& (ix - (1 : Int32))) then ((((ix ^^^ (-1 : Int32)) &&& (ix - (1 : Int32))).toUInt32 >>> ((16 : Int32) &&& 31).toUInt32).toInt32) else ((ix ^^^ (-1 : Int32)) &&& (ix - (1 : Int32)))) then (((if (65536 : Int32) < ((ix ^^^ (-1 : Int32)) &&& (ix - (1 : Int32))) then ((((ix ^^^ (-1 : Int32)) &&& (ix - (1 : Int32))).toUInt32 >>> ((16 : Int32) &&& 31).toUInt32).toInt32) else ((ix ^^^ (-1 : Int32)) &&& (ix - (1 : Int32)))).toUInt32 >>> ((8 : Int32) &&& 31).toUInt32).toInt32) else (if (65536 : Int32) < ((ix ^^^ (-1 : Int32)) &&& (ix - (1 : Int32))) then ((((ix ^^^ (-1 : Int32)) &&& (ix - (1 : Int32))).toUInt32 >>> ((16 : Int32) &&& 31).toUInt32).toInt32) else ((ix ^^^ (-1 : Int32)) &&& (ix - (1 : Int32))))) then (((if (256 : Int32) < (if (65536 : Int32) < ((ix ^^^ (-1 : Int32)) &&& (ix - (1 : Int32))) then ((((ix ^^^ (-1 : Int32)) &&& (ix - (1 : Int32))).toUInt32 >>> ((16 : Int32) &&& 31).toUInt32).toInt32) else ((ix ^^^ (-1 : Int32)) &&& (ix - (1 : Int32)))) then (((if (65536 : Int32) < ((ix ^^^ (-1 : Int32)) &&& (ix - (1 : Int32))) then ((((ix ^^^ (-1 : Int32)) &&& (ix - (1 : Int32))).toUInt32 >>> ((16 : Int32) &&& 31).toUInt32).toInt32) else ((ix ^^^ (-1 : Int32)) &&& (ix - (1 : Int32)))).toUInt32 >>> ((8 : Int32) &&& 31).toUInt32).toInt32) else (if (65536 : Int32) < ((ix ^^^ (-1 : Int32)) &&& (ix - (1 : Int32))) then ((((ix ^^^ (-1 : Int32)) &&& (ix - (1 : Int32))).toUInt32 >>> ((16 : Int32) &&& 31).toUInt32).toInt32) else ((ix ^^^ (-1 : Int32)) &&& (ix - (1 : Int32))))).toUInt32 >>> ((4 : Int32) &&& 31).toUInt32).toInt32) else (if (256 : Int32) < (if (65536 : Int32) < ((ix ^^^ (-1 : Int32)) &&& (ix - (1 : Int32))) then ((((ix ^^^ (-1 : Int32)) &&& (ix - (1 : Int32))).toUInt32 >>> ((16 : Int32) &&& 31).toUInt32).toInt32) else ((ix ^^^ (-1 : Int32)) &&& (ix - (1 : Int32)))) then (((if (65536 : Int32) < ((ix ^^^ (-1 : Int32)) &&& (ix - (1 : Int32))) then ((((ix ^^^ (-1 : Int32)) &&& (ix - (1 : Int32))).toUInt32 >>> ((16 : Int32) &&& 31).toUInt32).toInt32) else ((ix ^^^ (-1 : Int32)) &&& (ix - (1 : Int32)))).toUInt32 >>> ((8 : Int32) &&& 31).toUInt32).toInt32) else (if (65536 : Int32) < ((ix ^^^ (-1 : Int32)) &&& (ix - (1 : Int32))) then ((((ix ^^^ (-1 : Int32)) &&& (ix - (1 : Int32))).toUInt32 >>> ((16 : Int32) &&& 31).toUInt32).toInt32) else ((ix ^^^ (-1 : Int32)) &&& (ix - (1 : Int32)))))) then (((if (16 : Int32) < (if (256 : Int32) < (if (65536 : Int32) < ((ix ^^^ (-1 : Int32)) &&& (ix - (1 : Int32))) then ((((ix ^^^ (-1 : Int32)) &&& (ix - (1 : Int32))).toUInt32 >>> ((16 : Int32) &&& 31).toUInt32).toInt32) else ((ix ^^^ (-1 : Int32)) &&& (ix - (1 : Int32)))) then (((if (65536 : Int32) < ((ix ^^^ (-1 : Int32)) &&& (ix - (1 : Int32))) then ((((ix ^^^ (-1 : Int32)) &&& (ix - (1 : Int32))).toUInt32 >>> ((16 : Int32) &&& 31).toUInt32).toInt32) else ((ix ^^^ (-1 : Int32)) &&& (ix - (1 : Int32)))).toUInt32 >>> ((8 : Int32) &&& 31).toUInt32).toInt32) else (if (65536 : Int32) < ((ix ^^^ (-1 : Int32)) &&& (ix - (1 : Int32))) then ((((ix ^^^ (-1 : Int32)) &&& (ix - (1 : Int32))).toUInt32 >>> ((16 : Int32) &&& 31).toUInt32).toInt32) else ((ix ^^^ (-1 : Int32)) &&& (ix - (1 : Int32))))) then (((if (256 : Int32) < (if (65536 : Int32) < ((ix ^^^ (-1 : Int32)) &&& (ix - (1 : Int32))) then ((((ix ^^^ (-1 : Int32)) &&& (ix - (1 : Int32))).toUInt32 >>> ((16 : Int32) &&& 31).toUInt32).toInt32) else ((ix ^^^ (-1 : Int32)) &&& (ix - (1 : Int32)))) then (((if (65536 : Int32) < ((ix ^^^ (-1 : Int32)) &&& (ix - (1 : Int32))) then ((((ix ^^^ (-1 : Int32)) &&& (ix - (1 : Int32))).toUInt32 >>> ((16 : Int32) &&& 31).toUInt32).toInt32) else ((ix ^^^ (-1 : Int32)) &&& (ix - (1 : Int32)))).toUInt32 >>> ((8 : Int32) &&& 31).toUInt32).toInt32) else (if (65536 : Int32) < ((ix ^^^ (-1 : Int32)) &&& (ix - (1 : Int32))) then ((((ix ^^^ (-1 : Int32)) &&& (ix - (1 : Int32))).toUInt32 >>> ((16 : Int32) &&& 31).toUInt32).toInt32) else ((ix ^^^ (-1 : Int32)) &&& (ix - (1 : Int32))))).toUInt32 >>> ((4 : Int32) &&& 31).toUInt32).toInt32) else (if (256 : Int32) < (if (65536 : Int32) < ((ix ^^^ (-1 : Int32)) &&& (ix - (1 : Int32))) then ((((ix ^^^ (-1 : Int32)) &&& (ix - (1 : Int32))).toUInt32 >>> ((16 : Int32) &&& 31).toUInt32).toInt32) else ((ix ^^^ (-1 : Int32)) &&& (ix - (1 : Int32)))) then (((if (65536 : Int32) < ((ix ^^^ (-1 : Int32)) &&& (ix - (1 : Int32))) then ((((ix ^^^ (-1 : Int32)) &&& (ix - (1 : Int32))).toUInt32 >>> ((16 : Int32) &&& 31).toUInt32).toInt32) else ((ix ^^^ (-1 : Int32)) &&& (ix - (1 : Int32)))).toUInt32 >>> ((8 : Int32) &&& 31).toUInt32).toInt32) else (if (65536 : Int32) < ((ix ^^^ (-1 : Int32)) &&& (ix - (1 : Int32))) then ((((ix ^^^ (-1 : Int32)) &&& (ix - (1 : Int32))).toUInt32 >>> ((16 : Int32) &&& 31).toUInt32).toInt32) else ((ix ^^^ (-1 : Int32)) &&& (ix - (1 : Int32)))))).toUInt32 >>> ((2 : Int32) &&& 31).toUInt32).toInt32) else (if (16 : Int32) < (if (256 : Int32) < (if (65536 : Int32) < ((ix ^^^ (-1 : Int32)) &&& (ix - (1 : Int32))) then ((((ix ^^^ (-1 : Int32)) &&& (ix - (1 : Int32))).toUInt32 >>> ((16 : Int32) &&& 31).toUInt32).toInt32) else ((ix ^^^ (-1 : Int32)) &&& (ix - (1 : Int32)))) then (((if (65536 : Int32) < ((ix ^^^ (-1 : Int32)) &&& (ix - (1 : Int32))) then ((((ix ^^^ (-1 : Int32)) &&& (ix - (1 : Int32))).toUInt32 >>> ((16 : Int32) &&& 31).toUInt32).toInt32) else ((ix ^^^ (-1 : Int32)) &&& (ix - (1 : Int32)))).toUInt32 >>> ((8 : Int32) &&& 31).toUInt32).toInt32) else (if (65536 : Int32) < ((ix ^^^ (-1 : Int32)) &&& (ix - (1 : Int32))) then ((((ix ^^^ (-1 : Int32)) &&& (ix - (1 : Int32))).toUInt32 >>> ((16 : Int32) &&& 31).toUInt32).toInt32) else ((ix ^^^ (-1 : Int32)) &&& (ix - (1 : Int32))))) then (((if (256 : Int32) < (if (65536 : Int32) < ((ix ^^^ (-1 : Int32)) &&& (ix - (1 : Int32))) then ((((ix ^^^ (-1 : Int32)) &&& (ix - (1 : Int32))).toUInt32 >>> ((16 : Int32) &&& 31).toUInt32).toInt32) else ((ix ^^^ (-1 : Int32)) &&& (ix - (1 : Int32)))) then (((if (65536 : Int32) < ((ix ^^^ (-1 : Int32)) &&& (ix - (1 : Int32))) then ((((ix ^^^ (-1 : Int32)) &&& (ix - (1 : Int32))).toUInt32 >>> ((16 : Int32) &&& 31).toUInt32).toInt32) else ((ix ^^^ (-1 : Int32)) &&& (ix - (1 : Int32)))).toUInt32 >>> ((8 : Int32) &&& 31).toUInt32).toInt32) else (if (65536 : Int32) < ((ix ^^^ (-1 : Int32)) &&& (ix - (1 : Int32))) then ((((ix ^^^ (-1 : Int32)) &&& (ix - (1 : Int32))).toUInt32 >>> ((16 : Int32) &&& 31).toUInt32).toInt32) else ((ix ^^^ (-1 : Int32)) &&& (ix - (1 : Int32))))).toUInt32 >>> ((4 : Int32) &&& 31).toUInt32).toInt32) else (if (256 : Int32) < (if (65536 : Int32) < ((ix ^^^ (-1 : Int32)) &&& (ix - (1 : Int32))) then ((((ix ^^^ (-1 : Int32)) &&& (ix - (1 : Int32))).toUInt32 >>> ((16 : Int32) &&& 31).toUInt32).toInt32) else ((ix ^^^ (-1 : Int32)) &&& (ix - (1 : Int32)))) then (((if (65536 : Int32) < ((ix ^^^ (-1 : Int32)) &&& (ix - (1 : Int32))) then ((((ix ^^^ (-1 : Int32)) &&& (ix - (1 : Int32))).toUInt32 >>> ((16 : Int32) &&& 31).toUInt32).toInt32) else ((ix ^^^ (-1 : Int32)) &&& (ix - (1 : Int32)))).toUInt32 >>> ((8 : Int32) &&& 31).toUInt32).toInt32) else (if (65536 : Int32) < ((ix ^^^ (-1 : Int32)) &&& (ix - (1 : Int32))) then ((((ix ^^^ (-1 : Int32)) &&& (ix - (1 : Int32))).toUInt32 >>> ((16 : Int32) &&& 31).toUInt32).toInt32) else ((ix ^^^ (-1 : Int32)) &&& (ix - (1 : Int32))))))).toUInt32 >>> ((1 : Int32) &&& 31).toUInt32).toInt32)) else (((ix ^^^ (-1 : Int32)) &&& (ix - (1 : Int32))) &&& (32 : Int32)))
theorem d13_0 : decode jdk_33_method_48_code 0 = .ok (.iload_n 0, 1) := by decide +kernel
theorem d13_1 : decode jdk_33_method_48_code 1 = .ok (.iconst (-1), 1) := by decide +kernel
theorem d13_2 : decode jdk_33_method_48_code 2 = .ok (.ixor, 1) := by decide +kernel
theorem d13_3 : decode jdk_33_method_48_code 3 = .ok (.iload_n 0, 1) := by decide +kernel
theorem d13_4 : decode jdk_33_method_48_code 4 = .ok (.iconst 1, 1) := by decide +kernel
theorem d13_5 : decode jdk_33_method_48_code 5 = .ok (.isub, 1) := by decide +kernel
theorem d13_6 : decode jdk_33_method_48_code 6 = .ok (.iand, 1) := by decide +kernel
theorem d13_7 : decode jdk_33_method_48_code 7 = .ok (.istore_n 0, 1) := by decide +kernel
theorem d13_8 : decode jdk_33_method_48_code 8 = .ok (.iload_n 0, 1) := by decide +kernel
theorem d13_9 : decode jdk_33_method_48_code 9 = .ok (.ifCond .gt 8, 3) := by decide +kernel
theorem d13_12 : decode jdk_33_method_48_code 12 = .ok (.iload_n 0, 1) := by decide +kernel
theorem d13_13 : decode jdk_33_method_48_code 13 = .ok (.bipush 32, 2) := by decide +kernel
theorem d13_15 : decode jdk_33_method_48_code 15 = .ok (.iand, 1) := by decide +kernel
theorem d13_16 : decode jdk_33_method_48_code 16 = .ok (.ireturn, 1) := by decide +kernel
theorem d13_17 : decode jdk_33_method_48_code 17 = .ok (.iconst 1, 1) := by decide +kernel
theorem d13_18 : decode jdk_33_method_48_code 18 = .ok (.istore_n 1, 1) := by decide +kernel
theorem d13_19 : decode jdk_33_method_48_code 19 = .ok (.iload_n 0, 1) := by decide +kernel
theorem d13_20 : decode jdk_33_method_48_code 20 = .ok (.ldc_w 264, 3) := by decide +kernel
theorem d13_23 : decode jdk_33_method_48_code 23 = .ok (.if_icmp .le 11, 3) := by decide +kernel
theorem d13_26 : decode jdk_33_method_48_code 26 = .ok (.iinc 1 16, 3) := by decide +kernel
theorem d13_29 : decode jdk_33_method_48_code 29 = .ok (.iload_n 0, 1) := by decide +kernel
theorem d13_30 : decode jdk_33_method_48_code 30 = .ok (.bipush 16, 2) := by decide +kernel
theorem d13_32 : decode jdk_33_method_48_code 32 = .ok (.iushr, 1) := by decide +kernel
theorem d13_33 : decode jdk_33_method_48_code 33 = .ok (.istore_n 0, 1) := by decide +kernel
theorem d13_34 : decode jdk_33_method_48_code 34 = .ok (.iload_n 0, 1) := by decide +kernel
theorem d13_35 : decode jdk_33_method_48_code 35 = .ok (.sipush 256, 3) := by decide +kernel
theorem d13_38 : decode jdk_33_method_48_code 38 = .ok (.if_icmp .le 11, 3) := by decide +kernel
theorem d13_41 : decode jdk_33_method_48_code 41 = .ok (.iinc 1 8, 3) := by decide +kernel
theorem d13_44 : decode jdk_33_method_48_code 44 = .ok (.iload_n 0, 1) := by decide +kernel
theorem d13_45 : decode jdk_33_method_48_code 45 = .ok (.bipush 8, 2) := by decide +kernel
theorem d13_47 : decode jdk_33_method_48_code 47 = .ok (.iushr, 1) := by decide +kernel
theorem d13_48 : decode jdk_33_method_48_code 48 = .ok (.istore_n 0, 1) := by decide +kernel
theorem d13_49 : decode jdk_33_method_48_code 49 = .ok (.iload_n 0, 1) := by decide +kernel
theorem d13_50 : decode jdk_33_method_48_code 50 = .ok (.bipush 16, 2) := by decide +kernel
theorem d13_52 : decode jdk_33_method_48_code 52 = .ok (.if_icmp .le 10, 3) := by decide +kernel
theorem d13_55 : decode jdk_33_method_48_code 55 = .ok (.iinc 1 4, 3) := by decide +kernel
theorem d13_58 : decode jdk_33_method_48_code 58 = .ok (.iload_n 0, 1) := by decide +kernel
theorem d13_59 : decode jdk_33_method_48_code 59 = .ok (.iconst 4, 1) := by decide +kernel
theorem d13_60 : decode jdk_33_method_48_code 60 = .ok (.iushr, 1) := by decide +kernel
theorem d13_61 : decode jdk_33_method_48_code 61 = .ok (.istore_n 0, 1) := by decide +kernel
theorem d13_62 : decode jdk_33_method_48_code 62 = .ok (.iload_n 0, 1) := by decide +kernel
theorem d13_63 : decode jdk_33_method_48_code 63 = .ok (.iconst 4, 1) := by decide +kernel
theorem d13_64 : decode jdk_33_method_48_code 64 = .ok (.if_icmp .le 10, 3) := by decide +kernel
theorem d13_67 : decode jdk_33_method_48_code 67 = .ok (.iinc 1 2, 3) := by decide +kernel
theorem d13_70 : decode jdk_33_method_48_code 70 = .ok (.iload_n 0, 1) := by decide +kernel
theorem d13_71 : decode jdk_33_method_48_code 71 = .ok (.iconst 2, 1) := by decide +kernel
theorem d13_72 : decode jdk_33_method_48_code 72 = .ok (.iushr, 1) := by decide +kernel
theorem d13_73 : decode jdk_33_method_48_code 73 = .ok (.istore_n 0, 1) := by decide +kernel
theorem d13_74 : decode jdk_33_method_48_code 74 = .ok (.iload_n 1, 1) := by decide +kernel
theorem d13_75 : decode jdk_33_method_48_code 75 = .ok (.iload_n 0, 1) := by decide +kernel
theorem d13_76 : decode jdk_33_method_48_code 76 = .ok (.iconst 1, 1) := by decide +kernel
theorem d13_77 : decode jdk_33_method_48_code 77 = .ok (.iushr, 1) := by decide +kernel
theorem d13_78 : decode jdk_33_method_48_code 78 = .ok (.iadd, 1) := by decide +kernel
theorem d13_79 : decode jdk_33_method_48_code 79 = .ok (.ireturn, 1) := by decide +kernel
theorem ef_13 (m : MethodId) (x0 : Int32) : entryFrame m #[(.int x0)] 2 = mkF m 0 #[.val (.int x0), .unset] [] := by first | (simp [entryFrame, mkF, argsToLocals, Value.category]; done) | rfl
theorem pn_1 : plainName "java/lang/Integer" = true := by first | (simp [plainName, overriddenIn]; done) | decide +kernel
def Q13 (Z : State) (ix : Int32) (h0 : Heap) (n0 : Nat) (v : Option Value) (h : Heap) (L : List Loc) : Prop := v = some (.int (f13 ix)) ∧ Fr n0 L ∧ h = h0
set_option maxRecDepth 65536 in
set_option maxHeartbeats 40000000 in
theorem rm13 (l : Launch) (Z : State) (a0 : Array Value) (hw : ∀ d ∈ tables_1, d.before a0 Z = true) (ws : List Jvm.Cond) (ix : Int32) (h0 : Heap) (n0 : Nat) (Z0 : n0 ≤ h0.size)  :
    MetFree l (⟨"java/lang/Integer", "numberOfTrailingZeros", "(I)I"⟩ : MethodName) (head1 (Jvm.Cond.code (⟨"java/lang/Integer", "numberOfTrailingZeros", "(I)I"⟩ : MethodName) jdk_33_method_48_code 2 (some .int) :: ws) ({ frames := 0, cells := 0, slots := 0, locals := 0 } : Room)) (fun a U => a = #[(.int ix)] ∧ Z.Warmed39 U.vm ∧ U.heap = h0) (fun _ _ _ _ _ => True) (fun _ U o U' => ∃ v L, o = .returned v ∧ Q13 Z ix h0 n0 v U'.heap L ∧ FrameEnd U o U' L ({ frames := 0, cells := 0, slots := 0, locals := 0 } : Room).cells ({ frames := 0, cells := 0, slots := 0, locals := 0 } : Room).slots) := by
  refine MetFree.of_bodySF (plainFor_of_name pn_1) hisR ?_
  intro p e s m args below meth c s₁ Bd hml0 hP hK
  obtain ⟨rfl, hZ, hh⟩ := hP
  have hx := Bd.exec
  have hby := Bd.bytes
  have hml : c.maxLocals = 2 := hml0
  have hown : s.vm.findClass "java/lang/Integer" = some m.cls := findClass_of_methodNamed Bd.named
  have hnm := (name_of_methodNamed Bd.named Bd.method).1
  have X0 : Stand p l e ({ frames := 0, cells := 0, slots := 0, locals := 0 } : Room) s m #[(.int ix)] below meth c s₁ [] 0 0 := Stand.of_body Bd
  have e0 : s₁.heap = h0 := by rw [← hh, Bd.state]; rfl
  have N0 := Fr.nil n0
  have pre0 : ∀ t, Steps p.tables e below (s₁.setTop (mkF m 0 #[.val (.int ix), .unset] [])) t → Steps p.tables e below (s₁.setTop (entryFrame m #[(.int ix)] 2)) t := fun t k => castTop (ef_13 m ix) k
  have S127 : ∀ t, Steps p.tables e below (s₁.setTop (mkF m 9 #[.val (.int ((ix ^^^ (-1 : Int32)) &&& (ix - (1 : Int32)))), .unset] [(.int ((ix ^^^ (-1 : Int32)) &&& (ix - (1 : Int32))))])) t → Steps p.tables e below (s₁.setTop (entryFrame m #[(.int ix)] 2)) t := by
    intro t k
    refine pre0 t ?_
    refine XS.iloadN X0.here hx rfl (hb hby d13_0) rfl ?_
    show Steps p.tables e below (s₁.setTop (mkF m 1 #[.val (.int ix), .unset] [(.int ix)])) _
    refine XS.iconst X0.here hx rfl (hb hby d13_1) ?_
    show Steps p.tables e below (s₁.setTop (mkF m 2 #[.val (.int ix), .unset] [(.int (-1 : Int32)), (.int ix)])) _
    refine XS.ixor X0.here hx rfl (hb hby d13_2) rfl ?_
    show Steps p.tables e below (s₁.setTop (mkF m 3 #[.val (.int ix), .unset] [(.int (ix ^^^ (-1 : Int32)))])) _
    refine XS.iloadN X0.here hx rfl (hb hby d13_3) rfl ?_
    show Steps p.tables e below (s₁.setTop (mkF m 4 #[.val (.int ix), .unset] [(.int ix), (.int (ix ^^^ (-1 : Int32)))])) _
    refine XS.iconst X0.here hx rfl (hb hby d13_4) ?_
    show Steps p.tables e below (s₁.setTop (mkF m 5 #[.val (.int ix), .unset] [(.int (1 : Int32)), (.int ix), (.int (ix ^^^ (-1 : Int32)))])) _
    refine XS.isub X0.here hx rfl (hb hby d13_5) rfl ?_
    show Steps p.tables e below (s₁.setTop (mkF m 6 #[.val (.int ix), .unset] [(.int (ix - (1 : Int32))), (.int (ix ^^^ (-1 : Int32)))])) _
    refine XS.iand X0.here hx rfl (hb hby d13_6) rfl ?_
    show Steps p.tables e below (s₁.setTop (mkF m 7 #[.val (.int ix), .unset] [(.int ((ix ^^^ (-1 : Int32)) &&& (ix - (1 : Int32))))])) _
    refine XS.istoreN X0.here hx rfl (hb hby d13_7) rfl (l' := #[.val (.int ((ix ^^^ (-1 : Int32)) &&& (ix - (1 : Int32)))), .unset]) rfl ?_
    show Steps p.tables e below (s₁.setTop (mkF m 8 #[.val (.int ((ix ^^^ (-1 : Int32)) &&& (ix - (1 : Int32)))), .unset] [])) _
    refine XS.iloadN X0.here hx rfl (hb hby d13_8) rfl ?_
    show Steps p.tables e below (s₁.setTop (mkF m 9 #[.val (.int ((ix ^^^ (-1 : Int32)) &&& (ix - (1 : Int32)))), .unset] [(.int ((ix ^^^ (-1 : Int32)) &&& (ix - (1 : Int32))))])) _
    exact k
  obtain ⟨w128, hw128⟩ : ∃ z : Int32, z = ((ix ^^^ (-1 : Int32)) &&& (ix - (1 : Int32))) := ⟨_, rfl⟩
  rw [← hw128] at S127
  by_cases hc129 : (0 : Int32) < w128
  · have S130 : ∀ t, Steps p.tables e below (s₁.setTop (mkF m 23 #[.val (.int w128), .val (.int (1 : Int32))] [(.int (65536 : Int32)), (.int w128)])) t → Steps p.tables e below (s₁.setTop (entryFrame m #[(.int ix)] 2)) t := by
      intro t k
      refine S127 t ?_
      refine XS.ifYes X0.here hx rfl (pc0 := 9) (pc' := 17) rfl (hb hby d13_9) rfl ((if0 _ _).trans (tlt hc129).2.2.1) (by decide) (by decide) ?_
      show Steps p.tables e below (s₁.setTop (mkF m 17 #[.val (.int w128), .unset] [])) _
      refine XS.iconst X0.here hx rfl (hb hby d13_17) ?_
      show Steps p.tables e below (s₁.setTop (mkF m 18 #[.val (.int w128), .unset] [(.int (1 : Int32))])) _
      refine XS.istoreN X0.here hx rfl (hb hby d13_18) rfl (l' := #[.val (.int w128), .val (.int (1 : Int32))]) rfl ?_
      show Steps p.tables e below (s₁.setTop (mkF m 19 #[.val (.int w128), .val (.int (1 : Int32))] [])) _
      refine XS.iloadN X0.here hx rfl (hb hby d13_19) rfl ?_
      show Steps p.tables e below (s₁.setTop (mkF m 20 #[.val (.int w128), .val (.int (1 : Int32))] [(.int w128)])) _
      refine X0.ldcwInt hx hown (mvT hZ (hw _ (List.mem_of_getElem? (i := 74) rfl))) (g := (mkF m 20 #[.val (.int w128), .val (.int (1 : Int32))] [(.int w128)])) rfl (hb hby d13_20) _ ?_
      show Steps p.tables e below (s₁.setTop (mkF m 23 #[.val (.int w128), .val (.int (1 : Int32))] [(.int (65536 : Int32)), (.int w128)])) _
      exact k
    have S132 : ∀ t, Steps p.tables e below (s₁.setTop (mkF m 34 #[.val (.int (if (65536 : Int32) < w128 then ((w128.toUInt32 >>> ((16 : Int32) &&& 31).toUInt32).toInt32) else w128)), .val (.int (if (65536 : Int32) < w128 then (17 : Int32) else (1 : Int32)))] [])) t → Steps p.tables e below (s₁.setTop (entryFrame m #[(.int ix)] 2)) t := by
      intro t k
      refine S130 t ?_
      by_cases hc131 : (65536 : Int32) < w128
      · rw [if_pos hc131, if_pos hc131] at k
        refine XS.icmpNo X0.here hx rfl (hb hby d13_23) rfl (tlt hc131).2.2.2 ?_
        show Steps p.tables e below (s₁.setTop (mkF m 26 #[.val (.int w128), .val (.int (1 : Int32))] [])) _
        refine XS.iinc X0.here hx rfl (hb hby d13_26) rfl (l' := #[.val (.int w128), .val (.int (17 : Int32))]) rfl ?_
        show Steps p.tables e below (s₁.setTop (mkF m 29 #[.val (.int w128), .val (.int (17 : Int32))] [])) _
        refine XS.iloadN X0.here hx rfl (hb hby d13_29) rfl ?_
        show Steps p.tables e below (s₁.setTop (mkF m 30 #[.val (.int w128), .val (.int (17 : Int32))] [(.int w128)])) _
        refine XS.bipush X0.here hx rfl (hb hby d13_30) ?_
        show Steps p.tables e below (s₁.setTop (mkF m 32 #[.val (.int w128), .val (.int (17 : Int32))] [(.int (16 : Int32)), (.int w128)])) _
        refine XS.iushr X0.here hx rfl (hb hby d13_32) rfl ?_
        show Steps p.tables e below (s₁.setTop (mkF m 33 #[.val (.int w128), .val (.int (17 : Int32))] [(.int ((w128.toUInt32 >>> ((16 : Int32) &&& 31).toUInt32).toInt32))])) _
        refine XS.istoreN X0.here hx rfl (hb hby d13_33) rfl (l' := #[.val (.int ((w128.toUInt32 >>> ((16 : Int32) &&& 31).toUInt32).toInt32)), .val (.int (17 : Int32))]) rfl ?_
        show Steps p.tables e below (s₁.setTop (mkF m 34 #[.val (.int ((w128.toUInt32 >>> ((16 : Int32) &&& 31).toUInt32).toInt32)), .val (.int (17 : Int32))] [])) _
        exact k
      · rw [if_neg hc131, if_neg hc131] at k
        refine XS.icmpYes X0.here hx rfl (pc0 := 23) (pc' := 34) rfl (hb hby d13_23) rfl (flt hc131).2.2.2 (by decide) (by decide) ?_
        show Steps p.tables e below (s₁.setTop (mkF m 34 #[.val (.int w128), .val (.int (1 : Int32))] [])) _
        exact k
    obtain ⟨w133, hw133⟩ : ∃ z : Int32, z = (if (65536 : Int32) < w128 then ((w128.toUInt32 >>> ((16 : Int32) &&& 31).toUInt32).toInt32) else w128) := ⟨_, rfl⟩
    rw [← hw133] at S132
    obtain ⟨w134, hw134⟩ : ∃ z : Int32, z = (if (65536 : Int32) < w128 then (17 : Int32) else (1 : Int32)) := ⟨_, rfl⟩
    rw [← hw134] at S132
    have S135 : ∀ t, Steps p.tables e below (s₁.setTop (mkF m 38 #[.val (.int w133), .val (.int w134)] [(.int (256 : Int32)), (.int w133)])) t → Steps p.tables e below (s₁.setTop (entryFrame m #[(.int ix)] 2)) t := by
      intro t k
      refine S132 t ?_
      refine XS.iloadN X0.here hx rfl (hb hby d13_34) rfl ?_
      show Steps p.tables e below (s₁.setTop (mkF m 35 #[.val (.int w133), .val (.int w134)] [(.int w133)])) _
      refine XS.sipush X0.here hx rfl (hb hby d13_35) ?_
      show Steps p.tables e below (s₁.setTop (mkF m 38 #[.val (.int w133), .val (.int w134)] [(.int (256 : Int32)), (.int w133)])) _
      exact k
    have S137 : ∀ t, Steps p.tables e below (s₁.setTop (mkF m 49 #[.val (.int (if (256 : Int32) < w133 then ((w133.toUInt32 >>> ((8 : Int32) &&& 31).toUInt32).toInt32) else w133)), .val (.int (if (256 : Int32) < w133 then (w134 + (8 : Int32)) else w134))] [])) t → Steps p.tables e below (s₁.setTop (entryFrame m #[(.int ix)] 2)) t := by
      intro t k
      refine S135 t ?_
      by_cases hc136 : (256 : Int32) < w133
      · rw [if_pos hc136, if_pos hc136] at k
        refine XS.icmpNo X0.here hx rfl (hb hby d13_38) rfl (tlt hc136).2.2.2 ?_
        show Steps p.tables e below (s₁.setTop (mkF m 41 #[.val (.int w133), .val (.int w134)] [])) _
        refine XS.iinc X0.here hx rfl (hb hby d13_41) rfl (l' := #[.val (.int w133), .val (.int (w134 + (8 : Int32)))]) rfl ?_
        show Steps p.tables e below (s₁.setTop (mkF m 44 #[.val (.int w133), .val (.int (w134 + (8 : Int32)))] [])) _
        refine XS.iloadN X0.here hx rfl (hb hby d13_44) rfl ?_
        show Steps p.tables e below (s₁.setTop (mkF m 45 #[.val (.int w133), .val (.int (w134 + (8 : Int32)))] [(.int w133)])) _
        refine XS.bipush X0.here hx rfl (hb hby d13_45) ?_
        show Steps p.tables e below (s₁.setTop (mkF m 47 #[.val (.int w133), .val (.int (w134 + (8 : Int32)))] [(.int (8 : Int32)), (.int w133)])) _
        refine XS.iushr X0.here hx rfl (hb hby d13_47) rfl ?_
        show Steps p.tables e below (s₁.setTop (mkF m 48 #[.val (.int w133), .val (.int (w134 + (8 : Int32)))] [(.int ((w133.toUInt32 >>> ((8 : Int32) &&& 31).toUInt32).toInt32))])) _
        refine XS.istoreN X0.here hx rfl (hb hby d13_48) rfl (l' := #[.val (.int ((w133.toUInt32 >>> ((8 : Int32) &&& 31).toUInt32).toInt32)), .val (.int (w134 + (8 : Int32)))]) rfl ?_
        show Steps p.tables e below (s₁.setTop (mkF m 49 #[.val (.int ((w133.toUInt32 >>> ((8 : Int32) &&& 31).toUInt32).toInt32)), .val (.int (w134 + (8 : Int32)))] [])) _
        exact k
      · rw [if_neg hc136, if_neg hc136] at k
        refine XS.icmpYes X0.here hx rfl (pc0 := 38) (pc' := 49) rfl (hb hby d13_38) rfl (flt hc136).2.2.2 (by decide) (by decide) ?_
        show Steps p.tables e below (s₁.setTop (mkF m 49 #[.val (.int w133), .val (.int w134)] [])) _
        exact k
    obtain ⟨w138, hw138⟩ : ∃ z : Int32, z = (if (256 : Int32) < w133 then ((w133.toUInt32 >>> ((8 : Int32) &&& 31).toUInt32).toInt32) else w133) := ⟨_, rfl⟩
    rw [← hw138] at S137
    obtain ⟨w139, hw139⟩ : ∃ z : Int32, z = (if (256 : Int32) < w133 then (w134 + (8 : Int32)) else w134) := ⟨_, rfl⟩
    rw [← hw139] at S137
    have S140 : ∀ t, Steps p.tables e below (s₁.setTop (mkF m 52 #[.val (.int w138), .val (.int w139)] [(.int (16 : Int32)), (.int w138)])) t → Steps p.tables e below (s₁.setTop (entryFrame m #[(.int ix)] 2)) t := by
      intro t k
      refine S137 t ?_
      refine XS.iloadN X0.here hx rfl (hb hby d13_49) rfl ?_
      show Steps p.tables e below (s₁.setTop (mkF m 50 #[.val (.int w138), .val (.int w139)] [(.int w138)])) _
      refine XS.bipush X0.here hx rfl (hb hby d13_50) ?_
      show Steps p.tables e below (s₁.setTop (mkF m 52 #[.val (.int w138), .val (.int w139)] [(.int (16 : Int32)), (.int w138)])) _
      exact k
    have S142 : ∀ t, Steps p.tables e below (s₁.setTop (mkF m 62 #[.val (.int (if (16 : Int32) < w138 then ((w138.toUInt32 >>> ((4 : Int32) &&& 31).toUInt32).toInt32) else w138)), .val (.int (if (16 : Int32) < w138 then (w139 + (4 : Int32)) else w139))] [])) t → Steps p.tables e below (s₁.setTop (entryFrame m #[(.int ix)] 2)) t := by
      intro t k
      refine S140 t ?_
      by_cases hc141 : (16 : Int32) < w138
      · rw [if_pos hc141, if_pos hc141] at k
        refine XS.icmpNo X0.here hx rfl (hb hby d13_52) rfl (tlt hc141).2.2.2 ?_
        show Steps p.tables e below (s₁.setTop (mkF m 55 #[.val (.int w138), .val (.int w139)] [])) _
        refine XS.iinc X0.here hx rfl (hb hby d13_55) rfl (l' := #[.val (.int w138), .val (.int (w139 + (4 : Int32)))]) rfl ?_
        show Steps p.tables e below (s₁.setTop (mkF m 58 #[.val (.int w138), .val (.int (w139 + (4 : Int32)))] [])) _
        refine XS.iloadN X0.here hx rfl (hb hby d13_58) rfl ?_
        show Steps p.tables e below (s₁.setTop (mkF m 59 #[.val (.int w138), .val (.int (w139 + (4 : Int32)))] [(.int w138)])) _
        refine XS.iconst X0.here hx rfl (hb hby d13_59) ?_
        show Steps p.tables e below (s₁.setTop (mkF m 60 #[.val (.int w138), .val (.int (w139 + (4 : Int32)))] [(.int (4 : Int32)), (.int w138)])) _
        refine XS.iushr X0.here hx rfl (hb hby d13_60) rfl ?_
        show Steps p.tables e below (s₁.setTop (mkF m 61 #[.val (.int w138), .val (.int (w139 + (4 : Int32)))] [(.int ((w138.toUInt32 >>> ((4 : Int32) &&& 31).toUInt32).toInt32))])) _
        refine XS.istoreN X0.here hx rfl (hb hby d13_61) rfl (l' := #[.val (.int ((w138.toUInt32 >>> ((4 : Int32) &&& 31).toUInt32).toInt32)), .val (.int (w139 + (4 : Int32)))]) rfl ?_
        show Steps p.tables e below (s₁.setTop (mkF m 62 #[.val (.int ((w138.toUInt32 >>> ((4 : Int32) &&& 31).toUInt32).toInt32)), .val (.int (w139 + (4 : Int32)))] [])) _
        exact k
      · rw [if_neg hc141, if_neg hc141] at k
        refine XS.icmpYes X0.here hx rfl (pc0 := 52) (pc' := 62) rfl (hb hby d13_52) rfl (flt hc141).2.2.2 (by decide) (by decide) ?_
        show Steps p.tables e below (s₁.setTop (mkF m 62 #[.val (.int w138), .val (.int w139)] [])) _
        exact k
    obtain ⟨w143, hw143⟩ : ∃ z : Int32, z = (if (16 : Int32) < w138 then ((w138.toUInt32 >>> ((4 : Int32) &&& 31).toUInt32).toInt32) else w138) := ⟨_, rfl⟩
    rw [← hw143] at S142
    obtain ⟨w144, hw144⟩ : ∃ z : Int32, z = (if (16 : Int32) < w138 then (w139 + (4 : Int32)) else w139) := ⟨_, rfl⟩
    rw [← hw144] at S142
    have S145 : ∀ t, Steps p.tables e below (s₁.setTop (mkF m 64 #[.val (.int w143), .val (.int w144)] [(.int (4 : Int32)), (.int w143)])) t → Steps p.tables e below (s₁.setTop (entryFrame m #[(.int ix)] 2)) t := by
      intro t k
      refine S142 t ?_
      refine XS.iloadN X0.here hx rfl (hb hby d13_62) rfl ?_
      show Steps p.tables e below (s₁.setTop (mkF m 63 #[.val (.int w143), .val (.int w144)] [(.int w143)])) _
      refine XS.iconst X0.here hx rfl (hb hby d13_63) ?_
      show Steps p.tables e below (s₁.setTop (mkF m 64 #[.val (.int w143), .val (.int w144)] [(.int (4 : Int32)), (.int w143)])) _
      exact k
    have S147 : ∀ t, Steps p.tables e below (s₁.setTop (mkF m 74 #[.val (.int (if (4 : Int32) < w143 then ((w143.toUInt32 >>> ((2 : Int32) &&& 31).toUInt32).toInt32) else w143)), .val (.int (if (4 : Int32) < w143 then (w144 + (2 : Int32)) else w144))] [])) t → Steps p.tables e below (s₁.setTop (entryFrame m #[(.int ix)] 2)) t := by
      intro t k
      refine S145 t ?_
      by_cases hc146 : (4 : Int32) < w143
      · rw [if_pos hc146, if_pos hc146] at k
        refine XS.icmpNo X0.here hx rfl (hb hby d13_64) rfl (tlt hc146).2.2.2 ?_
        show Steps p.tables e below (s₁.setTop (mkF m 67 #[.val (.int w143), .val (.int w144)] [])) _
        refine XS.iinc X0.here hx rfl (hb hby d13_67) rfl (l' := #[.val (.int w143), .val (.int (w144 + (2 : Int32)))]) rfl ?_
        show Steps p.tables e below (s₁.setTop (mkF m 70 #[.val (.int w143), .val (.int (w144 + (2 : Int32)))] [])) _
        refine XS.iloadN X0.here hx rfl (hb hby d13_70) rfl ?_
        show Steps p.tables e below (s₁.setTop (mkF m 71 #[.val (.int w143), .val (.int (w144 + (2 : Int32)))] [(.int w143)])) _
        refine XS.iconst X0.here hx rfl (hb hby d13_71) ?_
        show Steps p.tables e below (s₁.setTop (mkF m 72 #[.val (.int w143), .val (.int (w144 + (2 : Int32)))] [(.int (2 : Int32)), (.int w143)])) _
        refine XS.iushr X0.here hx rfl (hb hby d13_72) rfl ?_
        show Steps p.tables e below (s₁.setTop (mkF m 73 #[.val (.int w143), .val (.int (w144 + (2 : Int32)))] [(.int ((w143.toUInt32 >>> ((2 : Int32) &&& 31).toUInt32).toInt32))])) _
        refine XS.istoreN X0.here hx rfl (hb hby d13_73) rfl (l' := #[.val (.int ((w143.toUInt32 >>> ((2 : Int32) &&& 31).toUInt32).toInt32)), .val (.int (w144 + (2 : Int32)))]) rfl ?_
        show Steps p.tables e below (s₁.setTop (mkF m 74 #[.val (.int ((w143.toUInt32 >>> ((2 : Int32) &&& 31).toUInt32).toInt32)), .val (.int (w144 + (2 : Int32)))] [])) _
        exact k
      · rw [if_neg hc146, if_neg hc146] at k
        refine XS.icmpYes X0.here hx rfl (pc0 := 64) (pc' := 74) rfl (hb hby d13_64) rfl (flt hc146).2.2.2 (by decide) (by decide) ?_
        show Steps p.tables e below (s₁.setTop (mkF m 74 #[.val (.int w143), .val (.int w144)] [])) _
        exact k
    obtain ⟨w148, hw148⟩ : ∃ z : Int32, z = (if (4 : Int32) < w143 then ((w143.toUInt32 >>> ((2 : Int32) &&& 31).toUInt32).toInt32) else w143) := ⟨_, rfl⟩
    rw [← hw148] at S147
    obtain ⟨w149, hw149⟩ : ∃ z : Int32, z = (if (4 : Int32) < w143 then (w144 + (2 : Int32)) else w144) := ⟨_, rfl⟩
    rw [← hw149] at S147
    have S150 : ∀ t, Steps p.tables e below (s₁.setTop (mkF m 79 #[.val (.int w148), .val (.int w149)] [(.int (w149 + ((w148.toUInt32 >>> ((1 : Int32) &&& 31).toUInt32).toInt32)))])) t → Steps p.tables e below (s₁.setTop (entryFrame m #[(.int ix)] 2)) t := by
      intro t k
      refine S147 t ?_
      refine XS.iloadN X0.here hx rfl (hb hby d13_74) rfl ?_
      show Steps p.tables e below (s₁.setTop (mkF m 75 #[.val (.int w148), .val (.int w149)] [(.int w149)])) _
      refine XS.iloadN X0.here hx rfl (hb hby d13_75) rfl ?_
      show Steps p.tables e below (s₁.setTop (mkF m 76 #[.val (.int w148), .val (.int w149)] [(.int w148), (.int w149)])) _
      refine XS.iconst X0.here hx rfl (hb hby d13_76) ?_
      show Steps p.tables e below (s₁.setTop (mkF m 77 #[.val (.int w148), .val (.int w149)] [(.int (1 : Int32)), (.int w148), (.int w149)])) _
      refine XS.iushr X0.here hx rfl (hb hby d13_77) rfl ?_
      show Steps p.tables e below (s₁.setTop (mkF m 78 #[.val (.int w148), .val (.int w149)] [(.int ((w148.toUInt32 >>> ((1 : Int32) &&& 31).toUInt32).toInt32)), (.int w149)])) _
      refine XS.iadd X0.here hx rfl (hb hby d13_78) rfl ?_
      show Steps p.tables e below (s₁.setTop (mkF m 79 #[.val (.int w148), .val (.int w149)] [(.int (w149 + ((w148.toUInt32 >>> ((1 : Int32) &&& 31).toUInt32).toInt32)))])) _
      exact k
    obtain ⟨w151, hw151⟩ : ∃ z : Int32, z = (w149 + ((w148.toUInt32 >>> ((1 : Int32) &&& 31).toUInt32).toInt32)) := ⟨_, rfl⟩
    rw [← hw151] at S150
    have hf : f13 ix = w151 := by
      unfold f13
      subst hw128 hw133 hw134 hw138 hw139 hw143 hw144 hw148 hw149 hw151
      rw [if_pos hc129]
    obtain ⟨fs, hr, hrun, hended, hW, hsame⟩ := X0.leave (v := some (.int w151)) (fun h => by rw [Bd.returns] at h; cases h)
    refine ⟨_, _, S150 _ ?_, hrun, hended, _, _, rfl, ?_, ⟨_, rfl⟩, hW, hsame.mono (by decide) (by decide)⟩
    · exact retOut X0 hx Bd.returns rfl (Or.inl ⟨rfl, Or.inl rfl, _, rfl⟩) (hb hby d13_79) hr
    · show Q13 Z ix h0 n0 _ s₁.heap _
      rw [e0]
      exact ⟨by rw [hf], N0, rfl⟩
  · have S152 : ∀ t, Steps p.tables e below (s₁.setTop (mkF m 16 #[.val (.int w128), .unset] [(.int (w128 &&& (32 : Int32)))])) t → Steps p.tables e below (s₁.setTop (entryFrame m #[(.int ix)] 2)) t := by
      intro t k
      refine S127 t ?_
      refine XS.ifNo X0.here hx rfl (hb hby d13_9) rfl ((if0 _ _).trans (flt hc129).2.2.1) ?_
      show Steps p.tables e below (s₁.setTop (mkF m 12 #[.val (.int w128), .unset] [])) _
      refine XS.iloadN X0.here hx rfl (hb hby d13_12) rfl ?_
      show Steps p.tables e below (s₁.setTop (mkF m 13 #[.val (.int w128), .unset] [(.int w128)])) _
      refine XS.bipush X0.here hx rfl (hb hby d13_13) ?_
      show Steps p.tables e below (s₁.setTop (mkF m 15 #[.val (.int w128), .unset] [(.int (32 : Int32)), (.int w128)])) _
      refine XS.iand X0.here hx rfl (hb hby d13_15) rfl ?_
      show Steps p.tables e below (s₁.setTop (mkF m 16 #[.val (.int w128), .unset] [(.int (w128 &&& (32 : Int32)))])) _
      exact k
    obtain ⟨w153, hw153⟩ : ∃ z : Int32, z = (w128 &&& (32 : Int32)) := ⟨_, rfl⟩
    rw [← hw153] at S152
    have hf : f13 ix = w153 := by
      unfold f13
      subst hw128 hw153
      rw [if_neg hc129]
    obtain ⟨fs, hr, hrun, hended, hW, hsame⟩ := X0.leave (v := some (.int w153)) (fun h => by rw [Bd.returns] at h; cases h)
    refine ⟨_, _, S152 _ ?_, hrun, hended, _, _, rfl, ?_, ⟨_, rfl⟩, hW, hsame.mono (by decide) (by decide)⟩
    · exact retOut X0 hx Bd.returns rfl (Or.inl ⟨rfl, Or.inl rfl, _, rfl⟩) (hb hby d13_16) hr
    · show Q13 Z ix h0 n0 _ s₁.heap _
      rw [e0]
      exact ⟨by rw [hf], N0, rfl⟩
theorem pd_0 : parseMethodDescriptor "(I)I" = some ⟨[.int], some .int⟩ := by decide +kernel
def f12 (jx : Int64) : Int32 := (if jx.toInt32 = (0 : Int32) then ((32 : Int32) + (f13 ((jx.toUInt64 >>> ((32 : Int32) &&& 0x3f).toInt64.toUInt64).toInt64).toInt32)) else (f13 jx.toInt32))
theorem d12_0 : decode jdk_35_method_49_code 0 = .ok (.lload_n 0, 1) := by decide +kernel
theorem d12_1 : decode jdk_35_method_49_code 1 = .ok (.l2i, 1) := by decide +kernel
theorem d12_2 : decode jdk_35_method_49_code 2 = .ok (.istore_n 2, 1) := by decide +kernel
theorem d12_3 : decode jdk_35_method_49_code 3 = .ok (.iload_n 2, 1) := by decide +kernel
theorem d12_4 : decode jdk_35_method_49_code 4 = .ok (.ifCond .ne 17, 3) := by decide +kernel
theorem d12_7 : decode jdk_35_method_49_code 7 = .ok (.bipush 32, 2) := by decide +kernel
theorem d12_9 : decode jdk_35_method_49_code 9 = .ok (.lload_n 0, 1) := by decide +kernel
theorem d12_10 : decode jdk_35_method_49_code 10 = .ok (.bipush 32, 2) := by decide +kernel
theorem d12_12 : decode jdk_35_method_49_code 12 = .ok (.lushr, 1) := by decide +kernel
theorem d12_13 : decode jdk_35_method_49_code 13 = .ok (.l2i, 1) := by decide +kernel
theorem d12_14 : decode jdk_35_method_49_code 14 = .ok (.invokestatic 311, 3) := by decide +kernel
theorem d12_17 : decode jdk_35_method_49_code 17 = .ok (.iadd, 1) := by decide +kernel
theorem d12_18 : decode jdk_35_method_49_code 18 = .ok (.goto 7, 3) := by decide +kernel
theorem d12_21 : decode jdk_35_method_49_code 21 = .ok (.iload_n 2, 1) := by decide +kernel
theorem d12_22 : decode jdk_35_method_49_code 22 = .ok (.invokestatic 311, 3) := by decide +kernel
theorem d12_25 : decode jdk_35_method_49_code 25 = .ok (.ireturn, 1) := by decide +kernel
theorem ef_12 (m : MethodId) (x0 : Int64) : entryFrame m #[(.long x0)] 3 = mkF m 0 #[.val (.long x0), .second, .unset] [] := by first | (simp [entryFrame, mkF, argsToLocals, Value.category]; done) | rfl
theorem pn_2 : plainName "java/lang/Long" = true := by first | (simp [plainName, overriddenIn]; done) | decide +kernel
def Q12 (Z : State) (jx : Int64) (h0 : Heap) (n0 : Nat) (v : Option Value) (h : Heap) (L : List Loc) : Prop := v = some (.int (f12 jx)) ∧ Fr n0 L ∧ h = h0
set_option maxRecDepth 65536 in
set_option maxHeartbeats 40000000 in
theorem rm12 (l : Launch) (Z : State) (a0 : Array Value) (hw : ∀ d ∈ tables_1, d.before a0 Z = true) (ws : List Jvm.Cond) (jx : Int64) (h0 : Heap) (n0 : Nat) (Z0 : n0 ≤ h0.size)  :
    MetFree l (⟨"java/lang/Long", "numberOfTrailingZeros", "(J)I"⟩ : MethodName) (head1 (Jvm.Cond.code (⟨"java/lang/Long", "numberOfTrailingZeros", "(J)I"⟩ : MethodName) jdk_35_method_49_code 3 (some .int) :: ws) ({ frames := 1, cells := 0, slots := 0, locals := 14 } : Room)) (fun a U => a = #[(.long jx)] ∧ Z.Warmed39 U.vm ∧ U.heap = h0) (fun _ _ _ _ _ => True) (fun _ U o U' => ∃ v L, o = .returned v ∧ Q12 Z jx h0 n0 v U'.heap L ∧ FrameEnd U o U' L ({ frames := 1, cells := 0, slots := 0, locals := 14 } : Room).cells ({ frames := 1, cells := 0, slots := 0, locals := 14 } : Room).slots) := by
  refine MetFree.of_bodySF (plainFor_of_name pn_2) hisR ?_
  intro p e s m args below meth c s₁ Bd hml0 hP hK
  obtain ⟨rfl, hZ, hh⟩ := hP
  have hx := Bd.exec
  have hby := Bd.bytes
  have hml : c.maxLocals = 3 := hml0
  have hown : s.vm.findClass "java/lang/Long" = some m.cls := findClass_of_methodNamed Bd.named
  have hnm := (name_of_methodNamed Bd.named Bd.method).1
  have X0 : Stand p l e ({ frames := 1, cells := 0, slots := 0, locals := 14 } : Room) s m #[(.long jx)] below meth c s₁ [] 0 0 := Stand.of_body Bd
  have e0 : s₁.heap = h0 := by rw [← hh, Bd.state]; rfl
  have N0 := Fr.nil n0
  have pre0 : ∀ t, Steps p.tables e below (s₁.setTop (mkF m 0 #[.val (.long jx), .second, .unset] [])) t → Steps p.tables e below (s₁.setTop (entryFrame m #[(.long jx)] 3)) t := fun t k => castTop (ef_12 m jx) k
  have S163 : ∀ t, Steps p.tables e below (s₁.setTop (mkF m 4 #[.val (.long jx), .second, .val (.int jx.toInt32)] [(.int jx.toInt32)])) t → Steps p.tables e below (s₁.setTop (entryFrame m #[(.long jx)] 3)) t := by
    intro t k
    refine pre0 t ?_
    refine XS.lloadN X0.here hx rfl (hb hby d12_0) rfl ?_
    show Steps p.tables e below (s₁.setTop (mkF m 1 #[.val (.long jx), .second, .unset] [(.long jx)])) _
    refine XS.l2i X0.here hx rfl (hb hby d12_1) rfl ?_
    show Steps p.tables e below (s₁.setTop (mkF m 2 #[.val (.long jx), .second, .unset] [(.int jx.toInt32)])) _
    refine XS.istoreN X0.here hx rfl (hb hby d12_2) rfl (l' := #[.val (.long jx), .second, .val (.int jx.toInt32)]) rfl ?_
    show Steps p.tables e below (s₁.setTop (mkF m 3 #[.val (.long jx), .second, .val (.int jx.toInt32)] [])) _
    refine XS.iloadN X0.here hx rfl (hb hby d12_3) rfl ?_
    show Steps p.tables e below (s₁.setTop (mkF m 4 #[.val (.long jx), .second, .val (.int jx.toInt32)] [(.int jx.toInt32)])) _
    exact k
  obtain ⟨w164, hw164⟩ : ∃ z : Int32, z = jx.toInt32 := ⟨_, rfl⟩
  rw [← hw164] at S163
  by_cases hc165 : w164 = (0 : Int32)
  · obtain ⟨_, _, ⟨T166, L166, k166, n166⟩, -, X166, ⟨Lc166, hQ166, l166, y166, z166⟩, st166⟩ := Jvm.LawKit.callS X0 hx (y := (⟨"java/lang/Integer", "numberOfTrailingZeros", "(I)I"⟩ : MethodName)) hown (mvT hZ (hw _ (List.mem_of_getElem? (i := 70) rfl))) (mvT hZ (hw _ (List.mem_of_getElem? (i := 71) rfl))) (mvT hZ (hw _ (List.mem_of_getElem? (i := 72) rfl))) (mvT hZ (hw _ (List.mem_of_getElem? (i := 73) rfl))) (by decide) (backOf (W := 1) (rm13 l Z a0 hw [] ((jx.toUInt64 >>> ((32 : Int32) &&& 0x3f).toInt64.toUInt64).toInt64).toInt32 h0 n0 Z0) hZ (hw _ (List.mem_of_getElem? (i := 73) rfl)) (hw _ (List.mem_of_getElem? (i := 72) rfl)) (by decide) (by decide)) (g := (mkF m 14 #[.val (.long jx), .second, .val (.int w164)] [(.int ((jx.toUInt64 >>> ((32 : Int32) &&& 0x3f).toInt64.toUInt64).toInt64).toInt32), (.int (32 : Int32))])) rfl (by rw [hml]; rfl) (argsL := [(.int ((jx.toUInt64 >>> ((32 : Int32) &&& 0x3f).toInt64.toUInt64).toInt64).toInt32)]) (rest := [(.int (32 : Int32))]) (lenOf pd_0 rfl) rfl (by show 2 * 0 + _ ≤ _; exact Nat.le_of_eq rfl) (hb hby d12_14) (fun _ _ => ⟨rfl, e0, (by decide : 0 + 0 ≤ _), (by decide : 0 + 0 ≤ _)⟩)
    dsimp only [Pt.U, Pt.locs, Pt.cells, Pt.slots] at X166 l166 y166 z166 st166 hQ166
    subst l166 y166 z166
    obtain ⟨rfl, N166q, e166⟩ := hQ166
    have N166 := Fr.app N0 N166q
    have S167 : ∀ t, Steps p.tables e below (T166.setTop (mkF m 25 #[.val (.long jx), .second, .val (.int w164)] [(.int ((32 : Int32) + (f13 ((jx.toUInt64 >>> ((32 : Int32) &&& 0x3f).toInt64.toUInt64).toInt64).toInt32)))])) t → Steps p.tables e below (s₁.setTop (entryFrame m #[(.long jx)] 3)) t := by
      intro t k
      refine S163 t ?_
      refine XS.ifNo X0.here hx rfl (hb hby d12_4) rfl ((if0 _ _).trans (teq hc165).2) ?_
      show Steps p.tables e below (s₁.setTop (mkF m 7 #[.val (.long jx), .second, .val (.int w164)] [])) _
      refine XS.bipush X0.here hx rfl (hb hby d12_7) ?_
      show Steps p.tables e below (s₁.setTop (mkF m 9 #[.val (.long jx), .second, .val (.int w164)] [(.int (32 : Int32))])) _
      refine XS.lloadN X0.here hx rfl (hb hby d12_9) rfl ?_
      show Steps p.tables e below (s₁.setTop (mkF m 10 #[.val (.long jx), .second, .val (.int w164)] [(.long jx), (.int (32 : Int32))])) _
      refine XS.bipush X0.here hx rfl (hb hby d12_10) ?_
      show Steps p.tables e below (s₁.setTop (mkF m 12 #[.val (.long jx), .second, .val (.int w164)] [(.int (32 : Int32)), (.long jx), (.int (32 : Int32))])) _
      refine XS.lushr X0.here hx rfl (hb hby d12_12) rfl ?_
      show Steps p.tables e below (s₁.setTop (mkF m 13 #[.val (.long jx), .second, .val (.int w164)] [(.long ((jx.toUInt64 >>> ((32 : Int32) &&& 0x3f).toInt64.toUInt64).toInt64)), (.int (32 : Int32))])) _
      refine XS.l2i X0.here hx rfl (hb hby d12_13) rfl ?_
      show Steps p.tables e below (s₁.setTop (mkF m 14 #[.val (.long jx), .second, .val (.int w164)] [(.int ((jx.toUInt64 >>> ((32 : Int32) &&& 0x3f).toInt64.toUInt64).toInt64).toInt32), (.int (32 : Int32))])) _
      refine st166 _ ?_
      show Steps p.tables e below (T166.setTop (mkF m 17 #[.val (.long jx), .second, .val (.int w164)] [(.int (f13 ((jx.toUInt64 >>> ((32 : Int32) &&& 0x3f).toInt64.toUInt64).toInt64).toInt32)), (.int (32 : Int32))])) _
      refine XS.iadd X166.here hx rfl (hb hby d12_17) rfl ?_
      show Steps p.tables e below (T166.setTop (mkF m 18 #[.val (.long jx), .second, .val (.int w164)] [(.int ((32 : Int32) + (f13 ((jx.toUInt64 >>> ((32 : Int32) &&& 0x3f).toInt64.toUInt64).toInt64).toInt32)))])) _
      refine XS.goto X166.here hx rfl (pc0 := 18) (pc' := 25) rfl (hb hby d12_18) (by decide) (by decide) ?_
      show Steps p.tables e below (T166.setTop (mkF m 25 #[.val (.long jx), .second, .val (.int w164)] [(.int ((32 : Int32) + (f13 ((jx.toUInt64 >>> ((32 : Int32) &&& 0x3f).toInt64.toUInt64).toInt64).toInt32)))])) _
      exact k
    obtain ⟨w168, hw168⟩ : ∃ z : Int32, z = ((32 : Int32) + (f13 ((jx.toUInt64 >>> ((32 : Int32) &&& 0x3f).toInt64.toUInt64).toInt64).toInt32)) := ⟨_, rfl⟩
    rw [← hw168] at S167
    have hf : f12 jx = w168 := by
      unfold f12
      subst hw164 hw168
      rw [if_pos hc165]
    obtain ⟨fs, hr, hrun, hended, hW, hsame⟩ := X166.leave (v := some (.int w168)) (fun h => by rw [Bd.returns] at h; cases h)
    refine ⟨_, _, S167 _ ?_, hrun, hended, _, _, rfl, ?_, ⟨_, rfl⟩, hW, hsame.mono (by decide) (by decide)⟩
    · exact retOut X166 hx Bd.returns rfl (Or.inl ⟨rfl, Or.inl rfl, _, rfl⟩) (hb hby d12_25) hr
    · show Q12 Z jx h0 n0 _ T166.heap _
      rw [e166]
      exact ⟨by rw [hf], N166, rfl⟩
  · obtain ⟨_, _, ⟨T169, L169, k169, n169⟩, -, X169, ⟨Lc169, hQ169, l169, y169, z169⟩, st169⟩ := Jvm.LawKit.callS X0 hx (y := (⟨"java/lang/Integer", "numberOfTrailingZeros", "(I)I"⟩ : MethodName)) hown (mvT hZ (hw _ (List.mem_of_getElem? (i := 70) rfl))) (mvT hZ (hw _ (List.mem_of_getElem? (i := 71) rfl))) (mvT hZ (hw _ (List.mem_of_getElem? (i := 72) rfl))) (mvT hZ (hw _ (List.mem_of_getElem? (i := 73) rfl))) (by decide) (backOf (W := 0) (rm13 l Z a0 hw [] w164 h0 n0 Z0) hZ (hw _ (List.mem_of_getElem? (i := 73) rfl)) (hw _ (List.mem_of_getElem? (i := 72) rfl)) (by decide) (by decide)) (g := (mkF m 22 #[.val (.long jx), .second, .val (.int w164)] [(.int w164)])) rfl (by rw [hml]; rfl) (argsL := [(.int w164)]) (rest := []) (lenOf pd_0 rfl) rfl (by show 2 * 0 + _ ≤ _; exact Nat.le_of_eq rfl) (hb hby d12_22) (fun _ _ => ⟨rfl, e0, (by decide : 0 + 0 ≤ _), (by decide : 0 + 0 ≤ _)⟩)
    dsimp only [Pt.U, Pt.locs, Pt.cells, Pt.slots] at X169 l169 y169 z169 st169 hQ169
    subst l169 y169 z169
    obtain ⟨rfl, N169q, e169⟩ := hQ169
    have N169 := Fr.app N0 N169q
    have S170 : ∀ t, Steps p.tables e below (T169.setTop (mkF m 25 #[.val (.long jx), .second, .val (.int w164)] [(.int (f13 w164))])) t → Steps p.tables e below (s₁.setTop (entryFrame m #[(.long jx)] 3)) t := by
      intro t k
      refine S163 t ?_
      refine XS.ifYes X0.here hx rfl (pc0 := 4) (pc' := 21) rfl (hb hby d12_4) rfl ((if0 _ _).trans (feq hc165).2) (by decide) (by decide) ?_
      show Steps p.tables e below (s₁.setTop (mkF m 21 #[.val (.long jx), .second, .val (.int w164)] [])) _
      refine XS.iloadN X0.here hx rfl (hb hby d12_21) rfl ?_
      show Steps p.tables e below (s₁.setTop (mkF m 22 #[.val (.long jx), .second, .val (.int w164)] [(.int w164)])) _
      refine st169 _ ?_
      show Steps p.tables e below (T169.setTop (mkF m 25 #[.val (.long jx), .second, .val (.int w164)] [(.int (f13 w164))])) _
      exact k
    obtain ⟨w171, hw171⟩ : ∃ z : Int32, z = (f13 w164) := ⟨_, rfl⟩
    rw [← hw171] at S170
    have hf : f12 jx = w171 := by
      unfold f12
      subst hw164 hw171
      rw [if_neg hc165]
    obtain ⟨fs, hr, hrun, hended, hW, hsame⟩ := X169.leave (v := some (.int w171)) (fun h => by rw [Bd.returns] at h; cases h)
    refine ⟨_, _, S170 _ ?_, hrun, hended, _, _, rfl, ?_, ⟨_, rfl⟩, hW, hsame.mono (by decide) (by decide)⟩
    · exact retOut X169 hx Bd.returns rfl (Or.inl ⟨rfl, Or.inl rfl, _, rfl⟩) (hb hby d12_25) hr
    · show Q12 Z jx h0 n0 _ T169.heap _
      rw [e169]
      exact ⟨by rw [hf], N169, rfl⟩
theorem pd_1 : parseMethodDescriptor "(JJ)J" = some ⟨[.long, .long], some .long⟩ := by decide +kernel
def f3_first (fx : Int32) (z_first : Int32) (z_end : Int32) (x_scores : (Nat → UInt64)) (x_counts : (Nat → Int32)) (x_marked : (Nat → Int64)) : Int32 := fx
def f3_end (fx : Int32) (z_first : Int32) (z_end : Int32) (x_scores : (Nat → UInt64)) (x_counts : (Nat → Int32)) (x_marked : (Nat → Int64)) : Int32 := (f4 (fx.toInt64 + (2048 : Int64)) (2147483647 : Int64)).toInt32
def f3_scores (fx : Int32) (z_first : Int32) (z_end : Int32) (x_scores : (Nat → UInt64)) (x_counts : (Nat → Int32)) (x_marked : (Nat → Int64)) : (Nat → UInt64) := x_scores
def f3_counts (fx : Int32) (z_first : Int32) (z_end : Int32) (x_scores : (Nat → UInt64)) (x_counts : (Nat → Int32)) (x_marked : (Nat → Int64)) : (Nat → Int32) := x_counts
def f3_marked (fx : Int32) (z_first : Int32) (z_end : Int32) (x_scores : (Nat → UInt64)) (x_counts : (Nat → Int32)) (x_marked : (Nat → Int64)) : (Nat → Int64) := x_marked
theorem d3_0 : decode prog_62_method_2_code 0 = .ok (.iconst 0, 1) := by decide +kernel
theorem d3_1 : decode prog_62_method_2_code 1 = .ok (.istore_n 2, 1) := by decide +kernel
theorem d3_2 : decode prog_62_method_2_code 2 = .ok (.iload_n 2, 1) := by decide +kernel
theorem d3_3 : decode prog_62_method_2_code 3 = .ok (.aload_n 0, 1) := by decide +kernel
theorem d3_4 : decode prog_62_method_2_code 4 = .ok (.getfield 19, 3) := by decide +kernel
theorem d3_7 : decode prog_62_method_2_code 7 = .ok (.arraylength, 1) := by decide +kernel
theorem d3_8 : decode prog_62_method_2_code 8 = .ok (.if_icmp .ge 65, 3) := by decide +kernel
theorem d3_11 : decode prog_62_method_2_code 11 = .ok (.aload_n 0, 1) := by decide +kernel
theorem d3_12 : decode prog_62_method_2_code 12 = .ok (.getfield 19, 3) := by decide +kernel
theorem d3_15 : decode prog_62_method_2_code 15 = .ok (.iload_n 2, 1) := by decide +kernel
theorem d3_16 : decode prog_62_method_2_code 16 = .ok (.laload, 1) := by decide +kernel
theorem d3_17 : decode prog_62_method_2_code 17 = .ok (.lstore_n 3, 1) := by decide +kernel
theorem d3_18 : decode prog_62_method_2_code 18 = .ok (.lload_n 3, 1) := by decide +kernel
theorem d3_19 : decode prog_62_method_2_code 19 = .ok (.lconst 0, 1) := by decide +kernel
theorem d3_20 : decode prog_62_method_2_code 20 = .ok (.lcmp, 1) := by decide +kernel
theorem d3_21 : decode prog_62_method_2_code 21 = .ok (.ifCond .eq 39, 3) := by decide +kernel
theorem d3_24 : decode prog_62_method_2_code 24 = .ok (.iload_n 2, 1) := by decide +kernel
theorem d3_25 : decode prog_62_method_2_code 25 = .ok (.bipush 64, 2) := by decide +kernel
theorem d3_27 : decode prog_62_method_2_code 27 = .ok (.imul, 1) := by decide +kernel
theorem d3_28 : decode prog_62_method_2_code 28 = .ok (.lload_n 3, 1) := by decide +kernel
theorem d3_29 : decode prog_62_method_2_code 29 = .ok (.invokestatic 23, 3) := by decide +kernel
theorem d3_32 : decode prog_62_method_2_code 32 = .ok (.iadd, 1) := by decide +kernel
theorem d3_33 : decode prog_62_method_2_code 33 = .ok (.istore 5, 2) := by decide +kernel
theorem d3_35 : decode prog_62_method_2_code 35 = .ok (.aload_n 0, 1) := by decide +kernel
theorem d3_36 : decode prog_62_method_2_code 36 = .ok (.getfield 9, 3) := by decide +kernel
theorem d3_39 : decode prog_62_method_2_code 39 = .ok (.iload 5, 2) := by decide +kernel
theorem d3_41 : decode prog_62_method_2_code 41 = .ok (.dconst 0, 1) := by decide +kernel
theorem d3_42 : decode prog_62_method_2_code 42 = .ok (.dastore, 1) := by decide +kernel
theorem d3_43 : decode prog_62_method_2_code 43 = .ok (.aload_n 0, 1) := by decide +kernel
theorem d3_44 : decode prog_62_method_2_code 44 = .ok (.getfield 13, 3) := by decide +kernel
theorem d3_47 : decode prog_62_method_2_code 47 = .ok (.iload 5, 2) := by decide +kernel
theorem d3_49 : decode prog_62_method_2_code 49 = .ok (.iconst 0, 1) := by decide +kernel
theorem d3_50 : decode prog_62_method_2_code 50 = .ok (.iastore, 1) := by decide +kernel
theorem d3_51 : decode prog_62_method_2_code 51 = .ok (.lload_n 3, 1) := by decide +kernel
theorem d3_52 : decode prog_62_method_2_code 52 = .ok (.lload_n 3, 1) := by decide +kernel
theorem d3_53 : decode prog_62_method_2_code 53 = .ok (.lconst 1, 1) := by decide +kernel
theorem d3_54 : decode prog_62_method_2_code 54 = .ok (.lsub, 1) := by decide +kernel
theorem d3_55 : decode prog_62_method_2_code 55 = .ok (.land, 1) := by decide +kernel
theorem d3_56 : decode prog_62_method_2_code 56 = .ok (.lstore_n 3, 1) := by decide +kernel
theorem d3_57 : decode prog_62_method_2_code 57 = .ok (.goto (-39), 3) := by decide +kernel
theorem d3_60 : decode prog_62_method_2_code 60 = .ok (.aload_n 0, 1) := by decide +kernel
theorem d3_61 : decode prog_62_method_2_code 61 = .ok (.getfield 19, 3) := by decide +kernel
theorem d3_64 : decode prog_62_method_2_code 64 = .ok (.iload_n 2, 1) := by decide +kernel
theorem d3_65 : decode prog_62_method_2_code 65 = .ok (.lconst 0, 1) := by decide +kernel
theorem d3_66 : decode prog_62_method_2_code 66 = .ok (.lastore, 1) := by decide +kernel
theorem d3_67 : decode prog_62_method_2_code 67 = .ok (.iinc 2 1, 3) := by decide +kernel
theorem d3_70 : decode prog_62_method_2_code 70 = .ok (.goto (-68), 3) := by decide +kernel
theorem d3_73 : decode prog_62_method_2_code 73 = .ok (.aload_n 0, 1) := by decide +kernel
theorem d3_74 : decode prog_62_method_2_code 74 = .ok (.iload_n 1, 1) := by decide +kernel
theorem d3_75 : decode prog_62_method_2_code 75 = .ok (.putfield 27, 3) := by decide +kernel
theorem d3_78 : decode prog_62_method_2_code 78 = .ok (.aload_n 0, 1) := by decide +kernel
theorem d3_79 : decode prog_62_method_2_code 79 = .ok (.iload_n 1, 1) := by decide +kernel
theorem d3_80 : decode prog_62_method_2_code 80 = .ok (.i2l, 1) := by decide +kernel
theorem d3_81 : decode prog_62_method_2_code 81 = .ok (.ldc2_w 31, 3) := by decide +kernel
theorem d3_84 : decode prog_62_method_2_code 84 = .ok (.ladd, 1) := by decide +kernel
theorem d3_85 : decode prog_62_method_2_code 85 = .ok (.ldc2_w 35, 3) := by decide +kernel
theorem d3_88 : decode prog_62_method_2_code 88 = .ok (.invokestatic 37, 3) := by decide +kernel
theorem d3_91 : decode prog_62_method_2_code 91 = .ok (.l2i, 1) := by decide +kernel
theorem d3_92 : decode prog_62_method_2_code 92 = .ok (.putfield 43, 3) := by decide +kernel
theorem d3_95 : decode prog_62_method_2_code 95 = .ok (.return_, 1) := by decide +kernel
theorem ef_3 (m : MethodId) (x0 : Addr) (x1 : Int32) : entryFrame m #[(.ref x0), (.int x1)] 6 = mkF m 0 #[.val (.ref x0), .val (.int x1), .unset, .unset, .unset, .unset] [] := by first | (simp [entryFrame, mkF, argsToLocals, Value.category]; done) | rfl
def Q3 (Z : State) (a1 : Addr) (fx : Int32) (z_scores : Addr) (z_counts : Addr) (z_marked : Addr) (z_first : Int32) (z_end : Int32) (k_scores : ClassId) (x_scores : (Nat → UInt64)) (k_counts : ClassId) (x_counts : (Nat → Int32)) (k_marked : ClassId) (x_marked : (Nat → Int64)) (h0 : Heap) (n0 : Nat) (v : Option Value) (h : Heap) (L : List Loc) : Prop := v = none ∧ Fr n0 L ∧ Keep h0 h [a1, z_scores, z_counts, z_marked] ∧ Exa Z h a1 "com/example/libclause/libclause/search/ScoreWindow" ∧ Fld Z h a1 "com/example/libclause/libclause/search/ScoreWindow" "scores" "[D" (.ref z_scores) ∧ Fld Z h a1 "com/example/libclause/libclause/search/ScoreWindow" "counts" "[I" (.ref z_counts) ∧ Fld Z h a1 "com/example/libclause/libclause/search/ScoreWindow" "marked" "[J" (.ref z_marked) ∧ Fld Z h a1 "com/example/libclause/libclause/search/ScoreWindow" "first" "I" (.int (f3_first fx z_first z_end x_scores x_counts x_marked)) ∧ Fld Z h a1 "com/example/libclause/libclause/search/ScoreWindow" "end" "I" (.int (f3_end fx z_first z_end x_scores x_counts x_marked)) ∧ Arv Z h z_scores k_scores .double (2048 : Int32) (own_D (f3_scores fx z_first z_end x_scores x_counts x_marked)) (.double (0 : UInt64)) ∧ Arv Z h z_counts k_counts .int (2048 : Int32) (own_E (f3_counts fx z_first z_end x_scores x_counts x_marked)) (.int (0 : Int32)) ∧ Arv Z h z_marked k_marked .long (32 : Int32) (own_L (f3_marked fx z_first z_end x_scores x_counts x_marked)) (.long (0 : Int64))
set_option maxRecDepth 65536 in
set_option maxHeartbeats 40000000 in
theorem rm3 (l : Launch) (Z : State) (a0 : Array Value) (hw : ∀ d ∈ tables_1, d.before a0 Z = true) (ws : List Jvm.Cond) (a1 : Addr) (fx : Int32) (z_scores : Addr) (z_counts : Addr) (z_marked : Addr) (z_first : Int32) (z_end : Int32) (k_scores : ClassId) (x_scores : (Nat → UInt64)) (k_counts : ClassId) (x_counts : (Nat → Int32)) (k_marked : ClassId) (x_marked : (Nat → Int64)) (h0 : Heap) (n0 : Nat) (Z0 : n0 ≤ h0.size) (E1 : Exa Z h0 a1 "com/example/libclause/libclause/search/ScoreWindow") (F_scores_a1 : Fld Z h0 a1 "com/example/libclause/libclause/search/ScoreWindow" "scores" "[D" (.ref z_scores)) (F_counts_a1 : Fld Z h0 a1 "com/example/libclause/libclause/search/ScoreWindow" "counts" "[I" (.ref z_counts)) (F_marked_a1 : Fld Z h0 a1 "com/example/libclause/libclause/search/ScoreWindow" "marked" "[J" (.ref z_marked)) (F_first_a1 : Fld Z h0 a1 "com/example/libclause/libclause/search/ScoreWindow" "first" "I" (.int z_first)) (F_end_a1 : Fld Z h0 a1 "com/example/libclause/libclause/search/ScoreWindow" "end" "I" (.int z_end)) (g1 : n0 ≤ a1) (V_scores : Arv Z h0 z_scores k_scores .double (2048 : Int32) (own_D x_scores) (.double (0 : UInt64))) (g_scores : n0 ≤ z_scores) (ne_scores : a1 ≠ z_scores) (V_counts : Arv Z h0 z_counts k_counts .int (2048 : Int32) (own_E x_counts) (.int (0 : Int32))) (g_counts : n0 ≤ z_counts) (ne_counts : a1 ≠ z_counts) (V_marked : Arv Z h0 z_marked k_marked .long (32 : Int32) (own_L x_marked) (.long (0 : Int64))) (g_marked : n0 ≤ z_marked) (ne_marked : a1 ≠ z_marked) (ne_counts_scores : z_counts ≠ z_scores) (ne_marked_scores : z_marked ≠ z_scores) (ne_marked_counts : z_marked ≠ z_counts) (hz : ∀ i, x_marked i = 0) :
    MetFree l (⟨"com/example/libclause/libclause/search/ScoreWindow", "start", "(I)V"⟩ : MethodName) (head1 (Jvm.Cond.code (⟨"com/example/libclause/libclause/search/ScoreWindow", "start", "(I)V"⟩ : MethodName) prog_62_method_2_code 6 none :: ws) ({ frames := 1, cells := 0, slots := 0, locals := 16 } : Room)) (fun a U => a = #[(.ref a1), (.int fx)] ∧ Z.Warmed39 U.vm ∧ U.heap = h0) (fun _ _ _ _ _ => True) (fun _ U o U' => ∃ v L, o = .returned v ∧ Q3 Z a1 fx z_scores z_counts z_marked z_first z_end k_scores x_scores k_counts x_counts k_marked x_marked h0 n0 v U'.heap L ∧ FrameEnd U o U' L ({ frames := 1, cells := 0, slots := 0, locals := 16 } : Room).cells ({ frames := 1, cells := 0, slots := 0, locals := 16 } : Room).slots) := by
  refine MetFree.of_bodySF (plainFor_of_name pn_0) hisR ?_
  intro p e s m args below meth c s₁ Bd hml0 hP hK
  obtain ⟨rfl, hZ, hh⟩ := hP
  have hx := Bd.exec
  have hby := Bd.bytes
  have hml : c.maxLocals = 6 := hml0
  have hown : s.vm.findClass "com/example/libclause/libclause/search/ScoreWindow" = some m.cls := findClass_of_methodNamed Bd.named
  have hnm := (name_of_methodNamed Bd.named Bd.method).1
  have X0 : Stand p l e ({ frames := 1, cells := 0, slots := 0, locals := 16 } : Room) s m #[(.ref a1), (.int fx)] below meth c s₁ [] 0 0 := Stand.of_body Bd
  have e0 : s₁.heap = h0 := by rw [← hh, Bd.state]; rfl
  have N0 := Fr.nil n0
  have pre0 : ∀ t, Steps p.tables e below (s₁.setTop (mkF m 0 #[.val (.ref a1), .val (.int fx), .unset, .unset, .unset, .unset] [])) t → Steps p.tables e below (s₁.setTop (entryFrame m #[(.ref a1), (.int fx)] 6)) t := fun t k => castTop (ef_3 m a1 fx) k
  obtain ⟨T172, X172, e172, st172⟩ := getF X0 hx hZ hown (host := "") (Or.inl (hw _ (List.mem_of_getElem? (i := 17) rfl))) Via.refl e0 F_marked_a1 (g := (mkF m 4 #[.val (.ref a1), .val (.int fx), .val (.int (0 : Int32)), .unset, .unset, .unset] [(.ref a1), (.int (0 : Int32))])) rfl rfl (hb hby d3_4)
  obtain ⟨cl173, Ar173, qa173, Sa173, Na173, Ha173, Ga173⟩ := id V_marked
  obtain ⟨T174, X174, e174, st174⟩ := getF X172 hx hZ hown (host := "") (Or.inl (hw _ (List.mem_of_getElem? (i := 17) rfl))) Via.refl e172 F_marked_a1 (g := (mkF m 12 #[.val (.ref a1), .val (.int fx), .val (.int (0 : Int32)), .unset, .unset, .unset] [(.ref a1)])) rfl rfl (hb hby d3_12)
  obtain ⟨cl175, Ar175, qa175, Sa175, Na175, Ha175, Ga175⟩ := id V_marked
  have hin175 : ¬ ((0 : Int32) < 0 ∨ cl175.slots.size ≤ ((0 : Int32)).toNatClampNeg) := inb_of Sa175 ⟨by decide, by decide⟩
  obtain ⟨T176, X176, e176, st176⟩ := getF X174 hx hZ hown (host := "") (Or.inl (hw _ (List.mem_of_getElem? (i := 17) rfl))) Via.refl e174 F_marked_a1 (g := (mkF m 61 #[.val (.ref a1), .val (.int fx), .val (.int (0 : Int32)), .val (.long (0 : Int64)), .second, .unset] [(.ref a1)])) rfl rfl (hb hby d3_61)
  obtain ⟨cl177, Ar177, qa177, Sa177, Na177, Ha177, Ga177⟩ := id V_marked
  have hin177 : ¬ ((0 : Int32) < 0 ∨ cl177.slots.size ≤ ((0 : Int32)).toNatClampNeg) := inb_of Sa177 ⟨by decide, by decide⟩
  obtain ⟨T178, h178, X178, e178, W178, st178⟩ := stJ X176 hx hZ e176 Ar177 (j := (0 : Int32)) hin177 (g := (mkF m 66 #[.val (.ref a1), .val (.int fx), .val (.int (0 : Int32)), .val (.long (0 : Int64)), .second, .unset] [(.long (0 : Int64)), (.int (0 : Int32)), (.ref z_marked)])) rfl rfl (hb hby d3_66)
  have fa178 : Arv Z h178 z_marked k_marked .long (32 : Int32) (own_L x_marked) (.long (0 : Int64)) := (Arv.set Ar177 qa177 Sa177 Na177 Ha177 Ga177 rfl W178 ((0 : Int32)).toNatClampNeg rfl (own_Ll x_marked (own_ixl (j := (0 : Int32)) ⟨by decide, by decide⟩))).pad (own_Lsame x_marked hz (own_ixl (j := (0 : Int32)) ⟨by decide, by decide⟩))
  have f179 : Exa Z h178 a1 "com/example/libclause/libclause/search/ScoreWindow" := E1.wr W178
  have f180 : Fld Z h178 a1 "com/example/libclause/libclause/search/ScoreWindow" "scores" "[D" (.ref z_scores) := F_scores_a1.other W178 (Or.inl ne_marked)
  have f181 : Fld Z h178 a1 "com/example/libclause/libclause/search/ScoreWindow" "counts" "[I" (.ref z_counts) := F_counts_a1.other W178 (Or.inl ne_marked)
  have f182 : Fld Z h178 a1 "com/example/libclause/libclause/search/ScoreWindow" "marked" "[J" (.ref z_marked) := F_marked_a1.other W178 (Or.inl ne_marked)
  have f183 : Fld Z h178 a1 "com/example/libclause/libclause/search/ScoreWindow" "first" "I" (.int z_first) := F_first_a1.other W178 (Or.inl ne_marked)
  have f184 : Fld Z h178 a1 "com/example/libclause/libclause/search/ScoreWindow" "end" "I" (.int z_end) := F_end_a1.other W178 (Or.inl ne_marked)
  have f185 : Arv Z h178 z_scores k_scores .double (2048 : Int32) (own_D x_scores) (.double (0 : UInt64)) := V_scores.other W178 (Ne.symm ne_marked_scores)
  have f186 : Arv Z h178 z_counts k_counts .int (2048 : Int32) (own_E x_counts) (.int (0 : Int32)) := V_counts.other W178 (Ne.symm ne_marked_counts)
  have N187 := Fr.snoc X178 N0 g_marked
  have K188 : Keep h0 h178 [a1, z_scores, z_counts, z_marked] := (Keep.refl h0 [a1, z_scores, z_counts, z_marked]).wr W178 (Or.inl (List.mem_of_getElem? (i := 3) rfl))
  have Z189 : n0 ≤ h178.size := Nat.le_trans Z0 (Keep.of_wr W178).1
  have S190 : ∀ t, Steps p.tables e below (T178.setTop (mkF m 70 #[.val (.ref a1), .val (.int fx), .val (.int (1 : Int32)), .val (.long (0 : Int64)), .second, .unset] [])) t → Steps p.tables e below (s₁.setTop (entryFrame m #[(.ref a1), (.int fx)] 6)) t := by
    intro t k
    refine pre0 t ?_
    refine XS.iconst X0.here hx rfl (hb hby d3_0) ?_
    show Steps p.tables e below (s₁.setTop (mkF m 1 #[.val (.ref a1), .val (.int fx), .unset, .unset, .unset, .unset] [(.int (0 : Int32))])) _
    refine XS.istoreN X0.here hx rfl (hb hby d3_1) rfl (l' := #[.val (.ref a1), .val (.int fx), .val (.int (0 : Int32)), .unset, .unset, .unset]) rfl ?_
    show Steps p.tables e below (s₁.setTop (mkF m 2 #[.val (.ref a1), .val (.int fx), .val (.int (0 : Int32)), .unset, .unset, .unset] [])) _
    refine XS.iloadN X0.here hx rfl (hb hby d3_2) rfl ?_
    show Steps p.tables e below (s₁.setTop (mkF m 3 #[.val (.ref a1), .val (.int fx), .val (.int (0 : Int32)), .unset, .unset, .unset] [(.int (0 : Int32))])) _
    refine XS.aloadN X0.here hx rfl (hb hby d3_3) rfl rfl ?_
    show Steps p.tables e below (s₁.setTop (mkF m 4 #[.val (.ref a1), .val (.int fx), .val (.int (0 : Int32)), .unset, .unset, .unset] [(.ref a1), (.int (0 : Int32))])) _
    refine st172 _ ?_
    show Steps p.tables e below (T172.setTop (mkF m 7 #[.val (.ref a1), .val (.int fx), .val (.int (0 : Int32)), .unset, .unset, .unset] [(.ref z_marked), (.int (0 : Int32))])) _
    refine X172.arraylength hx (by rw [e172]; exact Ar173.1) (State.isArrayOf_alike hZ.alike Ar173.2.1) (g := (mkF m 7 #[.val (.ref a1), .val (.int fx), .val (.int (0 : Int32)), .unset, .unset, .unset] [(.ref z_marked), (.int (0 : Int32))])) rfl rfl (hb hby d3_7) _ ?_
    rw [len_of Sa173 Na173]
    show Steps p.tables e below (T172.setTop (mkF m 8 #[.val (.ref a1), .val (.int fx), .val (.int (0 : Int32)), .unset, .unset, .unset] [(.int (32 : Int32)), (.int (0 : Int32))])) _
    refine XS.icmpNo X172.here hx rfl (hb hby d3_8) rfl (tlt (by decide : (0 : Int32) < (32 : Int32))).2.1 ?_
    show Steps p.tables e below (T172.setTop (mkF m 11 #[.val (.ref a1), .val (.int fx), .val (.int (0 : Int32)), .unset, .unset, .unset] [])) _
    refine XS.aloadN X172.here hx rfl (hb hby d3_11) rfl rfl ?_
    show Steps p.tables e below (T172.setTop (mkF m 12 #[.val (.ref a1), .val (.int fx), .val (.int (0 : Int32)), .unset, .unset, .unset] [(.ref a1)])) _
    refine st174 _ ?_
    show Steps p.tables e below (T174.setTop (mkF m 15 #[.val (.ref a1), .val (.int fx), .val (.int (0 : Int32)), .unset, .unset, .unset] [(.ref z_marked)])) _
    refine XS.iloadN X174.here hx rfl (hb hby d3_15) rfl ?_
    show Steps p.tables e below (T174.setTop (mkF m 16 #[.val (.ref a1), .val (.int fx), .val (.int (0 : Int32)), .unset, .unset, .unset] [(.int (0 : Int32)), (.ref z_marked)])) _
    refine X174.laload hx (j := (0 : Int32)) (v := (.long (0 : Int64))) (by rw [e174]; exact Ar175.1) (State.isArrayOf_alike hZ.alike Ar175.2.1) Ar175.2.2 hin175 (Has.at Ha175 hin175 (own_rd0 x_marked hz (j := (0 : Int32)) ⟨by decide, by decide⟩)) (g := (mkF m 16 #[.val (.ref a1), .val (.int fx), .val (.int (0 : Int32)), .unset, .unset, .unset] [(.int (0 : Int32)), (.ref z_marked)])) rfl rfl (hb hby d3_16) _ ?_
    show Steps p.tables e below (T174.setTop (mkF m 17 #[.val (.ref a1), .val (.int fx), .val (.int (0 : Int32)), .unset, .unset, .unset] [(.long (0 : Int64))])) _
    refine XS.lstoreN X174.here hx rfl (hb hby d3_17) rfl (l' := #[.val (.ref a1), .val (.int fx), .val (.int (0 : Int32)), .val (.long (0 : Int64)), .second, .unset]) rfl ?_
    show Steps p.tables e below (T174.setTop (mkF m 18 #[.val (.ref a1), .val (.int fx), .val (.int (0 : Int32)), .val (.long (0 : Int64)), .second, .unset] [])) _
    refine XS.lloadN X174.here hx rfl (hb hby d3_18) rfl ?_
    show Steps p.tables e below (T174.setTop (mkF m 19 #[.val (.ref a1), .val (.int fx), .val (.int (0 : Int32)), .val (.long (0 : Int64)), .second, .unset] [(.long (0 : Int64))])) _
    refine XS.lconst X174.here hx rfl (hb hby d3_19) ?_
    show Steps p.tables e below (T174.setTop (mkF m 20 #[.val (.ref a1), .val (.int fx), .val (.int (0 : Int32)), .val (.long (0 : Int64)), .second, .unset] [(.long (0 : Int64)), (.long (0 : Int64))])) _
    refine XS.lcmp X174.here hx rfl (hb hby d3_20) rfl ?_
    show Steps p.tables e below (T174.setTop (mkF m 21 #[.val (.ref a1), .val (.int fx), .val (.int (0 : Int32)), .val (.long (0 : Int64)), .second, .unset] [(.int (lcmpW (0 : Int64) (0 : Int64)))])) _
    refine XS.ifYes X174.here hx rfl (pc0 := 21) (pc' := 60) rfl (hb hby d3_21) rfl ((if0 _ _).trans (teq rfl).1) (by decide) (by decide) ?_
    show Steps p.tables e below (T174.setTop (mkF m 60 #[.val (.ref a1), .val (.int fx), .val (.int (0 : Int32)), .val (.long (0 : Int64)), .second, .unset] [])) _
    refine XS.aloadN X174.here hx rfl (hb hby d3_60) rfl rfl ?_
    show Steps p.tables e below (T174.setTop (mkF m 61 #[.val (.ref a1), .val (.int fx), .val (.int (0 : Int32)), .val (.long (0 : Int64)), .second, .unset] [(.ref a1)])) _
    refine st176 _ ?_
    show Steps p.tables e below (T176.setTop (mkF m 64 #[.val (.ref a1), .val (.int fx), .val (.int (0 : Int32)), .val (.long (0 : Int64)), .second, .unset] [(.ref z_marked)])) _
    refine XS.iloadN X176.here hx rfl (hb hby d3_64) rfl ?_
    show Steps p.tables e below (T176.setTop (mkF m 65 #[.val (.ref a1), .val (.int fx), .val (.int (0 : Int32)), .val (.long (0 : Int64)), .second, .unset] [(.int (0 : Int32)), (.ref z_marked)])) _
    refine XS.lconst X176.here hx rfl (hb hby d3_65) ?_
    show Steps p.tables e below (T176.setTop (mkF m 66 #[.val (.ref a1), .val (.int fx), .val (.int (0 : Int32)), .val (.long (0 : Int64)), .second, .unset] [(.long (0 : Int64)), (.int (0 : Int32)), (.ref z_marked)])) _
    refine st178 _ ?_
    show Steps p.tables e below (T178.setTop (mkF m 67 #[.val (.ref a1), .val (.int fx), .val (.int (0 : Int32)), .val (.long (0 : Int64)), .second, .unset] [])) _
    refine XS.iinc X178.here hx rfl (hb hby d3_67) rfl (l' := #[.val (.ref a1), .val (.int fx), .val (.int (1 : Int32)), .val (.long (0 : Int64)), .second, .unset]) rfl ?_
    show Steps p.tables e below (T178.setTop (mkF m 70 #[.val (.ref a1), .val (.int fx), .val (.int (1 : Int32)), .val (.long (0 : Int64)), .second, .unset] [])) _
    exact k
  have loop191 : ∀ (k : Nat) (w : Int32) (T : State) (L : List Loc) (H : Heap), own_sk k w → Stand p l e ({ frames := 1, cells := 0, slots := 0, locals := 16 } : Room) s m #[(.ref a1), (.int fx)] below meth c T L 0 0 → Fr n0 L → T.heap = H → Keep h0 H [a1, z_scores, z_counts, z_marked] → n0 ≤ H.size → Exa Z H a1 "com/example/libclause/libclause/search/ScoreWindow" → Fld Z H a1 "com/example/libclause/libclause/search/ScoreWindow" "scores" "[D" (.ref z_scores) → Fld Z H a1 "com/example/libclause/libclause/search/ScoreWindow" "counts" "[I" (.ref z_counts) → Fld Z H a1 "com/example/libclause/libclause/search/ScoreWindow" "marked" "[J" (.ref z_marked) → Fld Z H a1 "com/example/libclause/libclause/search/ScoreWindow" "first" "I" (.int z_first) → Fld Z H a1 "com/example/libclause/libclause/search/ScoreWindow" "end" "I" (.int z_end) → Arv Z H z_scores k_scores .double (2048 : Int32) (own_D x_scores) (.double (0 : UInt64)) → Arv Z H z_counts k_counts .int (2048 : Int32) (own_E x_counts) (.int (0 : Int32)) → Arv Z H z_marked k_marked .long (32 : Int32) (own_L x_marked) (.long (0 : Int64)) → (∀ t, Steps p.tables e below (T.setTop (mkF m 70 #[.val (.ref a1), .val (.int fx), .val (.int w), .val (.long (0 : Int64)), .second, .unset] [])) t → Steps p.tables e below (s₁.setTop (entryFrame m #[(.ref a1), (.int fx)] 6)) t) → ∃ (T' : State) (L' : List Loc) (H' : Heap), Stand p l e ({ frames := 1, cells := 0, slots := 0, locals := 16 } : Room) s m #[(.ref a1), (.int fx)] below meth c T' L' 0 0 ∧ Fr n0 L' ∧ T'.heap = H' ∧ Keep h0 H' [a1, z_scores, z_counts, z_marked] ∧ n0 ≤ H'.size ∧ Exa Z H' a1 "com/example/libclause/libclause/search/ScoreWindow" ∧ Fld Z H' a1 "com/example/libclause/libclause/search/ScoreWindow" "scores" "[D" (.ref z_scores) ∧ Fld Z H' a1 "com/example/libclause/libclause/search/ScoreWindow" "counts" "[I" (.ref z_counts) ∧ Fld Z H' a1 "com/example/libclause/libclause/search/ScoreWindow" "marked" "[J" (.ref z_marked) ∧ Fld Z H' a1 "com/example/libclause/libclause/search/ScoreWindow" "first" "I" (.int z_first) ∧ Fld Z H' a1 "com/example/libclause/libclause/search/ScoreWindow" "end" "I" (.int z_end) ∧ Arv Z H' z_scores k_scores .double (2048 : Int32) (own_D x_scores) (.double (0 : UInt64)) ∧ Arv Z H' z_counts k_counts .int (2048 : Int32) (own_E x_counts) (.int (0 : Int32)) ∧ Arv Z H' z_marked k_marked .long (32 : Int32) (own_L x_marked) (.long (0 : Int64)) ∧ ∀ t, Steps p.tables e below (T'.setTop (mkF m 73 #[.val (.ref a1), .val (.int fx), .val (.int (32 : Int32)), .val (.long (0 : Int64)), .second, .unset] [])) t → Steps p.tables e below (s₁.setTop (entryFrame m #[(.ref a1), (.int fx)] 6)) t := by
    intro lc
    induction lc with
    | zero =>
      intro lw lT lL lH lk lX lN lE lK lZ lf0 lf1 lf2 lf3 lf4 lf5 lf6 lf7 lf8 lS
      obtain rfl := own_skz lk
      obtain ⟨T192, X192, e192, st192⟩ := getF lX hx hZ hown (host := "") (Or.inl (hw _ (List.mem_of_getElem? (i := 17) rfl))) Via.refl lE lf3 (g := (mkF m 4 #[.val (.ref a1), .val (.int fx), .val (.int (32 : Int32)), .val (.long (0 : Int64)), .second, .unset] [(.ref a1), (.int (32 : Int32))])) rfl rfl (hb hby d3_4)
      obtain ⟨cl193, Ar193, qa193, Sa193, Na193, Ha193, Ga193⟩ := id lf8
      have S194 : ∀ t, Steps p.tables e below (T192.setTop (mkF m 73 #[.val (.ref a1), .val (.int fx), .val (.int (32 : Int32)), .val (.long (0 : Int64)), .second, .unset] [])) t → Steps p.tables e below (s₁.setTop (entryFrame m #[(.ref a1), (.int fx)] 6)) t := by
        intro t k
        refine lS t ?_
        refine XS.goto lX.here hx rfl (pc0 := 70) (pc' := 2) rfl (hb hby d3_70) (by decide) (by decide) ?_
        show Steps p.tables e below (lT.setTop (mkF m 2 #[.val (.ref a1), .val (.int fx), .val (.int (32 : Int32)), .val (.long (0 : Int64)), .second, .unset] [])) _
        refine XS.iloadN lX.here hx rfl (hb hby d3_2) rfl ?_
        show Steps p.tables e below (lT.setTop (mkF m 3 #[.val (.ref a1), .val (.int fx), .val (.int (32 : Int32)), .val (.long (0 : Int64)), .second, .unset] [(.int (32 : Int32))])) _
        refine XS.aloadN lX.here hx rfl (hb hby d3_3) rfl rfl ?_
        show Steps p.tables e below (lT.setTop (mkF m 4 #[.val (.ref a1), .val (.int fx), .val (.int (32 : Int32)), .val (.long (0 : Int64)), .second, .unset] [(.ref a1), (.int (32 : Int32))])) _
        refine st192 _ ?_
        show Steps p.tables e below (T192.setTop (mkF m 7 #[.val (.ref a1), .val (.int fx), .val (.int (32 : Int32)), .val (.long (0 : Int64)), .second, .unset] [(.ref z_marked), (.int (32 : Int32))])) _
        refine X192.arraylength hx (by rw [e192]; exact Ar193.1) (State.isArrayOf_alike hZ.alike Ar193.2.1) (g := (mkF m 7 #[.val (.ref a1), .val (.int fx), .val (.int (32 : Int32)), .val (.long (0 : Int64)), .second, .unset] [(.ref z_marked), (.int (32 : Int32))])) rfl rfl (hb hby d3_7) _ ?_
        rw [len_of Sa193 Na193]
        show Steps p.tables e below (T192.setTop (mkF m 8 #[.val (.ref a1), .val (.int fx), .val (.int (32 : Int32)), .val (.long (0 : Int64)), .second, .unset] [(.int (32 : Int32)), (.int (32 : Int32))])) _
        refine XS.icmpYes X192.here hx rfl (pc0 := 8) (pc' := 73) rfl (hb hby d3_8) rfl (flt (by decide : ¬ ((32 : Int32) < (32 : Int32)))).2.1 (by decide) (by decide) ?_
        show Steps p.tables e below (T192.setTop (mkF m 73 #[.val (.ref a1), .val (.int fx), .val (.int (32 : Int32)), .val (.long (0 : Int64)), .second, .unset] [])) _
        exact k
      exact ⟨_, _, _, X192, lN, e192, lK, lZ, lf0, lf1, lf2, lf3, lf4, lf5, lf6, lf7, lf8, S194⟩
    | succ lc ih =>
      intro lw lT lL lH lk lX lN lE lK lZ lf0 lf1 lf2 lf3 lf4 lf5 lf6 lf7 lf8 lS
      obtain ⟨T195, X195, e195, st195⟩ := getF lX hx hZ hown (host := "") (Or.inl (hw _ (List.mem_of_getElem? (i := 17) rfl))) Via.refl lE lf3 (g := (mkF m 4 #[.val (.ref a1), .val (.int fx), .val (.int lw), .val (.long (0 : Int64)), .second, .unset] [(.ref a1), (.int lw)])) rfl rfl (hb hby d3_4)
      obtain ⟨cl196, Ar196, qa196, Sa196, Na196, Ha196, Ga196⟩ := id lf8
      obtain ⟨T197, X197, e197, st197⟩ := getF X195 hx hZ hown (host := "") (Or.inl (hw _ (List.mem_of_getElem? (i := 17) rfl))) Via.refl e195 lf3 (g := (mkF m 12 #[.val (.ref a1), .val (.int fx), .val (.int lw), .val (.long (0 : Int64)), .second, .unset] [(.ref a1)])) rfl rfl (hb hby d3_12)
      obtain ⟨cl198, Ar198, qa198, Sa198, Na198, Ha198, Ga198⟩ := id lf8
      have hin198 : ¬ (lw < 0 ∨ cl198.slots.size ≤ (lw).toNatClampNeg) := inb_of Sa198 (own_skb lk)
      obtain ⟨T199, X199, e199, st199⟩ := getF X197 hx hZ hown (host := "") (Or.inl (hw _ (List.mem_of_getElem? (i := 17) rfl))) Via.refl e197 lf3 (g := (mkF m 61 #[.val (.ref a1), .val (.int fx), .val (.int lw), .val (.long (0 : Int64)), .second, .unset] [(.ref a1)])) rfl rfl (hb hby d3_61)
      obtain ⟨cl200, Ar200, qa200, Sa200, Na200, Ha200, Ga200⟩ := id lf8
      have hin200 : ¬ (lw < 0 ∨ cl200.slots.size ≤ (lw).toNatClampNeg) := inb_of Sa200 (own_skb lk)
      obtain ⟨T201, h201, X201, e201, W201, st201⟩ := stJ X199 hx hZ e199 Ar200 (j := lw) hin200 (g := (mkF m 66 #[.val (.ref a1), .val (.int fx), .val (.int lw), .val (.long (0 : Int64)), .second, .unset] [(.long (0 : Int64)), (.int lw), (.ref z_marked)])) rfl rfl (hb hby d3_66)
      have fa201 : Arv Z h201 z_marked k_marked .long (32 : Int32) (own_L x_marked) (.long (0 : Int64)) := (Arv.set Ar200 qa200 Sa200 Na200 Ha200 Ga200 rfl W201 (lw).toNatClampNeg rfl (own_Ll x_marked (own_ixl (j := lw) (own_skb lk)))).pad (own_Lsame x_marked hz (own_ixl (j := lw) (own_skb lk)))
      have f202 : Exa Z h201 a1 "com/example/libclause/libclause/search/ScoreWindow" := lf0.wr W201
      have f203 : Fld Z h201 a1 "com/example/libclause/libclause/search/ScoreWindow" "scores" "[D" (.ref z_scores) := lf1.other W201 (Or.inl ne_marked)
      have f204 : Fld Z h201 a1 "com/example/libclause/libclause/search/ScoreWindow" "counts" "[I" (.ref z_counts) := lf2.other W201 (Or.inl ne_marked)
      have f205 : Fld Z h201 a1 "com/example/libclause/libclause/search/ScoreWindow" "marked" "[J" (.ref z_marked) := lf3.other W201 (Or.inl ne_marked)
      have f206 : Fld Z h201 a1 "com/example/libclause/libclause/search/ScoreWindow" "first" "I" (.int z_first) := lf4.other W201 (Or.inl ne_marked)
      have f207 : Fld Z h201 a1 "com/example/libclause/libclause/search/ScoreWindow" "end" "I" (.int z_end) := lf5.other W201 (Or.inl ne_marked)
      have f208 : Arv Z h201 z_scores k_scores .double (2048 : Int32) (own_D x_scores) (.double (0 : UInt64)) := lf6.other W201 (Ne.symm ne_marked_scores)
      have f209 : Arv Z h201 z_counts k_counts .int (2048 : Int32) (own_E x_counts) (.int (0 : Int32)) := lf7.other W201 (Ne.symm ne_marked_counts)
      have N210 := Fr.snoc X201 lN g_marked
      have K211 : Keep h0 h201 [a1, z_scores, z_counts, z_marked] := lK.wr W201 (Or.inl (List.mem_of_getElem? (i := 3) rfl))
      have Z212 : n0 ≤ h201.size := Nat.le_trans lZ (Keep.of_wr W201).1
      have S213 : ∀ t, Steps p.tables e below (T201.setTop (mkF m 70 #[.val (.ref a1), .val (.int fx), .val (.int (lw + (1 : Int32))), .val (.long (0 : Int64)), .second, .unset] [])) t → Steps p.tables e below (s₁.setTop (entryFrame m #[(.ref a1), (.int fx)] 6)) t := by
        intro t k
        refine lS t ?_
        refine XS.goto lX.here hx rfl (pc0 := 70) (pc' := 2) rfl (hb hby d3_70) (by decide) (by decide) ?_
        show Steps p.tables e below (lT.setTop (mkF m 2 #[.val (.ref a1), .val (.int fx), .val (.int lw), .val (.long (0 : Int64)), .second, .unset] [])) _
        refine XS.iloadN lX.here hx rfl (hb hby d3_2) rfl ?_
        show Steps p.tables e below (lT.setTop (mkF m 3 #[.val (.ref a1), .val (.int fx), .val (.int lw), .val (.long (0 : Int64)), .second, .unset] [(.int lw)])) _
        refine XS.aloadN lX.here hx rfl (hb hby d3_3) rfl rfl ?_
        show Steps p.tables e below (lT.setTop (mkF m 4 #[.val (.ref a1), .val (.int fx), .val (.int lw), .val (.long (0 : Int64)), .second, .unset] [(.ref a1), (.int lw)])) _
        refine st195 _ ?_
        show Steps p.tables e below (T195.setTop (mkF m 7 #[.val (.ref a1), .val (.int fx), .val (.int lw), .val (.long (0 : Int64)), .second, .unset] [(.ref z_marked), (.int lw)])) _
        refine X195.arraylength hx (by rw [e195]; exact Ar196.1) (State.isArrayOf_alike hZ.alike Ar196.2.1) (g := (mkF m 7 #[.val (.ref a1), .val (.int fx), .val (.int lw), .val (.long (0 : Int64)), .second, .unset] [(.ref z_marked), (.int lw)])) rfl rfl (hb hby d3_7) _ ?_
        rw [len_of Sa196 Na196]
        show Steps p.tables e below (T195.setTop (mkF m 8 #[.val (.ref a1), .val (.int fx), .val (.int lw), .val (.long (0 : Int64)), .second, .unset] [(.int (32 : Int32)), (.int lw)])) _
        refine XS.icmpNo X195.here hx rfl (hb hby d3_8) rfl (tlt (own_sks lk)).2.1 ?_
        show Steps p.tables e below (T195.setTop (mkF m 11 #[.val (.ref a1), .val (.int fx), .val (.int lw), .val (.long (0 : Int64)), .second, .unset] [])) _
        refine XS.aloadN X195.here hx rfl (hb hby d3_11) rfl rfl ?_
        show Steps p.tables e below (T195.setTop (mkF m 12 #[.val (.ref a1), .val (.int fx), .val (.int lw), .val (.long (0 : Int64)), .second, .unset] [(.ref a1)])) _
        refine st197 _ ?_
        show Steps p.tables e below (T197.setTop (mkF m 15 #[.val (.ref a1), .val (.int fx), .val (.int lw), .val (.long (0 : Int64)), .second, .unset] [(.ref z_marked)])) _
        refine XS.iloadN X197.here hx rfl (hb hby d3_15) rfl ?_
        show Steps p.tables e below (T197.setTop (mkF m 16 #[.val (.ref a1), .val (.int fx), .val (.int lw), .val (.long (0 : Int64)), .second, .unset] [(.int lw), (.ref z_marked)])) _
        refine X197.laload hx (j := lw) (v := (.long (0 : Int64))) (by rw [e197]; exact Ar198.1) (State.isArrayOf_alike hZ.alike Ar198.2.1) Ar198.2.2 hin198 (Has.at Ha198 hin198 (own_rd0 x_marked hz (j := lw) (own_skb lk))) (g := (mkF m 16 #[.val (.ref a1), .val (.int fx), .val (.int lw), .val (.long (0 : Int64)), .second, .unset] [(.int lw), (.ref z_marked)])) rfl rfl (hb hby d3_16) _ ?_
        show Steps p.tables e below (T197.setTop (mkF m 17 #[.val (.ref a1), .val (.int fx), .val (.int lw), .val (.long (0 : Int64)), .second, .unset] [(.long (0 : Int64))])) _
        refine XS.lstoreN X197.here hx rfl (hb hby d3_17) rfl (l' := #[.val (.ref a1), .val (.int fx), .val (.int lw), .val (.long (0 : Int64)), .second, .unset]) rfl ?_
        show Steps p.tables e below (T197.setTop (mkF m 18 #[.val (.ref a1), .val (.int fx), .val (.int lw), .val (.long (0 : Int64)), .second, .unset] [])) _
        refine XS.lloadN X197.here hx rfl (hb hby d3_18) rfl ?_
        show Steps p.tables e below (T197.setTop (mkF m 19 #[.val (.ref a1), .val (.int fx), .val (.int lw), .val (.long (0 : Int64)), .second, .unset] [(.long (0 : Int64))])) _
        refine XS.lconst X197.here hx rfl (hb hby d3_19) ?_
        show Steps p.tables e below (T197.setTop (mkF m 20 #[.val (.ref a1), .val (.int fx), .val (.int lw), .val (.long (0 : Int64)), .second, .unset] [(.long (0 : Int64)), (.long (0 : Int64))])) _
        refine XS.lcmp X197.here hx rfl (hb hby d3_20) rfl ?_
        show Steps p.tables e below (T197.setTop (mkF m 21 #[.val (.ref a1), .val (.int fx), .val (.int lw), .val (.long (0 : Int64)), .second, .unset] [(.int (lcmpW (0 : Int64) (0 : Int64)))])) _
        refine XS.ifYes X197.here hx rfl (pc0 := 21) (pc' := 60) rfl (hb hby d3_21) rfl ((if0 _ _).trans (teq rfl).1) (by decide) (by decide) ?_
        show Steps p.tables e below (T197.setTop (mkF m 60 #[.val (.ref a1), .val (.int fx), .val (.int lw), .val (.long (0 : Int64)), .second, .unset] [])) _
        refine XS.aloadN X197.here hx rfl (hb hby d3_60) rfl rfl ?_
        show Steps p.tables e below (T197.setTop (mkF m 61 #[.val (.ref a1), .val (.int fx), .val (.int lw), .val (.long (0 : Int64)), .second, .unset] [(.ref a1)])) _
        refine st199 _ ?_
        show Steps p.tables e below (T199.setTop (mkF m 64 #[.val (.ref a1), .val (.int fx), .val (.int lw), .val (.long (0 : Int64)), .second, .unset] [(.ref z_marked)])) _
        refine XS.iloadN X199.here hx rfl (hb hby d3_64) rfl ?_
        show Steps p.tables e below (T199.setTop (mkF m 65 #[.val (.ref a1), .val (.int fx), .val (.int lw), .val (.long (0 : Int64)), .second, .unset] [(.int lw), (.ref z_marked)])) _
        refine XS.lconst X199.here hx rfl (hb hby d3_65) ?_
        show Steps p.tables e below (T199.setTop (mkF m 66 #[.val (.ref a1), .val (.int fx), .val (.int lw), .val (.long (0 : Int64)), .second, .unset] [(.long (0 : Int64)), (.int lw), (.ref z_marked)])) _
        refine st201 _ ?_
        show Steps p.tables e below (T201.setTop (mkF m 67 #[.val (.ref a1), .val (.int fx), .val (.int lw), .val (.long (0 : Int64)), .second, .unset] [])) _
        refine XS.iinc X201.here hx rfl (hb hby d3_67) rfl (l' := #[.val (.ref a1), .val (.int fx), .val (.int (lw + (1 : Int32))), .val (.long (0 : Int64)), .second, .unset]) rfl ?_
        show Steps p.tables e below (T201.setTop (mkF m 70 #[.val (.ref a1), .val (.int fx), .val (.int (lw + (1 : Int32))), .val (.long (0 : Int64)), .second, .unset] [])) _
        exact k
      exact ih _ _ _ _ (own_skn lk) X201 N210 e201 K211 Z212 f202 f203 f204 f205 f206 f207 f208 f209 fa201 S213
  obtain ⟨T191, L191, H191, X191, N191, e191, K191, Z191, fl191_0, fl191_1, fl191_2, fl191_3, fl191_4, fl191_5, fl191_6, fl191_7, fl191_8, S191⟩ := loop191 31 _ _ _ _ own_ski X178 N187 e178 K188 Z189 f179 f180 f181 f182 f183 f184 f185 f186 fa178 S190
  obtain ⟨T214, h214, X214, e214, W214, st214⟩ := putF X191 hx hZ hown (host := "") (Or.inl (hw _ (List.mem_of_getElem? (i := 24) rfl))) Via.refl e191 fl191_4 fl191_0 (Or.inl (hw _ (List.mem_of_getElem? (i := 25) rfl))) (hw _ (List.mem_of_getElem? (i := 2) rfl)) (ty := .int) (by decide) rfl rfl (g := (mkF m 75 #[.val (.ref a1), .val (.int fx), .val (.int (32 : Int32)), .val (.long (0 : Int64)), .second, .unset] [(.int fx), (.ref a1)])) rfl rfl (hb hby d3_75)
  have f215 : Exa Z h214 a1 "com/example/libclause/libclause/search/ScoreWindow" := fl191_0.wr W214
  have f216 : Fld Z h214 a1 "com/example/libclause/libclause/search/ScoreWindow" "scores" "[D" (.ref z_scores) := fl191_1.other W214 (Or.inr (slot_ne (Or.inr (hw _ (List.mem_of_getElem? (i := 12) rfl))) (Or.inl (hw _ (List.mem_of_getElem? (i := 25) rfl))) (by decide) (t := (.array .double)) (t' := .int) (by decide) (by decide)))
  have f217 : Fld Z h214 a1 "com/example/libclause/libclause/search/ScoreWindow" "counts" "[I" (.ref z_counts) := fl191_2.other W214 (Or.inr (slot_ne (Or.inr (hw _ (List.mem_of_getElem? (i := 15) rfl))) (Or.inl (hw _ (List.mem_of_getElem? (i := 25) rfl))) (by decide) (t := (.array .int)) (t' := .int) (by decide) (by decide)))
  have f218 : Fld Z h214 a1 "com/example/libclause/libclause/search/ScoreWindow" "marked" "[J" (.ref z_marked) := fl191_3.other W214 (Or.inr (slot_ne (Or.inr (hw _ (List.mem_of_getElem? (i := 18) rfl))) (Or.inl (hw _ (List.mem_of_getElem? (i := 25) rfl))) (by decide) (t := (.array .long)) (t' := .int) (by decide) (by decide)))
  have f219 : Fld Z h214 a1 "com/example/libclause/libclause/search/ScoreWindow" "first" "I" (.int fx) := fl191_4.same W214
  have f220 : Fld Z h214 a1 "com/example/libclause/libclause/search/ScoreWindow" "end" "I" (.int z_end) := fl191_5.other W214 (Or.inr (slot_ne (Or.inl (hw _ (List.mem_of_getElem? (i := 33) rfl))) (Or.inl (hw _ (List.mem_of_getElem? (i := 25) rfl))) (by decide) (t := .int) (t' := .int) (by decide) (by decide)))
  have f221 : Arv Z h214 z_scores k_scores .double (2048 : Int32) (own_D x_scores) (.double (0 : UInt64)) := fl191_6.other W214 (Ne.symm ne_scores)
  have f222 : Arv Z h214 z_counts k_counts .int (2048 : Int32) (own_E x_counts) (.int (0 : Int32)) := fl191_7.other W214 (Ne.symm ne_counts)
  have f223 : Arv Z h214 z_marked k_marked .long (32 : Int32) (own_L x_marked) (.long (0 : Int64)) := fl191_8.other W214 (Ne.symm ne_marked)
  have N224 := Fr.snoc X214 N191 g1
  have K225 : Keep h0 h214 [a1, z_scores, z_counts, z_marked] := K191.wr W214 (Or.inl (List.mem_of_getElem? (i := 0) rfl))
  have Z226 : n0 ≤ h214.size := Nat.le_trans Z191 (Keep.of_wr W214).1
  obtain ⟨_, _, ⟨T227, L227, k227, n227⟩, -, X227, ⟨Lc227, hQ227, l227, y227, z227⟩, st227⟩ := Jvm.LawKit.callS X214 hx (y := (⟨"java/lang/Math", "min", "(JJ)J"⟩ : MethodName)) hown (mvT hZ (hw _ (List.mem_of_getElem? (i := 28) rfl))) (mvT hZ (hw _ (List.mem_of_getElem? (i := 29) rfl))) (mvT hZ (hw _ (List.mem_of_getElem? (i := 30) rfl))) (mvT hZ (hw _ (List.mem_of_getElem? (i := 31) rfl))) (by decide) (backOf (W := 1) (rm4 l Z a0 hw [] (fx.toInt64 + (2048 : Int64)) (2147483647 : Int64) h214 n0 Z226) hZ (hw _ (List.mem_of_getElem? (i := 31) rfl)) (hw _ (List.mem_of_getElem? (i := 30) rfl)) (by decide) (by decide)) (g := (mkF m 88 #[.val (.ref a1), .val (.int fx), .val (.int (32 : Int32)), .val (.long (0 : Int64)), .second, .unset] [(.long (2147483647 : Int64)), (.long (fx.toInt64 + (2048 : Int64))), (.ref a1)])) rfl (by rw [hml]; rfl) (argsL := [(.long (fx.toInt64 + (2048 : Int64))), (.long (2147483647 : Int64))]) (rest := [(.ref a1)]) (lenOf pd_1 rfl) rfl (by show 2 * 0 + _ ≤ _; exact Nat.le_of_eq rfl) (hb hby d3_88) (fun _ _ => ⟨rfl, e214, (by decide : 0 + 0 ≤ _), (by decide : 0 + 0 ≤ _)⟩)
  dsimp only [Pt.U, Pt.locs, Pt.cells, Pt.slots] at X227 l227 y227 z227 st227 hQ227
  subst l227 y227 z227
  obtain ⟨rfl, N227q, e227⟩ := hQ227
  have N227 := Fr.app N224 N227q
  obtain ⟨T228, h228, X228, e228, W228, st228⟩ := putF X227 hx hZ hown (host := "") (Or.inl (hw _ (List.mem_of_getElem? (i := 32) rfl))) Via.refl e227 f220 f215 (Or.inl (hw _ (List.mem_of_getElem? (i := 33) rfl))) (hw _ (List.mem_of_getElem? (i := 2) rfl)) (ty := .int) (by decide) rfl rfl (g := (mkF m 92 #[.val (.ref a1), .val (.int fx), .val (.int (32 : Int32)), .val (.long (0 : Int64)), .second, .unset] [(.int (f4 (fx.toInt64 + (2048 : Int64)) (2147483647 : Int64)).toInt32), (.ref a1)])) rfl rfl (hb hby d3_92)
  have f229 : Exa Z h228 a1 "com/example/libclause/libclause/search/ScoreWindow" := f215.wr W228
  have f230 : Fld Z h228 a1 "com/example/libclause/libclause/search/ScoreWindow" "scores" "[D" (.ref z_scores) := f216.other W228 (Or.inr (slot_ne (Or.inr (hw _ (List.mem_of_getElem? (i := 12) rfl))) (Or.inl (hw _ (List.mem_of_getElem? (i := 33) rfl))) (by decide) (t := (.array .double)) (t' := .int) (by decide) (by decide)))
  have f231 : Fld Z h228 a1 "com/example/libclause/libclause/search/ScoreWindow" "counts" "[I" (.ref z_counts) := f217.other W228 (Or.inr (slot_ne (Or.inr (hw _ (List.mem_of_getElem? (i := 15) rfl))) (Or.inl (hw _ (List.mem_of_getElem? (i := 33) rfl))) (by decide) (t := (.array .int)) (t' := .int) (by decide) (by decide)))
  have f232 : Fld Z h228 a1 "com/example/libclause/libclause/search/ScoreWindow" "marked" "[J" (.ref z_marked) := f218.other W228 (Or.inr (slot_ne (Or.inr (hw _ (List.mem_of_getElem? (i := 18) rfl))) (Or.inl (hw _ (List.mem_of_getElem? (i := 33) rfl))) (by decide) (t := (.array .long)) (t' := .int) (by decide) (by decide)))
  have f233 : Fld Z h228 a1 "com/example/libclause/libclause/search/ScoreWindow" "first" "I" (.int fx) := f219.other W228 (Or.inr (slot_ne (Or.inl (hw _ (List.mem_of_getElem? (i := 25) rfl))) (Or.inl (hw _ (List.mem_of_getElem? (i := 33) rfl))) (by decide) (t := .int) (t' := .int) (by decide) (by decide)))
  have f234 : Fld Z h228 a1 "com/example/libclause/libclause/search/ScoreWindow" "end" "I" (.int (f4 (fx.toInt64 + (2048 : Int64)) (2147483647 : Int64)).toInt32) := f220.same W228
  have f235 : Arv Z h228 z_scores k_scores .double (2048 : Int32) (own_D x_scores) (.double (0 : UInt64)) := f221.other W228 (Ne.symm ne_scores)
  have f236 : Arv Z h228 z_counts k_counts .int (2048 : Int32) (own_E x_counts) (.int (0 : Int32)) := f222.other W228 (Ne.symm ne_counts)
  have f237 : Arv Z h228 z_marked k_marked .long (32 : Int32) (own_L x_marked) (.long (0 : Int64)) := f223.other W228 (Ne.symm ne_marked)
  have N238 := Fr.snoc X228 N227 g1
  have K239 : Keep h0 h228 [a1, z_scores, z_counts, z_marked] := K225.wr W228 (Or.inl (List.mem_of_getElem? (i := 0) rfl))
  have Z240 : n0 ≤ h228.size := Nat.le_trans Z226 (Keep.of_wr W228).1
  have hf_first : f3_first fx z_first z_end x_scores x_counts x_marked = fx := by
    unfold f3_first
    rfl
  have hf_end : f3_end fx z_first z_end x_scores x_counts x_marked = (f4 (fx.toInt64 + (2048 : Int64)) (2147483647 : Int64)).toInt32 := by
    unfold f3_end
    rfl
  have hf_scores : f3_scores fx z_first z_end x_scores x_counts x_marked = x_scores := by
    unfold f3_scores
    rfl
  have hf_counts : f3_counts fx z_first z_end x_scores x_counts x_marked = x_counts := by
    unfold f3_counts
    rfl
  have hf_marked : f3_marked fx z_first z_end x_scores x_counts x_marked = x_marked := by
    unfold f3_marked
    rfl
  obtain ⟨fs, hr, hrun, hended, hW, hsame⟩ := X228.leave (v := none) (fun _ => rfl)
  refine ⟨_, _, S191 _ ?_, hrun, hended, _, _, rfl, ?_, ⟨_, rfl⟩, hW, hsame.mono (by decide) (by decide)⟩
  · refine XS.aloadN X191.here hx rfl (hb hby d3_73) rfl rfl ?_
    show Steps p.tables e below (T191.setTop (mkF m 74 #[.val (.ref a1), .val (.int fx), .val (.int (32 : Int32)), .val (.long (0 : Int64)), .second, .unset] [(.ref a1)])) _
    refine XS.iloadN X191.here hx rfl (hb hby d3_74) rfl ?_
    show Steps p.tables e below (T191.setTop (mkF m 75 #[.val (.ref a1), .val (.int fx), .val (.int (32 : Int32)), .val (.long (0 : Int64)), .second, .unset] [(.int fx), (.ref a1)])) _
    refine st214 _ ?_
    show Steps p.tables e below (T214.setTop (mkF m 78 #[.val (.ref a1), .val (.int fx), .val (.int (32 : Int32)), .val (.long (0 : Int64)), .second, .unset] [])) _
    refine XS.aloadN X214.here hx rfl (hb hby d3_78) rfl rfl ?_
    show Steps p.tables e below (T214.setTop (mkF m 79 #[.val (.ref a1), .val (.int fx), .val (.int (32 : Int32)), .val (.long (0 : Int64)), .second, .unset] [(.ref a1)])) _
    refine XS.iloadN X214.here hx rfl (hb hby d3_79) rfl ?_
    show Steps p.tables e below (T214.setTop (mkF m 80 #[.val (.ref a1), .val (.int fx), .val (.int (32 : Int32)), .val (.long (0 : Int64)), .second, .unset] [(.int fx), (.ref a1)])) _
    refine XS.i2l X214.here hx rfl (hb hby d3_80) rfl ?_
    show Steps p.tables e below (T214.setTop (mkF m 81 #[.val (.ref a1), .val (.int fx), .val (.int (32 : Int32)), .val (.long (0 : Int64)), .second, .unset] [(.long fx.toInt64), (.ref a1)])) _
    refine X214.ldc2Long hx hown (mvT hZ (hw _ (List.mem_of_getElem? (i := 26) rfl))) (g := (mkF m 81 #[.val (.ref a1), .val (.int fx), .val (.int (32 : Int32)), .val (.long (0 : Int64)), .second, .unset] [(.long fx.toInt64), (.ref a1)])) rfl (hb hby d3_81) _ ?_
    show Steps p.tables e below (T214.setTop (mkF m 84 #[.val (.ref a1), .val (.int fx), .val (.int (32 : Int32)), .val (.long (0 : Int64)), .second, .unset] [(.long (2048 : Int64)), (.long fx.toInt64), (.ref a1)])) _
    refine XS.ladd X214.here hx rfl (hb hby d3_84) rfl ?_
    show Steps p.tables e below (T214.setTop (mkF m 85 #[.val (.ref a1), .val (.int fx), .val (.int (32 : Int32)), .val (.long (0 : Int64)), .second, .unset] [(.long (fx.toInt64 + (2048 : Int64))), (.ref a1)])) _
    refine X214.ldc2Long hx hown (mvT hZ (hw _ (List.mem_of_getElem? (i := 27) rfl))) (g := (mkF m 85 #[.val (.ref a1), .val (.int fx), .val (.int (32 : Int32)), .val (.long (0 : Int64)), .second, .unset] [(.long (fx.toInt64 + (2048 : Int64))), (.ref a1)])) rfl (hb hby d3_85) _ ?_
    show Steps p.tables e below (T214.setTop (mkF m 88 #[.val (.ref a1), .val (.int fx), .val (.int (32 : Int32)), .val (.long (0 : Int64)), .second, .unset] [(.long (2147483647 : Int64)), (.long (fx.toInt64 + (2048 : Int64))), (.ref a1)])) _
    refine st227 _ ?_
    show Steps p.tables e below (T227.setTop (mkF m 91 #[.val (.ref a1), .val (.int fx), .val (.int (32 : Int32)), .val (.long (0 : Int64)), .second, .unset] [(.long (f4 (fx.toInt64 + (2048 : Int64)) (2147483647 : Int64))), (.ref a1)])) _
    refine XS.l2i X227.here hx rfl (hb hby d3_91) rfl ?_
    show Steps p.tables e below (T227.setTop (mkF m 92 #[.val (.ref a1), .val (.int fx), .val (.int (32 : Int32)), .val (.long (0 : Int64)), .second, .unset] [(.int (f4 (fx.toInt64 + (2048 : Int64)) (2147483647 : Int64)).toInt32), (.ref a1)])) _
    refine st228 _ ?_
    show Steps p.tables e below (T228.setTop (mkF m 95 #[.val (.ref a1), .val (.int fx), .val (.int (32 : Int32)), .val (.long (0 : Int64)), .second, .unset] [])) _
    exact X228.returnOut hx Bd.returns (hb hby d3_95) hr
  · show Q3 Z a1 fx z_scores z_counts z_marked z_first z_end k_scores x_scores k_counts x_counts k_marked x_marked h0 n0 _ T228.heap _
    rw [e228]
    exact ⟨rfl, N238, K239, f229, f230, f231, f232, by rw [hf_first]; exact f233, by rw [hf_end]; exact f234, by rw [hf_scores]; exact f235, by rw [hf_counts]; exact f236, by rw [hf_marked]; exact f237⟩
def f5 (ze : Int32) : Int32 := ze
theorem d5_0 : decode prog_62_method_3_code 0 = .ok (.aload_n 0, 1) := by decide +kernel
theorem d5_1 : decode prog_62_method_3_code 1 = .ok (.getfield 43, 3) := by decide +kernel
theorem d5_4 : decode prog_62_method_3_code 4 = .ok (.ireturn, 1) := by decide +kernel
theorem ef_5 (m : MethodId) (x0 : Addr) : entryFrame m #[(.ref x0)] 1 = mkF m 0 #[.val (.ref x0)] [] := by first | (simp [entryFrame, mkF, argsToLocals, Value.category]; done) | rfl
def Q5 (Z : State) (a1 : Addr) (ze : Int32) (h0 : Heap) (n0 : Nat) (v : Option Value) (h : Heap) (L : List Loc) : Prop := v = some (.int (f5 ze)) ∧ Fr n0 L ∧ h = h0
set_option maxRecDepth 65536 in
set_option maxHeartbeats 40000000 in
theorem rm5 (l : Launch) (Z : State) (a0 : Array Value) (hw : ∀ d ∈ tables_1, d.before a0 Z = true) (ws : List Jvm.Cond) (a1 : Addr) (ze : Int32) (h0 : Heap) (n0 : Nat) (Z0 : n0 ≤ h0.size) (F_end_a1 : Fld Z h0 a1 "com/example/libclause/libclause/search/ScoreWindow" "end" "I" (.int ze)) :
    MetFree l (⟨"com/example/libclause/libclause/search/ScoreWindow", "end", "()I"⟩ : MethodName) (head1 (Jvm.Cond.code (⟨"com/example/libclause/libclause/search/ScoreWindow", "end", "()I"⟩ : MethodName) prog_62_method_3_code 1 (some .int) :: ws) ({ frames := 0, cells := 0, slots := 0, locals := 0 } : Room)) (fun a U => a = #[(.ref a1)] ∧ Z.Warmed39 U.vm ∧ U.heap = h0) (fun _ _ _ _ _ => True) (fun _ U o U' => ∃ v L, o = .returned v ∧ Q5 Z a1 ze h0 n0 v U'.heap L ∧ FrameEnd U o U' L ({ frames := 0, cells := 0, slots := 0, locals := 0 } : Room).cells ({ frames := 0, cells := 0, slots := 0, locals := 0 } : Room).slots) := by
  refine MetFree.of_bodySF (plainFor_of_name pn_0) hisR ?_
  intro p e s m args below meth c s₁ Bd hml0 hP hK
  obtain ⟨rfl, hZ, hh⟩ := hP
  have hx := Bd.exec
  have hby := Bd.bytes
  have hml : c.maxLocals = 1 := hml0
  have hown : s.vm.findClass "com/example/libclause/libclause/search/ScoreWindow" = some m.cls := findClass_of_methodNamed Bd.named
  have hnm := (name_of_methodNamed Bd.named Bd.method).1
  have X0 : Stand p l e ({ frames := 0, cells := 0, slots := 0, locals := 0 } : Room) s m #[(.ref a1)] below meth c s₁ [] 0 0 := Stand.of_body Bd
  have e0 : s₁.heap = h0 := by rw [← hh, Bd.state]; rfl
  have N0 := Fr.nil n0
  have pre0 : ∀ t, Steps p.tables e below (s₁.setTop (mkF m 0 #[.val (.ref a1)] [])) t → Steps p.tables e below (s₁.setTop (entryFrame m #[(.ref a1)] 1)) t := fun t k => castTop (ef_5 m a1) k
  obtain ⟨T243, X243, e243, st243⟩ := getF X0 hx hZ hown (host := "") (Or.inl (hw _ (List.mem_of_getElem? (i := 32) rfl))) Via.refl e0 F_end_a1 (g := (mkF m 1 #[.val (.ref a1)] [(.ref a1)])) rfl rfl (hb hby d5_1)
  have S244 : ∀ t, Steps p.tables e below (T243.setTop (mkF m 4 #[.val (.ref a1)] [(.int ze)])) t → Steps p.tables e below (s₁.setTop (entryFrame m #[(.ref a1)] 1)) t := by
    intro t k
    refine pre0 t ?_
    refine XS.aloadN X0.here hx rfl (hb hby d5_0) rfl rfl ?_
    show Steps p.tables e below (s₁.setTop (mkF m 1 #[.val (.ref a1)] [(.ref a1)])) _
    refine st243 _ ?_
    show Steps p.tables e below (T243.setTop (mkF m 4 #[.val (.ref a1)] [(.int ze)])) _
    exact k
  have hf : f5 ze = ze := by
    unfold f5
    rfl
  obtain ⟨fs, hr, hrun, hended, hW, hsame⟩ := X243.leave (v := some (.int ze)) (fun h => by rw [Bd.returns] at h; cases h)
  refine ⟨_, _, S244 _ ?_, hrun, hended, _, _, rfl, ?_, ⟨_, rfl⟩, hW, hsame.mono (by decide) (by decide)⟩
  · exact retOut X243 hx Bd.returns rfl (Or.inl ⟨rfl, Or.inl rfl, _, rfl⟩) (hb hby d5_4) hr
  · show Q5 Z a1 ze h0 n0 _ T243.heap _
    rw [e243]
    exact ⟨by rw [hf], N0, rfl⟩
def f6_first (dc : Int32) (sc : UInt64) (z_first : Int32) (z_end : Int32) (x_scores : (Nat → UInt64)) (x_counts : (Nat → Int32)) (x_marked : (Nat → Int64)) : Int32 := z_first
def f6_end (dc : Int32) (sc : UInt64) (z_first : Int32) (z_end : Int32) (x_scores : (Nat → UInt64)) (x_counts : (Nat → Int32)) (x_marked : (Nat → Int64)) : Int32 := z_end
def f6_scores (dc : Int32) (sc : UInt64) (z_first : Int32) (z_end : Int32) (x_scores : (Nat → UInt64)) (x_counts : (Nat → Int32)) (x_marked : (Nat → Int64)) : (Nat → UInt64) := (own_up x_scores ((dc - z_first)).toNatClampNeg (FP.dadd (x_scores ((dc - z_first)).toNatClampNeg) sc))
def f6_counts (dc : Int32) (sc : UInt64) (z_first : Int32) (z_end : Int32) (x_scores : (Nat → UInt64)) (x_counts : (Nat → Int32)) (x_marked : (Nat → Int64)) : (Nat → Int32) := (own_up x_counts ((dc - z_first)).toNatClampNeg ((x_counts ((dc - z_first)).toNatClampNeg) + (1 : Int32)))
def f6_marked (dc : Int32) (sc : UInt64) (z_first : Int32) (z_end : Int32) (x_scores : (Nat → UInt64)) (x_counts : (Nat → Int32)) (x_marked : (Nat → Int64)) : (Nat → Int64) := (own_up x_marked (((dc - z_first) / (64 : Int32))).toNatClampNeg ((x_marked (((dc - z_first) / (64 : Int32))).toNatClampNeg) ||| ((1 : Int64) <<< ((dc - z_first) &&& 0x3f).toInt64)))
theorem d6_0 : decode prog_62_method_4_code 0 = .ok (.iload_n 1, 1) := by decide +kernel
theorem d6_1 : decode prog_62_method_4_code 1 = .ok (.aload_n 0, 1) := by decide +kernel
theorem d6_2 : decode prog_62_method_4_code 2 = .ok (.getfield 27, 3) := by decide +kernel
theorem d6_5 : decode prog_62_method_4_code 5 = .ok (.isub, 1) := by decide +kernel
theorem d6_6 : decode prog_62_method_4_code 6 = .ok (.istore 4, 2) := by decide +kernel
theorem d6_8 : decode prog_62_method_4_code 8 = .ok (.aload_n 0, 1) := by decide +kernel
theorem d6_9 : decode prog_62_method_4_code 9 = .ok (.getfield 9, 3) := by decide +kernel
theorem d6_12 : decode prog_62_method_4_code 12 = .ok (.iload 4, 2) := by decide +kernel
theorem d6_14 : decode prog_62_method_4_code 14 = .ok (.dup2, 1) := by decide +kernel
theorem d6_15 : decode prog_62_method_4_code 15 = .ok (.daload, 1) := by decide +kernel
theorem d6_16 : decode prog_62_method_4_code 16 = .ok (.dload_n 2, 1) := by decide +kernel
theorem d6_17 : decode prog_62_method_4_code 17 = .ok (.dadd, 1) := by decide +kernel
theorem d6_18 : decode prog_62_method_4_code 18 = .ok (.dastore, 1) := by decide +kernel
theorem d6_19 : decode prog_62_method_4_code 19 = .ok (.aload_n 0, 1) := by decide +kernel
theorem d6_20 : decode prog_62_method_4_code 20 = .ok (.getfield 13, 3) := by decide +kernel
theorem d6_23 : decode prog_62_method_4_code 23 = .ok (.iload 4, 2) := by decide +kernel
theorem d6_25 : decode prog_62_method_4_code 25 = .ok (.dup2, 1) := by decide +kernel
theorem d6_26 : decode prog_62_method_4_code 26 = .ok (.iaload, 1) := by decide +kernel
theorem d6_27 : decode prog_62_method_4_code 27 = .ok (.iconst 1, 1) := by decide +kernel
theorem d6_28 : decode prog_62_method_4_code 28 = .ok (.iadd, 1) := by decide +kernel
theorem d6_29 : decode prog_62_method_4_code 29 = .ok (.iastore, 1) := by decide +kernel
theorem d6_30 : decode prog_62_method_4_code 30 = .ok (.aload_n 0, 1) := by decide +kernel
theorem d6_31 : decode prog_62_method_4_code 31 = .ok (.getfield 19, 3) := by decide +kernel
theorem d6_34 : decode prog_62_method_4_code 34 = .ok (.iload 4, 2) := by decide +kernel
theorem d6_36 : decode prog_62_method_4_code 36 = .ok (.bipush 64, 2) := by decide +kernel
theorem d6_38 : decode prog_62_method_4_code 38 = .ok (.idiv, 1) := by decide +kernel
theorem d6_39 : decode prog_62_method_4_code 39 = .ok (.dup2, 1) := by decide +kernel
theorem d6_40 : decode prog_62_method_4_code 40 = .ok (.laload, 1) := by decide +kernel
theorem d6_41 : decode prog_62_method_4_code 41 = .ok (.lconst 1, 1) := by decide +kernel
theorem d6_42 : decode prog_62_method_4_code 42 = .ok (.iload 4, 2) := by decide +kernel
theorem d6_44 : decode prog_62_method_4_code 44 = .ok (.lshl, 1) := by decide +kernel
theorem d6_45 : decode prog_62_method_4_code 45 = .ok (.lor, 1) := by decide +kernel
theorem d6_46 : decode prog_62_method_4_code 46 = .ok (.lastore, 1) := by decide +kernel
theorem d6_47 : decode prog_62_method_4_code 47 = .ok (.return_, 1) := by decide +kernel
theorem ef_6 (m : MethodId) (x0 : Addr) (x1 : Int32) (x2 : UInt64) : entryFrame m #[(.ref x0), (.int x1), (.double x2)] 5 = mkF m 0 #[.val (.ref x0), .val (.int x1), .val (.double x2), .second, .unset] [] := by first | (simp [entryFrame, mkF, argsToLocals, Value.category]; done) | rfl
def Q6 (Z : State) (a1 : Addr) (dc : Int32) (sc : UInt64) (z_scores : Addr) (z_counts : Addr) (z_marked : Addr) (z_first : Int32) (z_end : Int32) (k_scores : ClassId) (x_scores : (Nat → UInt64)) (k_counts : ClassId) (x_counts : (Nat → Int32)) (k_marked : ClassId) (x_marked : (Nat → Int64)) (h0 : Heap) (n0 : Nat) (v : Option Value) (h : Heap) (L : List Loc) : Prop := v = none ∧ Fr n0 L ∧ Keep h0 h [a1, z_scores, z_counts, z_marked] ∧ Exa Z h a1 "com/example/libclause/libclause/search/ScoreWindow" ∧ Fld Z h a1 "com/example/libclause/libclause/search/ScoreWindow" "scores" "[D" (.ref z_scores) ∧ Fld Z h a1 "com/example/libclause/libclause/search/ScoreWindow" "counts" "[I" (.ref z_counts) ∧ Fld Z h a1 "com/example/libclause/libclause/search/ScoreWindow" "marked" "[J" (.ref z_marked) ∧ Fld Z h a1 "com/example/libclause/libclause/search/ScoreWindow" "first" "I" (.int (f6_first dc sc z_first z_end x_scores x_counts x_marked)) ∧ Fld Z h a1 "com/example/libclause/libclause/search/ScoreWindow" "end" "I" (.int (f6_end dc sc z_first z_end x_scores x_counts x_marked)) ∧ Arv Z h z_scores k_scores .double (2048 : Int32) (own_D (f6_scores dc sc z_first z_end x_scores x_counts x_marked)) (.double (0 : UInt64)) ∧ Arv Z h z_counts k_counts .int (2048 : Int32) (own_E (f6_counts dc sc z_first z_end x_scores x_counts x_marked)) (.int (0 : Int32)) ∧ Arv Z h z_marked k_marked .long (32 : Int32) (own_L (f6_marked dc sc z_first z_end x_scores x_counts x_marked)) (.long (0 : Int64))
set_option maxRecDepth 65536 in
set_option maxHeartbeats 40000000 in
theorem rm6 (l : Launch) (Z : State) (a0 : Array Value) (hw : ∀ d ∈ tables_1, d.before a0 Z = true) (ws : List Jvm.Cond) (a1 : Addr) (dc : Int32) (sc : UInt64) (z_scores : Addr) (z_counts : Addr) (z_marked : Addr) (z_first : Int32) (z_end : Int32) (k_scores : ClassId) (x_scores : (Nat → UInt64)) (k_counts : ClassId) (x_counts : (Nat → Int32)) (k_marked : ClassId) (x_marked : (Nat → Int64)) (h0 : Heap) (n0 : Nat) (Z0 : n0 ≤ h0.size) (E1 : Exa Z h0 a1 "com/example/libclause/libclause/search/ScoreWindow") (F_scores_a1 : Fld Z h0 a1 "com/example/libclause/libclause/search/ScoreWindow" "scores" "[D" (.ref z_scores)) (F_counts_a1 : Fld Z h0 a1 "com/example/libclause/libclause/search/ScoreWindow" "counts" "[I" (.ref z_counts)) (F_marked_a1 : Fld Z h0 a1 "com/example/libclause/libclause/search/ScoreWindow" "marked" "[J" (.ref z_marked)) (F_first_a1 : Fld Z h0 a1 "com/example/libclause/libclause/search/ScoreWindow" "first" "I" (.int z_first)) (F_end_a1 : Fld Z h0 a1 "com/example/libclause/libclause/search/ScoreWindow" "end" "I" (.int z_end)) (g1 : n0 ≤ a1) (V_scores : Arv Z h0 z_scores k_scores .double (2048 : Int32) (own_D x_scores) (.double (0 : UInt64))) (g_scores : n0 ≤ z_scores) (ne_scores : a1 ≠ z_scores) (V_counts : Arv Z h0 z_counts k_counts .int (2048 : Int32) (own_E x_counts) (.int (0 : Int32))) (g_counts : n0 ≤ z_counts) (ne_counts : a1 ≠ z_counts) (V_marked : Arv Z h0 z_marked k_marked .long (32 : Int32) (own_L x_marked) (.long (0 : Int64))) (g_marked : n0 ≤ z_marked) (ne_marked : a1 ≠ z_marked) (ne_counts_scores : z_counts ≠ z_scores) (ne_marked_scores : z_marked ≠ z_scores) (ne_marked_counts : z_marked ≠ z_counts) (hs : 0 ≤ (dc - z_first).toInt ∧ (dc - z_first).toInt < 2048) (hn : Jvm.Free.Fl.NoNaN64 (FP.dadd (x_scores (dc - z_first).toNatClampNeg) sc)) :
    MetFree l (⟨"com/example/libclause/libclause/search/ScoreWindow", "add", "(ID)V"⟩ : MethodName) (head1 (Jvm.Cond.code (⟨"com/example/libclause/libclause/search/ScoreWindow", "add", "(ID)V"⟩ : MethodName) prog_62_method_4_code 5 none :: ws) ({ frames := 0, cells := 0, slots := 0, locals := 0 } : Room)) (fun a U => a = #[(.ref a1), (.int dc), (.double sc)] ∧ Z.Warmed39 U.vm ∧ U.heap = h0) (fun _ _ _ _ _ => True) (fun _ U o U' => ∃ v L, o = .returned v ∧ Q6 Z a1 dc sc z_scores z_counts z_marked z_first z_end k_scores x_scores k_counts x_counts k_marked x_marked h0 n0 v U'.heap L ∧ FrameEnd U o U' L ({ frames := 0, cells := 0, slots := 0, locals := 0 } : Room).cells ({ frames := 0, cells := 0, slots := 0, locals := 0 } : Room).slots) := by
  refine MetFree.of_bodySF (plainFor_of_name pn_0) hisR ?_
  intro p e s m args below meth c s₁ Bd hml0 hP hK
  obtain ⟨rfl, hZ, hh⟩ := hP
  have hx := Bd.exec
  have hby := Bd.bytes
  have hml : c.maxLocals = 5 := hml0
  have hown : s.vm.findClass "com/example/libclause/libclause/search/ScoreWindow" = some m.cls := findClass_of_methodNamed Bd.named
  have hnm := (name_of_methodNamed Bd.named Bd.method).1
  have X0 : Stand p l e ({ frames := 0, cells := 0, slots := 0, locals := 0 } : Room) s m #[(.ref a1), (.int dc), (.double sc)] below meth c s₁ [] 0 0 := Stand.of_body Bd
  have e0 : s₁.heap = h0 := by rw [← hh, Bd.state]; rfl
  have N0 := Fr.nil n0
  have pre0 : ∀ t, Steps p.tables e below (s₁.setTop (mkF m 0 #[.val (.ref a1), .val (.int dc), .val (.double sc), .second, .unset] [])) t → Steps p.tables e below (s₁.setTop (entryFrame m #[(.ref a1), (.int dc), (.double sc)] 5)) t := fun t k => castTop (ef_6 m a1 dc sc) k
  obtain ⟨T245, X245, e245, st245⟩ := getF X0 hx hZ hown (host := "") (Or.inl (hw _ (List.mem_of_getElem? (i := 24) rfl))) Via.refl e0 F_first_a1 (g := (mkF m 2 #[.val (.ref a1), .val (.int dc), .val (.double sc), .second, .unset] [(.ref a1), (.int dc)])) rfl rfl (hb hby d6_2)
  obtain ⟨T246, X246, e246, st246⟩ := getF X245 hx hZ hown (host := "") (Or.inl (hw _ (List.mem_of_getElem? (i := 11) rfl))) Via.refl e245 F_scores_a1 (g := (mkF m 9 #[.val (.ref a1), .val (.int dc), .val (.double sc), .second, .val (.int (dc - z_first))] [(.ref a1)])) rfl rfl (hb hby d6_9)
  obtain ⟨cl247, Ar247, qa247, Sa247, Na247, Ha247, Ga247⟩ := id V_scores
  have hin247 : ¬ ((dc - z_first) < 0 ∨ cl247.slots.size ≤ ((dc - z_first)).toNatClampNeg) := inb_of Sa247 (own_sb hs)
  obtain ⟨cl248, Ar248, qa248, Sa248, Na248, Ha248, Ga248⟩ := id V_scores
  have hin248 : ¬ ((dc - z_first) < 0 ∨ cl248.slots.size ≤ ((dc - z_first)).toNatClampNeg) := inb_of Sa248 (own_sb hs)
  obtain ⟨T249, h249, X249, e249, W249, st249⟩ := stD X246 hx hZ e246 Ar248 (j := (dc - z_first)) hin248 (g := (mkF m 18 #[.val (.ref a1), .val (.int dc), .val (.double sc), .second, .val (.int (dc - z_first))] [(.double (FP.dadd (x_scores ((dc - z_first)).toNatClampNeg) sc)), (.int (dc - z_first)), (.ref z_scores)])) rfl rfl (hb hby d6_18)
  have fa249 : Arv Z h249 z_scores k_scores .double (2048 : Int32) (own_D (own_up x_scores ((dc - z_first)).toNatClampNeg (FP.dadd (x_scores ((dc - z_first)).toNatClampNeg) sc))) (.double (0 : UInt64)) := (Arv.set Ar248 qa248 Sa248 Na248 Ha248 Ga248 rfl W249 ((dc - z_first)).toNatClampNeg rfl (own_Dl x_scores (own_ix (own_sb hs)))).pad (own_Dset x_scores (own_ix (own_sb hs)) (FP.dadd (x_scores ((dc - z_first)).toNatClampNeg) sc))
  have f250 : Exa Z h249 a1 "com/example/libclause/libclause/search/ScoreWindow" := E1.wr W249
  have f251 : Fld Z h249 a1 "com/example/libclause/libclause/search/ScoreWindow" "scores" "[D" (.ref z_scores) := F_scores_a1.other W249 (Or.inl ne_scores)
  have f252 : Fld Z h249 a1 "com/example/libclause/libclause/search/ScoreWindow" "counts" "[I" (.ref z_counts) := F_counts_a1.other W249 (Or.inl ne_scores)
  have f253 : Fld Z h249 a1 "com/example/libclause/libclause/search/ScoreWindow" "marked" "[J" (.ref z_marked) := F_marked_a1.other W249 (Or.inl ne_scores)
  have f254 : Fld Z h249 a1 "com/example/libclause/libclause/search/ScoreWindow" "first" "I" (.int z_first) := F_first_a1.other W249 (Or.inl ne_scores)
  have f255 : Fld Z h249 a1 "com/example/libclause/libclause/search/ScoreWindow" "end" "I" (.int z_end) := F_end_a1.other W249 (Or.inl ne_scores)
  have f256 : Arv Z h249 z_counts k_counts .int (2048 : Int32) (own_E x_counts) (.int (0 : Int32)) := V_counts.other W249 ne_counts_scores
  have f257 : Arv Z h249 z_marked k_marked .long (32 : Int32) (own_L x_marked) (.long (0 : Int64)) := V_marked.other W249 ne_marked_scores
  have N258 := Fr.snoc X249 N0 g_scores
  have K259 : Keep h0 h249 [a1, z_scores, z_counts, z_marked] := (Keep.refl h0 [a1, z_scores, z_counts, z_marked]).wr W249 (Or.inl (List.mem_of_getElem? (i := 1) rfl))
  have Z260 : n0 ≤ h249.size := Nat.le_trans Z0 (Keep.of_wr W249).1
  obtain ⟨T261, X261, e261, st261⟩ := getF X249 hx hZ hown (host := "") (Or.inl (hw _ (List.mem_of_getElem? (i := 14) rfl))) Via.refl e249 f252 (g := (mkF m 20 #[.val (.ref a1), .val (.int dc), .val (.double sc), .second, .val (.int (dc - z_first))] [(.ref a1)])) rfl rfl (hb hby d6_20)
  obtain ⟨cl262, Ar262, qa262, Sa262, Na262, Ha262, Ga262⟩ := id f256
  have hin262 : ¬ ((dc - z_first) < 0 ∨ cl262.slots.size ≤ ((dc - z_first)).toNatClampNeg) := inb_of Sa262 (own_sb hs)
  obtain ⟨cl263, Ar263, qa263, Sa263, Na263, Ha263, Ga263⟩ := id f256
  have hin263 : ¬ ((dc - z_first) < 0 ∨ cl263.slots.size ≤ ((dc - z_first)).toNatClampNeg) := inb_of Sa263 (own_sb hs)
  obtain ⟨T264, h264, X264, e264, W264, st264⟩ := stI X261 hx hZ e261 Ar263 (j := (dc - z_first)) hin263 (g := (mkF m 29 #[.val (.ref a1), .val (.int dc), .val (.double sc), .second, .val (.int (dc - z_first))] [(.int ((x_counts ((dc - z_first)).toNatClampNeg) + (1 : Int32))), (.int (dc - z_first)), (.ref z_counts)])) rfl rfl (hb hby d6_29)
  have fa264 : Arv Z h264 z_counts k_counts .int (2048 : Int32) (own_E (own_up x_counts ((dc - z_first)).toNatClampNeg ((x_counts ((dc - z_first)).toNatClampNeg) + (1 : Int32)))) (.int (0 : Int32)) := (Arv.set Ar263 qa263 Sa263 Na263 Ha263 Ga263 rfl W264 ((dc - z_first)).toNatClampNeg rfl (own_El x_counts (own_ix (own_sb hs)))).pad (own_Eset x_counts (own_ix (own_sb hs)) ((x_counts ((dc - z_first)).toNatClampNeg) + (1 : Int32)))
  have f265 : Exa Z h264 a1 "com/example/libclause/libclause/search/ScoreWindow" := f250.wr W264
  have f266 : Fld Z h264 a1 "com/example/libclause/libclause/search/ScoreWindow" "scores" "[D" (.ref z_scores) := f251.other W264 (Or.inl ne_counts)
  have f267 : Fld Z h264 a1 "com/example/libclause/libclause/search/ScoreWindow" "counts" "[I" (.ref z_counts) := f252.other W264 (Or.inl ne_counts)
  have f268 : Fld Z h264 a1 "com/example/libclause/libclause/search/ScoreWindow" "marked" "[J" (.ref z_marked) := f253.other W264 (Or.inl ne_counts)
  have f269 : Fld Z h264 a1 "com/example/libclause/libclause/search/ScoreWindow" "first" "I" (.int z_first) := f254.other W264 (Or.inl ne_counts)
  have f270 : Fld Z h264 a1 "com/example/libclause/libclause/search/ScoreWindow" "end" "I" (.int z_end) := f255.other W264 (Or.inl ne_counts)
  have f271 : Arv Z h264 z_marked k_marked .long (32 : Int32) (own_L x_marked) (.long (0 : Int64)) := f257.other W264 ne_marked_counts
  have f272 : Arv Z h264 z_scores k_scores .double (2048 : Int32) (own_D (own_up x_scores ((dc - z_first)).toNatClampNeg (FP.dadd (x_scores ((dc - z_first)).toNatClampNeg) sc))) (.double (0 : UInt64)) := fa249.other W264 (Ne.symm ne_counts_scores)
  have N273 := Fr.snoc X264 N258 g_counts
  have K274 : Keep h0 h264 [a1, z_scores, z_counts, z_marked] := K259.wr W264 (Or.inl (List.mem_of_getElem? (i := 2) rfl))
  have Z275 : n0 ≤ h264.size := Nat.le_trans Z260 (Keep.of_wr W264).1
  obtain ⟨T276, X276, e276, st276⟩ := getF X264 hx hZ hown (host := "") (Or.inl (hw _ (List.mem_of_getElem? (i := 17) rfl))) Via.refl e264 f268 (g := (mkF m 31 #[.val (.ref a1), .val (.int dc), .val (.double sc), .second, .val (.int (dc - z_first))] [(.ref a1)])) rfl rfl (hb hby d6_31)
  obtain ⟨cl277, Ar277, qa277, Sa277, Na277, Ha277, Ga277⟩ := id f271
  have hin277 : ¬ (((dc - z_first) / (64 : Int32)) < 0 ∨ cl277.slots.size ≤ (((dc - z_first) / (64 : Int32))).toNatClampNeg) := inb_of Sa277 (own_wb hs)
  obtain ⟨cl278, Ar278, qa278, Sa278, Na278, Ha278, Ga278⟩ := id f271
  have hin278 : ¬ (((dc - z_first) / (64 : Int32)) < 0 ∨ cl278.slots.size ≤ (((dc - z_first) / (64 : Int32))).toNatClampNeg) := inb_of Sa278 (own_wb hs)
  obtain ⟨T279, h279, X279, e279, W279, st279⟩ := stJ X276 hx hZ e276 Ar278 (j := ((dc - z_first) / (64 : Int32))) hin278 (g := (mkF m 46 #[.val (.ref a1), .val (.int dc), .val (.double sc), .second, .val (.int (dc - z_first))] [(.long ((x_marked (((dc - z_first) / (64 : Int32))).toNatClampNeg) ||| ((1 : Int64) <<< ((dc - z_first) &&& 0x3f).toInt64))), (.int ((dc - z_first) / (64 : Int32))), (.ref z_marked)])) rfl rfl (hb hby d6_46)
  have fa279 : Arv Z h279 z_marked k_marked .long (32 : Int32) (own_L (own_up x_marked (((dc - z_first) / (64 : Int32))).toNatClampNeg ((x_marked (((dc - z_first) / (64 : Int32))).toNatClampNeg) ||| ((1 : Int64) <<< ((dc - z_first) &&& 0x3f).toInt64)))) (.long (0 : Int64)) := (Arv.set Ar278 qa278 Sa278 Na278 Ha278 Ga278 rfl W279 (((dc - z_first) / (64 : Int32))).toNatClampNeg rfl (own_Ll x_marked (own_ixl (own_wb hs)))).pad (own_Lset x_marked (own_ixl (own_wb hs)) ((x_marked (((dc - z_first) / (64 : Int32))).toNatClampNeg) ||| ((1 : Int64) <<< ((dc - z_first) &&& 0x3f).toInt64)))
  have f280 : Exa Z h279 a1 "com/example/libclause/libclause/search/ScoreWindow" := f265.wr W279
  have f281 : Fld Z h279 a1 "com/example/libclause/libclause/search/ScoreWindow" "scores" "[D" (.ref z_scores) := f266.other W279 (Or.inl ne_marked)
  have f282 : Fld Z h279 a1 "com/example/libclause/libclause/search/ScoreWindow" "counts" "[I" (.ref z_counts) := f267.other W279 (Or.inl ne_marked)
  have f283 : Fld Z h279 a1 "com/example/libclause/libclause/search/ScoreWindow" "marked" "[J" (.ref z_marked) := f268.other W279 (Or.inl ne_marked)
  have f284 : Fld Z h279 a1 "com/example/libclause/libclause/search/ScoreWindow" "first" "I" (.int z_first) := f269.other W279 (Or.inl ne_marked)
  have f285 : Fld Z h279 a1 "com/example/libclause/libclause/search/ScoreWindow" "end" "I" (.int z_end) := f270.other W279 (Or.inl ne_marked)
  have f286 : Arv Z h279 z_scores k_scores .double (2048 : Int32) (own_D (own_up x_scores ((dc - z_first)).toNatClampNeg (FP.dadd (x_scores ((dc - z_first)).toNatClampNeg) sc))) (.double (0 : UInt64)) := f272.other W279 (Ne.symm ne_marked_scores)
  have f287 : Arv Z h279 z_counts k_counts .int (2048 : Int32) (own_E (own_up x_counts ((dc - z_first)).toNatClampNeg ((x_counts ((dc - z_first)).toNatClampNeg) + (1 : Int32)))) (.int (0 : Int32)) := fa264.other W279 (Ne.symm ne_marked_counts)
  have N288 := Fr.snoc X279 N273 g_marked
  have K289 : Keep h0 h279 [a1, z_scores, z_counts, z_marked] := K274.wr W279 (Or.inl (List.mem_of_getElem? (i := 3) rfl))
  have Z290 : n0 ≤ h279.size := Nat.le_trans Z275 (Keep.of_wr W279).1
  have hf_first : f6_first dc sc z_first z_end x_scores x_counts x_marked = z_first := by
    unfold f6_first
    rfl
  have hf_end : f6_end dc sc z_first z_end x_scores x_counts x_marked = z_end := by
    unfold f6_end
    rfl
  have hf_scores : f6_scores dc sc z_first z_end x_scores x_counts x_marked = (own_up x_scores ((dc - z_first)).toNatClampNeg (FP.dadd (x_scores ((dc - z_first)).toNatClampNeg) sc)) := by
    unfold f6_scores
    rfl
  have hf_counts : f6_counts dc sc z_first z_end x_scores x_counts x_marked = (own_up x_counts ((dc - z_first)).toNatClampNeg ((x_counts ((dc - z_first)).toNatClampNeg) + (1 : Int32))) := by
    unfold f6_counts
    rfl
  have hf_marked : f6_marked dc sc z_first z_end x_scores x_counts x_marked = (own_up x_marked (((dc - z_first) / (64 : Int32))).toNatClampNeg ((x_marked (((dc - z_first) / (64 : Int32))).toNatClampNeg) ||| ((1 : Int64) <<< ((dc - z_first) &&& 0x3f).toInt64))) := by
    unfold f6_marked
    rfl
  obtain ⟨fs, hr, hrun, hended, hW, hsame⟩ := X279.leave (v := none) (fun _ => rfl)
  refine ⟨_, _, pre0 _ ?_, hrun, hended, _, _, rfl, ?_, ⟨_, rfl⟩, hW, hsame.mono (by decide) (by decide)⟩
  · refine XS.iloadN X0.here hx rfl (hb hby d6_0) rfl ?_
    show Steps p.tables e below (s₁.setTop (mkF m 1 #[.val (.ref a1), .val (.int dc), .val (.double sc), .second, .unset] [(.int dc)])) _
    refine XS.aloadN X0.here hx rfl (hb hby d6_1) rfl rfl ?_
    show Steps p.tables e below (s₁.setTop (mkF m 2 #[.val (.ref a1), .val (.int dc), .val (.double sc), .second, .unset] [(.ref a1), (.int dc)])) _
    refine st245 _ ?_
    show Steps p.tables e below (T245.setTop (mkF m 5 #[.val (.ref a1), .val (.int dc), .val (.double sc), .second, .unset] [(.int z_first), (.int dc)])) _
    refine XS.isub X245.here hx rfl (hb hby d6_5) rfl ?_
    show Steps p.tables e below (T245.setTop (mkF m 6 #[.val (.ref a1), .val (.int dc), .val (.double sc), .second, .unset] [(.int (dc - z_first))])) _
    refine XS.istore X245.here hx rfl (hb hby d6_6) rfl (l' := #[.val (.ref a1), .val (.int dc), .val (.double sc), .second, .val (.int (dc - z_first))]) rfl ?_
    show Steps p.tables e below (T245.setTop (mkF m 8 #[.val (.ref a1), .val (.int dc), .val (.double sc), .second, .val (.int (dc - z_first))] [])) _
    refine XS.aloadN X245.here hx rfl (hb hby d6_8) rfl rfl ?_
    show Steps p.tables e below (T245.setTop (mkF m 9 #[.val (.ref a1), .val (.int dc), .val (.double sc), .second, .val (.int (dc - z_first))] [(.ref a1)])) _
    refine st246 _ ?_
    show Steps p.tables e below (T246.setTop (mkF m 12 #[.val (.ref a1), .val (.int dc), .val (.double sc), .second, .val (.int (dc - z_first))] [(.ref z_scores)])) _
    refine XS.iload X246.here hx rfl (hb hby d6_12) rfl ?_
    show Steps p.tables e below (T246.setTop (mkF m 14 #[.val (.ref a1), .val (.int dc), .val (.double sc), .second, .val (.int (dc - z_first))] [(.int (dc - z_first)), (.ref z_scores)])) _
    refine Jvm.Free.XT.dup2 X246.here hx rfl (hb hby d6_14) rfl rfl rfl ?_
    show Steps p.tables e below (T246.setTop (mkF m 15 #[.val (.ref a1), .val (.int dc), .val (.double sc), .second, .val (.int (dc - z_first))] [(.int (dc - z_first)), (.ref z_scores), (.int (dc - z_first)), (.ref z_scores)])) _
    refine X246.daload hx (j := (dc - z_first)) (v := (.double (x_scores ((dc - z_first)).toNatClampNeg))) (by rw [e246]; exact Ar247.1) (State.isArrayOf_alike hZ.alike Ar247.2.1) Ar247.2.2 hin247 (Has.at Ha247 hin247 (own_rdD x_scores (j := (dc - z_first)) (own_sb hs))) (g := (mkF m 15 #[.val (.ref a1), .val (.int dc), .val (.double sc), .second, .val (.int (dc - z_first))] [(.int (dc - z_first)), (.ref z_scores), (.int (dc - z_first)), (.ref z_scores)])) rfl rfl (hb hby d6_15) _ ?_
    show Steps p.tables e below (T246.setTop (mkF m 16 #[.val (.ref a1), .val (.int dc), .val (.double sc), .second, .val (.int (dc - z_first))] [(.double (x_scores ((dc - z_first)).toNatClampNeg)), (.int (dc - z_first)), (.ref z_scores)])) _
    refine XS.dloadN X246.here hx rfl (hb hby d6_16) rfl ?_
    show Steps p.tables e below (T246.setTop (mkF m 17 #[.val (.ref a1), .val (.int dc), .val (.double sc), .second, .val (.int (dc - z_first))] [(.double sc), (.double (x_scores ((dc - z_first)).toNatClampNeg)), (.int (dc - z_first)), (.ref z_scores)])) _
    refine XS.daddS X246.here hx rfl (hb hby d6_17) rfl hn rfl ?_
    show Steps p.tables e below (T246.setTop (mkF m 18 #[.val (.ref a1), .val (.int dc), .val (.double sc), .second, .val (.int (dc - z_first))] [(.double (FP.dadd (x_scores ((dc - z_first)).toNatClampNeg) sc)), (.int (dc - z_first)), (.ref z_scores)])) _
    refine st249 _ ?_
    show Steps p.tables e below (T249.setTop (mkF m 19 #[.val (.ref a1), .val (.int dc), .val (.double sc), .second, .val (.int (dc - z_first))] [])) _
    refine XS.aloadN X249.here hx rfl (hb hby d6_19) rfl rfl ?_
    show Steps p.tables e below (T249.setTop (mkF m 20 #[.val (.ref a1), .val (.int dc), .val (.double sc), .second, .val (.int (dc - z_first))] [(.ref a1)])) _
    refine st261 _ ?_
    show Steps p.tables e below (T261.setTop (mkF m 23 #[.val (.ref a1), .val (.int dc), .val (.double sc), .second, .val (.int (dc - z_first))] [(.ref z_counts)])) _
    refine XS.iload X261.here hx rfl (hb hby d6_23) rfl ?_
    show Steps p.tables e below (T261.setTop (mkF m 25 #[.val (.ref a1), .val (.int dc), .val (.double sc), .second, .val (.int (dc - z_first))] [(.int (dc - z_first)), (.ref z_counts)])) _
    refine Jvm.Free.XT.dup2 X261.here hx rfl (hb hby d6_25) rfl rfl rfl ?_
    show Steps p.tables e below (T261.setTop (mkF m 26 #[.val (.ref a1), .val (.int dc), .val (.double sc), .second, .val (.int (dc - z_first))] [(.int (dc - z_first)), (.ref z_counts), (.int (dc - z_first)), (.ref z_counts)])) _
    refine X261.iaload hx (j := (dc - z_first)) (v := (.int (x_counts ((dc - z_first)).toNatClampNeg))) (by rw [e261]; exact Ar262.1) (State.isArrayOf_alike hZ.alike Ar262.2.1) Ar262.2.2 hin262 (Has.at Ha262 hin262 (own_rdE x_counts (j := (dc - z_first)) (own_sb hs))) (g := (mkF m 26 #[.val (.ref a1), .val (.int dc), .val (.double sc), .second, .val (.int (dc - z_first))] [(.int (dc - z_first)), (.ref z_counts), (.int (dc - z_first)), (.ref z_counts)])) rfl rfl (hb hby d6_26) _ ?_
    show Steps p.tables e below (T261.setTop (mkF m 27 #[.val (.ref a1), .val (.int dc), .val (.double sc), .second, .val (.int (dc - z_first))] [(.int (x_counts ((dc - z_first)).toNatClampNeg)), (.int (dc - z_first)), (.ref z_counts)])) _
    refine XS.iconst X261.here hx rfl (hb hby d6_27) ?_
    show Steps p.tables e below (T261.setTop (mkF m 28 #[.val (.ref a1), .val (.int dc), .val (.double sc), .second, .val (.int (dc - z_first))] [(.int (1 : Int32)), (.int (x_counts ((dc - z_first)).toNatClampNeg)), (.int (dc - z_first)), (.ref z_counts)])) _
    refine XS.iadd X261.here hx rfl (hb hby d6_28) rfl ?_
    show Steps p.tables e below (T261.setTop (mkF m 29 #[.val (.ref a1), .val (.int dc), .val (.double sc), .second, .val (.int (dc - z_first))] [(.int ((x_counts ((dc - z_first)).toNatClampNeg) + (1 : Int32))), (.int (dc - z_first)), (.ref z_counts)])) _
    refine st264 _ ?_
    show Steps p.tables e below (T264.setTop (mkF m 30 #[.val (.ref a1), .val (.int dc), .val (.double sc), .second, .val (.int (dc - z_first))] [])) _
    refine XS.aloadN X264.here hx rfl (hb hby d6_30) rfl rfl ?_
    show Steps p.tables e below (T264.setTop (mkF m 31 #[.val (.ref a1), .val (.int dc), .val (.double sc), .second, .val (.int (dc - z_first))] [(.ref a1)])) _
    refine st276 _ ?_
    show Steps p.tables e below (T276.setTop (mkF m 34 #[.val (.ref a1), .val (.int dc), .val (.double sc), .second, .val (.int (dc - z_first))] [(.ref z_marked)])) _
    refine XS.iload X276.here hx rfl (hb hby d6_34) rfl ?_
    show Steps p.tables e below (T276.setTop (mkF m 36 #[.val (.ref a1), .val (.int dc), .val (.double sc), .second, .val (.int (dc - z_first))] [(.int (dc - z_first)), (.ref z_marked)])) _
    refine XS.bipush X276.here hx rfl (hb hby d6_36) ?_
    show Steps p.tables e below (T276.setTop (mkF m 38 #[.val (.ref a1), .val (.int dc), .val (.double sc), .second, .val (.int (dc - z_first))] [(.int (64 : Int32)), (.int (dc - z_first)), (.ref z_marked)])) _
    refine XS.idiv X276.here hx rfl (hb hby d6_38) rfl (by decide) ?_
    show Steps p.tables e below (T276.setTop (mkF m 39 #[.val (.ref a1), .val (.int dc), .val (.double sc), .second, .val (.int (dc - z_first))] [(.int ((dc - z_first) / (64 : Int32))), (.ref z_marked)])) _
    refine Jvm.Free.XT.dup2 X276.here hx rfl (hb hby d6_39) rfl rfl rfl ?_
    show Steps p.tables e below (T276.setTop (mkF m 40 #[.val (.ref a1), .val (.int dc), .val (.double sc), .second, .val (.int (dc - z_first))] [(.int ((dc - z_first) / (64 : Int32))), (.ref z_marked), (.int ((dc - z_first) / (64 : Int32))), (.ref z_marked)])) _
    refine X276.laload hx (j := ((dc - z_first) / (64 : Int32))) (v := (.long (x_marked (((dc - z_first) / (64 : Int32))).toNatClampNeg))) (by rw [e276]; exact Ar277.1) (State.isArrayOf_alike hZ.alike Ar277.2.1) Ar277.2.2 hin277 (Has.at Ha277 hin277 (own_rdL x_marked (j := ((dc - z_first) / (64 : Int32))) (own_wb hs))) (g := (mkF m 40 #[.val (.ref a1), .val (.int dc), .val (.double sc), .second, .val (.int (dc - z_first))] [(.int ((dc - z_first) / (64 : Int32))), (.ref z_marked), (.int ((dc - z_first) / (64 : Int32))), (.ref z_marked)])) rfl rfl (hb hby d6_40) _ ?_
    show Steps p.tables e below (T276.setTop (mkF m 41 #[.val (.ref a1), .val (.int dc), .val (.double sc), .second, .val (.int (dc - z_first))] [(.long (x_marked (((dc - z_first) / (64 : Int32))).toNatClampNeg)), (.int ((dc - z_first) / (64 : Int32))), (.ref z_marked)])) _
    refine XS.lconst X276.here hx rfl (hb hby d6_41) ?_
    show Steps p.tables e below (T276.setTop (mkF m 42 #[.val (.ref a1), .val (.int dc), .val (.double sc), .second, .val (.int (dc - z_first))] [(.long (1 : Int64)), (.long (x_marked (((dc - z_first) / (64 : Int32))).toNatClampNeg)), (.int ((dc - z_first) / (64 : Int32))), (.ref z_marked)])) _
    refine XS.iload X276.here hx rfl (hb hby d6_42) rfl ?_
    show Steps p.tables e below (T276.setTop (mkF m 44 #[.val (.ref a1), .val (.int dc), .val (.double sc), .second, .val (.int (dc - z_first))] [(.int (dc - z_first)), (.long (1 : Int64)), (.long (x_marked (((dc - z_first) / (64 : Int32))).toNatClampNeg)), (.int ((dc - z_first) / (64 : Int32))), (.ref z_marked)])) _
    refine XS.lshl X276.here hx rfl (hb hby d6_44) rfl ?_
    show Steps p.tables e below (T276.setTop (mkF m 45 #[.val (.ref a1), .val (.int dc), .val (.double sc), .second, .val (.int (dc - z_first))] [(.long ((1 : Int64) <<< ((dc - z_first) &&& 0x3f).toInt64)), (.long (x_marked (((dc - z_first) / (64 : Int32))).toNatClampNeg)), (.int ((dc - z_first) / (64 : Int32))), (.ref z_marked)])) _
    refine XS.lor X276.here hx rfl (hb hby d6_45) rfl ?_
    show Steps p.tables e below (T276.setTop (mkF m 46 #[.val (.ref a1), .val (.int dc), .val (.double sc), .second, .val (.int (dc - z_first))] [(.long ((x_marked (((dc - z_first) / (64 : Int32))).toNatClampNeg) ||| ((1 : Int64) <<< ((dc - z_first) &&& 0x3f).toInt64))), (.int ((dc - z_first) / (64 : Int32))), (.ref z_marked)])) _
    refine st279 _ ?_
    show Steps p.tables e below (T279.setTop (mkF m 47 #[.val (.ref a1), .val (.int dc), .val (.double sc), .second, .val (.int (dc - z_first))] [])) _
    exact X279.returnOut hx Bd.returns (hb hby d6_47) hr
  · show Q6 Z a1 dc sc z_scores z_counts z_marked z_first z_end k_scores x_scores k_counts x_counts k_marked x_marked h0 n0 _ T279.heap _
    rw [e279]
    exact ⟨rfl, N288, K289, f280, f281, f282, f283, by rw [hf_first]; exact f284, by rw [hf_end]; exact f285, by rw [hf_scores]; exact f286, by rw [hf_counts]; exact f287, by rw [hf_marked]; exact fa279⟩
def f9 (dc : Int32) (zf : Int32) (xA : (Nat → UInt64)) : UInt64 := (xA ((dc - zf)).toNatClampNeg)
theorem d9_0 : decode prog_62_method_6_code 0 = .ok (.aload_n 0, 1) := by decide +kernel
theorem d9_1 : decode prog_62_method_6_code 1 = .ok (.getfield 9, 3) := by decide +kernel
theorem d9_4 : decode prog_62_method_6_code 4 = .ok (.iload_n 1, 1) := by decide +kernel
theorem d9_5 : decode prog_62_method_6_code 5 = .ok (.aload_n 0, 1) := by decide +kernel
theorem d9_6 : decode prog_62_method_6_code 6 = .ok (.getfield 27, 3) := by decide +kernel
theorem d9_9 : decode prog_62_method_6_code 9 = .ok (.isub, 1) := by decide +kernel
theorem d9_10 : decode prog_62_method_6_code 10 = .ok (.daload, 1) := by decide +kernel
theorem d9_11 : decode prog_62_method_6_code 11 = .ok (.dreturn, 1) := by decide +kernel
theorem ef_9 (m : MethodId) (x0 : Addr) (x1 : Int32) : entryFrame m #[(.ref x0), (.int x1)] 2 = mkF m 0 #[.val (.ref x0), .val (.int x1)] [] := by first | (simp [entryFrame, mkF, argsToLocals, Value.category]; done) | rfl
def Q9 (Z : State) (a1 : Addr) (dc : Int32) (zs : Addr) (zf : Int32) (kA : ClassId) (xA : (Nat → UInt64)) (h0 : Heap) (n0 : Nat) (v : Option Value) (h : Heap) (L : List Loc) : Prop := v = some (.double (f9 dc zf xA)) ∧ Fr n0 L ∧ h = h0
set_option maxRecDepth 65536 in
set_option maxHeartbeats 40000000 in
theorem rm9 (l : Launch) (Z : State) (a0 : Array Value) (hw : ∀ d ∈ tables_1, d.before a0 Z = true) (ws : List Jvm.Cond) (a1 : Addr) (dc : Int32) (zs : Addr) (zf : Int32) (kA : ClassId) (xA : (Nat → UInt64)) (h0 : Heap) (n0 : Nat) (Z0 : n0 ≤ h0.size) (F_scores_a1 : Fld Z h0 a1 "com/example/libclause/libclause/search/ScoreWindow" "scores" "[D" (.ref zs)) (F_first_a1 : Fld Z h0 a1 "com/example/libclause/libclause/search/ScoreWindow" "first" "I" (.int zf)) (VA : Arv Z h0 zs kA .double (2048 : Int32) (own_D xA) (.double (0 : UInt64))) (hs : 0 ≤ (dc - zf).toInt ∧ (dc - zf).toInt < 2048) :
    MetFree l (⟨"com/example/libclause/libclause/search/ScoreWindow", "score", "(I)D"⟩ : MethodName) (head1 (Jvm.Cond.code (⟨"com/example/libclause/libclause/search/ScoreWindow", "score", "(I)D"⟩ : MethodName) prog_62_method_6_code 2 (some .double) :: ws) ({ frames := 0, cells := 0, slots := 0, locals := 0 } : Room)) (fun a U => a = #[(.ref a1), (.int dc)] ∧ Z.Warmed39 U.vm ∧ U.heap = h0) (fun _ _ _ _ _ => True) (fun _ U o U' => ∃ v L, o = .returned v ∧ Q9 Z a1 dc zs zf kA xA h0 n0 v U'.heap L ∧ FrameEnd U o U' L ({ frames := 0, cells := 0, slots := 0, locals := 0 } : Room).cells ({ frames := 0, cells := 0, slots := 0, locals := 0 } : Room).slots) := by
  refine MetFree.of_bodySF (plainFor_of_name pn_0) hisR ?_
  intro p e s m args below meth c s₁ Bd hml0 hP hK
  obtain ⟨rfl, hZ, hh⟩ := hP
  have hx := Bd.exec
  have hby := Bd.bytes
  have hml : c.maxLocals = 2 := hml0
  have hown : s.vm.findClass "com/example/libclause/libclause/search/ScoreWindow" = some m.cls := findClass_of_methodNamed Bd.named
  have hnm := (name_of_methodNamed Bd.named Bd.method).1
  have X0 : Stand p l e ({ frames := 0, cells := 0, slots := 0, locals := 0 } : Room) s m #[(.ref a1), (.int dc)] below meth c s₁ [] 0 0 := Stand.of_body Bd
  have e0 : s₁.heap = h0 := by rw [← hh, Bd.state]; rfl
  have N0 := Fr.nil n0
  have pre0 : ∀ t, Steps p.tables e below (s₁.setTop (mkF m 0 #[.val (.ref a1), .val (.int dc)] [])) t → Steps p.tables e below (s₁.setTop (entryFrame m #[(.ref a1), (.int dc)] 2)) t := fun t k => castTop (ef_9 m a1 dc) k
  obtain ⟨T295, X295, e295, st295⟩ := getF X0 hx hZ hown (host := "") (Or.inl (hw _ (List.mem_of_getElem? (i := 11) rfl))) Via.refl e0 F_scores_a1 (g := (mkF m 1 #[.val (.ref a1), .val (.int dc)] [(.ref a1)])) rfl rfl (hb hby d9_1)
  obtain ⟨T296, X296, e296, st296⟩ := getF X295 hx hZ hown (host := "") (Or.inl (hw _ (List.mem_of_getElem? (i := 24) rfl))) Via.refl e295 F_first_a1 (g := (mkF m 6 #[.val (.ref a1), .val (.int dc)] [(.ref a1), (.int dc), (.ref zs)])) rfl rfl (hb hby d9_6)
  obtain ⟨cl297, Ar297, qa297, Sa297, Na297, Ha297, Ga297⟩ := id VA
  have hin297 : ¬ ((dc - zf) < 0 ∨ cl297.slots.size ≤ ((dc - zf)).toNatClampNeg) := inb_of Sa297 (own_sb hs)
  have S298 : ∀ t, Steps p.tables e below (T296.setTop (mkF m 11 #[.val (.ref a1), .val (.int dc)] [(.double (xA ((dc - zf)).toNatClampNeg))])) t → Steps p.tables e below (s₁.setTop (entryFrame m #[(.ref a1), (.int dc)] 2)) t := by
    intro t k
    refine pre0 t ?_
    refine XS.aloadN X0.here hx rfl (hb hby d9_0) rfl rfl ?_
    show Steps p.tables e below (s₁.setTop (mkF m 1 #[.val (.ref a1), .val (.int dc)] [(.ref a1)])) _
    refine st295 _ ?_
    show Steps p.tables e below (T295.setTop (mkF m 4 #[.val (.ref a1), .val (.int dc)] [(.ref zs)])) _
    refine XS.iloadN X295.here hx rfl (hb hby d9_4) rfl ?_
    show Steps p.tables e below (T295.setTop (mkF m 5 #[.val (.ref a1), .val (.int dc)] [(.int dc), (.ref zs)])) _
    refine XS.aloadN X295.here hx rfl (hb hby d9_5) rfl rfl ?_
    show Steps p.tables e below (T295.setTop (mkF m 6 #[.val (.ref a1), .val (.int dc)] [(.ref a1), (.int dc), (.ref zs)])) _
    refine st296 _ ?_
    show Steps p.tables e below (T296.setTop (mkF m 9 #[.val (.ref a1), .val (.int dc)] [(.int zf), (.int dc), (.ref zs)])) _
    refine XS.isub X296.here hx rfl (hb hby d9_9) rfl ?_
    show Steps p.tables e below (T296.setTop (mkF m 10 #[.val (.ref a1), .val (.int dc)] [(.int (dc - zf)), (.ref zs)])) _
    refine X296.daload hx (j := (dc - zf)) (v := (.double (xA ((dc - zf)).toNatClampNeg))) (by rw [e296]; exact Ar297.1) (State.isArrayOf_alike hZ.alike Ar297.2.1) Ar297.2.2 hin297 (Has.at Ha297 hin297 (own_rdD xA (j := (dc - zf)) (own_sb hs))) (g := (mkF m 10 #[.val (.ref a1), .val (.int dc)] [(.int (dc - zf)), (.ref zs)])) rfl rfl (hb hby d9_10) _ ?_
    show Steps p.tables e below (T296.setTop (mkF m 11 #[.val (.ref a1), .val (.int dc)] [(.double (xA ((dc - zf)).toNatClampNeg))])) _
    exact k
  have hf : f9 dc zf xA = (xA ((dc - zf)).toNatClampNeg) := by
    unfold f9
    rfl
  obtain ⟨fs, hr, hrun, hended, hW, hsame⟩ := X296.leave (v := some (.double (xA ((dc - zf)).toNatClampNeg))) (fun h => by rw [Bd.returns] at h; cases h)
  refine ⟨_, _, S298 _ ?_, hrun, hended, _, _, rfl, ?_, ⟨_, rfl⟩, hW, hsame.mono (by decide) (by decide)⟩
  · exact retOut X296 hx Bd.returns rfl (Or.inr (Or.inr (Or.inl ⟨rfl, rfl, _, rfl⟩))) (hb hby d9_11) hr
  · show Q9 Z a1 dc zs zf kA xA h0 n0 _ T296.heap _
    rw [e296]
    exact ⟨by rw [hf], N0, rfl⟩
def f10 (dc : Int32) (zf : Int32) (xA : (Nat → Int32)) : Int32 := (xA ((dc - zf)).toNatClampNeg)
theorem d10_0 : decode prog_62_method_7_code 0 = .ok (.aload_n 0, 1) := by decide +kernel
theorem d10_1 : decode prog_62_method_7_code 1 = .ok (.getfield 13, 3) := by decide +kernel
theorem d10_4 : decode prog_62_method_7_code 4 = .ok (.iload_n 1, 1) := by decide +kernel
theorem d10_5 : decode prog_62_method_7_code 5 = .ok (.aload_n 0, 1) := by decide +kernel
theorem d10_6 : decode prog_62_method_7_code 6 = .ok (.getfield 27, 3) := by decide +kernel
theorem d10_9 : decode prog_62_method_7_code 9 = .ok (.isub, 1) := by decide +kernel
theorem d10_10 : decode prog_62_method_7_code 10 = .ok (.iaload, 1) := by decide +kernel
theorem d10_11 : decode prog_62_method_7_code 11 = .ok (.ireturn, 1) := by decide +kernel
theorem ef_10 (m : MethodId) (x0 : Addr) (x1 : Int32) : entryFrame m #[(.ref x0), (.int x1)] 2 = mkF m 0 #[.val (.ref x0), .val (.int x1)] [] := by first | (simp [entryFrame, mkF, argsToLocals, Value.category]; done) | rfl
def Q10 (Z : State) (a1 : Addr) (dc : Int32) (zc : Addr) (zf : Int32) (kA : ClassId) (xA : (Nat → Int32)) (h0 : Heap) (n0 : Nat) (v : Option Value) (h : Heap) (L : List Loc) : Prop := v = some (.int (f10 dc zf xA)) ∧ Fr n0 L ∧ h = h0
set_option maxRecDepth 65536 in
set_option maxHeartbeats 40000000 in
theorem rm10 (l : Launch) (Z : State) (a0 : Array Value) (hw : ∀ d ∈ tables_1, d.before a0 Z = true) (ws : List Jvm.Cond) (a1 : Addr) (dc : Int32) (zc : Addr) (zf : Int32) (kA : ClassId) (xA : (Nat → Int32)) (h0 : Heap) (n0 : Nat) (Z0 : n0 ≤ h0.size) (F_counts_a1 : Fld Z h0 a1 "com/example/libclause/libclause/search/ScoreWindow" "counts" "[I" (.ref zc)) (F_first_a1 : Fld Z h0 a1 "com/example/libclause/libclause/search/ScoreWindow" "first" "I" (.int zf)) (VA : Arv Z h0 zc kA .int (2048 : Int32) (own_E xA) (.int (0 : Int32))) (hs : 0 ≤ (dc - zf).toInt ∧ (dc - zf).toInt < 2048) :
    MetFree l (⟨"com/example/libclause/libclause/search/ScoreWindow", "count", "(I)I"⟩ : MethodName) (head1 (Jvm.Cond.code (⟨"com/example/libclause/libclause/search/ScoreWindow", "count", "(I)I"⟩ : MethodName) prog_62_method_7_code 2 (some .int) :: ws) ({ frames := 0, cells := 0, slots := 0, locals := 0 } : Room)) (fun a U => a = #[(.ref a1), (.int dc)] ∧ Z.Warmed39 U.vm ∧ U.heap = h0) (fun _ _ _ _ _ => True) (fun _ U o U' => ∃ v L, o = .returned v ∧ Q10 Z a1 dc zc zf kA xA h0 n0 v U'.heap L ∧ FrameEnd U o U' L ({ frames := 0, cells := 0, slots := 0, locals := 0 } : Room).cells ({ frames := 0, cells := 0, slots := 0, locals := 0 } : Room).slots) := by
  refine MetFree.of_bodySF (plainFor_of_name pn_0) hisR ?_
  intro p e s m args below meth c s₁ Bd hml0 hP hK
  obtain ⟨rfl, hZ, hh⟩ := hP
  have hx := Bd.exec
  have hby := Bd.bytes
  have hml : c.maxLocals = 2 := hml0
  have hown : s.vm.findClass "com/example/libclause/libclause/search/ScoreWindow" = some m.cls := findClass_of_methodNamed Bd.named
  have hnm := (name_of_methodNamed Bd.named Bd.method).1
  have X0 : Stand p l e ({ frames := 0, cells := 0, slots := 0, locals := 0 } : Room) s m #[(.ref a1), (.int dc)] below meth c s₁ [] 0 0 := Stand.of_body Bd
  have e0 : s₁.heap = h0 := by rw [← hh, Bd.state]; rfl
  have N0 := Fr.nil n0
  have pre0 : ∀ t, Steps p.tables e below (s₁.setTop (mkF m 0 #[.val (.ref a1), .val (.int dc)] [])) t → Steps p.tables e below (s₁.setTop (entryFrame m #[(.ref a1), (.int dc)] 2)) t := fun t k => castTop (ef_10 m a1 dc) k
  obtain ⟨T303, X303, e303, st303⟩ := getF X0 hx hZ hown (host := "") (Or.inl (hw _ (List.mem_of_getElem? (i := 14) rfl))) Via.refl e0 F_counts_a1 (g := (mkF m 1 #[.val (.ref a1), .val (.int dc)] [(.ref a1)])) rfl rfl (hb hby d10_1)
  obtain ⟨T304, X304, e304, st304⟩ := getF X303 hx hZ hown (host := "") (Or.inl (hw _ (List.mem_of_getElem? (i := 24) rfl))) Via.refl e303 F_first_a1 (g := (mkF m 6 #[.val (.ref a1), .val (.int dc)] [(.ref a1), (.int dc), (.ref zc)])) rfl rfl (hb hby d10_6)
  obtain ⟨cl305, Ar305, qa305, Sa305, Na305, Ha305, Ga305⟩ := id VA
  have hin305 : ¬ ((dc - zf) < 0 ∨ cl305.slots.size ≤ ((dc - zf)).toNatClampNeg) := inb_of Sa305 (own_sb hs)
  have S306 : ∀ t, Steps p.tables e below (T304.setTop (mkF m 11 #[.val (.ref a1), .val (.int dc)] [(.int (xA ((dc - zf)).toNatClampNeg))])) t → Steps p.tables e below (s₁.setTop (entryFrame m #[(.ref a1), (.int dc)] 2)) t := by
    intro t k
    refine pre0 t ?_
    refine XS.aloadN X0.here hx rfl (hb hby d10_0) rfl rfl ?_
    show Steps p.tables e below (s₁.setTop (mkF m 1 #[.val (.ref a1), .val (.int dc)] [(.ref a1)])) _
    refine st303 _ ?_
    show Steps p.tables e below (T303.setTop (mkF m 4 #[.val (.ref a1), .val (.int dc)] [(.ref zc)])) _
    refine XS.iloadN X303.here hx rfl (hb hby d10_4) rfl ?_
    show Steps p.tables e below (T303.setTop (mkF m 5 #[.val (.ref a1), .val (.int dc)] [(.int dc), (.ref zc)])) _
    refine XS.aloadN X303.here hx rfl (hb hby d10_5) rfl rfl ?_
    show Steps p.tables e below (T303.setTop (mkF m 6 #[.val (.ref a1), .val (.int dc)] [(.ref a1), (.int dc), (.ref zc)])) _
    refine st304 _ ?_
    show Steps p.tables e below (T304.setTop (mkF m 9 #[.val (.ref a1), .val (.int dc)] [(.int zf), (.int dc), (.ref zc)])) _
    refine XS.isub X304.here hx rfl (hb hby d10_9) rfl ?_
    show Steps p.tables e below (T304.setTop (mkF m 10 #[.val (.ref a1), .val (.int dc)] [(.int (dc - zf)), (.ref zc)])) _
    refine X304.iaload hx (j := (dc - zf)) (v := (.int (xA ((dc - zf)).toNatClampNeg))) (by rw [e304]; exact Ar305.1) (State.isArrayOf_alike hZ.alike Ar305.2.1) Ar305.2.2 hin305 (Has.at Ha305 hin305 (own_rdE xA (j := (dc - zf)) (own_sb hs))) (g := (mkF m 10 #[.val (.ref a1), .val (.int dc)] [(.int (dc - zf)), (.ref zc)])) rfl rfl (hb hby d10_10) _ ?_
    show Steps p.tables e below (T304.setTop (mkF m 11 #[.val (.ref a1), .val (.int dc)] [(.int (xA ((dc - zf)).toNatClampNeg))])) _
    exact k
  have hf : f10 dc zf xA = (xA ((dc - zf)).toNatClampNeg) := by
    unfold f10
    rfl
  obtain ⟨fs, hr, hrun, hended, hW, hsame⟩ := X304.leave (v := some (.int (xA ((dc - zf)).toNatClampNeg))) (fun h => by rw [Bd.returns] at h; cases h)
  refine ⟨_, _, S306 _ ?_, hrun, hended, _, _, rfl, ?_, ⟨_, rfl⟩, hW, hsame.mono (by decide) (by decide)⟩
  · exact retOut X304 hx Bd.returns rfl (Or.inl ⟨rfl, Or.inl rfl, _, rfl⟩) (hb hby d10_11) hr
  · show Q10 Z a1 dc zc zf kA xA h0 n0 _ T304.heap _
    rw [e304]
    exact ⟨by rw [hf], N0, rfl⟩
theorem pd_2 : parseMethodDescriptor "(J)I" = some ⟨[.long], some .int⟩ := by decide +kernel
def f11 (fr : Int32) (zf : Int32) (ze : Int32) (xA : (Nat → Int64)) : Int32 := (if (lcmpW (own_lb xA (31 - (((fr - zf) / (64 : Int32))).toInt).toNat ((fr - zf) / (64 : Int32)) (if ((fr - zf) / (64 : Int32)) < (32 : Int32) then ((xA (((fr - zf) / (64 : Int32))).toNatClampNeg) &&& ((-1 : Int64) <<< ((fr - zf) &&& 0x3f).toInt64)) else (0 : Int64))) (0 : Int64)) = (0 : Int32) then ze else ((zf + ((own_lw xA (31 - (((fr - zf) / (64 : Int32))).toInt).toNat ((fr - zf) / (64 : Int32)) (if ((fr - zf) / (64 : Int32)) < (32 : Int32) then ((xA (((fr - zf) / (64 : Int32))).toNatClampNeg) &&& ((-1 : Int64) <<< ((fr - zf) &&& 0x3f).toInt64)) else (0 : Int64))) * (64 : Int32))) + (f12 (own_lb xA (31 - (((fr - zf) / (64 : Int32))).toInt).toNat ((fr - zf) / (64 : Int32)) (if ((fr - zf) / (64 : Int32)) < (32 : Int32) then ((xA (((fr - zf) / (64 : Int32))).toNatClampNeg) &&& ((-1 : Int64) <<< ((fr - zf) &&& 0x3f).toInt64)) else (0 : Int64))))))
theorem d11_0 : decode prog_62_method_5_code 0 = .ok (.iload_n 1, 1) := by decide +kernel
theorem d11_1 : decode prog_62_method_5_code 1 = .ok (.aload_n 0, 1) := by decide +kernel
theorem d11_2 : decode prog_62_method_5_code 2 = .ok (.getfield 27, 3) := by decide +kernel
theorem d11_5 : decode prog_62_method_5_code 5 = .ok (.isub, 1) := by decide +kernel
theorem d11_6 : decode prog_62_method_5_code 6 = .ok (.istore_n 2, 1) := by decide +kernel
theorem d11_7 : decode prog_62_method_5_code 7 = .ok (.iload_n 2, 1) := by decide +kernel
theorem d11_8 : decode prog_62_method_5_code 8 = .ok (.bipush 64, 2) := by decide +kernel
theorem d11_10 : decode prog_62_method_5_code 10 = .ok (.idiv, 1) := by decide +kernel
theorem d11_11 : decode prog_62_method_5_code 11 = .ok (.istore_n 3, 1) := by decide +kernel
theorem d11_12 : decode prog_62_method_5_code 12 = .ok (.iload_n 3, 1) := by decide +kernel
theorem d11_13 : decode prog_62_method_5_code 13 = .ok (.aload_n 0, 1) := by decide +kernel
theorem d11_14 : decode prog_62_method_5_code 14 = .ok (.getfield 19, 3) := by decide +kernel
theorem d11_17 : decode prog_62_method_5_code 17 = .ok (.arraylength, 1) := by decide +kernel
theorem d11_18 : decode prog_62_method_5_code 18 = .ok (.if_icmp .ge 18, 3) := by decide +kernel
theorem d11_21 : decode prog_62_method_5_code 21 = .ok (.aload_n 0, 1) := by decide +kernel
theorem d11_22 : decode prog_62_method_5_code 22 = .ok (.getfield 19, 3) := by decide +kernel
theorem d11_25 : decode prog_62_method_5_code 25 = .ok (.iload_n 3, 1) := by decide +kernel
theorem d11_26 : decode prog_62_method_5_code 26 = .ok (.laload, 1) := by decide +kernel
theorem d11_27 : decode prog_62_method_5_code 27 = .ok (.ldc2_w 46, 3) := by decide +kernel
theorem d11_30 : decode prog_62_method_5_code 30 = .ok (.iload_n 2, 1) := by decide +kernel
theorem d11_31 : decode prog_62_method_5_code 31 = .ok (.lshl, 1) := by decide +kernel
theorem d11_32 : decode prog_62_method_5_code 32 = .ok (.land, 1) := by decide +kernel
theorem d11_33 : decode prog_62_method_5_code 33 = .ok (.goto 4, 3) := by decide +kernel
theorem d11_36 : decode prog_62_method_5_code 36 = .ok (.lconst 0, 1) := by decide +kernel
theorem d11_37 : decode prog_62_method_5_code 37 = .ok (.lstore 4, 2) := by decide +kernel
theorem d11_39 : decode prog_62_method_5_code 39 = .ok (.lload 4, 2) := by decide +kernel
theorem d11_41 : decode prog_62_method_5_code 41 = .ok (.lconst 0, 1) := by decide +kernel
theorem d11_42 : decode prog_62_method_5_code 42 = .ok (.lcmp, 1) := by decide +kernel
theorem d11_43 : decode prog_62_method_5_code 43 = .ok (.ifCond .ne 28, 3) := by decide +kernel
theorem d11_46 : decode prog_62_method_5_code 46 = .ok (.iload_n 3, 1) := by decide +kernel
theorem d11_47 : decode prog_62_method_5_code 47 = .ok (.iconst 1, 1) := by decide +kernel
theorem d11_48 : decode prog_62_method_5_code 48 = .ok (.iadd, 1) := by decide +kernel
theorem d11_49 : decode prog_62_method_5_code 49 = .ok (.aload_n 0, 1) := by decide +kernel
theorem d11_50 : decode prog_62_method_5_code 50 = .ok (.getfield 19, 3) := by decide +kernel
theorem d11_53 : decode prog_62_method_5_code 53 = .ok (.arraylength, 1) := by decide +kernel
theorem d11_54 : decode prog_62_method_5_code 54 = .ok (.if_icmp .ge 17, 3) := by decide +kernel
theorem d11_57 : decode prog_62_method_5_code 57 = .ok (.iinc 3 1, 3) := by decide +kernel
theorem d11_60 : decode prog_62_method_5_code 60 = .ok (.aload_n 0, 1) := by decide +kernel
theorem d11_61 : decode prog_62_method_5_code 61 = .ok (.getfield 19, 3) := by decide +kernel
theorem d11_64 : decode prog_62_method_5_code 64 = .ok (.iload_n 3, 1) := by decide +kernel
theorem d11_65 : decode prog_62_method_5_code 65 = .ok (.laload, 1) := by decide +kernel
theorem d11_66 : decode prog_62_method_5_code 66 = .ok (.lstore 4, 2) := by decide +kernel
theorem d11_68 : decode prog_62_method_5_code 68 = .ok (.goto (-29), 3) := by decide +kernel
theorem d11_71 : decode prog_62_method_5_code 71 = .ok (.lload 4, 2) := by decide +kernel
theorem d11_73 : decode prog_62_method_5_code 73 = .ok (.lconst 0, 1) := by decide +kernel
theorem d11_74 : decode prog_62_method_5_code 74 = .ok (.lcmp, 1) := by decide +kernel
theorem d11_75 : decode prog_62_method_5_code 75 = .ok (.ifCond .ne 10, 3) := by decide +kernel
theorem d11_78 : decode prog_62_method_5_code 78 = .ok (.aload_n 0, 1) := by decide +kernel
theorem d11_79 : decode prog_62_method_5_code 79 = .ok (.getfield 43, 3) := by decide +kernel
theorem d11_82 : decode prog_62_method_5_code 82 = .ok (.goto 18, 3) := by decide +kernel
theorem d11_85 : decode prog_62_method_5_code 85 = .ok (.aload_n 0, 1) := by decide +kernel
theorem d11_86 : decode prog_62_method_5_code 86 = .ok (.getfield 27, 3) := by decide +kernel
theorem d11_89 : decode prog_62_method_5_code 89 = .ok (.iload_n 3, 1) := by decide +kernel
theorem d11_90 : decode prog_62_method_5_code 90 = .ok (.bipush 64, 2) := by decide +kernel
theorem d11_92 : decode prog_62_method_5_code 92 = .ok (.imul, 1) := by decide +kernel
theorem d11_93 : decode prog_62_method_5_code 93 = .ok (.iadd, 1) := by decide +kernel
theorem d11_94 : decode prog_62_method_5_code 94 = .ok (.lload 4, 2) := by decide +kernel
theorem d11_96 : decode prog_62_method_5_code 96 = .ok (.invokestatic 23, 3) := by decide +kernel
theorem d11_99 : decode prog_62_method_5_code 99 = .ok (.iadd, 1) := by decide +kernel
theorem d11_100 : decode prog_62_method_5_code 100 = .ok (.ireturn, 1) := by decide +kernel
theorem ef_11 (m : MethodId) (x0 : Addr) (x1 : Int32) : entryFrame m #[(.ref x0), (.int x1)] 6 = mkF m 0 #[.val (.ref x0), .val (.int x1), .unset, .unset, .unset, .unset] [] := by first | (simp [entryFrame, mkF, argsToLocals, Value.category]; done) | rfl
def Q11 (Z : State) (a1 : Addr) (fr : Int32) (zm : Addr) (zf : Int32) (ze : Int32) (kA : ClassId) (xA : (Nat → Int64)) (h0 : Heap) (n0 : Nat) (v : Option Value) (h : Heap) (L : List Loc) : Prop := v = some (.int (f11 fr zf ze xA)) ∧ Fr n0 L ∧ h = h0
set_option maxRecDepth 65536 in
set_option maxHeartbeats 40000000 in
theorem rm11 (l : Launch) (Z : State) (a0 : Array Value) (hw : ∀ d ∈ tables_1, d.before a0 Z = true) (ws : List Jvm.Cond) (a1 : Addr) (fr : Int32) (zm : Addr) (zf : Int32) (ze : Int32) (kA : ClassId) (xA : (Nat → Int64)) (h0 : Heap) (n0 : Nat) (Z0 : n0 ≤ h0.size) (F_marked_a1 : Fld Z h0 a1 "com/example/libclause/libclause/search/ScoreWindow" "marked" "[J" (.ref zm)) (F_first_a1 : Fld Z h0 a1 "com/example/libclause/libclause/search/ScoreWindow" "first" "I" (.int zf)) (F_end_a1 : Fld Z h0 a1 "com/example/libclause/libclause/search/ScoreWindow" "end" "I" (.int ze)) (VA : Arv Z h0 zm kA .long (32 : Int32) (own_L xA) (.long (0 : Int64))) (hs : 0 ≤ (fr - zf).toInt ∧ (fr - zf).toInt ≤ 2048) :
    MetFree l (⟨"com/example/libclause/libclause/search/ScoreWindow", "next", "(I)I"⟩ : MethodName) (head1 (Jvm.Cond.code (⟨"com/example/libclause/libclause/search/ScoreWindow", "next", "(I)I"⟩ : MethodName) prog_62_method_5_code 6 (some .int) :: ws) ({ frames := 2, cells := 0, slots := 0, locals := 29 } : Room)) (fun a U => a = #[(.ref a1), (.int fr)] ∧ Z.Warmed39 U.vm ∧ U.heap = h0) (fun _ _ _ _ _ => True) (fun _ U o U' => ∃ v L, o = .returned v ∧ Q11 Z a1 fr zm zf ze kA xA h0 n0 v U'.heap L ∧ FrameEnd U o U' L ({ frames := 2, cells := 0, slots := 0, locals := 29 } : Room).cells ({ frames := 2, cells := 0, slots := 0, locals := 29 } : Room).slots) := by
  refine MetFree.of_bodySF (plainFor_of_name pn_0) hisR ?_
  intro p e s m args below meth c s₁ Bd hml0 hP hK
  obtain ⟨rfl, hZ, hh⟩ := hP
  have hx := Bd.exec
  have hby := Bd.bytes
  have hml : c.maxLocals = 6 := hml0
  have hown : s.vm.findClass "com/example/libclause/libclause/search/ScoreWindow" = some m.cls := findClass_of_methodNamed Bd.named
  have hnm := (name_of_methodNamed Bd.named Bd.method).1
  have X0 : Stand p l e ({ frames := 2, cells := 0, slots := 0, locals := 29 } : Room) s m #[(.ref a1), (.int fr)] below meth c s₁ [] 0 0 := Stand.of_body Bd
  have e0 : s₁.heap = h0 := by rw [← hh, Bd.state]; rfl
  have N0 := Fr.nil n0
  have pre0 : ∀ t, Steps p.tables e below (s₁.setTop (mkF m 0 #[.val (.ref a1), .val (.int fr), .unset, .unset, .unset, .unset] [])) t → Steps p.tables e below (s₁.setTop (entryFrame m #[(.ref a1), (.int fr)] 6)) t := fun t k => castTop (ef_11 m a1 fr) k
  obtain ⟨T341, X341, e341, st341⟩ := getF X0 hx hZ hown (host := "") (Or.inl (hw _ (List.mem_of_getElem? (i := 24) rfl))) Via.refl e0 F_first_a1 (g := (mkF m 2 #[.val (.ref a1), .val (.int fr), .unset, .unset, .unset, .unset] [(.ref a1), (.int fr)])) rfl rfl (hb hby d11_2)
  obtain ⟨T342, X342, e342, st342⟩ := getF X341 hx hZ hown (host := "") (Or.inl (hw _ (List.mem_of_getElem? (i := 17) rfl))) Via.refl e341 F_marked_a1 (g := (mkF m 14 #[.val (.ref a1), .val (.int fr), .val (.int (fr - zf)), .val (.int ((fr - zf) / (64 : Int32))), .unset, .unset] [(.ref a1), (.int ((fr - zf) / (64 : Int32)))])) rfl rfl (hb hby d11_14)
  obtain ⟨cl343, Ar343, qa343, Sa343, Na343, Ha343, Ga343⟩ := id VA
  have S344 : ∀ t, Steps p.tables e below (T342.setTop (mkF m 18 #[.val (.ref a1), .val (.int fr), .val (.int (fr - zf)), .val (.int ((fr - zf) / (64 : Int32))), .unset, .unset] [(.int (32 : Int32)), (.int ((fr - zf) / (64 : Int32)))])) t → Steps p.tables e below (s₁.setTop (entryFrame m #[(.ref a1), (.int fr)] 6)) t := by
    intro t k
    refine pre0 t ?_
    refine XS.iloadN X0.here hx rfl (hb hby d11_0) rfl ?_
    show Steps p.tables e below (s₁.setTop (mkF m 1 #[.val (.ref a1), .val (.int fr), .unset, .unset, .unset, .unset] [(.int fr)])) _
    refine XS.aloadN X0.here hx rfl (hb hby d11_1) rfl rfl ?_
    show Steps p.tables e below (s₁.setTop (mkF m 2 #[.val (.ref a1), .val (.int fr), .unset, .unset, .unset, .unset] [(.ref a1), (.int fr)])) _
    refine st341 _ ?_
    show Steps p.tables e below (T341.setTop (mkF m 5 #[.val (.ref a1), .val (.int fr), .unset, .unset, .unset, .unset] [(.int zf), (.int fr)])) _
    refine XS.isub X341.here hx rfl (hb hby d11_5) rfl ?_
    show Steps p.tables e below (T341.setTop (mkF m 6 #[.val (.ref a1), .val (.int fr), .unset, .unset, .unset, .unset] [(.int (fr - zf))])) _
    refine XS.istoreN X341.here hx rfl (hb hby d11_6) rfl (l' := #[.val (.ref a1), .val (.int fr), .val (.int (fr - zf)), .unset, .unset, .unset]) rfl ?_
    show Steps p.tables e below (T341.setTop (mkF m 7 #[.val (.ref a1), .val (.int fr), .val (.int (fr - zf)), .unset, .unset, .unset] [])) _
    refine XS.iloadN X341.here hx rfl (hb hby d11_7) rfl ?_
    show Steps p.tables e below (T341.setTop (mkF m 8 #[.val (.ref a1), .val (.int fr), .val (.int (fr - zf)), .unset, .unset, .unset] [(.int (fr - zf))])) _
    refine XS.bipush X341.here hx rfl (hb hby d11_8) ?_
    show Steps p.tables e below (T341.setTop (mkF m 10 #[.val (.ref a1), .val (.int fr), .val (.int (fr - zf)), .unset, .unset, .unset] [(.int (64 : Int32)), (.int (fr - zf))])) _
    refine XS.idiv X341.here hx rfl (hb hby d11_10) rfl (by decide) ?_
    show Steps p.tables e below (T341.setTop (mkF m 11 #[.val (.ref a1), .val (.int fr), .val (.int (fr - zf)), .unset, .unset, .unset] [(.int ((fr - zf) / (64 : Int32)))])) _
    refine XS.istoreN X341.here hx rfl (hb hby d11_11) rfl (l' := #[.val (.ref a1), .val (.int fr), .val (.int (fr - zf)), .val (.int ((fr - zf) / (64 : Int32))), .unset, .unset]) rfl ?_
    show Steps p.tables e below (T341.setTop (mkF m 12 #[.val (.ref a1), .val (.int fr), .val (.int (fr - zf)), .val (.int ((fr - zf) / (64 : Int32))), .unset, .unset] [])) _
    refine XS.iloadN X341.here hx rfl (hb hby d11_12) rfl ?_
    show Steps p.tables e below (T341.setTop (mkF m 13 #[.val (.ref a1), .val (.int fr), .val (.int (fr - zf)), .val (.int ((fr - zf) / (64 : Int32))), .unset, .unset] [(.int ((fr - zf) / (64 : Int32)))])) _
    refine XS.aloadN X341.here hx rfl (hb hby d11_13) rfl rfl ?_
    show Steps p.tables e below (T341.setTop (mkF m 14 #[.val (.ref a1), .val (.int fr), .val (.int (fr - zf)), .val (.int ((fr - zf) / (64 : Int32))), .unset, .unset] [(.ref a1), (.int ((fr - zf) / (64 : Int32)))])) _
    refine st342 _ ?_
    show Steps p.tables e below (T342.setTop (mkF m 17 #[.val (.ref a1), .val (.int fr), .val (.int (fr - zf)), .val (.int ((fr - zf) / (64 : Int32))), .unset, .unset] [(.ref zm), (.int ((fr - zf) / (64 : Int32)))])) _
    refine X342.arraylength hx (by rw [e342]; exact Ar343.1) (State.isArrayOf_alike hZ.alike Ar343.2.1) (g := (mkF m 17 #[.val (.ref a1), .val (.int fr), .val (.int (fr - zf)), .val (.int ((fr - zf) / (64 : Int32))), .unset, .unset] [(.ref zm), (.int ((fr - zf) / (64 : Int32)))])) rfl rfl (hb hby d11_17) _ ?_
    rw [len_of Sa343 Na343]
    show Steps p.tables e below (T342.setTop (mkF m 18 #[.val (.ref a1), .val (.int fr), .val (.int (fr - zf)), .val (.int ((fr - zf) / (64 : Int32))), .unset, .unset] [(.int (32 : Int32)), (.int ((fr - zf) / (64 : Int32)))])) _
    exact k
  obtain ⟨T350, L350, X350, N350, e350, S350⟩ : ∃ (T' : State) (L' : List Loc), Stand p l e ({ frames := 2, cells := 0, slots := 0, locals := 29 } : Room) s m #[(.ref a1), (.int fr)] below meth c T' L' 0 0 ∧ Fr n0 L' ∧ T'.heap = h0 ∧ ∀ t, Steps p.tables e below (T'.setTop (mkF m 37 #[.val (.ref a1), .val (.int fr), .val (.int (fr - zf)), .val (.int ((fr - zf) / (64 : Int32))), .unset, .unset] [(.long (if ((fr - zf) / (64 : Int32)) < (32 : Int32) then ((xA (((fr - zf) / (64 : Int32))).toNatClampNeg) &&& ((-1 : Int64) <<< ((fr - zf) &&& 0x3f).toInt64)) else (0 : Int64)))])) t → Steps p.tables e below (s₁.setTop (entryFrame m #[(.ref a1), (.int fr)] 6)) t := by
    by_cases hc345 : ((fr - zf) / (64 : Int32)) < (32 : Int32)
    · rw [if_pos hc345]
      obtain ⟨T346, X346, e346, st346⟩ := getF X342 hx hZ hown (host := "") (Or.inl (hw _ (List.mem_of_getElem? (i := 17) rfl))) Via.refl e342 F_marked_a1 (g := (mkF m 22 #[.val (.ref a1), .val (.int fr), .val (.int (fr - zf)), .val (.int ((fr - zf) / (64 : Int32))), .unset, .unset] [(.ref a1)])) rfl rfl (hb hby d11_22)
      obtain ⟨cl347, Ar347, qa347, Sa347, Na347, Ha347, Ga347⟩ := id VA
      have hin347 : ¬ (((fr - zf) / (64 : Int32)) < 0 ∨ cl347.slots.size ≤ (((fr - zf) / (64 : Int32))).toNatClampNeg) := inb_of Sa347 (own_wb' hs hc345)
      have S348 : ∀ t, Steps p.tables e below (T346.setTop (mkF m 37 #[.val (.ref a1), .val (.int fr), .val (.int (fr - zf)), .val (.int ((fr - zf) / (64 : Int32))), .unset, .unset] [(.long ((xA (((fr - zf) / (64 : Int32))).toNatClampNeg) &&& ((-1 : Int64) <<< ((fr - zf) &&& 0x3f).toInt64)))])) t → Steps p.tables e below (s₁.setTop (entryFrame m #[(.ref a1), (.int fr)] 6)) t := by
        intro t k
        refine S344 t ?_
        refine XS.icmpNo X342.here hx rfl (hb hby d11_18) rfl (tlt hc345).2.1 ?_
        show Steps p.tables e below (T342.setTop (mkF m 21 #[.val (.ref a1), .val (.int fr), .val (.int (fr - zf)), .val (.int ((fr - zf) / (64 : Int32))), .unset, .unset] [])) _
        refine XS.aloadN X342.here hx rfl (hb hby d11_21) rfl rfl ?_
        show Steps p.tables e below (T342.setTop (mkF m 22 #[.val (.ref a1), .val (.int fr), .val (.int (fr - zf)), .val (.int ((fr - zf) / (64 : Int32))), .unset, .unset] [(.ref a1)])) _
        refine st346 _ ?_
        show Steps p.tables e below (T346.setTop (mkF m 25 #[.val (.ref a1), .val (.int fr), .val (.int (fr - zf)), .val (.int ((fr - zf) / (64 : Int32))), .unset, .unset] [(.ref zm)])) _
        refine XS.iloadN X346.here hx rfl (hb hby d11_25) rfl ?_
        show Steps p.tables e below (T346.setTop (mkF m 26 #[.val (.ref a1), .val (.int fr), .val (.int (fr - zf)), .val (.int ((fr - zf) / (64 : Int32))), .unset, .unset] [(.int ((fr - zf) / (64 : Int32))), (.ref zm)])) _
        refine X346.laload hx (j := ((fr - zf) / (64 : Int32))) (v := (.long (xA (((fr - zf) / (64 : Int32))).toNatClampNeg))) (by rw [e346]; exact Ar347.1) (State.isArrayOf_alike hZ.alike Ar347.2.1) Ar347.2.2 hin347 (Has.at Ha347 hin347 (own_rdL xA (j := ((fr - zf) / (64 : Int32))) (own_wb' hs hc345))) (g := (mkF m 26 #[.val (.ref a1), .val (.int fr), .val (.int (fr - zf)), .val (.int ((fr - zf) / (64 : Int32))), .unset, .unset] [(.int ((fr - zf) / (64 : Int32))), (.ref zm)])) rfl rfl (hb hby d11_26) _ ?_
        show Steps p.tables e below (T346.setTop (mkF m 27 #[.val (.ref a1), .val (.int fr), .val (.int (fr - zf)), .val (.int ((fr - zf) / (64 : Int32))), .unset, .unset] [(.long (xA (((fr - zf) / (64 : Int32))).toNatClampNeg))])) _
        refine X346.ldc2Long hx hown (mvT hZ (hw _ (List.mem_of_getElem? (i := 65) rfl))) (g := (mkF m 27 #[.val (.ref a1), .val (.int fr), .val (.int (fr - zf)), .val (.int ((fr - zf) / (64 : Int32))), .unset, .unset] [(.long (xA (((fr - zf) / (64 : Int32))).toNatClampNeg))])) rfl (hb hby d11_27) _ ?_
        show Steps p.tables e below (T346.setTop (mkF m 30 #[.val (.ref a1), .val (.int fr), .val (.int (fr - zf)), .val (.int ((fr - zf) / (64 : Int32))), .unset, .unset] [(.long (-1 : Int64)), (.long (xA (((fr - zf) / (64 : Int32))).toNatClampNeg))])) _
        refine XS.iloadN X346.here hx rfl (hb hby d11_30) rfl ?_
        show Steps p.tables e below (T346.setTop (mkF m 31 #[.val (.ref a1), .val (.int fr), .val (.int (fr - zf)), .val (.int ((fr - zf) / (64 : Int32))), .unset, .unset] [(.int (fr - zf)), (.long (-1 : Int64)), (.long (xA (((fr - zf) / (64 : Int32))).toNatClampNeg))])) _
        refine XS.lshl X346.here hx rfl (hb hby d11_31) rfl ?_
        show Steps p.tables e below (T346.setTop (mkF m 32 #[.val (.ref a1), .val (.int fr), .val (.int (fr - zf)), .val (.int ((fr - zf) / (64 : Int32))), .unset, .unset] [(.long ((-1 : Int64) <<< ((fr - zf) &&& 0x3f).toInt64)), (.long (xA (((fr - zf) / (64 : Int32))).toNatClampNeg))])) _
        refine XS.land X346.here hx rfl (hb hby d11_32) rfl ?_
        show Steps p.tables e below (T346.setTop (mkF m 33 #[.val (.ref a1), .val (.int fr), .val (.int (fr - zf)), .val (.int ((fr - zf) / (64 : Int32))), .unset, .unset] [(.long ((xA (((fr - zf) / (64 : Int32))).toNatClampNeg) &&& ((-1 : Int64) <<< ((fr - zf) &&& 0x3f).toInt64)))])) _
        refine XS.goto X346.here hx rfl (pc0 := 33) (pc' := 37) rfl (hb hby d11_33) (by decide) (by decide) ?_
        show Steps p.tables e below (T346.setTop (mkF m 37 #[.val (.ref a1), .val (.int fr), .val (.int (fr - zf)), .val (.int ((fr - zf) / (64 : Int32))), .unset, .unset] [(.long ((xA (((fr - zf) / (64 : Int32))).toNatClampNeg) &&& ((-1 : Int64) <<< ((fr - zf) &&& 0x3f).toInt64)))])) _
        exact k
      exact ⟨T346, _, X346, N0, e346, S348⟩
    · rw [if_neg hc345]
      have S349 : ∀ t, Steps p.tables e below (T342.setTop (mkF m 37 #[.val (.ref a1), .val (.int fr), .val (.int (fr - zf)), .val (.int ((fr - zf) / (64 : Int32))), .unset, .unset] [(.long (0 : Int64))])) t → Steps p.tables e below (s₁.setTop (entryFrame m #[(.ref a1), (.int fr)] 6)) t := by
        intro t k
        refine S344 t ?_
        refine XS.icmpYes X342.here hx rfl (pc0 := 18) (pc' := 36) rfl (hb hby d11_18) rfl (flt hc345).2.1 (by decide) (by decide) ?_
        show Steps p.tables e below (T342.setTop (mkF m 36 #[.val (.ref a1), .val (.int fr), .val (.int (fr - zf)), .val (.int ((fr - zf) / (64 : Int32))), .unset, .unset] [])) _
        refine XS.lconst X342.here hx rfl (hb hby d11_36) ?_
        show Steps p.tables e below (T342.setTop (mkF m 37 #[.val (.ref a1), .val (.int fr), .val (.int (fr - zf)), .val (.int ((fr - zf) / (64 : Int32))), .unset, .unset] [(.long (0 : Int64))])) _
        exact k
      exact ⟨T342, _, X342, N0, e342, S349⟩
  have S351 : ∀ t, Steps p.tables e below (T350.setTop (mkF m 39 #[.val (.ref a1), .val (.int fr), .val (.int (fr - zf)), .val (.int ((fr - zf) / (64 : Int32))), .val (.long (if ((fr - zf) / (64 : Int32)) < (32 : Int32) then ((xA (((fr - zf) / (64 : Int32))).toNatClampNeg) &&& ((-1 : Int64) <<< ((fr - zf) &&& 0x3f).toInt64)) else (0 : Int64))), .second] [])) t → Steps p.tables e below (s₁.setTop (entryFrame m #[(.ref a1), (.int fr)] 6)) t := by
    intro t k
    refine S350 t ?_
    refine XS.lstore X350.here hx rfl (hb hby d11_37) rfl (l' := #[.val (.ref a1), .val (.int fr), .val (.int (fr - zf)), .val (.int ((fr - zf) / (64 : Int32))), .val (.long (if ((fr - zf) / (64 : Int32)) < (32 : Int32) then ((xA (((fr - zf) / (64 : Int32))).toNatClampNeg) &&& ((-1 : Int64) <<< ((fr - zf) &&& 0x3f).toInt64)) else (0 : Int64))), .second]) rfl ?_
    show Steps p.tables e below (T350.setTop (mkF m 39 #[.val (.ref a1), .val (.int fr), .val (.int (fr - zf)), .val (.int ((fr - zf) / (64 : Int32))), .val (.long (if ((fr - zf) / (64 : Int32)) < (32 : Int32) then ((xA (((fr - zf) / (64 : Int32))).toNatClampNeg) &&& ((-1 : Int64) <<< ((fr - zf) &&& 0x3f).toInt64)) else (0 : Int64))), .second] [])) _
    exact k
  have loop352 : ∀ (k : Nat) (w : Int32) (b : Int64) (T : State) (L : List Loc), own_lk k w → Stand p l e ({ frames := 2, cells := 0, slots := 0, locals := 29 } : Room) s m #[(.ref a1), (.int fr)] below meth c T L 0 0 → Fr n0 L → T.heap = h0 → (∀ t, Steps p.tables e below (T.setTop (mkF m 39 #[.val (.ref a1), .val (.int fr), .val (.int (fr - zf)), .val (.int w), .val (.long b), .second] [])) t → Steps p.tables e below (s₁.setTop (entryFrame m #[(.ref a1), (.int fr)] 6)) t) → ∃ (T' : State) (L' : List Loc), Stand p l e ({ frames := 2, cells := 0, slots := 0, locals := 29 } : Room) s m #[(.ref a1), (.int fr)] below meth c T' L' 0 0 ∧ Fr n0 L' ∧ T'.heap = h0 ∧ ∀ t, Steps p.tables e below (T'.setTop (mkF m 71 #[.val (.ref a1), .val (.int fr), .val (.int (fr - zf)), .val (.int (own_lw xA k w b)), .val (.long (own_lb xA k w b)), .second] [])) t → Steps p.tables e below (s₁.setTop (entryFrame m #[(.ref a1), (.int fr)] 6)) t := by
    intro lc
    induction lc with
    | zero =>
      intro lw lb lT lL lk lX lN lE lS
      have S353 : ∀ t, Steps p.tables e below (lT.setTop (mkF m 43 #[.val (.ref a1), .val (.int fr), .val (.int (fr - zf)), .val (.int lw), .val (.long lb), .second] [(.int (lcmpW lb (0 : Int64)))])) t → Steps p.tables e below (s₁.setTop (entryFrame m #[(.ref a1), (.int fr)] 6)) t := by
        intro t k
        refine lS t ?_
        refine XS.lload lX.here hx rfl (hb hby d11_39) rfl ?_
        show Steps p.tables e below (lT.setTop (mkF m 41 #[.val (.ref a1), .val (.int fr), .val (.int (fr - zf)), .val (.int lw), .val (.long lb), .second] [(.long lb)])) _
        refine XS.lconst lX.here hx rfl (hb hby d11_41) ?_
        show Steps p.tables e below (lT.setTop (mkF m 42 #[.val (.ref a1), .val (.int fr), .val (.int (fr - zf)), .val (.int lw), .val (.long lb), .second] [(.long (0 : Int64)), (.long lb)])) _
        refine XS.lcmp lX.here hx rfl (hb hby d11_42) rfl ?_
        show Steps p.tables e below (lT.setTop (mkF m 43 #[.val (.ref a1), .val (.int fr), .val (.int (fr - zf)), .val (.int lw), .val (.long lb), .second] [(.int (lcmpW lb (0 : Int64)))])) _
        exact k
      by_cases hc354 : (lcmpW lb (0 : Int64)) = (0 : Int32)
      · obtain ⟨T355, X355, e355, st355⟩ := getF lX hx hZ hown (host := "") (Or.inl (hw _ (List.mem_of_getElem? (i := 17) rfl))) Via.refl lE F_marked_a1 (g := (mkF m 50 #[.val (.ref a1), .val (.int fr), .val (.int (fr - zf)), .val (.int lw), .val (.long lb), .second] [(.ref a1), (.int (lw + (1 : Int32)))])) rfl rfl (hb hby d11_50)
        obtain ⟨cl356, Ar356, qa356, Sa356, Na356, Ha356, Ga356⟩ := id VA
        have S357 : ∀ t, Steps p.tables e below (T355.setTop (mkF m 71 #[.val (.ref a1), .val (.int fr), .val (.int (fr - zf)), .val (.int lw), .val (.long lb), .second] [])) t → Steps p.tables e below (s₁.setTop (entryFrame m #[(.ref a1), (.int fr)] 6)) t := by
          intro t k
          refine S353 t ?_
          refine XS.ifNo lX.here hx rfl (hb hby d11_43) rfl ((if0 _ _).trans (teq hc354).2) ?_
          show Steps p.tables e below (lT.setTop (mkF m 46 #[.val (.ref a1), .val (.int fr), .val (.int (fr - zf)), .val (.int lw), .val (.long lb), .second] [])) _
          refine XS.iloadN lX.here hx rfl (hb hby d11_46) rfl ?_
          show Steps p.tables e below (lT.setTop (mkF m 47 #[.val (.ref a1), .val (.int fr), .val (.int (fr - zf)), .val (.int lw), .val (.long lb), .second] [(.int lw)])) _
          refine XS.iconst lX.here hx rfl (hb hby d11_47) ?_
          show Steps p.tables e below (lT.setTop (mkF m 48 #[.val (.ref a1), .val (.int fr), .val (.int (fr - zf)), .val (.int lw), .val (.long lb), .second] [(.int (1 : Int32)), (.int lw)])) _
          refine XS.iadd lX.here hx rfl (hb hby d11_48) rfl ?_
          show Steps p.tables e below (lT.setTop (mkF m 49 #[.val (.ref a1), .val (.int fr), .val (.int (fr - zf)), .val (.int lw), .val (.long lb), .second] [(.int (lw + (1 : Int32)))])) _
          refine XS.aloadN lX.here hx rfl (hb hby d11_49) rfl rfl ?_
          show Steps p.tables e below (lT.setTop (mkF m 50 #[.val (.ref a1), .val (.int fr), .val (.int (fr - zf)), .val (.int lw), .val (.long lb), .second] [(.ref a1), (.int (lw + (1 : Int32)))])) _
          refine st355 _ ?_
          show Steps p.tables e below (T355.setTop (mkF m 53 #[.val (.ref a1), .val (.int fr), .val (.int (fr - zf)), .val (.int lw), .val (.long lb), .second] [(.ref zm), (.int (lw + (1 : Int32)))])) _
          refine X355.arraylength hx (by rw [e355]; exact Ar356.1) (State.isArrayOf_alike hZ.alike Ar356.2.1) (g := (mkF m 53 #[.val (.ref a1), .val (.int fr), .val (.int (fr - zf)), .val (.int lw), .val (.long lb), .second] [(.ref zm), (.int (lw + (1 : Int32)))])) rfl rfl (hb hby d11_53) _ ?_
          rw [len_of Sa356 Na356]
          show Steps p.tables e below (T355.setTop (mkF m 54 #[.val (.ref a1), .val (.int fr), .val (.int (fr - zf)), .val (.int lw), .val (.long lb), .second] [(.int (32 : Int32)), (.int (lw + (1 : Int32)))])) _
          refine XS.icmpYes X355.here hx rfl (pc0 := 54) (pc' := 71) rfl (hb hby d11_54) rfl (flt (own_lkz lk)).2.1 (by decide) (by decide) ?_
          show Steps p.tables e below (T355.setTop (mkF m 71 #[.val (.ref a1), .val (.int fr), .val (.int (fr - zf)), .val (.int lw), .val (.long lb), .second] [])) _
          exact k
        rw [own_lw0, own_lb0]
        exact ⟨_, _, X355, lN, e355, S357⟩
      · have S358 : ∀ t, Steps p.tables e below (lT.setTop (mkF m 71 #[.val (.ref a1), .val (.int fr), .val (.int (fr - zf)), .val (.int lw), .val (.long lb), .second] [])) t → Steps p.tables e below (s₁.setTop (entryFrame m #[(.ref a1), (.int fr)] 6)) t := by
          intro t k
          refine S353 t ?_
          refine XS.ifYes lX.here hx rfl (pc0 := 43) (pc' := 71) rfl (hb hby d11_43) rfl ((if0 _ _).trans (feq hc354).2) (by decide) (by decide) ?_
          show Steps p.tables e below (lT.setTop (mkF m 71 #[.val (.ref a1), .val (.int fr), .val (.int (fr - zf)), .val (.int lw), .val (.long lb), .second] [])) _
          exact k
        rw [own_lw0, own_lb0]
        exact ⟨_, _, lX, lN, lE, S358⟩
    | succ lc ih =>
      intro lw lb lT lL lk lX lN lE lS
      have S359 : ∀ t, Steps p.tables e below (lT.setTop (mkF m 43 #[.val (.ref a1), .val (.int fr), .val (.int (fr - zf)), .val (.int lw), .val (.long lb), .second] [(.int (lcmpW lb (0 : Int64)))])) t → Steps p.tables e below (s₁.setTop (entryFrame m #[(.ref a1), (.int fr)] 6)) t := by
        intro t k
        refine lS t ?_
        refine XS.lload lX.here hx rfl (hb hby d11_39) rfl ?_
        show Steps p.tables e below (lT.setTop (mkF m 41 #[.val (.ref a1), .val (.int fr), .val (.int (fr - zf)), .val (.int lw), .val (.long lb), .second] [(.long lb)])) _
        refine XS.lconst lX.here hx rfl (hb hby d11_41) ?_
        show Steps p.tables e below (lT.setTop (mkF m 42 #[.val (.ref a1), .val (.int fr), .val (.int (fr - zf)), .val (.int lw), .val (.long lb), .second] [(.long (0 : Int64)), (.long lb)])) _
        refine XS.lcmp lX.here hx rfl (hb hby d11_42) rfl ?_
        show Steps p.tables e below (lT.setTop (mkF m 43 #[.val (.ref a1), .val (.int fr), .val (.int (fr - zf)), .val (.int lw), .val (.long lb), .second] [(.int (lcmpW lb (0 : Int64)))])) _
        exact k
      by_cases hc360 : (lcmpW lb (0 : Int64)) = (0 : Int32)
      · obtain ⟨T361, X361, e361, st361⟩ := getF lX hx hZ hown (host := "") (Or.inl (hw _ (List.mem_of_getElem? (i := 17) rfl))) Via.refl lE F_marked_a1 (g := (mkF m 50 #[.val (.ref a1), .val (.int fr), .val (.int (fr - zf)), .val (.int lw), .val (.long lb), .second] [(.ref a1), (.int (lw + (1 : Int32)))])) rfl rfl (hb hby d11_50)
        obtain ⟨cl362, Ar362, qa362, Sa362, Na362, Ha362, Ga362⟩ := id VA
        obtain ⟨T363, X363, e363, st363⟩ := getF X361 hx hZ hown (host := "") (Or.inl (hw _ (List.mem_of_getElem? (i := 17) rfl))) Via.refl e361 F_marked_a1 (g := (mkF m 61 #[.val (.ref a1), .val (.int fr), .val (.int (fr - zf)), .val (.int (lw + (1 : Int32))), .val (.long lb), .second] [(.ref a1)])) rfl rfl (hb hby d11_61)
        obtain ⟨cl364, Ar364, qa364, Sa364, Na364, Ha364, Ga364⟩ := id VA
        have hin364 : ¬ ((lw + (1 : Int32)) < 0 ∨ cl364.slots.size ≤ ((lw + (1 : Int32))).toNatClampNeg) := inb_of Sa364 (own_lkb lk)
        have S365 : ∀ t, Steps p.tables e below (T363.setTop (mkF m 39 #[.val (.ref a1), .val (.int fr), .val (.int (fr - zf)), .val (.int (lw + (1 : Int32))), .val (.long (xA ((lw + (1 : Int32))).toNatClampNeg)), .second] [])) t → Steps p.tables e below (s₁.setTop (entryFrame m #[(.ref a1), (.int fr)] 6)) t := by
          intro t k
          refine S359 t ?_
          refine XS.ifNo lX.here hx rfl (hb hby d11_43) rfl ((if0 _ _).trans (teq hc360).2) ?_
          show Steps p.tables e below (lT.setTop (mkF m 46 #[.val (.ref a1), .val (.int fr), .val (.int (fr - zf)), .val (.int lw), .val (.long lb), .second] [])) _
          refine XS.iloadN lX.here hx rfl (hb hby d11_46) rfl ?_
          show Steps p.tables e below (lT.setTop (mkF m 47 #[.val (.ref a1), .val (.int fr), .val (.int (fr - zf)), .val (.int lw), .val (.long lb), .second] [(.int lw)])) _
          refine XS.iconst lX.here hx rfl (hb hby d11_47) ?_
          show Steps p.tables e below (lT.setTop (mkF m 48 #[.val (.ref a1), .val (.int fr), .val (.int (fr - zf)), .val (.int lw), .val (.long lb), .second] [(.int (1 : Int32)), (.int lw)])) _
          refine XS.iadd lX.here hx rfl (hb hby d11_48) rfl ?_
          show Steps p.tables e below (lT.setTop (mkF m 49 #[.val (.ref a1), .val (.int fr), .val (.int (fr - zf)), .val (.int lw), .val (.long lb), .second] [(.int (lw + (1 : Int32)))])) _
          refine XS.aloadN lX.here hx rfl (hb hby d11_49) rfl rfl ?_
          show Steps p.tables e below (lT.setTop (mkF m 50 #[.val (.ref a1), .val (.int fr), .val (.int (fr - zf)), .val (.int lw), .val (.long lb), .second] [(.ref a1), (.int (lw + (1 : Int32)))])) _
          refine st361 _ ?_
          show Steps p.tables e below (T361.setTop (mkF m 53 #[.val (.ref a1), .val (.int fr), .val (.int (fr - zf)), .val (.int lw), .val (.long lb), .second] [(.ref zm), (.int (lw + (1 : Int32)))])) _
          refine X361.arraylength hx (by rw [e361]; exact Ar362.1) (State.isArrayOf_alike hZ.alike Ar362.2.1) (g := (mkF m 53 #[.val (.ref a1), .val (.int fr), .val (.int (fr - zf)), .val (.int lw), .val (.long lb), .second] [(.ref zm), (.int (lw + (1 : Int32)))])) rfl rfl (hb hby d11_53) _ ?_
          rw [len_of Sa362 Na362]
          show Steps p.tables e below (T361.setTop (mkF m 54 #[.val (.ref a1), .val (.int fr), .val (.int (fr - zf)), .val (.int lw), .val (.long lb), .second] [(.int (32 : Int32)), (.int (lw + (1 : Int32)))])) _
          refine XS.icmpNo X361.here hx rfl (hb hby d11_54) rfl (tlt (own_lks lk)).2.1 ?_
          show Steps p.tables e below (T361.setTop (mkF m 57 #[.val (.ref a1), .val (.int fr), .val (.int (fr - zf)), .val (.int lw), .val (.long lb), .second] [])) _
          refine XS.iinc X361.here hx rfl (hb hby d11_57) rfl (l' := #[.val (.ref a1), .val (.int fr), .val (.int (fr - zf)), .val (.int (lw + (1 : Int32))), .val (.long lb), .second]) rfl ?_
          show Steps p.tables e below (T361.setTop (mkF m 60 #[.val (.ref a1), .val (.int fr), .val (.int (fr - zf)), .val (.int (lw + (1 : Int32))), .val (.long lb), .second] [])) _
          refine XS.aloadN X361.here hx rfl (hb hby d11_60) rfl rfl ?_
          show Steps p.tables e below (T361.setTop (mkF m 61 #[.val (.ref a1), .val (.int fr), .val (.int (fr - zf)), .val (.int (lw + (1 : Int32))), .val (.long lb), .second] [(.ref a1)])) _
          refine st363 _ ?_
          show Steps p.tables e below (T363.setTop (mkF m 64 #[.val (.ref a1), .val (.int fr), .val (.int (fr - zf)), .val (.int (lw + (1 : Int32))), .val (.long lb), .second] [(.ref zm)])) _
          refine XS.iloadN X363.here hx rfl (hb hby d11_64) rfl ?_
          show Steps p.tables e below (T363.setTop (mkF m 65 #[.val (.ref a1), .val (.int fr), .val (.int (fr - zf)), .val (.int (lw + (1 : Int32))), .val (.long lb), .second] [(.int (lw + (1 : Int32))), (.ref zm)])) _
          refine X363.laload hx (j := (lw + (1 : Int32))) (v := (.long (xA ((lw + (1 : Int32))).toNatClampNeg))) (by rw [e363]; exact Ar364.1) (State.isArrayOf_alike hZ.alike Ar364.2.1) Ar364.2.2 hin364 (Has.at Ha364 hin364 (own_rdL xA (j := (lw + (1 : Int32))) (own_lkb lk))) (g := (mkF m 65 #[.val (.ref a1), .val (.int fr), .val (.int (fr - zf)), .val (.int (lw + (1 : Int32))), .val (.long lb), .second] [(.int (lw + (1 : Int32))), (.ref zm)])) rfl rfl (hb hby d11_65) _ ?_
          show Steps p.tables e below (T363.setTop (mkF m 66 #[.val (.ref a1), .val (.int fr), .val (.int (fr - zf)), .val (.int (lw + (1 : Int32))), .val (.long lb), .second] [(.long (xA ((lw + (1 : Int32))).toNatClampNeg))])) _
          refine XS.lstore X363.here hx rfl (hb hby d11_66) rfl (l' := #[.val (.ref a1), .val (.int fr), .val (.int (fr - zf)), .val (.int (lw + (1 : Int32))), .val (.long (xA ((lw + (1 : Int32))).toNatClampNeg)), .second]) rfl ?_
          show Steps p.tables e below (T363.setTop (mkF m 68 #[.val (.ref a1), .val (.int fr), .val (.int (fr - zf)), .val (.int (lw + (1 : Int32))), .val (.long (xA ((lw + (1 : Int32))).toNatClampNeg)), .second] [])) _
          refine XS.goto X363.here hx rfl (pc0 := 68) (pc' := 39) rfl (hb hby d11_68) (by decide) (by decide) ?_
          show Steps p.tables e below (T363.setTop (mkF m 39 #[.val (.ref a1), .val (.int fr), .val (.int (fr - zf)), .val (.int (lw + (1 : Int32))), .val (.long (xA ((lw + (1 : Int32))).toNatClampNeg)), .second] [])) _
          exact k
        rw [own_lw1 hc360, own_lb1 hc360]
        exact ih _ _ _ _ (own_lkn lk) X363 lN e363 S365
      · have S366 : ∀ t, Steps p.tables e below (lT.setTop (mkF m 71 #[.val (.ref a1), .val (.int fr), .val (.int (fr - zf)), .val (.int lw), .val (.long lb), .second] [])) t → Steps p.tables e below (s₁.setTop (entryFrame m #[(.ref a1), (.int fr)] 6)) t := by
          intro t k
          refine S359 t ?_
          refine XS.ifYes lX.here hx rfl (pc0 := 43) (pc' := 71) rfl (hb hby d11_43) rfl ((if0 _ _).trans (feq hc360).2) (by decide) (by decide) ?_
          show Steps p.tables e below (lT.setTop (mkF m 71 #[.val (.ref a1), .val (.int fr), .val (.int (fr - zf)), .val (.int lw), .val (.long lb), .second] [])) _
          exact k
        rw [own_lw2 hc360, own_lb2 hc360]
        exact ⟨_, _, lX, lN, lE, S366⟩
  obtain ⟨T352, L352, X352, N352, e352, S352⟩ := loop352 _ ((fr - zf) / (64 : Int32)) (if ((fr - zf) / (64 : Int32)) < (32 : Int32) then ((xA (((fr - zf) / (64 : Int32))).toNatClampNeg) &&& ((-1 : Int64) <<< ((fr - zf) &&& 0x3f).toInt64)) else (0 : Int64)) _ _ (own_lki hs) X350 N350 e350 S351
  have S367 : ∀ t, Steps p.tables e below (T352.setTop (mkF m 75 #[.val (.ref a1), .val (.int fr), .val (.int (fr - zf)), .val (.int (own_lw xA (31 - (((fr - zf) / (64 : Int32))).toInt).toNat ((fr - zf) / (64 : Int32)) (if ((fr - zf) / (64 : Int32)) < (32 : Int32) then ((xA (((fr - zf) / (64 : Int32))).toNatClampNeg) &&& ((-1 : Int64) <<< ((fr - zf) &&& 0x3f).toInt64)) else (0 : Int64)))), .val (.long (own_lb xA (31 - (((fr - zf) / (64 : Int32))).toInt).toNat ((fr - zf) / (64 : Int32)) (if ((fr - zf) / (64 : Int32)) < (32 : Int32) then ((xA (((fr - zf) / (64 : Int32))).toNatClampNeg) &&& ((-1 : Int64) <<< ((fr - zf) &&& 0x3f).toInt64)) else (0 : Int64)))), .second] [(.int (lcmpW (own_lb xA (31 - (((fr - zf) / (64 : Int32))).toInt).toNat ((fr - zf) / (64 : Int32)) (if ((fr - zf) / (64 : Int32)) < (32 : Int32) then ((xA (((fr - zf) / (64 : Int32))).toNatClampNeg) &&& ((-1 : Int64) <<< ((fr - zf) &&& 0x3f).toInt64)) else (0 : Int64))) (0 : Int64)))])) t → Steps p.tables e below (s₁.setTop (entryFrame m #[(.ref a1), (.int fr)] 6)) t := by
    intro t k
    refine S352 t ?_
    refine XS.lload X352.here hx rfl (hb hby d11_71) rfl ?_
    show Steps p.tables e below (T352.setTop (mkF m 73 #[.val (.ref a1), .val (.int fr), .val (.int (fr - zf)), .val (.int (own_lw xA (31 - (((fr - zf) / (64 : Int32))).toInt).toNat ((fr - zf) / (64 : Int32)) (if ((fr - zf) / (64 : Int32)) < (32 : Int32) then ((xA (((fr - zf) / (64 : Int32))).toNatClampNeg) &&& ((-1 : Int64) <<< ((fr - zf) &&& 0x3f).toInt64)) else (0 : Int64)))), .val (.long (own_lb xA (31 - (((fr - zf) / (64 : Int32))).toInt).toNat ((fr - zf) / (64 : Int32)) (if ((fr - zf) / (64 : Int32)) < (32 : Int32) then ((xA (((fr - zf) / (64 : Int32))).toNatClampNeg) &&& ((-1 : Int64) <<< ((fr - zf) &&& 0x3f).toInt64)) else (0 : Int64)))), .second] [(.long (own_lb xA (31 - (((fr - zf) / (64 : Int32))).toInt).toNat ((fr - zf) / (64 : Int32)) (if ((fr - zf) / (64 : Int32)) < (32 : Int32) then ((xA (((fr - zf) / (64 : Int32))).toNatClampNeg) &&& ((-1 : Int64) <<< ((fr - zf) &&& 0x3f).toInt64)) else (0 : Int64))))])) _
    refine XS.lconst X352.here hx rfl (hb hby d11_73) ?_
    show Steps p.tables e below (T352.setTop (mkF m 74 #[.val (.ref a1), .val (.int fr), .val (.int (fr - zf)), .val (.int (own_lw xA (31 - (((fr - zf) / (64 : Int32))).toInt).toNat ((fr - zf) / (64 : Int32)) (if ((fr - zf) / (64 : Int32)) < (32 : Int32) then ((xA (((fr - zf) / (64 : Int32))).toNatClampNeg) &&& ((-1 : Int64) <<< ((fr - zf) &&& 0x3f).toInt64)) else (0 : Int64)))), .val (.long (own_lb xA (31 - (((fr - zf) / (64 : Int32))).toInt).toNat ((fr - zf) / (64 : Int32)) (if ((fr - zf) / (64 : Int32)) < (32 : Int32) then ((xA (((fr - zf) / (64 : Int32))).toNatClampNeg) &&& ((-1 : Int64) <<< ((fr - zf) &&& 0x3f).toInt64)) else (0 : Int64)))), .second] [(.long (0 : Int64)), (.long (own_lb xA (31 - (((fr - zf) / (64 : Int32))).toInt).toNat ((fr - zf) / (64 : Int32)) (if ((fr - zf) / (64 : Int32)) < (32 : Int32) then ((xA (((fr - zf) / (64 : Int32))).toNatClampNeg) &&& ((-1 : Int64) <<< ((fr - zf) &&& 0x3f).toInt64)) else (0 : Int64))))])) _
    refine XS.lcmp X352.here hx rfl (hb hby d11_74) rfl ?_
    show Steps p.tables e below (T352.setTop (mkF m 75 #[.val (.ref a1), .val (.int fr), .val (.int (fr - zf)), .val (.int (own_lw xA (31 - (((fr - zf) / (64 : Int32))).toInt).toNat ((fr - zf) / (64 : Int32)) (if ((fr - zf) / (64 : Int32)) < (32 : Int32) then ((xA (((fr - zf) / (64 : Int32))).toNatClampNeg) &&& ((-1 : Int64) <<< ((fr - zf) &&& 0x3f).toInt64)) else (0 : Int64)))), .val (.long (own_lb xA (31 - (((fr - zf) / (64 : Int32))).toInt).toNat ((fr - zf) / (64 : Int32)) (if ((fr - zf) / (64 : Int32)) < (32 : Int32) then ((xA (((fr - zf) / (64 : Int32))).toNatClampNeg) &&& ((-1 : Int64) <<< ((fr - zf) &&& 0x3f).toInt64)) else (0 : Int64)))), .second] [(.int (lcmpW (own_lb xA (31 - (((fr - zf) / (64 : Int32))).toInt).toNat ((fr - zf) / (64 : Int32)) (if ((fr - zf) / (64 : Int32)) < (32 : Int32) then ((xA (((fr - zf) / (64 : Int32))).toNatClampNeg) &&& ((-1 : Int64) <<< ((fr - zf) &&& 0x3f).toInt64)) else (0 : Int64))) (0 : Int64)))])) _
    exact k
  obtain ⟨T374, L374, X374, N374, e374, S374⟩ : ∃ (T' : State) (L' : List Loc), Stand p l e ({ frames := 2, cells := 0, slots := 0, locals := 29 } : Room) s m #[(.ref a1), (.int fr)] below meth c T' L' 0 0 ∧ Fr n0 L' ∧ T'.heap = h0 ∧ ∀ t, Steps p.tables e below (T'.setTop (mkF m 100 #[.val (.ref a1), .val (.int fr), .val (.int (fr - zf)), .val (.int (own_lw xA (31 - (((fr - zf) / (64 : Int32))).toInt).toNat ((fr - zf) / (64 : Int32)) (if ((fr - zf) / (64 : Int32)) < (32 : Int32) then ((xA (((fr - zf) / (64 : Int32))).toNatClampNeg) &&& ((-1 : Int64) <<< ((fr - zf) &&& 0x3f).toInt64)) else (0 : Int64)))), .val (.long (own_lb xA (31 - (((fr - zf) / (64 : Int32))).toInt).toNat ((fr - zf) / (64 : Int32)) (if ((fr - zf) / (64 : Int32)) < (32 : Int32) then ((xA (((fr - zf) / (64 : Int32))).toNatClampNeg) &&& ((-1 : Int64) <<< ((fr - zf) &&& 0x3f).toInt64)) else (0 : Int64)))), .second] [(.int (if (lcmpW (own_lb xA (31 - (((fr - zf) / (64 : Int32))).toInt).toNat ((fr - zf) / (64 : Int32)) (if ((fr - zf) / (64 : Int32)) < (32 : Int32) then ((xA (((fr - zf) / (64 : Int32))).toNatClampNeg) &&& ((-1 : Int64) <<< ((fr - zf) &&& 0x3f).toInt64)) else (0 : Int64))) (0 : Int64)) = (0 : Int32) then ze else ((zf + ((own_lw xA (31 - (((fr - zf) / (64 : Int32))).toInt).toNat ((fr - zf) / (64 : Int32)) (if ((fr - zf) / (64 : Int32)) < (32 : Int32) then ((xA (((fr - zf) / (64 : Int32))).toNatClampNeg) &&& ((-1 : Int64) <<< ((fr - zf) &&& 0x3f).toInt64)) else (0 : Int64))) * (64 : Int32))) + (f12 (own_lb xA (31 - (((fr - zf) / (64 : Int32))).toInt).toNat ((fr - zf) / (64 : Int32)) (if ((fr - zf) / (64 : Int32)) < (32 : Int32) then ((xA (((fr - zf) / (64 : Int32))).toNatClampNeg) &&& ((-1 : Int64) <<< ((fr - zf) &&& 0x3f).toInt64)) else (0 : Int64)))))))])) t → Steps p.tables e below (s₁.setTop (entryFrame m #[(.ref a1), (.int fr)] 6)) t := by
    by_cases hc368 : (lcmpW (own_lb xA (31 - (((fr - zf) / (64 : Int32))).toInt).toNat ((fr - zf) / (64 : Int32)) (if ((fr - zf) / (64 : Int32)) < (32 : Int32) then ((xA (((fr - zf) / (64 : Int32))).toNatClampNeg) &&& ((-1 : Int64) <<< ((fr - zf) &&& 0x3f).toInt64)) else (0 : Int64))) (0 : Int64)) = (0 : Int32)
    · rw [if_pos hc368]
      obtain ⟨T369, X369, e369, st369⟩ := getF X352 hx hZ hown (host := "") (Or.inl (hw _ (List.mem_of_getElem? (i := 32) rfl))) Via.refl e352 F_end_a1 (g := (mkF m 79 #[.val (.ref a1), .val (.int fr), .val (.int (fr - zf)), .val (.int (own_lw xA (31 - (((fr - zf) / (64 : Int32))).toInt).toNat ((fr - zf) / (64 : Int32)) (if ((fr - zf) / (64 : Int32)) < (32 : Int32) then ((xA (((fr - zf) / (64 : Int32))).toNatClampNeg) &&& ((-1 : Int64) <<< ((fr - zf) &&& 0x3f).toInt64)) else (0 : Int64)))), .val (.long (own_lb xA (31 - (((fr - zf) / (64 : Int32))).toInt).toNat ((fr - zf) / (64 : Int32)) (if ((fr - zf) / (64 : Int32)) < (32 : Int32) then ((xA (((fr - zf) / (64 : Int32))).toNatClampNeg) &&& ((-1 : Int64) <<< ((fr - zf) &&& 0x3f).toInt64)) else (0 : Int64)))), .second] [(.ref a1)])) rfl rfl (hb hby d11_79)
      have S370 : ∀ t, Steps p.tables e below (T369.setTop (mkF m 100 #[.val (.ref a1), .val (.int fr), .val (.int (fr - zf)), .val (.int (own_lw xA (31 - (((fr - zf) / (64 : Int32))).toInt).toNat ((fr - zf) / (64 : Int32)) (if ((fr - zf) / (64 : Int32)) < (32 : Int32) then ((xA (((fr - zf) / (64 : Int32))).toNatClampNeg) &&& ((-1 : Int64) <<< ((fr - zf) &&& 0x3f).toInt64)) else (0 : Int64)))), .val (.long (own_lb xA (31 - (((fr - zf) / (64 : Int32))).toInt).toNat ((fr - zf) / (64 : Int32)) (if ((fr - zf) / (64 : Int32)) < (32 : Int32) then ((xA (((fr - zf) / (64 : Int32))).toNatClampNeg) &&& ((-1 : Int64) <<< ((fr - zf) &&& 0x3f).toInt64)) else (0 : Int64)))), .second] [(.int ze)])) t → Steps p.tables e below (s₁.setTop (entryFrame m #[(.ref a1), (.int fr)] 6)) t := by
        intro t k
        refine S367 t ?_
        refine XS.ifNo X352.here hx rfl (hb hby d11_75) rfl ((if0 _ _).trans (teq hc368).2) ?_
        show Steps p.tables e below (T352.setTop (mkF m 78 #[.val (.ref a1), .val (.int fr), .val (.int (fr - zf)), .val (.int (own_lw xA (31 - (((fr - zf) / (64 : Int32))).toInt).toNat ((fr - zf) / (64 : Int32)) (if ((fr - zf) / (64 : Int32)) < (32 : Int32) then ((xA (((fr - zf) / (64 : Int32))).toNatClampNeg) &&& ((-1 : Int64) <<< ((fr - zf) &&& 0x3f).toInt64)) else (0 : Int64)))), .val (.long (own_lb xA (31 - (((fr - zf) / (64 : Int32))).toInt).toNat ((fr - zf) / (64 : Int32)) (if ((fr - zf) / (64 : Int32)) < (32 : Int32) then ((xA (((fr - zf) / (64 : Int32))).toNatClampNeg) &&& ((-1 : Int64) <<< ((fr - zf) &&& 0x3f).toInt64)) else (0 : Int64)))), .second] [])) _
        refine XS.aloadN X352.here hx rfl (hb hby d11_78) rfl rfl ?_
        show Steps p.tables e below (T352.setTop (mkF m 79 #[.val (.ref a1), .val (.int fr), .val (.int (fr - zf)), .val (.int (own_lw xA (31 - (((fr - zf) / (64 : Int32))).toInt).toNat ((fr - zf) / (64 : Int32)) (if ((fr - zf) / (64 : Int32)) < (32 : Int32) then ((xA (((fr - zf) / (64 : Int32))).toNatClampNeg) &&& ((-1 : Int64) <<< ((fr - zf) &&& 0x3f).toInt64)) else (0 : Int64)))), .val (.long (own_lb xA (31 - (((fr - zf) / (64 : Int32))).toInt).toNat ((fr - zf) / (64 : Int32)) (if ((fr - zf) / (64 : Int32)) < (32 : Int32) then ((xA (((fr - zf) / (64 : Int32))).toNatClampNeg) &&& ((-1 : Int64) <<< ((fr - zf) &&& 0x3f).toInt64)) else (0 : Int64)))), .second] [(.ref a1)])) _
        refine st369 _ ?_
        show Steps p.tables e below (T369.setTop (mkF m 82 #[.val (.ref a1), .val (.int fr), .val (.int (fr - zf)), .val (.int (own_lw xA (31 - (((fr - zf) / (64 : Int32))).toInt).toNat ((fr - zf) / (64 : Int32)) (if ((fr - zf) / (64 : Int32)) < (32 : Int32) then ((xA (((fr - zf) / (64 : Int32))).toNatClampNeg) &&& ((-1 : Int64) <<< ((fr - zf) &&& 0x3f).toInt64)) else (0 : Int64)))), .val (.long (own_lb xA (31 - (((fr - zf) / (64 : Int32))).toInt).toNat ((fr - zf) / (64 : Int32)) (if ((fr - zf) / (64 : Int32)) < (32 : Int32) then ((xA (((fr - zf) / (64 : Int32))).toNatClampNeg) &&& ((-1 : Int64) <<< ((fr - zf) &&& 0x3f).toInt64)) else (0 : Int64)))), .second] [(.int ze)])) _
        refine XS.goto X369.here hx rfl (pc0 := 82) (pc' := 100) rfl (hb hby d11_82) (by decide) (by decide) ?_
        show Steps p.tables e below (T369.setTop (mkF m 100 #[.val (.ref a1), .val (.int fr), .val (.int (fr - zf)), .val (.int (own_lw xA (31 - (((fr - zf) / (64 : Int32))).toInt).toNat ((fr - zf) / (64 : Int32)) (if ((fr - zf) / (64 : Int32)) < (32 : Int32) then ((xA (((fr - zf) / (64 : Int32))).toNatClampNeg) &&& ((-1 : Int64) <<< ((fr - zf) &&& 0x3f).toInt64)) else (0 : Int64)))), .val (.long (own_lb xA (31 - (((fr - zf) / (64 : Int32))).toInt).toNat ((fr - zf) / (64 : Int32)) (if ((fr - zf) / (64 : Int32)) < (32 : Int32) then ((xA (((fr - zf) / (64 : Int32))).toNatClampNeg) &&& ((-1 : Int64) <<< ((fr - zf) &&& 0x3f).toInt64)) else (0 : Int64)))), .second] [(.int ze)])) _
        exact k
      exact ⟨T369, _, X369, N352, e369, S370⟩
    · rw [if_neg hc368]
      obtain ⟨T371, X371, e371, st371⟩ := getF X352 hx hZ hown (host := "") (Or.inl (hw _ (List.mem_of_getElem? (i := 24) rfl))) Via.refl e352 F_first_a1 (g := (mkF m 86 #[.val (.ref a1), .val (.int fr), .val (.int (fr - zf)), .val (.int (own_lw xA (31 - (((fr - zf) / (64 : Int32))).toInt).toNat ((fr - zf) / (64 : Int32)) (if ((fr - zf) / (64 : Int32)) < (32 : Int32) then ((xA (((fr - zf) / (64 : Int32))).toNatClampNeg) &&& ((-1 : Int64) <<< ((fr - zf) &&& 0x3f).toInt64)) else (0 : Int64)))), .val (.long (own_lb xA (31 - (((fr - zf) / (64 : Int32))).toInt).toNat ((fr - zf) / (64 : Int32)) (if ((fr - zf) / (64 : Int32)) < (32 : Int32) then ((xA (((fr - zf) / (64 : Int32))).toNatClampNeg) &&& ((-1 : Int64) <<< ((fr - zf) &&& 0x3f).toInt64)) else (0 : Int64)))), .second] [(.ref a1)])) rfl rfl (hb hby d11_86)
      obtain ⟨_, _, ⟨T372, L372, k372, n372⟩, -, X372, ⟨Lc372, hQ372, l372, y372, z372⟩, st372⟩ := Jvm.LawKit.callS X371 hx (y := (⟨"java/lang/Long", "numberOfTrailingZeros", "(J)I"⟩ : MethodName)) hown (mvT hZ (hw _ (List.mem_of_getElem? (i := 66) rfl))) (mvT hZ (hw _ (List.mem_of_getElem? (i := 67) rfl))) (mvT hZ (hw _ (List.mem_of_getElem? (i := 68) rfl))) (mvT hZ (hw _ (List.mem_of_getElem? (i := 69) rfl))) (by decide) (backOf (W := 1) (rm12 l Z a0 hw [] (own_lb xA (31 - (((fr - zf) / (64 : Int32))).toInt).toNat ((fr - zf) / (64 : Int32)) (if ((fr - zf) / (64 : Int32)) < (32 : Int32) then ((xA (((fr - zf) / (64 : Int32))).toNatClampNeg) &&& ((-1 : Int64) <<< ((fr - zf) &&& 0x3f).toInt64)) else (0 : Int64))) h0 n0 Z0) hZ (hw _ (List.mem_of_getElem? (i := 69) rfl)) (hw _ (List.mem_of_getElem? (i := 68) rfl)) (by decide) (by decide)) (g := (mkF m 96 #[.val (.ref a1), .val (.int fr), .val (.int (fr - zf)), .val (.int (own_lw xA (31 - (((fr - zf) / (64 : Int32))).toInt).toNat ((fr - zf) / (64 : Int32)) (if ((fr - zf) / (64 : Int32)) < (32 : Int32) then ((xA (((fr - zf) / (64 : Int32))).toNatClampNeg) &&& ((-1 : Int64) <<< ((fr - zf) &&& 0x3f).toInt64)) else (0 : Int64)))), .val (.long (own_lb xA (31 - (((fr - zf) / (64 : Int32))).toInt).toNat ((fr - zf) / (64 : Int32)) (if ((fr - zf) / (64 : Int32)) < (32 : Int32) then ((xA (((fr - zf) / (64 : Int32))).toNatClampNeg) &&& ((-1 : Int64) <<< ((fr - zf) &&& 0x3f).toInt64)) else (0 : Int64)))), .second] [(.long (own_lb xA (31 - (((fr - zf) / (64 : Int32))).toInt).toNat ((fr - zf) / (64 : Int32)) (if ((fr - zf) / (64 : Int32)) < (32 : Int32) then ((xA (((fr - zf) / (64 : Int32))).toNatClampNeg) &&& ((-1 : Int64) <<< ((fr - zf) &&& 0x3f).toInt64)) else (0 : Int64)))), (.int (zf + ((own_lw xA (31 - (((fr - zf) / (64 : Int32))).toInt).toNat ((fr - zf) / (64 : Int32)) (if ((fr - zf) / (64 : Int32)) < (32 : Int32) then ((xA (((fr - zf) / (64 : Int32))).toNatClampNeg) &&& ((-1 : Int64) <<< ((fr - zf) &&& 0x3f).toInt64)) else (0 : Int64))) * (64 : Int32))))])) rfl (by rw [hml]; rfl) (argsL := [(.long (own_lb xA (31 - (((fr - zf) / (64 : Int32))).toInt).toNat ((fr - zf) / (64 : Int32)) (if ((fr - zf) / (64 : Int32)) < (32 : Int32) then ((xA (((fr - zf) / (64 : Int32))).toNatClampNeg) &&& ((-1 : Int64) <<< ((fr - zf) &&& 0x3f).toInt64)) else (0 : Int64))))]) (rest := [(.int (zf + ((own_lw xA (31 - (((fr - zf) / (64 : Int32))).toInt).toNat ((fr - zf) / (64 : Int32)) (if ((fr - zf) / (64 : Int32)) < (32 : Int32) then ((xA (((fr - zf) / (64 : Int32))).toNatClampNeg) &&& ((-1 : Int64) <<< ((fr - zf) &&& 0x3f).toInt64)) else (0 : Int64))) * (64 : Int32))))]) (lenOf pd_2 rfl) rfl (by show 2 * 0 + _ ≤ _; exact Nat.le_of_eq rfl) (hb hby d11_96) (fun _ _ => ⟨rfl, e371, (by decide : 0 + 0 ≤ _), (by decide : 0 + 0 ≤ _)⟩)
      dsimp only [Pt.U, Pt.locs, Pt.cells, Pt.slots] at X372 l372 y372 z372 st372 hQ372
      subst l372 y372 z372
      obtain ⟨rfl, N372q, e372⟩ := hQ372
      have N372 := Fr.app N352 N372q
      have S373 : ∀ t, Steps p.tables e below (T372.setTop (mkF m 100 #[.val (.ref a1), .val (.int fr), .val (.int (fr - zf)), .val (.int (own_lw xA (31 - (((fr - zf) / (64 : Int32))).toInt).toNat ((fr - zf) / (64 : Int32)) (if ((fr - zf) / (64 : Int32)) < (32 : Int32) then ((xA (((fr - zf) / (64 : Int32))).toNatClampNeg) &&& ((-1 : Int64) <<< ((fr - zf) &&& 0x3f).toInt64)) else (0 : Int64)))), .val (.long (own_lb xA (31 - (((fr - zf) / (64 : Int32))).toInt).toNat ((fr - zf) / (64 : Int32)) (if ((fr - zf) / (64 : Int32)) < (32 : Int32) then ((xA (((fr - zf) / (64 : Int32))).toNatClampNeg) &&& ((-1 : Int64) <<< ((fr - zf) &&& 0x3f).toInt64)) else (0 : Int64)))), .second] [(.int ((zf + ((own_lw xA (31 - (((fr - zf) / (64 : Int32))).toInt).toNat ((fr - zf) / (64 : Int32)) (if ((fr - zf) / (64 : Int32)) < (32 : Int32) then ((xA (((fr - zf) / (64 : Int32))).toNatClampNeg) &&& ((-1 : Int64) <<< ((fr - zf) &&& 0x3f).toInt64)) else (0 : Int64))) * (64 : Int32))) + (f12 (own_lb xA (31 - (((fr - zf) / (64 : Int32))).toInt).toNat ((fr - zf) / (64 : Int32)) (if ((fr - zf) / (64 : Int32)) < (32 : Int32) then ((xA (((fr - zf) / (64 : Int32))).toNatClampNeg) &&& ((-1 : Int64) <<< ((fr - zf) &&& 0x3f).toInt64)) else (0 : Int64))))))])) t → Steps p.tables e below (s₁.setTop (entryFrame m #[(.ref a1), (.int fr)] 6)) t := by
        intro t k
        refine S367 t ?_
        refine XS.ifYes X352.here hx rfl (pc0 := 75) (pc' := 85) rfl (hb hby d11_75) rfl ((if0 _ _).trans (feq hc368).2) (by decide) (by decide) ?_
        show Steps p.tables e below (T352.setTop (mkF m 85 #[.val (.ref a1), .val (.int fr), .val (.int (fr - zf)), .val (.int (own_lw xA (31 - (((fr - zf) / (64 : Int32))).toInt).toNat ((fr - zf) / (64 : Int32)) (if ((fr - zf) / (64 : Int32)) < (32 : Int32) then ((xA (((fr - zf) / (64 : Int32))).toNatClampNeg) &&& ((-1 : Int64) <<< ((fr - zf) &&& 0x3f).toInt64)) else (0 : Int64)))), .val (.long (own_lb xA (31 - (((fr - zf) / (64 : Int32))).toInt).toNat ((fr - zf) / (64 : Int32)) (if ((fr - zf) / (64 : Int32)) < (32 : Int32) then ((xA (((fr - zf) / (64 : Int32))).toNatClampNeg) &&& ((-1 : Int64) <<< ((fr - zf) &&& 0x3f).toInt64)) else (0 : Int64)))), .second] [])) _
        refine XS.aloadN X352.here hx rfl (hb hby d11_85) rfl rfl ?_
        show Steps p.tables e below (T352.setTop (mkF m 86 #[.val (.ref a1), .val (.int fr), .val (.int (fr - zf)), .val (.int (own_lw xA (31 - (((fr - zf) / (64 : Int32))).toInt).toNat ((fr - zf) / (64 : Int32)) (if ((fr - zf) / (64 : Int32)) < (32 : Int32) then ((xA (((fr - zf) / (64 : Int32))).toNatClampNeg) &&& ((-1 : Int64) <<< ((fr - zf) &&& 0x3f).toInt64)) else (0 : Int64)))), .val (.long (own_lb xA (31 - (((fr - zf) / (64 : Int32))).toInt).toNat ((fr - zf) / (64 : Int32)) (if ((fr - zf) / (64 : Int32)) < (32 : Int32) then ((xA (((fr - zf) / (64 : Int32))).toNatClampNeg) &&& ((-1 : Int64) <<< ((fr - zf) &&& 0x3f).toInt64)) else (0 : Int64)))), .second] [(.ref a1)])) _
        refine st371 _ ?_
        show Steps p.tables e below (T371.setTop (mkF m 89 #[.val (.ref a1), .val (.int fr), .val (.int (fr - zf)), .val (.int (own_lw xA (31 - (((fr - zf) / (64 : Int32))).toInt).toNat ((fr - zf) / (64 : Int32)) (if ((fr - zf) / (64 : Int32)) < (32 : Int32) then ((xA (((fr - zf) / (64 : Int32))).toNatClampNeg) &&& ((-1 : Int64) <<< ((fr - zf) &&& 0x3f).toInt64)) else (0 : Int64)))), .val (.long (own_lb xA (31 - (((fr - zf) / (64 : Int32))).toInt).toNat ((fr - zf) / (64 : Int32)) (if ((fr - zf) / (64 : Int32)) < (32 : Int32) then ((xA (((fr - zf) / (64 : Int32))).toNatClampNeg) &&& ((-1 : Int64) <<< ((fr - zf) &&& 0x3f).toInt64)) else (0 : Int64)))), .second] [(.int zf)])) _
        refine XS.iloadN X371.here hx rfl (hb hby d11_89) rfl ?_
        show Steps p.tables e below (T371.setTop (mkF m 90 #[.val (.ref a1), .val (.int fr), .val (.int (fr - zf)), .val (.int (own_lw xA (31 - (((fr - zf) / (64 : Int32))).toInt).toNat ((fr - zf) / (64 : Int32)) (if ((fr - zf) / (64 : Int32)) < (32 : Int32) then ((xA (((fr - zf) / (64 : Int32))).toNatClampNeg) &&& ((-1 : Int64) <<< ((fr - zf) &&& 0x3f).toInt64)) else (0 : Int64)))), .val (.long (own_lb xA (31 - (((fr - zf) / (64 : Int32))).toInt).toNat ((fr - zf) / (64 : Int32)) (if ((fr - zf) / (64 : Int32)) < (32 : Int32) then ((xA (((fr - zf) / (64 : Int32))).toNatClampNeg) &&& ((-1 : Int64) <<< ((fr - zf) &&& 0x3f).toInt64)) else (0 : Int64)))), .second] [(.int (own_lw xA (31 - (((fr - zf) / (64 : Int32))).toInt).toNat ((fr - zf) / (64 : Int32)) (if ((fr - zf) / (64 : Int32)) < (32 : Int32) then ((xA (((fr - zf) / (64 : Int32))).toNatClampNeg) &&& ((-1 : Int64) <<< ((fr - zf) &&& 0x3f).toInt64)) else (0 : Int64)))), (.int zf)])) _
        refine XS.bipush X371.here hx rfl (hb hby d11_90) ?_
        show Steps p.tables e below (T371.setTop (mkF m 92 #[.val (.ref a1), .val (.int fr), .val (.int (fr - zf)), .val (.int (own_lw xA (31 - (((fr - zf) / (64 : Int32))).toInt).toNat ((fr - zf) / (64 : Int32)) (if ((fr - zf) / (64 : Int32)) < (32 : Int32) then ((xA (((fr - zf) / (64 : Int32))).toNatClampNeg) &&& ((-1 : Int64) <<< ((fr - zf) &&& 0x3f).toInt64)) else (0 : Int64)))), .val (.long (own_lb xA (31 - (((fr - zf) / (64 : Int32))).toInt).toNat ((fr - zf) / (64 : Int32)) (if ((fr - zf) / (64 : Int32)) < (32 : Int32) then ((xA (((fr - zf) / (64 : Int32))).toNatClampNeg) &&& ((-1 : Int64) <<< ((fr - zf) &&& 0x3f).toInt64)) else (0 : Int64)))), .second] [(.int (64 : Int32)), (.int (own_lw xA (31 - (((fr - zf) / (64 : Int32))).toInt).toNat ((fr - zf) / (64 : Int32)) (if ((fr - zf) / (64 : Int32)) < (32 : Int32) then ((xA (((fr - zf) / (64 : Int32))).toNatClampNeg) &&& ((-1 : Int64) <<< ((fr - zf) &&& 0x3f).toInt64)) else (0 : Int64)))), (.int zf)])) _
        refine XS.imul X371.here hx rfl (hb hby d11_92) rfl ?_
        show Steps p.tables e below (T371.setTop (mkF m 93 #[.val (.ref a1), .val (.int fr), .val (.int (fr - zf)), .val (.int (own_lw xA (31 - (((fr - zf) / (64 : Int32))).toInt).toNat ((fr - zf) / (64 : Int32)) (if ((fr - zf) / (64 : Int32)) < (32 : Int32) then ((xA (((fr - zf) / (64 : Int32))).toNatClampNeg) &&& ((-1 : Int64) <<< ((fr - zf) &&& 0x3f).toInt64)) else (0 : Int64)))), .val (.long (own_lb xA (31 - (((fr - zf) / (64 : Int32))).toInt).toNat ((fr - zf) / (64 : Int32)) (if ((fr - zf) / (64 : Int32)) < (32 : Int32) then ((xA (((fr - zf) / (64 : Int32))).toNatClampNeg) &&& ((-1 : Int64) <<< ((fr - zf) &&& 0x3f).toInt64)) else (0 : Int64)))), .second] [(.int ((own_lw xA (31 - (((fr - zf) / (64 : Int32))).toInt).toNat ((fr - zf) / (64 : Int32)) (if ((fr - zf) / (64 : Int32)) < (32 : Int32) then ((xA (((fr - zf) / (64 : Int32))).toNatClampNeg) &&& ((-1 : Int64) <<< ((fr - zf) &&& 0x3f).toInt64)) else (0 : Int64))) * (64 : Int32))), (.int zf)])) _
        refine XS.iadd X371.here hx rfl (hb hby d11_93) rfl ?_
        show Steps p.tables e below (T371.setTop (mkF m 94 #[.val (.ref a1), .val (.int fr), .val (.int (fr - zf)), .val (.int (own_lw xA (31 - (((fr - zf) / (64 : Int32))).toInt).toNat ((fr - zf) / (64 : Int32)) (if ((fr - zf) / (64 : Int32)) < (32 : Int32) then ((xA (((fr - zf) / (64 : Int32))).toNatClampNeg) &&& ((-1 : Int64) <<< ((fr - zf) &&& 0x3f).toInt64)) else (0 : Int64)))), .val (.long (own_lb xA (31 - (((fr - zf) / (64 : Int32))).toInt).toNat ((fr - zf) / (64 : Int32)) (if ((fr - zf) / (64 : Int32)) < (32 : Int32) then ((xA (((fr - zf) / (64 : Int32))).toNatClampNeg) &&& ((-1 : Int64) <<< ((fr - zf) &&& 0x3f).toInt64)) else (0 : Int64)))), .second] [(.int (zf + ((own_lw xA (31 - (((fr - zf) / (64 : Int32))).toInt).toNat ((fr - zf) / (64 : Int32)) (if ((fr - zf) / (64 : Int32)) < (32 : Int32) then ((xA (((fr - zf) / (64 : Int32))).toNatClampNeg) &&& ((-1 : Int64) <<< ((fr - zf) &&& 0x3f).toInt64)) else (0 : Int64))) * (64 : Int32))))])) _
        refine XS.lload X371.here hx rfl (hb hby d11_94) rfl ?_
        show Steps p.tables e below (T371.setTop (mkF m 96 #[.val (.ref a1), .val (.int fr), .val (.int (fr - zf)), .val (.int (own_lw xA (31 - (((fr - zf) / (64 : Int32))).toInt).toNat ((fr - zf) / (64 : Int32)) (if ((fr - zf) / (64 : Int32)) < (32 : Int32) then ((xA (((fr - zf) / (64 : Int32))).toNatClampNeg) &&& ((-1 : Int64) <<< ((fr - zf) &&& 0x3f).toInt64)) else (0 : Int64)))), .val (.long (own_lb xA (31 - (((fr - zf) / (64 : Int32))).toInt).toNat ((fr - zf) / (64 : Int32)) (if ((fr - zf) / (64 : Int32)) < (32 : Int32) then ((xA (((fr - zf) / (64 : Int32))).toNatClampNeg) &&& ((-1 : Int64) <<< ((fr - zf) &&& 0x3f).toInt64)) else (0 : Int64)))), .second] [(.long (own_lb xA (31 - (((fr - zf) / (64 : Int32))).toInt).toNat ((fr - zf) / (64 : Int32)) (if ((fr - zf) / (64 : Int32)) < (32 : Int32) then ((xA (((fr - zf) / (64 : Int32))).toNatClampNeg) &&& ((-1 : Int64) <<< ((fr - zf) &&& 0x3f).toInt64)) else (0 : Int64)))), (.int (zf + ((own_lw xA (31 - (((fr - zf) / (64 : Int32))).toInt).toNat ((fr - zf) / (64 : Int32)) (if ((fr - zf) / (64 : Int32)) < (32 : Int32) then ((xA (((fr - zf) / (64 : Int32))).toNatClampNeg) &&& ((-1 : Int64) <<< ((fr - zf) &&& 0x3f).toInt64)) else (0 : Int64))) * (64 : Int32))))])) _
        refine st372 _ ?_
        show Steps p.tables e below (T372.setTop (mkF m 99 #[.val (.ref a1), .val (.int fr), .val (.int (fr - zf)), .val (.int (own_lw xA (31 - (((fr - zf) / (64 : Int32))).toInt).toNat ((fr - zf) / (64 : Int32)) (if ((fr - zf) / (64 : Int32)) < (32 : Int32) then ((xA (((fr - zf) / (64 : Int32))).toNatClampNeg) &&& ((-1 : Int64) <<< ((fr - zf) &&& 0x3f).toInt64)) else (0 : Int64)))), .val (.long (own_lb xA (31 - (((fr - zf) / (64 : Int32))).toInt).toNat ((fr - zf) / (64 : Int32)) (if ((fr - zf) / (64 : Int32)) < (32 : Int32) then ((xA (((fr - zf) / (64 : Int32))).toNatClampNeg) &&& ((-1 : Int64) <<< ((fr - zf) &&& 0x3f).toInt64)) else (0 : Int64)))), .second] [(.int (f12 (own_lb xA (31 - (((fr - zf) / (64 : Int32))).toInt).toNat ((fr - zf) / (64 : Int32)) (if ((fr - zf) / (64 : Int32)) < (32 : Int32) then ((xA (((fr - zf) / (64 : Int32))).toNatClampNeg) &&& ((-1 : Int64) <<< ((fr - zf) &&& 0x3f).toInt64)) else (0 : Int64))))), (.int (zf + ((own_lw xA (31 - (((fr - zf) / (64 : Int32))).toInt).toNat ((fr - zf) / (64 : Int32)) (if ((fr - zf) / (64 : Int32)) < (32 : Int32) then ((xA (((fr - zf) / (64 : Int32))).toNatClampNeg) &&& ((-1 : Int64) <<< ((fr - zf) &&& 0x3f).toInt64)) else (0 : Int64))) * (64 : Int32))))])) _
        refine XS.iadd X372.here hx rfl (hb hby d11_99) rfl ?_
        show Steps p.tables e below (T372.setTop (mkF m 100 #[.val (.ref a1), .val (.int fr), .val (.int (fr - zf)), .val (.int (own_lw xA (31 - (((fr - zf) / (64 : Int32))).toInt).toNat ((fr - zf) / (64 : Int32)) (if ((fr - zf) / (64 : Int32)) < (32 : Int32) then ((xA (((fr - zf) / (64 : Int32))).toNatClampNeg) &&& ((-1 : Int64) <<< ((fr - zf) &&& 0x3f).toInt64)) else (0 : Int64)))), .val (.long (own_lb xA (31 - (((fr - zf) / (64 : Int32))).toInt).toNat ((fr - zf) / (64 : Int32)) (if ((fr - zf) / (64 : Int32)) < (32 : Int32) then ((xA (((fr - zf) / (64 : Int32))).toNatClampNeg) &&& ((-1 : Int64) <<< ((fr - zf) &&& 0x3f).toInt64)) else (0 : Int64)))), .second] [(.int ((zf + ((own_lw xA (31 - (((fr - zf) / (64 : Int32))).toInt).toNat ((fr - zf) / (64 : Int32)) (if ((fr - zf) / (64 : Int32)) < (32 : Int32) then ((xA (((fr - zf) / (64 : Int32))).toNatClampNeg) &&& ((-1 : Int64) <<< ((fr - zf) &&& 0x3f).toInt64)) else (0 : Int64))) * (64 : Int32))) + (f12 (own_lb xA (31 - (((fr - zf) / (64 : Int32))).toInt).toNat ((fr - zf) / (64 : Int32)) (if ((fr - zf) / (64 : Int32)) < (32 : Int32) then ((xA (((fr - zf) / (64 : Int32))).toNatClampNeg) &&& ((-1 : Int64) <<< ((fr - zf) &&& 0x3f).toInt64)) else (0 : Int64))))))])) _
        exact k
      exact ⟨T372, _, X372, N372, e372, S373⟩
  have hf : f11 fr zf ze xA = (if (lcmpW (own_lb xA (31 - (((fr - zf) / (64 : Int32))).toInt).toNat ((fr - zf) / (64 : Int32)) (if ((fr - zf) / (64 : Int32)) < (32 : Int32) then ((xA (((fr - zf) / (64 : Int32))).toNatClampNeg) &&& ((-1 : Int64) <<< ((fr - zf) &&& 0x3f).toInt64)) else (0 : Int64))) (0 : Int64)) = (0 : Int32) then ze else ((zf + ((own_lw xA (31 - (((fr - zf) / (64 : Int32))).toInt).toNat ((fr - zf) / (64 : Int32)) (if ((fr - zf) / (64 : Int32)) < (32 : Int32) then ((xA (((fr - zf) / (64 : Int32))).toNatClampNeg) &&& ((-1 : Int64) <<< ((fr - zf) &&& 0x3f).toInt64)) else (0 : Int64))) * (64 : Int32))) + (f12 (own_lb xA (31 - (((fr - zf) / (64 : Int32))).toInt).toNat ((fr - zf) / (64 : Int32)) (if ((fr - zf) / (64 : Int32)) < (32 : Int32) then ((xA (((fr - zf) / (64 : Int32))).toNatClampNeg) &&& ((-1 : Int64) <<< ((fr - zf) &&& 0x3f).toInt64)) else (0 : Int64)))))) := by
    unfold f11
    rfl
  obtain ⟨fs, hr, hrun, hended, hW, hsame⟩ := X374.leave (v := some (.int (if (lcmpW (own_lb xA (31 - (((fr - zf) / (64 : Int32))).toInt).toNat ((fr - zf) / (64 : Int32)) (if ((fr - zf) / (64 : Int32)) < (32 : Int32) then ((xA (((fr - zf) / (64 : Int32))).toNatClampNeg) &&& ((-1 : Int64) <<< ((fr - zf) &&& 0x3f).toInt64)) else (0 : Int64))) (0 : Int64)) = (0 : Int32) then ze else ((zf + ((own_lw xA (31 - (((fr - zf) / (64 : Int32))).toInt).toNat ((fr - zf) / (64 : Int32)) (if ((fr - zf) / (64 : Int32)) < (32 : Int32) then ((xA (((fr - zf) / (64 : Int32))).toNatClampNeg) &&& ((-1 : Int64) <<< ((fr - zf) &&& 0x3f).toInt64)) else (0 : Int64))) * (64 : Int32))) + (f12 (own_lb xA (31 - (((fr - zf) / (64 : Int32))).toInt).toNat ((fr - zf) / (64 : Int32)) (if ((fr - zf) / (64 : Int32)) < (32 : Int32) then ((xA (((fr - zf) / (64 : Int32))).toNatClampNeg) &&& ((-1 : Int64) <<< ((fr - zf) &&& 0x3f).toInt64)) else (0 : Int64)))))))) (fun h => by rw [Bd.returns] at h; cases h)
  refine ⟨_, _, S374 _ ?_, hrun, hended, _, _, rfl, ?_, ⟨_, rfl⟩, hW, hsame.mono (by decide) (by decide)⟩
  · exact retOut X374 hx Bd.returns rfl (Or.inl ⟨rfl, Or.inl rfl, _, rfl⟩) (hb hby d11_100) hr
  · show Q11 Z a1 fr zm zf ze kA xA h0 n0 _ T374.heap _
    rw [e374]
    exact ⟨by rw [hf], N374, rfl⟩
section
open Jvm.FP.Core
theorem own_key {a : Int64} : (lcmpW a (0 : Int64)) = (0 : Int32) ↔ a = 0 := by
  rw [own_lc_eq, Int64.toInt_inj]
/-- the bit j of a word -/
def own_tb (b : Int64) (j : Nat) : Bool := b.toBitVec.toNat.testBit j
theorem own_tb_or (a b : Int64) (j : Nat) : own_tb (a ||| b) j = (own_tb a j || own_tb b j) := by
  unfold own_tb; rw [Int64.toBitVec_or, BitVec.toNat_or, Nat.testBit_or]
theorem own_tb_and (a b : Int64) (j : Nat) : own_tb (a &&& b) j = (own_tb a j && own_tb b j) := by
  unfold own_tb; rw [Int64.toBitVec_and, BitVec.toNat_and, Nat.testBit_and]
theorem own_tb_zero (j : Nat) : own_tb 0 j = false := Nat.zero_testBit j
theorem own_sh1 : ∀ r : Fin 64, ((1 : Int64) <<< (Int32.ofNat r.1).toInt64).toBitVec.toNat = 2 ^ r.1 := by decide +kernel
theorem own_shm : ∀ r j : Fin 64, own_tb ((-1 : Int64) <<< (Int32.ofNat r.1).toInt64) j.1 = decide (r.1 ≤ j.1) := by decide +kernel
theorem own_m63 {j : Int32} {s : Nat} (h : j.toInt = (s : Int)) : j &&& 0x3f = Int32.ofNat (s % 64) := by
  apply Int32.toInt_inj.mp
  rw [Jvm.Kit.i32_mask j 0x3f (k := 6) (by decide) (by decide), Int32.toInt_ofNat_of_lt (by omega), h]
  omega
theorem own_t1 {j : Int32} {s : Nat} (h : j.toInt = (s : Int)) (i : Nat) : own_tb ((1 : Int64) <<< (j &&& 0x3f).toInt64) i = decide (s % 64 = i) := by
  rw [own_m63 h]; unfold own_tb
  rw [own_sh1 ⟨s % 64, Nat.mod_lt _ (by decide)⟩, Nat.testBit_two_pow]
theorem own_tm {j : Int32} {s : Nat} (h : j.toInt = (s : Int)) {i : Nat} (hi : i < 64) : own_tb ((-1 : Int64) <<< (j &&& 0x3f).toInt64) i = decide (s % 64 ≤ i) := by
  rw [own_m63 h]; exact own_shm ⟨s % 64, Nat.mod_lt _ (by decide)⟩ ⟨i, hi⟩
theorem own_wn {j : Int32} {s : Nat} (h : j.toInt = (s : Int)) : (j / (64 : Int32)).toInt = ((s / 64 : Nat) : Int) := by
  rw [own_dd (by omega), h]; omega
theorem own_wc {j : Int32} {s : Nat} (h : j.toInt = (s : Int)) : (j / (64 : Int32)).toNatClampNeg = s / 64 := by
  have := own_wn h
  unfold Int32.toNatClampNeg; omega
theorem own_wo {j : Int32} {s : Nat} (h : j.toInt = (s : Int)) : j = Int32.ofNat s := by
  have := j.toInt_lt
  apply Int32.toInt_inj.mp
  rw [Int32.toInt_ofNat_of_lt (by omega), h]
/-- trailing zeros -/
def own_g (y : Int32) : Int32 := (if (0 : Int32) < y then ((if (4 : Int32) < (if (16 : Int32) < (if (256 : Int32) < (if (65536 : Int32) < y then ((y.toUInt32 >>> ((16 : Int32) &&& 31).toUInt32).toInt32) else y) then (((if (65536 : Int32) < y then ((y.toUInt32 >>> ((16 : Int32) &&& 31).toUInt32).toInt32) else y).toUInt32 >>> ((8 : Int32) &&& 31).toUInt32).toInt32) else (if (65536 : Int32) < y then ((y.toUInt32 >>> ((16 : Int32) &&& 31).toUInt32).toInt32) else y)) then (((if (256 : Int32) < (if (65536 : Int32) < y then ((y.toUInt32 >>> ((16 : Int32) &&& 31).toUInt32).toInt32) else y) then (((if (65536 : Int32) < y then ((y.toUInt32 >>> ((16 : Int32) &&& 31).toUInt32).toInt32) else y).toUInt32 >>> ((8 : Int32) &&& 31).toUInt32).toInt32) else (if (65536 : Int32) < y then ((y.toUInt32 >>> ((16 : Int32) &&& 31).toUInt32).toInt32) else y)).toUInt32 >>> ((4 : Int32) &&& 31).toUInt32).toInt32) else (if (256 : Int32) < (if (65536 : Int32) < y then ((y.toUInt32 >>> ((16 : Int32) &&& 31).toUInt32).toInt32) else y) then (((if (65536 : Int32) < y then ((y.toUInt32 >>> ((16 : Int32) &&& 31).toUInt32).toInt32) else y).toUInt32 >>> ((8 : Int32) &&& 31).toUInt32).toInt32) else (if (65536 : Int32) < y then ((y.toUInt32 >>> ((16 : Int32) &&& 31).toUInt32).toInt32) else y))) then ((if (16 : Int32) < (if (256 : Int32) < (if (65536 : Int32) < y then ((y.toUInt32 >>> ((16 : Int32) &&& 31).toUInt32).toInt32) else y) then (((if (65536 : Int32) < y then ((y.toUInt32 >>> ((16 : Int32) &&& 31).toUInt32).toInt32) else y).toUInt32 >>> ((8 : Int32) &&& 31).toUInt32).toInt32) else (if (65536 : Int32) < y then ((y.toUInt32 >>> ((16 : Int32) &&& 31).toUInt32).toInt32) else y)) then ((if (256 : Int32) < (if (65536 : Int32) < y then ((y.toUInt32 >>> ((16 : Int32) &&& 31).toUInt32).toInt32) else y) then ((if (65536 : Int32) < y then (17 : Int32) else (1 : Int32)) + (8 : Int32)) else (if (65536 : Int32) < y then (17 : Int32) else (1 : Int32))) + (4 : Int32)) else (if (256 : Int32) < (if (65536 : Int32) < y then ((y.toUInt32 >>> ((16 : Int32) &&& 31).toUInt32).toInt32) else y) then ((if (65536 : Int32) < y then (17 : Int32) else (1 : Int32)) + (8 : Int32)) else (if (65536 : Int32) < y then (17 : Int32) else (1 : Int32)))) + (2 : Int32)) else (if (16 : Int32) < (if (256 : Int32) < (if (65536 : Int32) < y then ((y.toUInt32 >>> ((16 : Int32) &&& 31).toUInt32).toInt32) else y) then (((if (65536 : Int32) < y then ((y.toUInt32 >>> ((16 : Int32) &&& 31).toUInt32).toInt32) else y).toUInt32 >>> ((8 : Int32) &&& 31).toUInt32).toInt32) else (if (65536 : Int32) < y then ((y.toUInt32 >>> ((16 : Int32) &&& 31).toUInt32).toInt32) else y)) then ((if (256 : Int32) < (if (65536 : Int32) < y then ((y.toUInt32 >>> ((16 : Int32) &&& 31).toUInt32).toInt32) else y) then ((if (65536 : Int32) < y then (17 : Int32) else (1 : Int32)) + (8 : Int32)) else (if (65536 : Int32) < y then (17 : Int32) else (1 : Int32))) + (4 : Int32)) else (if (256 : Int32) < (if (65536 : Int32) < y then ((y.toUInt32 >>> ((16 : Int32) &&& 31).toUInt32).toInt32) else y) then ((if (65536 : Int32) < y then (17 : Int32) else (1 : Int32)) + (8 : Int32)) else (if (65536 : Int32) < y then (17 : Int32) else (1 : Int32))))) + (((if (4 : Int32) < (if (16 : Int32) < (if (256 : Int32) < (if (65536 : Int32) < y then ((y.toUInt32 >>> ((16 : Int32) &&& 31).toUInt32).toInt32) else y) then (((if (65536 : Int32) < y then ((y.toUInt32 >>> ((16 : Int32) &&& 31).toUInt32).toInt32) else y).toUInt32 >>> ((8 : Int32) &&& 31).toUInt32).toInt32) else (if (65536 : Int32) < y then ((y.toUInt32 >>> ((16 : Int32) &&& 31).toUInt32).toInt32) else y)) then (((if (256 : Int32) < (if (65536 : Int32) < y then ((y.toUInt32 >>> ((16 : Int32) &&& 31).toUInt32).toInt32) else y) then (((if (65536 : Int32) < y then ((y.toUInt32 >>> ((16 : Int32) &&& 31).toUInt32).toInt32) else y).toUInt32 >>> ((8 : Int32) &&& 31).toUInt32).toInt32) else (if (65536 : Int32) < y then ((y.toUInt32 >>> ((16 : Int32) &&& 31).toUInt32).toInt32) else y)).toUInt32 >>> ((4 : Int32) &&& 31).toUInt32).toInt32) else (if (256 : Int32) < (if (65536 : Int32) < y then ((y.toUInt32 >>> ((16 : Int32) &&& 31).toUInt32).toInt32) else y) then (((if (65536 : Int32) < y then ((y.toUInt32 >>> ((16 : Int32) &&& 31).toUInt32).toInt32) else y).toUInt32 >>> ((8 : Int32) &&& 31).toUInt32).toInt32) else (if (65536 : Int32) < y then ((y.toUInt32 >>> ((16 : Int32) &&& 31).toUInt32).toInt32) else y))) then (((if (16 : Int32) < (if (256 : Int32) < (if (65536 : Int32) < y then ((y.toUInt32 >>> ((16 : Int32) &&& 31).toUInt32).toInt32) else y) then (((if (65536 : Int32) < y then ((y.toUInt32 >>> ((16 : Int32) &&& 31).toUInt32).toInt32) else y).toUInt32 >>> ((8 : Int32) &&& 31).toUInt32).toInt32) else (if (65536 : Int32) < y then ((y.toUInt32 >>> ((16 : Int32) &&& 31).toUInt32).toInt32) else y)) then (((if (256 : Int32) < (if (65536 : Int32) < y then ((y.toUInt32 >>> ((16 : Int32) &&& 31).toUInt32).toInt32) else y) then (((if (65536 : Int32) < y then ((y.toUInt32 >>> ((16 : Int32) &&& 31).toUInt32).toInt32) else y).toUInt32 >>> ((8 : Int32) &&& 31).toUInt32).toInt32) else (if (65536 : Int32) < y then ((y.toUInt32 >>> ((16 : Int32) &&& 31).toUInt32).toInt32) else y)).toUInt32 >>> ((4 : Int32) &&& 31).toUInt32).toInt32) else (if (256 : Int32) < (if (65536 : Int32) < y then ((y.toUInt32 >>> ((16 : Int32) &&& 31).toUInt32).toInt32) else y) then (((if (65536 : Int32) < y then ((y.toUInt32 >>> ((16 : Int32) &&& 31).toUInt32).toInt32) else y).toUInt32 >>> ((8 : Int32) &&& 31).toUInt32).toInt32) else (if (65536 : Int32) < y then ((y.toUInt32 >>> ((16 : Int32) &&& 31).toUInt32).toInt32) else y))).toUInt32 >>> ((2 : Int32) &&& 31).toUInt32).toInt32) else (if (16 : Int32) < (if (256 : Int32) < (if (65536 : Int32) < y then ((y.toUInt32 >>> ((16 : Int32) &&& 31).toUInt32).toInt32) else y) then (((if (65536 : Int32) < y then ((y.toUInt32 >>> ((16 : Int32) &&& 31).toUInt32).toInt32) else y).toUInt32 >>> ((8 : Int32) &&& 31).toUInt32).toInt32) else (if (65536 : Int32) < y then ((y.toUInt32 >>> ((16 : Int32) &&& 31).toUInt32).toInt32) else y)) then (((if (256 : Int32) < (if (65536 : Int32) < y then ((y.toUInt32 >>> ((16 : Int32) &&& 31).toUInt32).toInt32) else y) then (((if (65536 : Int32) < y then ((y.toUInt32 >>> ((16 : Int32) &&& 31).toUInt32).toInt32) else y).toUInt32 >>> ((8 : Int32) &&& 31).toUInt32).toInt32) else (if (65536 : Int32) < y then ((y.toUInt32 >>> ((16 : Int32) &&& 31).toUInt32).toInt32) else y)).toUInt32 >>> ((4 : Int32) &&& 31).toUInt32).toInt32) else (if (256 : Int32) < (if (65536 : Int32) < y then ((y.toUInt32 >>> ((16 : Int32) &&& 31).toUInt32).toInt32) else y) then (((if (65536 : Int32) < y then ((y.toUInt32 >>> ((16 : Int32) &&& 31).toUInt32).toInt32) else y).toUInt32 >>> ((8 : Int32) &&& 31).toUInt32).toInt32) else (if (65536 : Int32) < y then ((y.toUInt32 >>> ((16 : Int32) &&& 31).toUInt32).toInt32) else y)))).toUInt32 >>> ((1 : Int32) &&& 31).toUInt32).toInt32)) else (y &&& (32 : Int32)))
theorem own_us (y k : Int32) : (y.toUInt32 >>> (k &&& 31).toUInt32).toInt32 = Jvm.Free.XT.ushr y k := rfl
theorem own_ul (x : Int64) : (x.toUInt64 >>> ((32 : Int32) &&& 0x3f).toInt64.toUInt64).toInt64 = Jvm.Free.XT.ushrL x 32 := by
  have : ((32 : Int32) &&& 0x3f).toInt64.toUInt64 = ((32 : Int32).toInt64.toUInt64 &&& Int64.toUInt64 63) := by decide
  unfold Jvm.Free.XT.ushrL; rw [this]
theorem own_gG (y : Int32) : own_g y = Jvm.Free.JM.G y := by
  unfold own_g Jvm.Free.JM.G
  by_cases a : (0 : Int32) < y
  · rw [if_pos a, if_pos a]
    by_cases b : (65536 : Int32) < y
    · simp only [if_pos b]
      by_cases c : (256 : Int32) < (Jvm.Free.XT.ushr y 16)
      · simp only [own_us, c, if_true]
        by_cases d : (16 : Int32) < (Jvm.Free.XT.ushr (Jvm.Free.XT.ushr y 16) 8)
        · simp only [d, if_true]
          split <;> rfl
        · simp only [d, if_false]
          split <;> rfl
      · simp only [own_us, c, if_false]
        by_cases d : (16 : Int32) < (Jvm.Free.XT.ushr y 16)
        · simp only [d, if_true]
          split <;> rfl
        · simp only [d, if_false]
          split <;> rfl
    · simp only [if_neg b]
      by_cases c : (256 : Int32) < y
      · simp only [own_us, c, if_true]
        by_cases d : (16 : Int32) < (Jvm.Free.XT.ushr y 8)
        · simp only [d, if_true]
          split <;> rfl
        · simp only [d, if_false]
          split <;> rfl
      · simp only [own_us, c, if_false]
        by_cases d : (16 : Int32) < y
        · simp only [d, if_true]
          split <;> rfl
        · simp only [d, if_false]
          split <;> rfl
  · rw [if_neg a, if_neg a]
theorem own_f13 (x : Int32) : f13 x = Jvm.Free.JP.Integer_numberOfTrailingZeros_I.val x := own_gG ((x ^^^ (-1 : Int32)) &&& (x - (1 : Int32)))
theorem own_f12 (x : Int64) : f12 x = Jvm.Free.JP.Long_numberOfTrailingZeros_J.val x := by
  unfold f12 Jvm.Free.JP.Long_numberOfTrailingZeros_J.val
  rw [own_f13, own_f13, own_ul]
theorem own_ntz {b : Int64} (h : b ≠ 0) : ∃ t : Nat, t < 64 ∧ own_tb b t = true ∧ (∀ j, j < t → own_tb b j = false) ∧ f12 b = Int32.ofNat t := by
  have hn : b.toBitVec.toNat ≠ 0 := fun q => h (Int64.toBitVec_inj.mp (BitVec.eq_of_toNat_eq (by rw [q]; rfl)))
  obtain ⟨t, ht⟩ := Jvm.Free.JM.low_ex _ hn
  exact ⟨t, ht.lt b.toBitVec.isLt, ht.at, fun j hj => ht.below hj, by rw [own_f12, Jvm.Free.JM.ntz64 ht]⟩
/-- the marks: of a and b alone -/
def own_M (x : Nat → Int64) (a b : Nat) : Prop := ∀ v j : Nat, j < 64 → own_tb (x v) j = (decide (64 * v + j = a) || decide (64 * v + j = b))
theorem own_Mup {x : Nat → Int64} {P : Nat → Nat → Bool} (h : ∀ v j : Nat, j < 64 → own_tb (x v) j = P v j) {d : Int32} {a : Nat} (hd : d.toInt = (a : Int)) (v j : Nat) (hj : j < 64) :
    own_tb (own_up x (d / (64 : Int32)).toNatClampNeg ((x (d / (64 : Int32)).toNatClampNeg) ||| ((1 : Int64) <<< (d &&& 0x3f).toInt64)) v) j = (P v j || decide (64 * v + j = a)) := by
  rw [own_wc hd]
  by_cases w : v = a / 64
  · rw [w, own_up_eq, own_tb_or, h _ _ hj, own_t1 hd]
    congr 1
    exact decide_eq_decide.mpr (by omega)
  · rw [own_up_ne _ _ w, h _ _ hj, decide_eq_false (p := 64 * v + j = a) (by omega), Bool.or_false]
theorem own_loop (x : Nat → Int64) : ∀ (k : Nat) (w : Int32) (b : Int64), own_lk k w →
    (own_lb x k w b = 0 ∧ b = 0 ∧ ∀ v : Nat, w.toInt < (v : Int) → v < 32 → x v = 0) ∨ (b ≠ 0 ∧ own_lb x k w b = b ∧ own_lw x k w b = w) ∨
    (b = 0 ∧ ∃ v : Nat, w.toInt < (v : Int) ∧ v < 32 ∧ own_lw x k w b = Int32.ofNat v ∧ own_lb x k w b = x v ∧ x v ≠ 0 ∧ ∀ u : Nat, w.toInt < (u : Int) → u < v → x u = 0) := by
  intro k
  induction k with
  | zero =>
    intro w b hk
    obtain ⟨k0, k1, k2⟩ := hk
    by_cases hb : b = 0
    · exact Or.inl ⟨hb, hb, fun v h1 h2 => by omega⟩
    · exact Or.inr (Or.inl ⟨hb, rfl, rfl⟩)
  | succ k ih =>
    intro w b hk
    have hp := own_lp ⟨hk.1, hk.2.1⟩
    by_cases hb : b = 0
    · have hc := own_key.mpr hb
      rw [own_lb1 hc, own_lw1 hc]
      have hi := ih _ (x (w + (1 : Int32)).toNatClampNeg) (own_lkn hk)
      obtain ⟨k0, k1, k2⟩ := hk
      obtain ⟨q, hq⟩ : ∃ q : Nat, (q : Int) = w.toInt + 1 := ⟨(w.toInt + 1).toNat, by omega⟩
      have hc : (w + (1 : Int32)).toNatClampNeg = q := by unfold Int32.toNatClampNeg; omega
      have hw : w + (1 : Int32) = Int32.ofNat q := own_wo (by omega)
      rw [hc] at hi ⊢
      rcases hi with ⟨e1, e2, e3⟩ | ⟨e1, e2, e3⟩ | ⟨e1, v, v1, v2, e2, e3, e4, e5⟩
      · refine Or.inl ⟨e1, hb, fun v h1 h2 => ?_⟩
        by_cases u : v = q
        · rw [u]; exact e2
        · exact e3 v (by omega) h2
      · exact Or.inr (Or.inr ⟨hb, q, by omega, by omega, by rw [e3]; exact hw, e2, e1, fun u h1 h2 => by omega⟩)
      · refine Or.inr (Or.inr ⟨hb, v, by omega, v2, e2, e3, e4, fun u h1 h2 => ?_⟩)
        by_cases z : u = q
        · rw [z]; exact e1
        · exact e5 u (by omega) h2
    · have hc := fun q => hb (own_key.mp q)
      exact Or.inr (Or.inl ⟨hb, own_lb2 hc, own_lw2 hc⟩)
theorem own_sum (f : Int32) (u t : Nat) : (f + ((Int32.ofNat u) * (64 : Int32))) + Int32.ofNat t = f + Int32.ofNat (64 * u + t) := by
  rw [Int32.add_assoc, Nat.mul_comm, Int32.ofNat_add, Int32.ofNat_mul]; rfl
theorem own_next {x : Nat → Int64} {a b : Nat} (M : own_M x a b) (ha : a < 2048) (hb : b < 2048) {fr f e : Int32} {s : Nat} (hs : (fr - f).toInt = (s : Int)) (h2 : s ≤ 2048) :
    (f11 fr f e x = e ∧ a < s ∧ b < s) ∨ ∃ t : Nat, (t = a ∨ t = b) ∧ s ≤ t ∧ (s ≤ a → t ≤ a) ∧ (s ≤ b → t ≤ b) ∧ f11 fr f e x = f + Int32.ofNat t := by
  unfold f11
  obtain ⟨d, hd⟩ : ∃ d : Int32, d = fr - f := ⟨_, rfl⟩
  rw [← hd] at hs ⊢
  have w1 := own_wn hs
  have e32 : (32 : Int32).toInt = 32 := by decide
  obtain ⟨b0, hb0⟩ : ∃ b0 : Int64, b0 = (if (d / (64 : Int32)) < (32 : Int32) then ((x (d / (64 : Int32)).toNatClampNeg) &&& ((-1 : Int64) <<< (d &&& 0x3f).toInt64)) else (0 : Int64)) := ⟨_, rfl⟩
  rw [← hb0]
  have B : ∀ j, j < 64 → (own_tb b0 j = true ↔ (64 * (s / 64) + j = a ∨ 64 * (s / 64) + j = b) ∧ s % 64 ≤ j) := by
    intro j hj
    rw [hb0]
    by_cases w : (d / (64 : Int32)) < (32 : Int32)
    · rw [if_pos w, own_tb_and, own_wc hs, M _ _ hj, own_tm hs hj]
      simp only [Bool.and_eq_true, Bool.or_eq_true, decide_eq_true_eq]
    · rw [if_neg w, own_tb_zero]
      rw [Int32.lt_iff_toInt_lt, w1, e32] at w
      exact ⟨fun q => absurd q (by decide), fun q => by omega⟩
  have Mt : ∀ v j : Nat, j < 64 → (own_tb (x v) j = true ↔ (64 * v + j = a ∨ 64 * v + j = b)) := by
    intro v j hj
    rw [M _ _ hj]
    simp only [Bool.or_eq_true, decide_eq_true_eq]
  have low : ∀ m : Nat, (m = a ∨ m = b) → s ≤ m → b0 = 0 → (∀ v : Nat, (d / (64 : Int32)).toInt < (v : Int) → v ≤ m / 64 → x v = 0) → False := by
    intro m hm hsm z0 zv
    by_cases w : m / 64 = s / 64
    · have := (B (m % 64) (Nat.mod_lt _ (by decide))).mpr ⟨by omega, by omega⟩
      rw [z0, own_tb_zero] at this; cases this
    · have z := zv (m / 64) (by omega) (Nat.le_refl _)
      have := (Mt (m / 64) (m % 64) (Nat.mod_lt _ (by decide))).mpr (by omega)
      rw [z, own_tb_zero] at this; cases this
  rcases own_loop x (31 - (d / (64 : Int32)).toInt).toNat (d / (64 : Int32)) b0 (own_lki (by omega)) with ⟨e1, e2, e3⟩ | ⟨e1, e2, e3⟩ | ⟨e1, v, v1, v2, e2, e3, e4, e5⟩
  · rw [if_pos (own_key.mpr e1)]
    exact Or.inl ⟨rfl, Nat.lt_of_not_le fun q => low a (Or.inl rfl) q e2 (fun v h1 h3 => e3 v h1 (by omega)), Nat.lt_of_not_le fun q => low b (Or.inr rfl) q e2 (fun v h1 h3 => e3 v h1 (by omega))⟩
  · rw [if_neg (fun q => e1 (by rw [← e2]; exact own_key.mp q)), e2, e3]
    obtain ⟨t, t1, t2, t3, t4⟩ := own_ntz e1
    have T := (B t t1).mp t2
    have mn : ∀ m : Nat, (m = a ∨ m = b) → s ≤ m → 64 * (s / 64) + t ≤ m := by
      intro m hm hsm
      refine Nat.le_of_not_lt fun q => ?_
      have := (B (m % 64) (Nat.mod_lt _ (by decide))).mpr ⟨by omega, by omega⟩
      rw [t3 (m % 64) (by omega)] at this; cases this
    refine Or.inr ⟨64 * (s / 64) + t, T.1, by omega, mn a (Or.inl rfl), mn b (Or.inr rfl), ?_⟩
    rw [t4, own_wo w1, own_sum]
  · rw [if_neg (fun q => e4 (by rw [← e3]; exact own_key.mp q)), e2, e3]
    obtain ⟨t, t1, t2, t3, t4⟩ := own_ntz e4
    have T := (Mt v t t1).mp t2
    have mn : ∀ m : Nat, (m = a ∨ m = b) → s ≤ m → 64 * v + t ≤ m := by
      intro m hm hsm
      refine Nat.le_of_not_lt fun q => ?_
      by_cases w : m / 64 = v
      · have := (Mt v (m % 64) (Nat.mod_lt _ (by decide))).mpr (by omega)
        rw [t3 (m % 64) (by omega)] at this; cases this
      · exact low m hm hsm e1 (fun u h1 h3 => e5 u h1 (by omega))
    refine Or.inr ⟨64 * v + t, T, by omega, mn a (Or.inl rfl), mn b (Or.inr rfl), ?_⟩
    rw [t4, own_sum]
/-- what the law's start gives -/
def own_P (fx f0 e0 en sA sB dA dB : Int32) : Prop :=
  0 ≤ fx.toInt ∧ f0 = fx ∧ e0 = en ∧ en.toInt - fx.toInt ≤ 2048 ∧ (0 ≤ sA.toInt ∧ sA.toInt < en.toInt - fx.toInt) ∧ (0 ≤ sB.toInt ∧ sB.toInt < en.toInt - fx.toInt) ∧ dA.toInt = fx.toInt + sA.toInt ∧ dB.toInt = fx.toInt + sB.toInt
theorem own_pre {pf pa pb fx f0 e0 en room sA sB dA dB o : Int32} {u : Nat → UInt64} {v : Nat → Int32} {w : Nat → Int64} {z1 z2 : Int32} (h6 : fx = (pf &&& (2147483647 : Int32))) (hf : f0 = f3_first fx z1 z2 u v w) (he : e0 = f3_end fx z1 z2 u v w) (h8 : en = f5 e0) (h9 : room = (en - fx)) (hr : (0 : Int32) < room)
    (h10 : sA = ((pa &&& (2147483647 : Int32)) % room)) (h11 : sB = (if o = (0 : Int32) then ((pb &&& (2147483647 : Int32)) % room) else sA)) (h12 : dA = (fx + sA)) (h13 : dB = (fx + sB)) : own_P fx f0 e0 en sA sB dA dB := by
  have c0 : 0 ≤ fx.toInt := by rw [h6]; exact own_m31 pf
  have c1 := fx.toInt_lt
  have q1 : (fx.toInt64 + (2048 : Int64)).toInt = fx.toInt + 2048 := by
    have k : (2048 : Int64).toInt = 2048 := by decide
    rw [Jvm.Kit.i64_add] <;> rw [Int32.toInt_toInt64, k] <;> omega
  have q2 : (2147483647 : Int64).toInt = 2147483647 := by decide
  have ee : e0.toInt = if fx.toInt + 2048 ≤ 2147483647 then fx.toInt + 2048 else 2147483647 := by
    rw [he]
    unfold f3_end f4
    by_cases w : (0 : Int32) < lcmpW (fx.toInt64 + (2048 : Int64)) (2147483647 : Int64)
    · rw [if_pos w]
      rw [own_lc_pos, q1, q2] at w
      rw [if_neg (by omega)]; decide
    · rw [if_neg w]
      rw [own_lc_pos, q1, q2] at w
      rw [if_pos (by omega), Int64.toInt_toInt32, q1]
      exact Int.bmod_eq_of_le (by omega) (by omega)
  have e1 : en = e0 := h8
  have ef : f0 = fx := hf
  have e2 : room.toInt = en.toInt - fx.toInt := by
    rw [h9, Jvm.Kit.i32_sub] <;> rw [e1] <;> rw [ee] <;> split <;> omega
  have hr' : 0 < room.toInt := by have := Int32.lt_iff_toInt_lt.mp hr; rw [Int32.toInt_zero] at this; exact this
  have a := own_mod_bounds (pa &&& (2147483647 : Int32)) room (own_m31 pa) hr'
  rw [← h10] at a
  have b : 0 ≤ sB.toInt ∧ sB.toInt < room.toInt := by
    rw [h11]
    split
    · exact own_mod_bounds (pb &&& (2147483647 : Int32)) room (own_m31 pb) hr'
    · exact a
  have r : room.toInt ≤ 2048 ∧ en.toInt ≤ 2147483647 := by
    rw [e2, e1, ee]; split <;> omega
  refine ⟨c0, ef, e1.symm, by omega, by omega, by omega, ?_, ?_⟩
  · rw [h12, Jvm.Kit.i32_add] <;> omega
  · rw [h13, Jvm.Kit.i32_add] <;> omega
section
variable {fx f0 e0 en sA sB dA dB : Int32}
theorem own_sub {a b : Int32} {s : Int} (h : a.toInt = b.toInt + s) (h0 : 0 ≤ s) (h1 : s ≤ 2048) : (a - b).toInt = s := by
  rw [Jvm.Kit.i32_sub] <;> omega
theorem own_dA (A : own_P fx f0 e0 en sA sB dA dB) : dA - fx = sA := by
  obtain ⟨c0, cf, ce, c1, c2, c3, c4, c5⟩ := A
  exact Int32.toInt_inj.mp (own_sub c4 (by omega) (by omega))
theorem own_dB (A : own_P fx f0 e0 en sA sB dA dB) : dB - fx = sB := by
  obtain ⟨c0, cf, ce, c1, c2, c3, c4, c5⟩ := A
  exact Int32.toInt_inj.mp (own_sub c5 (by omega) (by omega))
theorem own_hA (A : own_P fx f0 e0 en sA sB dA dB) {f : Int32} (hf : f = fx) : 0 ≤ (dA - f).toInt ∧ (dA - f).toInt < 2048 := by
  rw [hf, own_dA A]; obtain ⟨c0, cf, ce, c1, c2, c3, c4, c5⟩ := A; omega
theorem own_hB (A : own_P fx f0 e0 en sA sB dA dB) {f : Int32} (hf : f = fx) : 0 ≤ (dB - f).toInt ∧ (dB - f).toInt < 2048 := by
  rw [hf, own_dB A]; obtain ⟨c0, cf, ce, c1, c2, c3, c4, c5⟩ := A; omega
theorem own_fn0 : Jvm.Free.Fl.Fin64 0 := by unfold Jvm.Free.Fl.Fin64; decide
theorem own_n1 {s0 : Nat → UInt64} {z1 z2 : Int32} {c : Nat → Int32} {m : Nat → Int64} (hs : s0 = f3_scores fx z1 z2 (fun _ => (0 : UInt64)) c m) {x : UInt64} {v : Int32} (hx : x = FP.i2d v) (j : Nat) : Jvm.Free.Fl.NoNaN64 (FP.dadd (s0 j) x) := by
  subst hs hx; exact Jvm.Free.Fl.dadd_out own_fn0.noNaN (Jvm.Free.Fl.i2d_fin v)
theorem own_n2 {s0 s1 : Nat → UInt64} {z1 z2 y1 y2 : Int32} {c c' : Nat → Int32} {m m' : Nat → Int64} (hs : s0 = f3_scores fx z1 z2 (fun _ => (0 : UInt64)) c m) {x y : UInt64} {v u : Int32} (hx : x = FP.i2d v) (hs1 : s1 = f6_scores dA x y1 y2 s0 c' m') (hy : y = FP.i2d u) (j : Nat) : Jvm.Free.Fl.NoNaN64 (FP.dadd (s1 j) y) := by
  have n := own_n1 hs hx
  rw [hy]
  refine Jvm.Free.Fl.dadd_out ?_ (Jvm.Free.Fl.i2d_fin u)
  rw [hs1]
  unfold f6_scores own_up
  by_cases w : j = (dA - y1).toNatClampNeg
  · rw [if_pos w]; exact n _
  · rw [if_neg w, hs]; exact own_fn0.noNaN
/-- the window behind the two adds -/
def own_Q (fx en sA sB : Int32) (x y : UInt64) (f2 e2 : Int32) (s2 : Nat → UInt64) (c2 : Nat → Int32) (m2 : Nat → Int64) : Prop :=
  f2 = fx ∧ e2 = en ∧ s2 = own_up (own_up (fun _ => (0 : UInt64)) sA.toNatClampNeg (FP.dadd 0 x)) sB.toNatClampNeg (FP.dadd (own_up (fun _ => (0 : UInt64)) sA.toNatClampNeg (FP.dadd 0 x) sB.toNatClampNeg) y) ∧
  c2 = own_up (own_up (fun _ => (0 : Int32)) sA.toNatClampNeg ((0 : Int32) + (1 : Int32))) sB.toNatClampNeg ((own_up (fun _ => (0 : Int32)) sA.toNatClampNeg ((0 : Int32) + (1 : Int32)) sB.toNatClampNeg) + (1 : Int32)) ∧
  own_M m2 sA.toNatClampNeg sB.toNatClampNeg
theorem own_done (A : own_P fx f0 e0 en sA sB dA dB) {z1 z2 : Int32} {s0 s1 s2 : Nat → UInt64} {c0 c1 c2 : Nat → Int32} {m0 m1 m2 : Nat → Int64} {x y : UInt64} {f1 e1 f2 e2 : Int32}
    (hs0 : s0 = f3_scores fx z1 z2 (fun _ => (0 : UInt64)) (fun _ => (0 : Int32)) (fun _ => (0 : Int64))) (hc0 : c0 = f3_counts fx z1 z2 (fun _ => (0 : UInt64)) (fun _ => (0 : Int32)) (fun _ => (0 : Int64))) (hm0 : m0 = f3_marked fx z1 z2 (fun _ => (0 : UInt64)) (fun _ => (0 : Int32)) (fun _ => (0 : Int64)))
    (hf1 : f1 = f6_first dA x f0 e0 s0 c0 m0) (he1 : e1 = f6_end dA x f0 e0 s0 c0 m0) (hs1 : s1 = f6_scores dA x f0 e0 s0 c0 m0) (hc1 : c1 = f6_counts dA x f0 e0 s0 c0 m0) (hm1 : m1 = f6_marked dA x f0 e0 s0 c0 m0)
    (hf2 : f2 = f6_first dB y f1 e1 s1 c1 m1) (he2 : e2 = f6_end dB y f1 e1 s1 c1 m1) (hs2 : s2 = f6_scores dB y f1 e1 s1 c1 m1) (hc2 : c2 = f6_counts dB y f1 e1 s1 c1 m1) (hm2 : m2 = f6_marked dB y f1 e1 s1 c1 m1) :
    own_Q fx en sA sB x y f2 e2 s2 c2 m2 := by
  have a := own_dA A
  have b := own_dB A
  obtain ⟨a0, cf, ce, a1, a2, a3, a4, a5⟩ := A
  have g1 : f1 = fx := by rw [hf1]; exact cf
  have g2 : f2 = fx := by rw [hf2]; exact g1
  have i1 : e1 = en := by rw [he1]; exact ce
  have i2 : e2 = en := by rw [he2]; exact i1
  refine ⟨g2, i2, ?_, ?_, ?_⟩
  · rw [hs2, hs1, hs0]; unfold f6_scores f3_scores; rw [g1, cf, a, b]
  · rw [hc2, hc1, hc0]; unfold f6_counts f3_counts; rw [g1, cf, a, b]
  · have k1 : sA.toInt = ((sA.toNatClampNeg : Nat) : Int) := by unfold Int32.toNatClampNeg; omega
    have k2 : sB.toInt = ((sB.toNatClampNeg : Nat) : Int) := by unfold Int32.toNatClampNeg; omega
    have M1 := own_Mup (x := fun _ => (0 : Int64)) (P := fun _ _ => false) (fun _ j _ => own_tb_zero j) k1
    have M2 := own_Mup M1 k2
    intro v j hj
    rw [hm2, hm1, hm0]; unfold f6_marked f3_marked; rw [g1, cf, a, b]
    rw [M2 v j hj, Bool.false_or]
variable {px py : Int32} {x y : UInt64} {f2 e2 : Int32} {s2 : Nat → UInt64} {c2 : Nat → Int32} {m2 : Nat → Int64} {lo hi : Int32}
theorem own_AB (A : own_P fx f0 e0 en sA sB dA dB) : dA = dB ↔ sA.toNatClampNeg = sB.toNatClampNeg := by
  obtain ⟨a0, cf, ce, a1, a2, a3, a4, a5⟩ := A
  rw [← Int32.toInt_inj]
  unfold Int32.toNatClampNeg
  constructor <;> intro h <;> omega
theorem own_z0 : DInt 0 0 := by
  have h : DInt (0 : Int32).toInt (FP.i2d 0) := i2d_int 0
  have e : FP.i2d 0 = 0 := by decide +kernel
  rw [e] at h; exact h
theorem own_x0 (hx : x = FP.i2d px) : DInt px.toInt (FP.dadd 0 x) := by
  have := px.toInt_lt
  have := px.le_toInt
  have h := dadd_int own_z0 (i2d_int px) (by omega)
  rw [Int.zero_add] at h
  rw [hx]; exact h
theorem own_t152 (A : own_P fx f0 e0 en sA sB dA dB) (B : own_Q fx en sA sB x y f2 e2 s2 c2 m2) (hx : x = FP.i2d px) (hy : y = FP.i2d py) (hc : dA = dB) : (cmpValue (FP.dcmp (f9 dA f2 s2) (FP.dadd x y)) .l) = (0 : Int32) := by
  have e := (own_AB A).mp hc
  have k1 := px.toInt_lt
  have k2 := px.le_toInt
  have k3 := py.toInt_lt
  have k4 := py.le_toInt
  obtain ⟨b1, b2, b3, b4, b5⟩ := B
  unfold f9
  rw [b1, own_dA A, b3, e, own_up_eq, own_up_eq]
  have h1 : DInt (px.toInt + py.toInt) (FP.dadd (FP.dadd 0 x) y) := dadd_int (own_x0 hx) (by rw [hy]; exact i2d_int py) (by omega)
  have h2 : DInt (px.toInt + py.toInt) (FP.dadd x y) := dadd_int (by rw [hx]; exact i2d_int px) (by rw [hy]; exact i2d_int py) (by omega)
  rw [own_cmp_int h1 h2, if_neg (by omega), if_pos rfl]
theorem own_t163 (A : own_P fx f0 e0 en sA sB dA dB) (B : own_Q fx en sA sB x y f2 e2 s2 c2 m2) (hc : dA = dB) : (f10 dA f2 c2) = (2 : Int32) := by
  have e := (own_AB A).mp hc
  obtain ⟨b1, b2, b3, b4, b5⟩ := B
  unfold f10
  rw [b1, own_dA A, b4, e, own_up_eq, own_up_eq]; rfl
theorem own_t200 (A : own_P fx f0 e0 en sA sB dA dB) (B : own_Q fx en sA sB x y f2 e2 s2 c2 m2) (hx : x = FP.i2d px) (hc : ¬ dA = dB) : (cmpValue (FP.dcmp (f9 dA f2 s2) x) .l) = (0 : Int32) := by
  have e : ¬ sA.toNatClampNeg = sB.toNatClampNeg := fun q => hc ((own_AB A).mpr q)
  obtain ⟨b1, b2, b3, b4, b5⟩ := B
  unfold f9
  rw [b1, own_dA A, b3, own_up_ne _ _ e, own_up_eq]
  rw [own_cmp_int (own_x0 hx) (by rw [hx]; exact i2d_int px), if_neg (by omega), if_pos rfl]
theorem own_t213 (A : own_P fx f0 e0 en sA sB dA dB) (B : own_Q fx en sA sB x y f2 e2 s2 c2 m2) (hy : y = FP.i2d py) (hc : ¬ dA = dB) : (cmpValue (FP.dcmp (f9 dB f2 s2) y) .l) = (0 : Int32) := by
  have e : ¬ sA.toNatClampNeg = sB.toNatClampNeg := fun q => hc ((own_AB A).mpr q)
  obtain ⟨b1, b2, b3, b4, b5⟩ := B
  unfold f9
  rw [b1, own_dB A, b3, own_up_eq, own_up_ne _ _ (fun q => e q.symm)]
  rw [own_cmp_int (own_x0 hy) (by rw [hy]; exact i2d_int py), if_neg (by omega), if_pos rfl]
theorem own_t224 (A : own_P fx f0 e0 en sA sB dA dB) (B : own_Q fx en sA sB x y f2 e2 s2 c2 m2) (hc : ¬ dA = dB) : (f10 dA f2 c2) = (1 : Int32) := by
  have e : ¬ sA.toNatClampNeg = sB.toNatClampNeg := fun q => hc ((own_AB A).mpr q)
  obtain ⟨b1, b2, b3, b4, b5⟩ := B
  unfold f10
  rw [b1, own_dA A, b4, own_up_ne _ _ e, own_up_eq]; rfl
theorem own_t235 (A : own_P fx f0 e0 en sA sB dA dB) (B : own_Q fx en sA sB x y f2 e2 s2 c2 m2) (hc : ¬ dA = dB) : (f10 dB f2 c2) = (1 : Int32) := by
  have e : ¬ sA.toNatClampNeg = sB.toNatClampNeg := fun q => hc ((own_AB A).mpr q)
  obtain ⟨b1, b2, b3, b4, b5⟩ := B
  unfold f10
  rw [b1, own_dB A, b4, own_up_eq, own_up_ne _ _ (fun q => e q.symm)]; rfl
/-- the lower and the higher slot -/
theorem own_mm (A : own_P fx f0 e0 en sA sB dA dB) (hl : lo = f7 dA dB) (hh : hi = f8 dA dB) : ∃ i j : Nat, lo.toInt = fx.toInt + (i : Int) ∧ hi.toInt = fx.toInt + (j : Int) ∧ i ≤ j ∧ j < 2048 ∧ (sA.toNatClampNeg = i ∧ sB.toNatClampNeg = j ∨ sA.toNatClampNeg = j ∧ sB.toNatClampNeg = i) := by
  obtain ⟨a0, cf, ce, a1, a2, a3, a4, a5⟩ := A
  rw [hl, hh]
  unfold f7 f8 Int32.toNatClampNeg
  simp only [Int32.lt_iff_toInt_lt]
  by_cases w : sA.toInt ≤ sB.toInt
  · refine ⟨sA.toInt.toNat, sB.toInt.toNat, ?_, ?_, by omega, by omega, Or.inl ⟨rfl, rfl⟩⟩
    · rw [if_neg (by omega)]; omega
    · split <;> omega
  · refine ⟨sB.toInt.toNat, sA.toInt.toNat, ?_, ?_, by omega, by omega, Or.inr ⟨rfl, rfl⟩⟩
    · rw [if_pos (by omega)]; omega
    · rw [if_neg (by omega)]; omega
theorem own_p1 {a : Int32} {n : Nat} (h : a.toInt = fx.toInt + (n : Int)) (h0 : 0 ≤ fx.toInt) (h1 : fx.toInt + (n : Int) < 2147483647) : (a + (1 : Int32)).toInt = fx.toInt + ((n + 1 : Nat) : Int) := by
  have c1 : (1 : Int32).toInt = 1 := by decide
  rw [Jvm.Kit.i32_add] <;> rw [c1] <;> omega
theorem own_bd (A : own_P fx f0 e0 en sA sB dA dB) {n : Nat} (h : n = sA.toNatClampNeg ∨ n = sB.toNatClampNeg) : fx.toInt + (n : Int) < 2147483647 := by
  obtain ⟨a0, cf, ce, a1, a2, a3, a4, a5⟩ := A
  have := en.toInt_lt
  unfold Int32.toNatClampNeg at h; omega
theorem own_hf (B : own_Q fx en sA sB x y f2 e2 s2 c2 m2) : 0 ≤ (fx - f2).toInt ∧ (fx - f2).toInt ≤ 2048 := by
  rw [B.1, own_sub (s := 0) (by omega) (by omega) (by omega)]; omega
theorem own_hl (A : own_P fx f0 e0 en sA sB dA dB) (B : own_Q fx en sA sB x y f2 e2 s2 c2 m2) (hl : lo = f7 dA dB) : 0 ≤ ((lo + (1 : Int32)) - f2).toInt ∧ ((lo + (1 : Int32)) - f2).toInt ≤ 2048 := by
  obtain ⟨i, j, l, r, ij, j2, ab⟩ := own_mm A hl rfl
  rw [B.1, own_sub (own_p1 l A.1 (own_bd A (by omega))) (by omega) (by omega)]; omega
theorem own_hh (A : own_P fx f0 e0 en sA sB dA dB) (B : own_Q fx en sA sB x y f2 e2 s2 c2 m2) (hh : hi = f8 dA dB) : 0 ≤ ((hi + (1 : Int32)) - f2).toInt ∧ ((hi + (1 : Int32)) - f2).toInt ≤ 2048 := by
  obtain ⟨i, j, l, r, ij, j2, ab⟩ := own_mm A rfl hh
  rw [B.1, own_sub (own_p1 r A.1 (own_bd A (by omega))) (by omega) (by omega)]; omega
theorem own_ab (A : own_P fx f0 e0 en sA sB dA dB) : sA.toNatClampNeg < 2048 ∧ sB.toNatClampNeg < 2048 := by
  obtain ⟨a0, cf, ce, a1, a2, a3, a4, a5⟩ := A
  unfold Int32.toNatClampNeg; omega
theorem own_of {a : Int32} {n : Nat} (h : a.toInt = fx.toInt + (n : Int)) (hn : n < 2048) : a = fx + Int32.ofNat n := by
  have h1 := a.toInt_lt
  have h2 := a.le_toInt
  have c : (Int32.ofNat n).toInt = (n : Int) := Int32.toInt_ofNat_of_lt (by omega)
  apply Int32.toInt_inj.mp
  rw [Jvm.Kit.i32_add] <;> rw [c] <;> omega
theorem own_t177 (A : own_P fx f0 e0 en sA sB dA dB) (B : own_Q fx en sA sB x y f2 e2 s2 c2 m2) (hl : lo = f7 dA dB) (hc : dA = dB) : (f11 (lo + (1 : Int32)) f2 e2 m2) = en := by
  obtain ⟨i, j, l, r, ij, j2, ab⟩ := own_mm A hl rfl
  have e := (own_AB A).mp hc
  have s := own_sub (own_p1 l A.1 (own_bd A (by omega))) (by omega) (by omega)
  obtain ⟨b1, b2, b3, b4, b5⟩ := B
  rw [← b1] at s
  rcases own_next (e := e2) b5 (own_ab A).1 (own_ab A).2 s (by omega) with ⟨q, -⟩ | ⟨t, t1, t2, t3, t4, t5⟩
  · rw [q, b2]
  · omega
theorem own_t249 (A : own_P fx f0 e0 en sA sB dA dB) (B : own_Q fx en sA sB x y f2 e2 s2 c2 m2) (hl : lo = f7 dA dB) (hh : hi = f8 dA dB) (hc : ¬ dA = dB) : (f11 (lo + (1 : Int32)) f2 e2 m2) = hi := by
  obtain ⟨i, j, l, r, ij, j2, ab⟩ := own_mm A hl hh
  have e : ¬ sA.toNatClampNeg = sB.toNatClampNeg := fun q => hc ((own_AB A).mpr q)
  have s := own_sub (own_p1 l A.1 (own_bd A (by omega))) (by omega) (by omega)
  obtain ⟨b1, b2, b3, b4, b5⟩ := B
  rw [← b1] at s
  rcases own_next (e := e2) b5 (own_ab A).1 (own_ab A).2 s (by omega) with ⟨q, q1, q2⟩ | ⟨t, t1, t2, t3, t4, t5⟩
  · omega
  · have : t = j := by omega
    rw [t5, this, b1]; exact (own_of r j2).symm
theorem own_t273 (A : own_P fx f0 e0 en sA sB dA dB) (B : own_Q fx en sA sB x y f2 e2 s2 c2 m2) (hl : lo = f7 dA dB) : (f11 fx f2 e2 m2) = lo := by
  obtain ⟨i, j, l, r, ij, j2, ab⟩ := own_mm A hl rfl
  have s : (fx - fx).toInt = ((0 : Nat) : Int) := own_sub (by omega) (by omega) (by omega)
  obtain ⟨b1, b2, b3, b4, b5⟩ := B
  rcases own_next (fr := fx) (f := f2) (e := e2) b5 (own_ab A).1 (own_ab A).2 (by rw [b1]; exact s) (by omega) with ⟨q, q1, q2⟩ | ⟨t, t1, t2, t3, t4, t5⟩
  · omega
  · have : t = i := by omega
    rw [t5, this, b1]; exact (own_of l (by omega)).symm
theorem own_t287 (A : own_P fx f0 e0 en sA sB dA dB) (B : own_Q fx en sA sB x y f2 e2 s2 c2 m2) (hh : hi = f8 dA dB) : (f11 (hi + (1 : Int32)) f2 e2 m2) = en := by
  obtain ⟨i, j, l, r, ij, j2, ab⟩ := own_mm A rfl hh
  have s := own_sub (own_p1 r A.1 (own_bd A (by omega))) (by omega) (by omega)
  obtain ⟨b1, b2, b3, b4, b5⟩ := B
  rw [← b1] at s
  rcases own_next (e := e2) b5 (own_ab A).1 (own_ab A).2 s (by omega) with ⟨q, -⟩ | ⟨t, t1, t2, t3, t4, t5⟩
  · rw [q, b2]
  · omega
theorem own_nxy (hx : x = FP.i2d px) (hy : y = FP.i2d py) : Jvm.Free.Fl.NoNaN64 (FP.dadd x y) := by
  subst hx hy; exact Jvm.Free.Fl.dadd_out (Jvm.Free.Fl.i2d_fin px).noNaN (Jvm.Free.Fl.i2d_fin py)
theorem own_nzr {r : Int32} (h : (0 : Int32) < r) : r ≠ 0 := fun q => by subst q; exact absurd h (by decide)
end
end
theorem pd_3 : parseMethodDescriptor "()V" = some ⟨[], none⟩ := by decide +kernel
theorem pd_4 : parseMethodDescriptor "(I)V" = some ⟨[.int], none⟩ := by decide +kernel
theorem pd_5 : parseMethodDescriptor "()I" = some ⟨[], some .int⟩ := by decide +kernel
theorem pd_6 : parseMethodDescriptor "(ID)V" = some ⟨[.int, .double], none⟩ := by decide +kernel
theorem pd_7 : parseMethodDescriptor "(II)I" = some ⟨[.int, .int], some .int⟩ := by decide +kernel
theorem pd_8 : parseMethodDescriptor "(I)D" = some ⟨[.int], some .double⟩ := by decide +kernel
theorem ef_0 (m : MethodId) (x0 : Int32) (x1 : Int32) (x2 : Int32) (x3 : Int32) (x4 : Int32) (x5 : Int32) : entryFrame m #[(.int x0), (.int x1), (.int x2), (.int x3), (.int x4), (.int x5)] maxLocals = mkF m 0 #[.val (.int x0), .val (.int x1), .val (.int x2), .val (.int x3), .val (.int x4), .val (.int x5), .unset, .unset, .unset, .unset, .unset, .unset, .unset, .unset, .unset, .unset, .unset, .unset, .unset, .unset, .unset] [] := by first | (simp [entryFrame, mkF, argsToLocals, Value.category, maxLocals]; done) | rfl
theorem pn_3 : plainName "com/example/libclause/libclause/search/ScoreWindowAddPinLaw" = true := by first | (simp [plainName, overriddenIn]; done) | decide +kernel
def Q0 (Z : State) (pf : Int32) (pa : Int32) (pb : Int32) (px : Int32) (py : Int32) (md : Int32) (h0 : Heap) (n0 : Nat) (v : Option Value) (h : Heap) (L : List Loc) : Prop := v = some (.int 1) ∧ Fr n0 L
set_option maxRecDepth 65536 in
set_option maxHeartbeats 40000000 in
theorem rm0 (l : Launch) (Z : State) (a0 : Array Value) (hw : ∀ d ∈ tables_1, d.before a0 Z = true) (ws : List Jvm.Cond) (pf : Int32) (pa : Int32) (pb : Int32) (px : Int32) (py : Int32) (md : Int32) (h0 : Heap) (n0 : Nat) (Z0 : n0 ≤ h0.size)  :
    MetFree l x (head1 (Jvm.Cond.code x code maxLocals ret :: ws) room_1) (fun a U => a = #[(.int pf), (.int pa), (.int pb), (.int px), (.int py), (.int md)] ∧ Z.Warmed39 U.vm ∧ U.heap = h0) (fun _ _ _ _ _ => True) (fun _ U o U' => ∃ v L, o = .returned v ∧ Q0 Z pf pa pb px py md h0 n0 v U'.heap L ∧ FrameEnd U o U' L room_1.cells room_1.slots) := by
  refine MetFree.of_bodySF (plainFor_of_name pn_3) hisR ?_
  intro p e s m args below meth c s₁ Bd hml0 hP hK
  obtain ⟨rfl, hZ, hh⟩ := hP
  have hx := Bd.exec
  have hby := Bd.bytes
  have hml : c.maxLocals = 21 := hml0
  have hown : s.vm.findClass "com/example/libclause/libclause/search/ScoreWindowAddPinLaw" = some m.cls := findClass_of_methodNamed Bd.named
  have hnm := (name_of_methodNamed Bd.named Bd.method).1
  have X0 : Stand p l e room_1 s m #[(.int pf), (.int pa), (.int pb), (.int px), (.int py), (.int md)] below meth c s₁ [] 0 0 := Stand.of_body Bd
  have e0 : s₁.heap = h0 := by rw [← hh, Bd.state]; rfl
  have N0 := Fr.nil n0
  have pre0 : ∀ t, Steps p.tables e below (s₁.setTop (mkF m 0 #[.val (.int pf), .val (.int pa), .val (.int pb), .val (.int px), .val (.int py), .val (.int md), .unset, .unset, .unset, .unset, .unset, .unset, .unset, .unset, .unset, .unset, .unset, .unset, .unset, .unset, .unset] [])) t → Steps p.tables e below (s₁.setTop (entryFrame m #[(.int pf), (.int pa), (.int pb), (.int px), (.int py), (.int md)] maxLocals)) t := fun t k => castTop (ef_0 m pf pa pb px py md) k
  have S375 : ∀ t, Steps p.tables e below (s₁.setTop (mkF m 6 #[.val (.int pf), .val (.int pa), .val (.int pb), .val (.int px), .val (.int py), .val (.int md), .val (.int (pf &&& (2147483647 : Int32))), .unset, .unset, .unset, .unset, .unset, .unset, .unset, .unset, .unset, .unset, .unset, .unset, .unset, .unset] [])) t → Steps p.tables e below (s₁.setTop (entryFrame m #[(.int pf), (.int pa), (.int pb), (.int px), (.int py), (.int md)] maxLocals)) t := by
    intro t k
    refine pre0 t ?_
    refine XS.iloadN X0.here hx rfl (hb hby at_0) rfl ?_
    show Steps p.tables e below (s₁.setTop (mkF m 1 #[.val (.int pf), .val (.int pa), .val (.int pb), .val (.int px), .val (.int py), .val (.int md), .unset, .unset, .unset, .unset, .unset, .unset, .unset, .unset, .unset, .unset, .unset, .unset, .unset, .unset, .unset] [(.int pf)])) _
    refine X0.ldcInt hx hown (mvT hZ (hw _ (List.mem_of_getElem? (i := 0) rfl))) (g := (mkF m 1 #[.val (.int pf), .val (.int pa), .val (.int pb), .val (.int px), .val (.int py), .val (.int md), .unset, .unset, .unset, .unset, .unset, .unset, .unset, .unset, .unset, .unset, .unset, .unset, .unset, .unset, .unset] [(.int pf)])) rfl (hb hby at_1) _ ?_
    show Steps p.tables e below (s₁.setTop (mkF m 3 #[.val (.int pf), .val (.int pa), .val (.int pb), .val (.int px), .val (.int py), .val (.int md), .unset, .unset, .unset, .unset, .unset, .unset, .unset, .unset, .unset, .unset, .unset, .unset, .unset, .unset, .unset] [(.int (2147483647 : Int32)), (.int pf)])) _
    refine XS.iand X0.here hx rfl (hb hby at_3) rfl ?_
    show Steps p.tables e below (s₁.setTop (mkF m 4 #[.val (.int pf), .val (.int pa), .val (.int pb), .val (.int px), .val (.int py), .val (.int md), .unset, .unset, .unset, .unset, .unset, .unset, .unset, .unset, .unset, .unset, .unset, .unset, .unset, .unset, .unset] [(.int (pf &&& (2147483647 : Int32)))])) _
    refine XS.istore X0.here hx rfl (hb hby at_4) rfl (l' := #[.val (.int pf), .val (.int pa), .val (.int pb), .val (.int px), .val (.int py), .val (.int md), .val (.int (pf &&& (2147483647 : Int32))), .unset, .unset, .unset, .unset, .unset, .unset, .unset, .unset, .unset, .unset, .unset, .unset, .unset, .unset]) rfl ?_
    show Steps p.tables e below (s₁.setTop (mkF m 6 #[.val (.int pf), .val (.int pa), .val (.int pb), .val (.int px), .val (.int py), .val (.int md), .val (.int (pf &&& (2147483647 : Int32))), .unset, .unset, .unset, .unset, .unset, .unset, .unset, .unset, .unset, .unset, .unset, .unset, .unset, .unset] [])) _
    exact k
  obtain ⟨w376, hw376⟩ : ∃ z : Int32, z = (pf &&& (2147483647 : Int32)) := ⟨_, rfl⟩
  rw [← hw376] at S375
  obtain ⟨T377, h377, X377, e377, E377, A377, D377, -, st377⟩ := newO X0 hx hZ hown (hw _ (List.mem_of_getElem? (i := 1) rfl)) (hw _ (List.mem_of_getElem? (i := 2) rfl)) (hw _ (List.mem_of_getElem? (i := 3) rfl)) e0 (g := (mkF m 6 #[.val (.int pf), .val (.int pa), .val (.int pb), .val (.int px), .val (.int py), .val (.int md), .val (.int w376), .unset, .unset, .unset, .unset, .unset, .unset, .unset, .unset, .unset, .unset, .unset, .unset, .unset, .unset] [])) rfl (hb hby at_6) (by decide) (by decide)
  obtain ⟨b377, g377⟩ : ∃ z, z = h0.size := ⟨_, rfl⟩
  rw [← g377] at A377 D377 st377
  have gg377 : n0 ≤ b377 := Nat.le_trans Z0 (Nat.le_of_eq g377.symm)
  have sz377 : h0.size ≤ b377 := Nat.le_trans (Keep.refl h0 []).1 (Nat.le_of_eq g377.symm)
  have K378 : Keep h0 h377 [] := (Keep.refl h0 []).ext E377
  have Z379 : n0 ≤ h377.size := Nat.le_trans Z0 E377.1
  have f380 : Fld Z h377 b377 "com/example/libclause/libclause/search/ScoreWindow" "scores" "[D" .null := D377 (Or.inr (hw _ (List.mem_of_getElem? (i := 12) rfl))) (ty := (.array .double)) (by decide)
  have f381 : Fld Z h377 b377 "com/example/libclause/libclause/search/ScoreWindow" "counts" "[I" .null := D377 (Or.inr (hw _ (List.mem_of_getElem? (i := 15) rfl))) (ty := (.array .int)) (by decide)
  have f382 : Fld Z h377 b377 "com/example/libclause/libclause/search/ScoreWindow" "marked" "[J" .null := D377 (Or.inr (hw _ (List.mem_of_getElem? (i := 18) rfl))) (ty := (.array .long)) (by decide)
  have f383 : Fld Z h377 b377 "com/example/libclause/libclause/search/ScoreWindow" "first" "I" (.int (0 : Int32)) := D377 (Or.inl (hw _ (List.mem_of_getElem? (i := 25) rfl))) (ty := .int) (by decide)
  have f384 : Fld Z h377 b377 "com/example/libclause/libclause/search/ScoreWindow" "end" "I" (.int (0 : Int32)) := D377 (Or.inl (hw _ (List.mem_of_getElem? (i := 33) rfl))) (ty := .int) (by decide)
  obtain ⟨_, _, ⟨T385, L385, k385, n385⟩, -, X385, ⟨Lc385, hQ385, l385, y385, z385⟩, st385⟩ := X377.specialBack hx (y := (⟨"com/example/libclause/libclause/search/ScoreWindow", "<init>", "()V"⟩ : MethodName)) rfl hown (mvT hZ (hw _ (List.mem_of_getElem? (i := 4) rfl))) (mvT hZ (hw _ (List.mem_of_getElem? (i := 5) rfl))) (mvT hZ (hw _ (List.mem_of_getElem? (i := 6) rfl))) (by decide) (backOf (W := 1) (rm1 l Z a0 hw [] b377 h377 n0 Z379 A377 f380 f381 f382 f383 f384 gg377) hZ (hw _ (List.mem_of_getElem? (i := 6) rfl)) (hw _ (List.mem_of_getElem? (i := 3) rfl)) (by decide) (by decide)) (g := (mkF m 10 #[.val (.int pf), .val (.int pa), .val (.int pb), .val (.int px), .val (.int py), .val (.int md), .val (.int w376), .unset, .unset, .unset, .unset, .unset, .unset, .unset, .unset, .unset, .unset, .unset, .unset, .unset, .unset] [(.ref b377), (.ref b377)])) rfl (by rw [hml]; rfl) (Steps.refl _) (a := b377) (argsL := []) (rest := [(.ref b377)]) (lenOf pd_3 rfl) rfl (by show 2 * 0 + _ ≤ _; exact Nat.le_of_eq rfl) (hb hby at_10) (fun _ _ => ⟨rfl, e377, (by decide : 1 + 3 ≤ _), (by decide : 5 + 4128 ≤ _)⟩)
  dsimp only [Pt.U, Pt.locs, Pt.cells, Pt.slots] at X385 l385 y385 z385 st385 hQ385
  subst l385 y385 z385
  obtain ⟨rfl, N385q, K385, Eq385, b386, b387, b388, kkb386, kkb387, kkb388, ggb386, ggb387, ggb388, ssb386, ssb387, ssb388, nn385_1_0, nn385_2_0, nn385_2_1, fq385_0, fq385_1, fq385_2, fq385_3, fq385_4, fab386, fab387, fab388⟩ := hQ385
  have N385 := Fr.app N0 N385q
  have ne389 : b377 ≠ b386 := Nat.ne_of_lt (Nat.lt_of_lt_of_le A377.lt ssb386)
  have sz390 : h0.size ≤ b386 := Nat.le_trans K378.1 ssb386
  have ne391 : b377 ≠ b387 := Nat.ne_of_lt (Nat.lt_of_lt_of_le A377.lt ssb387)
  have sz392 : h0.size ≤ b387 := Nat.le_trans K378.1 ssb387
  have ne393 : b377 ≠ b388 := Nat.ne_of_lt (Nat.lt_of_lt_of_le A377.lt ssb388)
  have sz394 : h0.size ≤ b388 := Nat.le_trans K378.1 ssb388
  have K395 : Keep h0 T385.heap [] := K378.trans K385 (allS (Or.inr sz377) all0)
  have Z396 : n0 ≤ T385.heap.size := Nat.le_trans Z379 K385.1
  obtain ⟨cq397, kq397, q397a, q397b, q397c⟩ := isOf hZ rfl Eq385
  obtain ⟨_, _, ⟨T397, L397, k397, n397⟩, -, X397, ⟨Lc397, hQ397, l397, y397, z397⟩, st397⟩ := X385.virtualBack hx (y := (⟨"com/example/libclause/libclause/search/ScoreWindow", "start", "(I)V"⟩ : MethodName)) (z := (⟨"com/example/libclause/libclause/search/ScoreWindow", "start", "(I)V"⟩ : MethodName)) hown (mvT hZ (hw _ (List.mem_of_getElem? (i := 19) rfl))) (mvT hZ (hw _ (List.mem_of_getElem? (i := 20) rfl))) (notFace_of_selects (args := #[]) (mvT hZ (hw _ (List.mem_of_getElem? (i := 22) rfl)))) (mvT hZ (hw _ (List.mem_of_getElem? (i := 22) rfl))) (mvT hZ (hw _ (List.mem_of_getElem? (i := 21) rfl))) (by decide) (backOf (W := 0) (rm3 l Z a0 hw [] b377 w376 b386 b387 b388 (0 : Int32) (0 : Int32) kkb386 (fun _ => (0 : UInt64)) kkb387 (fun _ => (0 : Int32)) kkb388 (fun _ => (0 : Int64)) T385.heap n0 Z396 Eq385 fq385_0 fq385_1 fq385_2 fq385_3 fq385_4 gg377 fab386 ggb386 ne389 fab387 ggb387 ne391 fab388 ggb388 ne393 nn385_1_0 nn385_2_0 nn385_2_1 (fun _ => rfl)) hZ (hw _ (List.mem_of_getElem? (i := 23) rfl)) (hw _ (List.mem_of_getElem? (i := 3) rfl)) (by decide) (by decide)) q397a q397c (g := (mkF m 19 #[.val (.int pf), .val (.int pa), .val (.int pb), .val (.int px), .val (.int py), .val (.int md), .val (.int w376), .val (.ref b377), .unset, .unset, .unset, .unset, .unset, .unset, .unset, .unset, .unset, .unset, .unset, .unset, .unset] [(.int w376), (.ref b377)])) rfl (by rw [hml]; rfl) (Steps.refl _) (argsL := [(.int w376)]) (rest := []) (lenOf pd_4 rfl) rfl (by show 2 * 0 + _ ≤ _; exact Nat.le_of_eq rfl) (hb hby at_19) (fun _ _ => ⟨rfl, rfl, (by decide : 4 + 0 ≤ _), (by decide : 4133 + 0 ≤ _)⟩)
  dsimp only [Pt.U, Pt.locs, Pt.cells, Pt.slots] at X397 l397 y397 z397 st397 hQ397
  subst l397 y397 z397
  obtain ⟨rfl, N397q, K397, Eq397, fq397_0, fq397_1, fq397_2, fq397_3, fq397_4, fz397_0, fz397_1, fz397_2⟩ := hQ397
  have N397 := Fr.app N385 N397q
  have K398 : Keep h0 T397.heap [] := K395.trans K397 (allS (Or.inr sz377) (allS (Or.inr sz390) (allS (Or.inr sz392) (allS (Or.inr sz394) all0))))
  have Z399 : n0 ≤ T397.heap.size := Nat.le_trans Z396 K397.1
  obtain ⟨w400, hw400⟩ : ∃ z : Int32, z = (f3_first w376 (0 : Int32) (0 : Int32) (fun _ => (0 : UInt64)) (fun _ => (0 : Int32)) (fun _ => (0 : Int64))) := ⟨_, rfl⟩
  rw [← hw400] at fq397_3
  obtain ⟨w401, hw401⟩ : ∃ z : Int32, z = (f3_end w376 (0 : Int32) (0 : Int32) (fun _ => (0 : UInt64)) (fun _ => (0 : Int32)) (fun _ => (0 : Int64))) := ⟨_, rfl⟩
  rw [← hw401] at fq397_4
  obtain ⟨w402, hw402⟩ : ∃ z : (Nat → UInt64), z = (f3_scores w376 (0 : Int32) (0 : Int32) (fun _ => (0 : UInt64)) (fun _ => (0 : Int32)) (fun _ => (0 : Int64))) := ⟨_, rfl⟩
  rw [← hw402] at fz397_0
  obtain ⟨w403, hw403⟩ : ∃ z : (Nat → Int32), z = (f3_counts w376 (0 : Int32) (0 : Int32) (fun _ => (0 : UInt64)) (fun _ => (0 : Int32)) (fun _ => (0 : Int64))) := ⟨_, rfl⟩
  rw [← hw403] at fz397_1
  obtain ⟨w404, hw404⟩ : ∃ z : (Nat → Int64), z = (f3_marked w376 (0 : Int32) (0 : Int32) (fun _ => (0 : UInt64)) (fun _ => (0 : Int32)) (fun _ => (0 : Int64))) := ⟨_, rfl⟩
  rw [← hw404] at fz397_2
  obtain ⟨cq405, kq405, q405a, q405b, q405c⟩ := isOf hZ rfl Eq397
  obtain ⟨_, _, ⟨T405, L405, k405, n405⟩, -, X405, ⟨Lc405, hQ405, l405, y405, z405⟩, st405⟩ := X397.virtualBack hx (y := (⟨"com/example/libclause/libclause/search/ScoreWindow", "end", "()I"⟩ : MethodName)) (z := (⟨"com/example/libclause/libclause/search/ScoreWindow", "end", "()I"⟩ : MethodName)) hown (mvT hZ (hw _ (List.mem_of_getElem? (i := 34) rfl))) (mvT hZ (hw _ (List.mem_of_getElem? (i := 35) rfl))) (notFace_of_selects (args := #[]) (mvT hZ (hw _ (List.mem_of_getElem? (i := 37) rfl)))) (mvT hZ (hw _ (List.mem_of_getElem? (i := 37) rfl))) (mvT hZ (hw _ (List.mem_of_getElem? (i := 36) rfl))) (by decide) (backOf (W := 0) (rm5 l Z a0 hw [] b377 w401 T397.heap n0 Z399 fq397_4) hZ (hw _ (List.mem_of_getElem? (i := 38) rfl)) (hw _ (List.mem_of_getElem? (i := 3) rfl)) (by decide) (by decide)) q405a q405c (g := (mkF m 24 #[.val (.int pf), .val (.int pa), .val (.int pb), .val (.int px), .val (.int py), .val (.int md), .val (.int w376), .val (.ref b377), .unset, .unset, .unset, .unset, .unset, .unset, .unset, .unset, .unset, .unset, .unset, .unset, .unset] [(.ref b377)])) rfl (by rw [hml]; rfl) (Steps.refl _) (argsL := []) (rest := []) (lenOf pd_5 rfl) rfl (by show 2 * 0 + _ ≤ _; exact Nat.le_of_eq rfl) (hb hby at_24) (fun _ _ => ⟨rfl, rfl, (by decide : 4 + 0 ≤ _), (by decide : 4133 + 0 ≤ _)⟩)
  dsimp only [Pt.U, Pt.locs, Pt.cells, Pt.slots] at X405 l405 y405 z405 st405 hQ405
  subst l405 y405 z405
  obtain ⟨rfl, N405q, e405⟩ := hQ405
  have N405 := Fr.app N397 N405q
  have S406 : ∀ t, Steps p.tables e below (T405.setTop (mkF m 36 #[.val (.int pf), .val (.int pa), .val (.int pb), .val (.int px), .val (.int py), .val (.int md), .val (.int w376), .val (.ref b377), .val (.int (f5 w401)), .val (.int ((f5 w401) - w376)), .unset, .unset, .unset, .unset, .unset, .unset, .unset, .unset, .unset, .unset, .unset] [])) t → Steps p.tables e below (s₁.setTop (entryFrame m #[(.int pf), (.int pa), (.int pb), (.int px), (.int py), (.int md)] maxLocals)) t := by
    intro t k
    refine S375 t ?_
    refine st377 _ ?_
    show Steps p.tables e below (T377.setTop (mkF m 9 #[.val (.int pf), .val (.int pa), .val (.int pb), .val (.int px), .val (.int py), .val (.int md), .val (.int w376), .unset, .unset, .unset, .unset, .unset, .unset, .unset, .unset, .unset, .unset, .unset, .unset, .unset, .unset] [(.ref b377)])) _
    refine XS.dup X377.here hx rfl (hb hby at_9) rfl rfl ?_
    show Steps p.tables e below (T377.setTop (mkF m 10 #[.val (.int pf), .val (.int pa), .val (.int pb), .val (.int px), .val (.int py), .val (.int md), .val (.int w376), .unset, .unset, .unset, .unset, .unset, .unset, .unset, .unset, .unset, .unset, .unset, .unset, .unset, .unset] [(.ref b377), (.ref b377)])) _
    refine st385.trans ?_
    show Steps p.tables e below (T385.setTop (mkF m 13 #[.val (.int pf), .val (.int pa), .val (.int pb), .val (.int px), .val (.int py), .val (.int md), .val (.int w376), .unset, .unset, .unset, .unset, .unset, .unset, .unset, .unset, .unset, .unset, .unset, .unset, .unset, .unset] [(.ref b377)])) _
    refine XS.astore X385.here hx rfl (hb hby at_13) rfl rfl (l' := #[.val (.int pf), .val (.int pa), .val (.int pb), .val (.int px), .val (.int py), .val (.int md), .val (.int w376), .val (.ref b377), .unset, .unset, .unset, .unset, .unset, .unset, .unset, .unset, .unset, .unset, .unset, .unset, .unset]) rfl ?_
    show Steps p.tables e below (T385.setTop (mkF m 15 #[.val (.int pf), .val (.int pa), .val (.int pb), .val (.int px), .val (.int py), .val (.int md), .val (.int w376), .val (.ref b377), .unset, .unset, .unset, .unset, .unset, .unset, .unset, .unset, .unset, .unset, .unset, .unset, .unset] [])) _
    refine XS.aload X385.here hx rfl (hb hby at_15) rfl rfl ?_
    show Steps p.tables e below (T385.setTop (mkF m 17 #[.val (.int pf), .val (.int pa), .val (.int pb), .val (.int px), .val (.int py), .val (.int md), .val (.int w376), .val (.ref b377), .unset, .unset, .unset, .unset, .unset, .unset, .unset, .unset, .unset, .unset, .unset, .unset, .unset] [(.ref b377)])) _
    refine XS.iload X385.here hx rfl (hb hby at_17) rfl ?_
    show Steps p.tables e below (T385.setTop (mkF m 19 #[.val (.int pf), .val (.int pa), .val (.int pb), .val (.int px), .val (.int py), .val (.int md), .val (.int w376), .val (.ref b377), .unset, .unset, .unset, .unset, .unset, .unset, .unset, .unset, .unset, .unset, .unset, .unset, .unset] [(.int w376), (.ref b377)])) _
    refine st397.trans ?_
    show Steps p.tables e below (T397.setTop (mkF m 22 #[.val (.int pf), .val (.int pa), .val (.int pb), .val (.int px), .val (.int py), .val (.int md), .val (.int w376), .val (.ref b377), .unset, .unset, .unset, .unset, .unset, .unset, .unset, .unset, .unset, .unset, .unset, .unset, .unset] [])) _
    refine XS.aload X397.here hx rfl (hb hby at_22) rfl rfl ?_
    show Steps p.tables e below (T397.setTop (mkF m 24 #[.val (.int pf), .val (.int pa), .val (.int pb), .val (.int px), .val (.int py), .val (.int md), .val (.int w376), .val (.ref b377), .unset, .unset, .unset, .unset, .unset, .unset, .unset, .unset, .unset, .unset, .unset, .unset, .unset] [(.ref b377)])) _
    refine st405.trans ?_
    show Steps p.tables e below (T405.setTop (mkF m 27 #[.val (.int pf), .val (.int pa), .val (.int pb), .val (.int px), .val (.int py), .val (.int md), .val (.int w376), .val (.ref b377), .unset, .unset, .unset, .unset, .unset, .unset, .unset, .unset, .unset, .unset, .unset, .unset, .unset] [(.int (f5 w401))])) _
    refine XS.istore X405.here hx rfl (hb hby at_27) rfl (l' := #[.val (.int pf), .val (.int pa), .val (.int pb), .val (.int px), .val (.int py), .val (.int md), .val (.int w376), .val (.ref b377), .val (.int (f5 w401)), .unset, .unset, .unset, .unset, .unset, .unset, .unset, .unset, .unset, .unset, .unset, .unset]) rfl ?_
    show Steps p.tables e below (T405.setTop (mkF m 29 #[.val (.int pf), .val (.int pa), .val (.int pb), .val (.int px), .val (.int py), .val (.int md), .val (.int w376), .val (.ref b377), .val (.int (f5 w401)), .unset, .unset, .unset, .unset, .unset, .unset, .unset, .unset, .unset, .unset, .unset, .unset] [])) _
    refine XS.iload X405.here hx rfl (hb hby at_29) rfl ?_
    show Steps p.tables e below (T405.setTop (mkF m 31 #[.val (.int pf), .val (.int pa), .val (.int pb), .val (.int px), .val (.int py), .val (.int md), .val (.int w376), .val (.ref b377), .val (.int (f5 w401)), .unset, .unset, .unset, .unset, .unset, .unset, .unset, .unset, .unset, .unset, .unset, .unset] [(.int (f5 w401))])) _
    refine XS.iload X405.here hx rfl (hb hby at_31) rfl ?_
    show Steps p.tables e below (T405.setTop (mkF m 33 #[.val (.int pf), .val (.int pa), .val (.int pb), .val (.int px), .val (.int py), .val (.int md), .val (.int w376), .val (.ref b377), .val (.int (f5 w401)), .unset, .unset, .unset, .unset, .unset, .unset, .unset, .unset, .unset, .unset, .unset, .unset] [(.int w376), (.int (f5 w401))])) _
    refine XS.isub X405.here hx rfl (hb hby at_33) rfl ?_
    show Steps p.tables e below (T405.setTop (mkF m 34 #[.val (.int pf), .val (.int pa), .val (.int pb), .val (.int px), .val (.int py), .val (.int md), .val (.int w376), .val (.ref b377), .val (.int (f5 w401)), .unset, .unset, .unset, .unset, .unset, .unset, .unset, .unset, .unset, .unset, .unset, .unset] [(.int ((f5 w401) - w376))])) _
    refine XS.istore X405.here hx rfl (hb hby at_34) rfl (l' := #[.val (.int pf), .val (.int pa), .val (.int pb), .val (.int px), .val (.int py), .val (.int md), .val (.int w376), .val (.ref b377), .val (.int (f5 w401)), .val (.int ((f5 w401) - w376)), .unset, .unset, .unset, .unset, .unset, .unset, .unset, .unset, .unset, .unset, .unset]) rfl ?_
    show Steps p.tables e below (T405.setTop (mkF m 36 #[.val (.int pf), .val (.int pa), .val (.int pb), .val (.int px), .val (.int py), .val (.int md), .val (.int w376), .val (.ref b377), .val (.int (f5 w401)), .val (.int ((f5 w401) - w376)), .unset, .unset, .unset, .unset, .unset, .unset, .unset, .unset, .unset, .unset, .unset] [])) _
    exact k
  obtain ⟨w407, hw407⟩ : ∃ z : Int32, z = (f5 w401) := ⟨_, rfl⟩
  rw [← hw407] at S406
  obtain ⟨w408, hw408⟩ : ∃ z : Int32, z = (w407 - w376) := ⟨_, rfl⟩
  rw [← hw408] at S406
  have S409 : ∀ t, Steps p.tables e below (T405.setTop (mkF m 38 #[.val (.int pf), .val (.int pa), .val (.int pb), .val (.int px), .val (.int py), .val (.int md), .val (.int w376), .val (.ref b377), .val (.int w407), .val (.int w408), .unset, .unset, .unset, .unset, .unset, .unset, .unset, .unset, .unset, .unset, .unset] [(.int w408)])) t → Steps p.tables e below (s₁.setTop (entryFrame m #[(.int pf), (.int pa), (.int pb), (.int px), (.int py), (.int md)] maxLocals)) t := by
    intro t k
    refine S406 t ?_
    refine XS.iload X405.here hx rfl (hb hby at_36) rfl ?_
    show Steps p.tables e below (T405.setTop (mkF m 38 #[.val (.int pf), .val (.int pa), .val (.int pb), .val (.int px), .val (.int py), .val (.int md), .val (.int w376), .val (.ref b377), .val (.int w407), .val (.int w408), .unset, .unset, .unset, .unset, .unset, .unset, .unset, .unset, .unset, .unset, .unset] [(.int w408)])) _
    exact k
  by_cases hc410 : (0 : Int32) < w408
  · have S411 : ∀ t, Steps p.tables e below (T405.setTop (mkF m 52 #[.val (.int pf), .val (.int pa), .val (.int pb), .val (.int px), .val (.int py), .val (.int md), .val (.int w376), .val (.ref b377), .val (.int w407), .val (.int w408), .val (.int ((pa &&& (2147483647 : Int32)) % w408)), .unset, .unset, .unset, .unset, .unset, .unset, .unset, .unset, .unset, .unset] [])) t → Steps p.tables e below (s₁.setTop (entryFrame m #[(.int pf), (.int pa), (.int pb), (.int px), (.int py), (.int md)] maxLocals)) t := by
      intro t k
      refine S409 t ?_
      refine XS.ifYes X405.here hx rfl (pc0 := 38) (pc' := 43) rfl (hb hby at_38) rfl ((if0 _ _).trans (tlt hc410).2.2.1) (by decide) (by decide) ?_
      show Steps p.tables e below (T405.setTop (mkF m 43 #[.val (.int pf), .val (.int pa), .val (.int pb), .val (.int px), .val (.int py), .val (.int md), .val (.int w376), .val (.ref b377), .val (.int w407), .val (.int w408), .unset, .unset, .unset, .unset, .unset, .unset, .unset, .unset, .unset, .unset, .unset] [])) _
      refine XS.iloadN X405.here hx rfl (hb hby at_43) rfl ?_
      show Steps p.tables e below (T405.setTop (mkF m 44 #[.val (.int pf), .val (.int pa), .val (.int pb), .val (.int px), .val (.int py), .val (.int md), .val (.int w376), .val (.ref b377), .val (.int w407), .val (.int w408), .unset, .unset, .unset, .unset, .unset, .unset, .unset, .unset, .unset, .unset, .unset] [(.int pa)])) _
      refine X405.ldcInt hx hown (mvT hZ (hw _ (List.mem_of_getElem? (i := 0) rfl))) (g := (mkF m 44 #[.val (.int pf), .val (.int pa), .val (.int pb), .val (.int px), .val (.int py), .val (.int md), .val (.int w376), .val (.ref b377), .val (.int w407), .val (.int w408), .unset, .unset, .unset, .unset, .unset, .unset, .unset, .unset, .unset, .unset, .unset] [(.int pa)])) rfl (hb hby at_44) _ ?_
      show Steps p.tables e below (T405.setTop (mkF m 46 #[.val (.int pf), .val (.int pa), .val (.int pb), .val (.int px), .val (.int py), .val (.int md), .val (.int w376), .val (.ref b377), .val (.int w407), .val (.int w408), .unset, .unset, .unset, .unset, .unset, .unset, .unset, .unset, .unset, .unset, .unset] [(.int (2147483647 : Int32)), (.int pa)])) _
      refine XS.iand X405.here hx rfl (hb hby at_46) rfl ?_
      show Steps p.tables e below (T405.setTop (mkF m 47 #[.val (.int pf), .val (.int pa), .val (.int pb), .val (.int px), .val (.int py), .val (.int md), .val (.int w376), .val (.ref b377), .val (.int w407), .val (.int w408), .unset, .unset, .unset, .unset, .unset, .unset, .unset, .unset, .unset, .unset, .unset] [(.int (pa &&& (2147483647 : Int32)))])) _
      refine XS.iload X405.here hx rfl (hb hby at_47) rfl ?_
      show Steps p.tables e below (T405.setTop (mkF m 49 #[.val (.int pf), .val (.int pa), .val (.int pb), .val (.int px), .val (.int py), .val (.int md), .val (.int w376), .val (.ref b377), .val (.int w407), .val (.int w408), .unset, .unset, .unset, .unset, .unset, .unset, .unset, .unset, .unset, .unset, .unset] [(.int w408), (.int (pa &&& (2147483647 : Int32)))])) _
      refine Jvm.RoadKit.iremM X405 hx rfl (hb hby at_49) rfl (own_nzr hc410) ?_
      show Steps p.tables e below (T405.setTop (mkF m 50 #[.val (.int pf), .val (.int pa), .val (.int pb), .val (.int px), .val (.int py), .val (.int md), .val (.int w376), .val (.ref b377), .val (.int w407), .val (.int w408), .unset, .unset, .unset, .unset, .unset, .unset, .unset, .unset, .unset, .unset, .unset] [(.int ((pa &&& (2147483647 : Int32)) % w408))])) _
      refine XS.istore X405.here hx rfl (hb hby at_50) rfl (l' := #[.val (.int pf), .val (.int pa), .val (.int pb), .val (.int px), .val (.int py), .val (.int md), .val (.int w376), .val (.ref b377), .val (.int w407), .val (.int w408), .val (.int ((pa &&& (2147483647 : Int32)) % w408)), .unset, .unset, .unset, .unset, .unset, .unset, .unset, .unset, .unset, .unset]) rfl ?_
      show Steps p.tables e below (T405.setTop (mkF m 52 #[.val (.int pf), .val (.int pa), .val (.int pb), .val (.int px), .val (.int py), .val (.int md), .val (.int w376), .val (.ref b377), .val (.int w407), .val (.int w408), .val (.int ((pa &&& (2147483647 : Int32)) % w408)), .unset, .unset, .unset, .unset, .unset, .unset, .unset, .unset, .unset, .unset] [])) _
      exact k
    obtain ⟨w412, hw412⟩ : ∃ z : Int32, z = ((pa &&& (2147483647 : Int32)) % w408) := ⟨_, rfl⟩
    rw [← hw412] at S411
    have S413 : ∀ t, Steps p.tables e below (T405.setTop (mkF m 56 #[.val (.int pf), .val (.int pa), .val (.int pb), .val (.int px), .val (.int py), .val (.int md), .val (.int w376), .val (.ref b377), .val (.int w407), .val (.int w408), .val (.int w412), .unset, .unset, .unset, .unset, .unset, .unset, .unset, .unset, .unset, .unset] [(.int (md &&& (1 : Int32)))])) t → Steps p.tables e below (s₁.setTop (entryFrame m #[(.int pf), (.int pa), (.int pb), (.int px), (.int py), (.int md)] maxLocals)) t := by
      intro t k
      refine S411 t ?_
      refine XS.iload X405.here hx rfl (hb hby at_52) rfl ?_
      show Steps p.tables e below (T405.setTop (mkF m 54 #[.val (.int pf), .val (.int pa), .val (.int pb), .val (.int px), .val (.int py), .val (.int md), .val (.int w376), .val (.ref b377), .val (.int w407), .val (.int w408), .val (.int w412), .unset, .unset, .unset, .unset, .unset, .unset, .unset, .unset, .unset, .unset] [(.int md)])) _
      refine XS.iconst X405.here hx rfl (hb hby at_54) ?_
      show Steps p.tables e below (T405.setTop (mkF m 55 #[.val (.int pf), .val (.int pa), .val (.int pb), .val (.int px), .val (.int py), .val (.int md), .val (.int w376), .val (.ref b377), .val (.int w407), .val (.int w408), .val (.int w412), .unset, .unset, .unset, .unset, .unset, .unset, .unset, .unset, .unset, .unset] [(.int (1 : Int32)), (.int md)])) _
      refine XS.iand X405.here hx rfl (hb hby at_55) rfl ?_
      show Steps p.tables e below (T405.setTop (mkF m 56 #[.val (.int pf), .val (.int pa), .val (.int pb), .val (.int px), .val (.int py), .val (.int md), .val (.int w376), .val (.ref b377), .val (.int w407), .val (.int w408), .val (.int w412), .unset, .unset, .unset, .unset, .unset, .unset, .unset, .unset, .unset, .unset] [(.int (md &&& (1 : Int32)))])) _
      exact k
    obtain ⟨w414, hw414⟩ : ∃ z : Int32, z = (md &&& (1 : Int32)) := ⟨_, rfl⟩
    rw [← hw414] at S413
    have S416 : ∀ t, Steps p.tables e below (T405.setTop (mkF m 71 #[.val (.int pf), .val (.int pa), .val (.int pb), .val (.int px), .val (.int py), .val (.int md), .val (.int w376), .val (.ref b377), .val (.int w407), .val (.int w408), .val (.int w412), .unset, .unset, .unset, .unset, .unset, .unset, .unset, .unset, .unset, .unset] [(.int (if w414 = (0 : Int32) then ((pb &&& (2147483647 : Int32)) % w408) else w412))])) t → Steps p.tables e below (s₁.setTop (entryFrame m #[(.int pf), (.int pa), (.int pb), (.int px), (.int py), (.int md)] maxLocals)) t := by
      intro t k
      refine S413 t ?_
      by_cases hc415 : w414 = (0 : Int32)
      · rw [if_pos hc415] at k
        refine XS.ifYes X405.here hx rfl (pc0 := 56) (pc' := 64) rfl (hb hby at_56) rfl ((if0 _ _).trans (teq hc415).1) (by decide) (by decide) ?_
        show Steps p.tables e below (T405.setTop (mkF m 64 #[.val (.int pf), .val (.int pa), .val (.int pb), .val (.int px), .val (.int py), .val (.int md), .val (.int w376), .val (.ref b377), .val (.int w407), .val (.int w408), .val (.int w412), .unset, .unset, .unset, .unset, .unset, .unset, .unset, .unset, .unset, .unset] [])) _
        refine XS.iloadN X405.here hx rfl (hb hby at_64) rfl ?_
        show Steps p.tables e below (T405.setTop (mkF m 65 #[.val (.int pf), .val (.int pa), .val (.int pb), .val (.int px), .val (.int py), .val (.int md), .val (.int w376), .val (.ref b377), .val (.int w407), .val (.int w408), .val (.int w412), .unset, .unset, .unset, .unset, .unset, .unset, .unset, .unset, .unset, .unset] [(.int pb)])) _
        refine X405.ldcInt hx hown (mvT hZ (hw _ (List.mem_of_getElem? (i := 0) rfl))) (g := (mkF m 65 #[.val (.int pf), .val (.int pa), .val (.int pb), .val (.int px), .val (.int py), .val (.int md), .val (.int w376), .val (.ref b377), .val (.int w407), .val (.int w408), .val (.int w412), .unset, .unset, .unset, .unset, .unset, .unset, .unset, .unset, .unset, .unset] [(.int pb)])) rfl (hb hby at_65) _ ?_
        show Steps p.tables e below (T405.setTop (mkF m 67 #[.val (.int pf), .val (.int pa), .val (.int pb), .val (.int px), .val (.int py), .val (.int md), .val (.int w376), .val (.ref b377), .val (.int w407), .val (.int w408), .val (.int w412), .unset, .unset, .unset, .unset, .unset, .unset, .unset, .unset, .unset, .unset] [(.int (2147483647 : Int32)), (.int pb)])) _
        refine XS.iand X405.here hx rfl (hb hby at_67) rfl ?_
        show Steps p.tables e below (T405.setTop (mkF m 68 #[.val (.int pf), .val (.int pa), .val (.int pb), .val (.int px), .val (.int py), .val (.int md), .val (.int w376), .val (.ref b377), .val (.int w407), .val (.int w408), .val (.int w412), .unset, .unset, .unset, .unset, .unset, .unset, .unset, .unset, .unset, .unset] [(.int (pb &&& (2147483647 : Int32)))])) _
        refine XS.iload X405.here hx rfl (hb hby at_68) rfl ?_
        show Steps p.tables e below (T405.setTop (mkF m 70 #[.val (.int pf), .val (.int pa), .val (.int pb), .val (.int px), .val (.int py), .val (.int md), .val (.int w376), .val (.ref b377), .val (.int w407), .val (.int w408), .val (.int w412), .unset, .unset, .unset, .unset, .unset, .unset, .unset, .unset, .unset, .unset] [(.int w408), (.int (pb &&& (2147483647 : Int32)))])) _
        refine Jvm.RoadKit.iremM X405 hx rfl (hb hby at_70) rfl (own_nzr hc410) ?_
        show Steps p.tables e below (T405.setTop (mkF m 71 #[.val (.int pf), .val (.int pa), .val (.int pb), .val (.int px), .val (.int py), .val (.int md), .val (.int w376), .val (.ref b377), .val (.int w407), .val (.int w408), .val (.int w412), .unset, .unset, .unset, .unset, .unset, .unset, .unset, .unset, .unset, .unset] [(.int ((pb &&& (2147483647 : Int32)) % w408))])) _
        exact k
      · rw [if_neg hc415] at k
        refine XS.ifNo X405.here hx rfl (hb hby at_56) rfl ((if0 _ _).trans (feq hc415).1) ?_
        show Steps p.tables e below (T405.setTop (mkF m 59 #[.val (.int pf), .val (.int pa), .val (.int pb), .val (.int px), .val (.int py), .val (.int md), .val (.int w376), .val (.ref b377), .val (.int w407), .val (.int w408), .val (.int w412), .unset, .unset, .unset, .unset, .unset, .unset, .unset, .unset, .unset, .unset] [])) _
        refine XS.iload X405.here hx rfl (hb hby at_59) rfl ?_
        show Steps p.tables e below (T405.setTop (mkF m 61 #[.val (.int pf), .val (.int pa), .val (.int pb), .val (.int px), .val (.int py), .val (.int md), .val (.int w376), .val (.ref b377), .val (.int w407), .val (.int w408), .val (.int w412), .unset, .unset, .unset, .unset, .unset, .unset, .unset, .unset, .unset, .unset] [(.int w412)])) _
        refine XS.goto X405.here hx rfl (pc0 := 61) (pc' := 71) rfl (hb hby at_61) (by decide) (by decide) ?_
        show Steps p.tables e below (T405.setTop (mkF m 71 #[.val (.int pf), .val (.int pa), .val (.int pb), .val (.int px), .val (.int py), .val (.int md), .val (.int w376), .val (.ref b377), .val (.int w407), .val (.int w408), .val (.int w412), .unset, .unset, .unset, .unset, .unset, .unset, .unset, .unset, .unset, .unset] [(.int w412)])) _
        exact k
    obtain ⟨w417, hw417⟩ : ∃ z : Int32, z = (if w414 = (0 : Int32) then ((pb &&& (2147483647 : Int32)) % w408) else w412) := ⟨_, rfl⟩
    rw [← hw417] at S416
    have S418 : ∀ t, Steps p.tables e below (T405.setTop (mkF m 80 #[.val (.int pf), .val (.int pa), .val (.int pb), .val (.int px), .val (.int py), .val (.int md), .val (.int w376), .val (.ref b377), .val (.int w407), .val (.int w408), .val (.int w412), .val (.int w417), .val (.int (w376 + w412)), .unset, .unset, .unset, .unset, .unset, .unset, .unset, .unset] [])) t → Steps p.tables e below (s₁.setTop (entryFrame m #[(.int pf), (.int pa), (.int pb), (.int px), (.int py), (.int md)] maxLocals)) t := by
      intro t k
      refine S416 t ?_
      refine XS.istore X405.here hx rfl (hb hby at_71) rfl (l' := #[.val (.int pf), .val (.int pa), .val (.int pb), .val (.int px), .val (.int py), .val (.int md), .val (.int w376), .val (.ref b377), .val (.int w407), .val (.int w408), .val (.int w412), .val (.int w417), .unset, .unset, .unset, .unset, .unset, .unset, .unset, .unset, .unset]) rfl ?_
      show Steps p.tables e below (T405.setTop (mkF m 73 #[.val (.int pf), .val (.int pa), .val (.int pb), .val (.int px), .val (.int py), .val (.int md), .val (.int w376), .val (.ref b377), .val (.int w407), .val (.int w408), .val (.int w412), .val (.int w417), .unset, .unset, .unset, .unset, .unset, .unset, .unset, .unset, .unset] [])) _
      refine XS.iload X405.here hx rfl (hb hby at_73) rfl ?_
      show Steps p.tables e below (T405.setTop (mkF m 75 #[.val (.int pf), .val (.int pa), .val (.int pb), .val (.int px), .val (.int py), .val (.int md), .val (.int w376), .val (.ref b377), .val (.int w407), .val (.int w408), .val (.int w412), .val (.int w417), .unset, .unset, .unset, .unset, .unset, .unset, .unset, .unset, .unset] [(.int w376)])) _
      refine XS.iload X405.here hx rfl (hb hby at_75) rfl ?_
      show Steps p.tables e below (T405.setTop (mkF m 77 #[.val (.int pf), .val (.int pa), .val (.int pb), .val (.int px), .val (.int py), .val (.int md), .val (.int w376), .val (.ref b377), .val (.int w407), .val (.int w408), .val (.int w412), .val (.int w417), .unset, .unset, .unset, .unset, .unset, .unset, .unset, .unset, .unset] [(.int w412), (.int w376)])) _
      refine XS.iadd X405.here hx rfl (hb hby at_77) rfl ?_
      show Steps p.tables e below (T405.setTop (mkF m 78 #[.val (.int pf), .val (.int pa), .val (.int pb), .val (.int px), .val (.int py), .val (.int md), .val (.int w376), .val (.ref b377), .val (.int w407), .val (.int w408), .val (.int w412), .val (.int w417), .unset, .unset, .unset, .unset, .unset, .unset, .unset, .unset, .unset] [(.int (w376 + w412))])) _
      refine XS.istore X405.here hx rfl (hb hby at_78) rfl (l' := #[.val (.int pf), .val (.int pa), .val (.int pb), .val (.int px), .val (.int py), .val (.int md), .val (.int w376), .val (.ref b377), .val (.int w407), .val (.int w408), .val (.int w412), .val (.int w417), .val (.int (w376 + w412)), .unset, .unset, .unset, .unset, .unset, .unset, .unset, .unset]) rfl ?_
      show Steps p.tables e below (T405.setTop (mkF m 80 #[.val (.int pf), .val (.int pa), .val (.int pb), .val (.int px), .val (.int py), .val (.int md), .val (.int w376), .val (.ref b377), .val (.int w407), .val (.int w408), .val (.int w412), .val (.int w417), .val (.int (w376 + w412)), .unset, .unset, .unset, .unset, .unset, .unset, .unset, .unset] [])) _
      exact k
    obtain ⟨w419, hw419⟩ : ∃ z : Int32, z = (w376 + w412) := ⟨_, rfl⟩
    rw [← hw419] at S418
    have S420 : ∀ t, Steps p.tables e below (T405.setTop (mkF m 87 #[.val (.int pf), .val (.int pa), .val (.int pb), .val (.int px), .val (.int py), .val (.int md), .val (.int w376), .val (.ref b377), .val (.int w407), .val (.int w408), .val (.int w412), .val (.int w417), .val (.int w419), .val (.int (w376 + w417)), .unset, .unset, .unset, .unset, .unset, .unset, .unset] [])) t → Steps p.tables e below (s₁.setTop (entryFrame m #[(.int pf), (.int pa), (.int pb), (.int px), (.int py), (.int md)] maxLocals)) t := by
      intro t k
      refine S418 t ?_
      refine XS.iload X405.here hx rfl (hb hby at_80) rfl ?_
      show Steps p.tables e below (T405.setTop (mkF m 82 #[.val (.int pf), .val (.int pa), .val (.int pb), .val (.int px), .val (.int py), .val (.int md), .val (.int w376), .val (.ref b377), .val (.int w407), .val (.int w408), .val (.int w412), .val (.int w417), .val (.int w419), .unset, .unset, .unset, .unset, .unset, .unset, .unset, .unset] [(.int w376)])) _
      refine XS.iload X405.here hx rfl (hb hby at_82) rfl ?_
      show Steps p.tables e below (T405.setTop (mkF m 84 #[.val (.int pf), .val (.int pa), .val (.int pb), .val (.int px), .val (.int py), .val (.int md), .val (.int w376), .val (.ref b377), .val (.int w407), .val (.int w408), .val (.int w412), .val (.int w417), .val (.int w419), .unset, .unset, .unset, .unset, .unset, .unset, .unset, .unset] [(.int w417), (.int w376)])) _
      refine XS.iadd X405.here hx rfl (hb hby at_84) rfl ?_
      show Steps p.tables e below (T405.setTop (mkF m 85 #[.val (.int pf), .val (.int pa), .val (.int pb), .val (.int px), .val (.int py), .val (.int md), .val (.int w376), .val (.ref b377), .val (.int w407), .val (.int w408), .val (.int w412), .val (.int w417), .val (.int w419), .unset, .unset, .unset, .unset, .unset, .unset, .unset, .unset] [(.int (w376 + w417))])) _
      refine XS.istore X405.here hx rfl (hb hby at_85) rfl (l' := #[.val (.int pf), .val (.int pa), .val (.int pb), .val (.int px), .val (.int py), .val (.int md), .val (.int w376), .val (.ref b377), .val (.int w407), .val (.int w408), .val (.int w412), .val (.int w417), .val (.int w419), .val (.int (w376 + w417)), .unset, .unset, .unset, .unset, .unset, .unset, .unset]) rfl ?_
      show Steps p.tables e below (T405.setTop (mkF m 87 #[.val (.int pf), .val (.int pa), .val (.int pb), .val (.int px), .val (.int py), .val (.int md), .val (.int w376), .val (.ref b377), .val (.int w407), .val (.int w408), .val (.int w412), .val (.int w417), .val (.int w419), .val (.int (w376 + w417)), .unset, .unset, .unset, .unset, .unset, .unset, .unset] [])) _
      exact k
    obtain ⟨w421, hw421⟩ : ∃ z : Int32, z = (w376 + w417) := ⟨_, rfl⟩
    rw [← hw421] at S420
    have S422 : ∀ t, Steps p.tables e below (T405.setTop (mkF m 91 #[.val (.int pf), .val (.int pa), .val (.int pb), .val (.int px), .val (.int py), .val (.int md), .val (.int w376), .val (.ref b377), .val (.int w407), .val (.int w408), .val (.int w412), .val (.int w417), .val (.int w419), .val (.int w421), .val (.double (FP.i2d px)), .second, .unset, .unset, .unset, .unset, .unset] [])) t → Steps p.tables e below (s₁.setTop (entryFrame m #[(.int pf), (.int pa), (.int pb), (.int px), (.int py), (.int md)] maxLocals)) t := by
      intro t k
      refine S420 t ?_
      refine XS.iloadN X405.here hx rfl (hb hby at_87) rfl ?_
      show Steps p.tables e below (T405.setTop (mkF m 88 #[.val (.int pf), .val (.int pa), .val (.int pb), .val (.int px), .val (.int py), .val (.int md), .val (.int w376), .val (.ref b377), .val (.int w407), .val (.int w408), .val (.int w412), .val (.int w417), .val (.int w419), .val (.int w421), .unset, .unset, .unset, .unset, .unset, .unset, .unset] [(.int px)])) _
      refine XS.i2dS X405.here hx rfl (hb hby at_88) rfl rfl ?_
      show Steps p.tables e below (T405.setTop (mkF m 89 #[.val (.int pf), .val (.int pa), .val (.int pb), .val (.int px), .val (.int py), .val (.int md), .val (.int w376), .val (.ref b377), .val (.int w407), .val (.int w408), .val (.int w412), .val (.int w417), .val (.int w419), .val (.int w421), .unset, .unset, .unset, .unset, .unset, .unset, .unset] [(.double (FP.i2d px))])) _
      refine XS.dstore X405.here hx rfl (hb hby at_89) rfl (l' := #[.val (.int pf), .val (.int pa), .val (.int pb), .val (.int px), .val (.int py), .val (.int md), .val (.int w376), .val (.ref b377), .val (.int w407), .val (.int w408), .val (.int w412), .val (.int w417), .val (.int w419), .val (.int w421), .val (.double (FP.i2d px)), .second, .unset, .unset, .unset, .unset, .unset]) rfl ?_
      show Steps p.tables e below (T405.setTop (mkF m 91 #[.val (.int pf), .val (.int pa), .val (.int pb), .val (.int px), .val (.int py), .val (.int md), .val (.int w376), .val (.ref b377), .val (.int w407), .val (.int w408), .val (.int w412), .val (.int w417), .val (.int w419), .val (.int w421), .val (.double (FP.i2d px)), .second, .unset, .unset, .unset, .unset, .unset] [])) _
      exact k
    obtain ⟨w423, hw423⟩ : ∃ z : UInt64, z = (FP.i2d px) := ⟨_, rfl⟩
    rw [← hw423] at S422
    have S424 : ∀ t, Steps p.tables e below (T405.setTop (mkF m 96 #[.val (.int pf), .val (.int pa), .val (.int pb), .val (.int px), .val (.int py), .val (.int md), .val (.int w376), .val (.ref b377), .val (.int w407), .val (.int w408), .val (.int w412), .val (.int w417), .val (.int w419), .val (.int w421), .val (.double w423), .second, .val (.double (FP.i2d py)), .second, .unset, .unset, .unset] [])) t → Steps p.tables e below (s₁.setTop (entryFrame m #[(.int pf), (.int pa), (.int pb), (.int px), (.int py), (.int md)] maxLocals)) t := by
      intro t k
      refine S422 t ?_
      refine XS.iload X405.here hx rfl (hb hby at_91) rfl ?_
      show Steps p.tables e below (T405.setTop (mkF m 93 #[.val (.int pf), .val (.int pa), .val (.int pb), .val (.int px), .val (.int py), .val (.int md), .val (.int w376), .val (.ref b377), .val (.int w407), .val (.int w408), .val (.int w412), .val (.int w417), .val (.int w419), .val (.int w421), .val (.double w423), .second, .unset, .unset, .unset, .unset, .unset] [(.int py)])) _
      refine XS.i2dS X405.here hx rfl (hb hby at_93) rfl rfl ?_
      show Steps p.tables e below (T405.setTop (mkF m 94 #[.val (.int pf), .val (.int pa), .val (.int pb), .val (.int px), .val (.int py), .val (.int md), .val (.int w376), .val (.ref b377), .val (.int w407), .val (.int w408), .val (.int w412), .val (.int w417), .val (.int w419), .val (.int w421), .val (.double w423), .second, .unset, .unset, .unset, .unset, .unset] [(.double (FP.i2d py))])) _
      refine XS.dstore X405.here hx rfl (hb hby at_94) rfl (l' := #[.val (.int pf), .val (.int pa), .val (.int pb), .val (.int px), .val (.int py), .val (.int md), .val (.int w376), .val (.ref b377), .val (.int w407), .val (.int w408), .val (.int w412), .val (.int w417), .val (.int w419), .val (.int w421), .val (.double w423), .second, .val (.double (FP.i2d py)), .second, .unset, .unset, .unset]) rfl ?_
      show Steps p.tables e below (T405.setTop (mkF m 96 #[.val (.int pf), .val (.int pa), .val (.int pb), .val (.int px), .val (.int py), .val (.int md), .val (.int w376), .val (.ref b377), .val (.int w407), .val (.int w408), .val (.int w412), .val (.int w417), .val (.int w419), .val (.int w421), .val (.double w423), .second, .val (.double (FP.i2d py)), .second, .unset, .unset, .unset] [])) _
      exact k
    obtain ⟨w425, hw425⟩ : ∃ z : UInt64, z = (FP.i2d py) := ⟨_, rfl⟩
    rw [← hw425] at S424
    have A426 := own_pre hw376 hw400 hw401 hw407 hw408 hc410 hw412 hw417 hw419 hw421
    obtain ⟨cq427, kq427, q427a, q427b, q427c⟩ := isOf hZ e405 Eq397
    obtain ⟨_, _, ⟨T427, L427, k427, n427⟩, -, X427, ⟨Lc427, hQ427, l427, y427, z427⟩, st427⟩ := X405.virtualBack hx (y := (⟨"com/example/libclause/libclause/search/ScoreWindow", "add", "(ID)V"⟩ : MethodName)) (z := (⟨"com/example/libclause/libclause/search/ScoreWindow", "add", "(ID)V"⟩ : MethodName)) hown (mvT hZ (hw _ (List.mem_of_getElem? (i := 39) rfl))) (mvT hZ (hw _ (List.mem_of_getElem? (i := 40) rfl))) (notFace_of_selects (args := #[]) (mvT hZ (hw _ (List.mem_of_getElem? (i := 42) rfl)))) (mvT hZ (hw _ (List.mem_of_getElem? (i := 42) rfl))) (mvT hZ (hw _ (List.mem_of_getElem? (i := 41) rfl))) (by decide) (backOf (W := 0) (rm6 l Z a0 hw [] b377 w419 w423 b386 b387 b388 w400 w401 kkb386 w402 kkb387 w403 kkb388 w404 T397.heap n0 Z399 Eq397 fq397_0 fq397_1 fq397_2 fq397_3 fq397_4 gg377 fz397_0 ggb386 ne389 fz397_1 ggb387 ne391 fz397_2 ggb388 ne393 nn385_1_0 nn385_2_0 nn385_2_1 (own_hA A426 A426.2.1) (own_n1 hw402 hw423 _)) hZ (hw _ (List.mem_of_getElem? (i := 43) rfl)) (hw _ (List.mem_of_getElem? (i := 3) rfl)) (by decide) (by decide)) q427a q427c (g := (mkF m 102 #[.val (.int pf), .val (.int pa), .val (.int pb), .val (.int px), .val (.int py), .val (.int md), .val (.int w376), .val (.ref b377), .val (.int w407), .val (.int w408), .val (.int w412), .val (.int w417), .val (.int w419), .val (.int w421), .val (.double w423), .second, .val (.double w425), .second, .unset, .unset, .unset] [(.double w423), (.int w419), (.ref b377)])) rfl (by rw [hml]; rfl) (Steps.refl _) (argsL := [(.int w419), (.double w423)]) (rest := []) (lenOf pd_6 rfl) rfl (by show 2 * 0 + _ ≤ _; exact Nat.le_of_eq rfl) (hb hby at_102) (fun _ _ => ⟨rfl, e405, (by decide : 4 + 0 ≤ _), (by decide : 4133 + 0 ≤ _)⟩)
    dsimp only [Pt.U, Pt.locs, Pt.cells, Pt.slots] at X427 l427 y427 z427 st427 hQ427
    subst l427 y427 z427
    obtain ⟨rfl, N427q, K427, Eq427, fq427_0, fq427_1, fq427_2, fq427_3, fq427_4, fz427_0, fz427_1, fz427_2⟩ := hQ427
    have N427 := Fr.app N405 N427q
    have K428 : Keep h0 T427.heap [] := K398.trans K427 (allS (Or.inr sz377) (allS (Or.inr sz390) (allS (Or.inr sz392) (allS (Or.inr sz394) all0))))
    have Z429 : n0 ≤ T427.heap.size := Nat.le_trans Z399 K427.1
    obtain ⟨w430, hw430⟩ : ∃ z : Int32, z = (f6_first w419 w423 w400 w401 w402 w403 w404) := ⟨_, rfl⟩
    rw [← hw430] at fq427_3
    obtain ⟨w431, hw431⟩ : ∃ z : Int32, z = (f6_end w419 w423 w400 w401 w402 w403 w404) := ⟨_, rfl⟩
    rw [← hw431] at fq427_4
    obtain ⟨w432, hw432⟩ : ∃ z : (Nat → UInt64), z = (f6_scores w419 w423 w400 w401 w402 w403 w404) := ⟨_, rfl⟩
    rw [← hw432] at fz427_0
    obtain ⟨w433, hw433⟩ : ∃ z : (Nat → Int32), z = (f6_counts w419 w423 w400 w401 w402 w403 w404) := ⟨_, rfl⟩
    rw [← hw433] at fz427_1
    obtain ⟨w434, hw434⟩ : ∃ z : (Nat → Int64), z = (f6_marked w419 w423 w400 w401 w402 w403 w404) := ⟨_, rfl⟩
    rw [← hw434] at fz427_2
    obtain ⟨cq435, kq435, q435a, q435b, q435c⟩ := isOf hZ rfl Eq427
    obtain ⟨_, _, ⟨T435, L435, k435, n435⟩, -, X435, ⟨Lc435, hQ435, l435, y435, z435⟩, st435⟩ := X427.virtualBack hx (y := (⟨"com/example/libclause/libclause/search/ScoreWindow", "add", "(ID)V"⟩ : MethodName)) (z := (⟨"com/example/libclause/libclause/search/ScoreWindow", "add", "(ID)V"⟩ : MethodName)) hown (mvT hZ (hw _ (List.mem_of_getElem? (i := 39) rfl))) (mvT hZ (hw _ (List.mem_of_getElem? (i := 40) rfl))) (notFace_of_selects (args := #[]) (mvT hZ (hw _ (List.mem_of_getElem? (i := 42) rfl)))) (mvT hZ (hw _ (List.mem_of_getElem? (i := 42) rfl))) (mvT hZ (hw _ (List.mem_of_getElem? (i := 41) rfl))) (by decide) (backOf (W := 0) (rm6 l Z a0 hw [] b377 w421 w425 b386 b387 b388 w430 w431 kkb386 w432 kkb387 w433 kkb388 w434 T427.heap n0 Z429 Eq427 fq427_0 fq427_1 fq427_2 fq427_3 fq427_4 gg377 fz427_0 ggb386 ne389 fz427_1 ggb387 ne391 fz427_2 ggb388 ne393 nn385_1_0 nn385_2_0 nn385_2_1 (own_hB A426 ((hw430).trans A426.2.1)) (own_n2 hw402 hw423 hw432 hw425 _)) hZ (hw _ (List.mem_of_getElem? (i := 43) rfl)) (hw _ (List.mem_of_getElem? (i := 3) rfl)) (by decide) (by decide)) q435a q435c (g := (mkF m 111 #[.val (.int pf), .val (.int pa), .val (.int pb), .val (.int px), .val (.int py), .val (.int md), .val (.int w376), .val (.ref b377), .val (.int w407), .val (.int w408), .val (.int w412), .val (.int w417), .val (.int w419), .val (.int w421), .val (.double w423), .second, .val (.double w425), .second, .unset, .unset, .unset] [(.double w425), (.int w421), (.ref b377)])) rfl (by rw [hml]; rfl) (Steps.refl _) (argsL := [(.int w421), (.double w425)]) (rest := []) (lenOf pd_6 rfl) rfl (by show 2 * 0 + _ ≤ _; exact Nat.le_of_eq rfl) (hb hby at_111) (fun _ _ => ⟨rfl, rfl, (by decide : 4 + 0 ≤ _), (by decide : 4133 + 0 ≤ _)⟩)
    dsimp only [Pt.U, Pt.locs, Pt.cells, Pt.slots] at X435 l435 y435 z435 st435 hQ435
    subst l435 y435 z435
    obtain ⟨rfl, N435q, K435, Eq435, fq435_0, fq435_1, fq435_2, fq435_3, fq435_4, fz435_0, fz435_1, fz435_2⟩ := hQ435
    have N435 := Fr.app N427 N435q
    have K436 : Keep h0 T435.heap [] := K428.trans K435 (allS (Or.inr sz377) (allS (Or.inr sz390) (allS (Or.inr sz392) (allS (Or.inr sz394) all0))))
    have Z437 : n0 ≤ T435.heap.size := Nat.le_trans Z429 K435.1
    obtain ⟨w438, hw438⟩ : ∃ z : Int32, z = (f6_first w421 w425 w430 w431 w432 w433 w434) := ⟨_, rfl⟩
    rw [← hw438] at fq435_3
    obtain ⟨w439, hw439⟩ : ∃ z : Int32, z = (f6_end w421 w425 w430 w431 w432 w433 w434) := ⟨_, rfl⟩
    rw [← hw439] at fq435_4
    obtain ⟨w440, hw440⟩ : ∃ z : (Nat → UInt64), z = (f6_scores w421 w425 w430 w431 w432 w433 w434) := ⟨_, rfl⟩
    rw [← hw440] at fz435_0
    obtain ⟨w441, hw441⟩ : ∃ z : (Nat → Int32), z = (f6_counts w421 w425 w430 w431 w432 w433 w434) := ⟨_, rfl⟩
    rw [← hw441] at fz435_1
    obtain ⟨w442, hw442⟩ : ∃ z : (Nat → Int64), z = (f6_marked w421 w425 w430 w431 w432 w433 w434) := ⟨_, rfl⟩
    rw [← hw442] at fz435_2
    have B443 := own_done A426 hw402 hw403 hw404 hw430 hw431 hw432 hw433 hw434 hw438 hw439 hw440 hw441 hw442
    obtain ⟨_, _, ⟨T444, L444, k444, n444⟩, -, X444, ⟨Lc444, hQ444, l444, y444, z444⟩, st444⟩ := Jvm.LawKit.callS X435 hx (y := (⟨"java/lang/Math", "min", "(II)I"⟩ : MethodName)) hown (mvT hZ (hw _ (List.mem_of_getElem? (i := 44) rfl))) (mvT hZ (hw _ (List.mem_of_getElem? (i := 45) rfl))) (mvT hZ (hw _ (List.mem_of_getElem? (i := 30) rfl))) (mvT hZ (hw _ (List.mem_of_getElem? (i := 46) rfl))) (by decide) (backOf (W := 0) (rm7 l Z a0 hw [] w419 w421 T435.heap n0 Z437) hZ (hw _ (List.mem_of_getElem? (i := 46) rfl)) (hw _ (List.mem_of_getElem? (i := 30) rfl)) (by decide) (by decide)) (g := (mkF m 118 #[.val (.int pf), .val (.int pa), .val (.int pb), .val (.int px), .val (.int py), .val (.int md), .val (.int w376), .val (.ref b377), .val (.int w407), .val (.int w408), .val (.int w412), .val (.int w417), .val (.int w419), .val (.int w421), .val (.double w423), .second, .val (.double w425), .second, .unset, .unset, .unset] [(.int w421), (.int w419)])) rfl (by rw [hml]; rfl) (argsL := [(.int w419), (.int w421)]) (rest := []) (lenOf pd_7 rfl) rfl (by show 2 * 0 + _ ≤ _; exact Nat.le_of_eq rfl) (hb hby at_118) (fun _ _ => ⟨rfl, rfl, (by decide : 4 + 0 ≤ _), (by decide : 4133 + 0 ≤ _)⟩)
    dsimp only [Pt.U, Pt.locs, Pt.cells, Pt.slots] at X444 l444 y444 z444 st444 hQ444
    subst l444 y444 z444
    obtain ⟨rfl, N444q, e444⟩ := hQ444
    have N444 := Fr.app N435 N444q
    have S445 : ∀ t, Steps p.tables e below (T444.setTop (mkF m 123 #[.val (.int pf), .val (.int pa), .val (.int pb), .val (.int px), .val (.int py), .val (.int md), .val (.int w376), .val (.ref b377), .val (.int w407), .val (.int w408), .val (.int w412), .val (.int w417), .val (.int w419), .val (.int w421), .val (.double w423), .second, .val (.double w425), .second, .val (.int (f7 w419 w421)), .unset, .unset] [])) t → Steps p.tables e below (s₁.setTop (entryFrame m #[(.int pf), (.int pa), (.int pb), (.int px), (.int py), (.int md)] maxLocals)) t := by
      intro t k
      refine S424 t ?_
      refine XS.aload X405.here hx rfl (hb hby at_96) rfl rfl ?_
      show Steps p.tables e below (T405.setTop (mkF m 98 #[.val (.int pf), .val (.int pa), .val (.int pb), .val (.int px), .val (.int py), .val (.int md), .val (.int w376), .val (.ref b377), .val (.int w407), .val (.int w408), .val (.int w412), .val (.int w417), .val (.int w419), .val (.int w421), .val (.double w423), .second, .val (.double w425), .second, .unset, .unset, .unset] [(.ref b377)])) _
      refine XS.iload X405.here hx rfl (hb hby at_98) rfl ?_
      show Steps p.tables e below (T405.setTop (mkF m 100 #[.val (.int pf), .val (.int pa), .val (.int pb), .val (.int px), .val (.int py), .val (.int md), .val (.int w376), .val (.ref b377), .val (.int w407), .val (.int w408), .val (.int w412), .val (.int w417), .val (.int w419), .val (.int w421), .val (.double w423), .second, .val (.double w425), .second, .unset, .unset, .unset] [(.int w419), (.ref b377)])) _
      refine XS.dload X405.here hx rfl (hb hby at_100) rfl ?_
      show Steps p.tables e below (T405.setTop (mkF m 102 #[.val (.int pf), .val (.int pa), .val (.int pb), .val (.int px), .val (.int py), .val (.int md), .val (.int w376), .val (.ref b377), .val (.int w407), .val (.int w408), .val (.int w412), .val (.int w417), .val (.int w419), .val (.int w421), .val (.double w423), .second, .val (.double w425), .second, .unset, .unset, .unset] [(.double w423), (.int w419), (.ref b377)])) _
      refine st427.trans ?_
      show Steps p.tables e below (T427.setTop (mkF m 105 #[.val (.int pf), .val (.int pa), .val (.int pb), .val (.int px), .val (.int py), .val (.int md), .val (.int w376), .val (.ref b377), .val (.int w407), .val (.int w408), .val (.int w412), .val (.int w417), .val (.int w419), .val (.int w421), .val (.double w423), .second, .val (.double w425), .second, .unset, .unset, .unset] [])) _
      refine XS.aload X427.here hx rfl (hb hby at_105) rfl rfl ?_
      show Steps p.tables e below (T427.setTop (mkF m 107 #[.val (.int pf), .val (.int pa), .val (.int pb), .val (.int px), .val (.int py), .val (.int md), .val (.int w376), .val (.ref b377), .val (.int w407), .val (.int w408), .val (.int w412), .val (.int w417), .val (.int w419), .val (.int w421), .val (.double w423), .second, .val (.double w425), .second, .unset, .unset, .unset] [(.ref b377)])) _
      refine XS.iload X427.here hx rfl (hb hby at_107) rfl ?_
      show Steps p.tables e below (T427.setTop (mkF m 109 #[.val (.int pf), .val (.int pa), .val (.int pb), .val (.int px), .val (.int py), .val (.int md), .val (.int w376), .val (.ref b377), .val (.int w407), .val (.int w408), .val (.int w412), .val (.int w417), .val (.int w419), .val (.int w421), .val (.double w423), .second, .val (.double w425), .second, .unset, .unset, .unset] [(.int w421), (.ref b377)])) _
      refine XS.dload X427.here hx rfl (hb hby at_109) rfl ?_
      show Steps p.tables e below (T427.setTop (mkF m 111 #[.val (.int pf), .val (.int pa), .val (.int pb), .val (.int px), .val (.int py), .val (.int md), .val (.int w376), .val (.ref b377), .val (.int w407), .val (.int w408), .val (.int w412), .val (.int w417), .val (.int w419), .val (.int w421), .val (.double w423), .second, .val (.double w425), .second, .unset, .unset, .unset] [(.double w425), (.int w421), (.ref b377)])) _
      refine st435.trans ?_
      show Steps p.tables e below (T435.setTop (mkF m 114 #[.val (.int pf), .val (.int pa), .val (.int pb), .val (.int px), .val (.int py), .val (.int md), .val (.int w376), .val (.ref b377), .val (.int w407), .val (.int w408), .val (.int w412), .val (.int w417), .val (.int w419), .val (.int w421), .val (.double w423), .second, .val (.double w425), .second, .unset, .unset, .unset] [])) _
      refine XS.iload X435.here hx rfl (hb hby at_114) rfl ?_
      show Steps p.tables e below (T435.setTop (mkF m 116 #[.val (.int pf), .val (.int pa), .val (.int pb), .val (.int px), .val (.int py), .val (.int md), .val (.int w376), .val (.ref b377), .val (.int w407), .val (.int w408), .val (.int w412), .val (.int w417), .val (.int w419), .val (.int w421), .val (.double w423), .second, .val (.double w425), .second, .unset, .unset, .unset] [(.int w419)])) _
      refine XS.iload X435.here hx rfl (hb hby at_116) rfl ?_
      show Steps p.tables e below (T435.setTop (mkF m 118 #[.val (.int pf), .val (.int pa), .val (.int pb), .val (.int px), .val (.int py), .val (.int md), .val (.int w376), .val (.ref b377), .val (.int w407), .val (.int w408), .val (.int w412), .val (.int w417), .val (.int w419), .val (.int w421), .val (.double w423), .second, .val (.double w425), .second, .unset, .unset, .unset] [(.int w421), (.int w419)])) _
      refine st444 _ ?_
      show Steps p.tables e below (T444.setTop (mkF m 121 #[.val (.int pf), .val (.int pa), .val (.int pb), .val (.int px), .val (.int py), .val (.int md), .val (.int w376), .val (.ref b377), .val (.int w407), .val (.int w408), .val (.int w412), .val (.int w417), .val (.int w419), .val (.int w421), .val (.double w423), .second, .val (.double w425), .second, .unset, .unset, .unset] [(.int (f7 w419 w421))])) _
      refine XS.istore X444.here hx rfl (hb hby at_121) rfl (l' := #[.val (.int pf), .val (.int pa), .val (.int pb), .val (.int px), .val (.int py), .val (.int md), .val (.int w376), .val (.ref b377), .val (.int w407), .val (.int w408), .val (.int w412), .val (.int w417), .val (.int w419), .val (.int w421), .val (.double w423), .second, .val (.double w425), .second, .val (.int (f7 w419 w421)), .unset, .unset]) rfl ?_
      show Steps p.tables e below (T444.setTop (mkF m 123 #[.val (.int pf), .val (.int pa), .val (.int pb), .val (.int px), .val (.int py), .val (.int md), .val (.int w376), .val (.ref b377), .val (.int w407), .val (.int w408), .val (.int w412), .val (.int w417), .val (.int w419), .val (.int w421), .val (.double w423), .second, .val (.double w425), .second, .val (.int (f7 w419 w421)), .unset, .unset] [])) _
      exact k
    obtain ⟨w446, hw446⟩ : ∃ z : Int32, z = (f7 w419 w421) := ⟨_, rfl⟩
    rw [← hw446] at S445
    obtain ⟨_, _, ⟨T447, L447, k447, n447⟩, -, X447, ⟨Lc447, hQ447, l447, y447, z447⟩, st447⟩ := Jvm.LawKit.callS X444 hx (y := (⟨"java/lang/Math", "max", "(II)I"⟩ : MethodName)) hown (mvT hZ (hw _ (List.mem_of_getElem? (i := 47) rfl))) (mvT hZ (hw _ (List.mem_of_getElem? (i := 48) rfl))) (mvT hZ (hw _ (List.mem_of_getElem? (i := 30) rfl))) (mvT hZ (hw _ (List.mem_of_getElem? (i := 49) rfl))) (by decide) (backOf (W := 0) (rm8 l Z a0 hw [] w419 w421 T435.heap n0 Z437) hZ (hw _ (List.mem_of_getElem? (i := 49) rfl)) (hw _ (List.mem_of_getElem? (i := 30) rfl)) (by decide) (by decide)) (g := (mkF m 127 #[.val (.int pf), .val (.int pa), .val (.int pb), .val (.int px), .val (.int py), .val (.int md), .val (.int w376), .val (.ref b377), .val (.int w407), .val (.int w408), .val (.int w412), .val (.int w417), .val (.int w419), .val (.int w421), .val (.double w423), .second, .val (.double w425), .second, .val (.int w446), .unset, .unset] [(.int w421), (.int w419)])) rfl (by rw [hml]; rfl) (argsL := [(.int w419), (.int w421)]) (rest := []) (lenOf pd_7 rfl) rfl (by show 2 * 0 + _ ≤ _; exact Nat.le_of_eq rfl) (hb hby at_127) (fun _ _ => ⟨rfl, e444, (by decide : 4 + 0 ≤ _), (by decide : 4133 + 0 ≤ _)⟩)
    dsimp only [Pt.U, Pt.locs, Pt.cells, Pt.slots] at X447 l447 y447 z447 st447 hQ447
    subst l447 y447 z447
    obtain ⟨rfl, N447q, e447⟩ := hQ447
    have N447 := Fr.app N444 N447q
    have S448 : ∀ t, Steps p.tables e below (T447.setTop (mkF m 132 #[.val (.int pf), .val (.int pa), .val (.int pb), .val (.int px), .val (.int py), .val (.int md), .val (.int w376), .val (.ref b377), .val (.int w407), .val (.int w408), .val (.int w412), .val (.int w417), .val (.int w419), .val (.int w421), .val (.double w423), .second, .val (.double w425), .second, .val (.int w446), .val (.int (f8 w419 w421)), .unset] [])) t → Steps p.tables e below (s₁.setTop (entryFrame m #[(.int pf), (.int pa), (.int pb), (.int px), (.int py), (.int md)] maxLocals)) t := by
      intro t k
      refine S445 t ?_
      refine XS.iload X444.here hx rfl (hb hby at_123) rfl ?_
      show Steps p.tables e below (T444.setTop (mkF m 125 #[.val (.int pf), .val (.int pa), .val (.int pb), .val (.int px), .val (.int py), .val (.int md), .val (.int w376), .val (.ref b377), .val (.int w407), .val (.int w408), .val (.int w412), .val (.int w417), .val (.int w419), .val (.int w421), .val (.double w423), .second, .val (.double w425), .second, .val (.int w446), .unset, .unset] [(.int w419)])) _
      refine XS.iload X444.here hx rfl (hb hby at_125) rfl ?_
      show Steps p.tables e below (T444.setTop (mkF m 127 #[.val (.int pf), .val (.int pa), .val (.int pb), .val (.int px), .val (.int py), .val (.int md), .val (.int w376), .val (.ref b377), .val (.int w407), .val (.int w408), .val (.int w412), .val (.int w417), .val (.int w419), .val (.int w421), .val (.double w423), .second, .val (.double w425), .second, .val (.int w446), .unset, .unset] [(.int w421), (.int w419)])) _
      refine st447 _ ?_
      show Steps p.tables e below (T447.setTop (mkF m 130 #[.val (.int pf), .val (.int pa), .val (.int pb), .val (.int px), .val (.int py), .val (.int md), .val (.int w376), .val (.ref b377), .val (.int w407), .val (.int w408), .val (.int w412), .val (.int w417), .val (.int w419), .val (.int w421), .val (.double w423), .second, .val (.double w425), .second, .val (.int w446), .unset, .unset] [(.int (f8 w419 w421))])) _
      refine XS.istore X447.here hx rfl (hb hby at_130) rfl (l' := #[.val (.int pf), .val (.int pa), .val (.int pb), .val (.int px), .val (.int py), .val (.int md), .val (.int w376), .val (.ref b377), .val (.int w407), .val (.int w408), .val (.int w412), .val (.int w417), .val (.int w419), .val (.int w421), .val (.double w423), .second, .val (.double w425), .second, .val (.int w446), .val (.int (f8 w419 w421)), .unset]) rfl ?_
      show Steps p.tables e below (T447.setTop (mkF m 132 #[.val (.int pf), .val (.int pa), .val (.int pb), .val (.int px), .val (.int py), .val (.int md), .val (.int w376), .val (.ref b377), .val (.int w407), .val (.int w408), .val (.int w412), .val (.int w417), .val (.int w419), .val (.int w421), .val (.double w423), .second, .val (.double w425), .second, .val (.int w446), .val (.int (f8 w419 w421)), .unset] [])) _
      exact k
    obtain ⟨w449, hw449⟩ : ∃ z : Int32, z = (f8 w419 w421) := ⟨_, rfl⟩
    rw [← hw449] at S448
    have S450 : ∀ t, Steps p.tables e below (T447.setTop (mkF m 136 #[.val (.int pf), .val (.int pa), .val (.int pb), .val (.int px), .val (.int py), .val (.int md), .val (.int w376), .val (.ref b377), .val (.int w407), .val (.int w408), .val (.int w412), .val (.int w417), .val (.int w419), .val (.int w421), .val (.double w423), .second, .val (.double w425), .second, .val (.int w446), .val (.int w449), .unset] [(.int w421), (.int w419)])) t → Steps p.tables e below (s₁.setTop (entryFrame m #[(.int pf), (.int pa), (.int pb), (.int px), (.int py), (.int md)] maxLocals)) t := by
      intro t k
      refine S448 t ?_
      refine XS.iload X447.here hx rfl (hb hby at_132) rfl ?_
      show Steps p.tables e below (T447.setTop (mkF m 134 #[.val (.int pf), .val (.int pa), .val (.int pb), .val (.int px), .val (.int py), .val (.int md), .val (.int w376), .val (.ref b377), .val (.int w407), .val (.int w408), .val (.int w412), .val (.int w417), .val (.int w419), .val (.int w421), .val (.double w423), .second, .val (.double w425), .second, .val (.int w446), .val (.int w449), .unset] [(.int w419)])) _
      refine XS.iload X447.here hx rfl (hb hby at_134) rfl ?_
      show Steps p.tables e below (T447.setTop (mkF m 136 #[.val (.int pf), .val (.int pa), .val (.int pb), .val (.int px), .val (.int py), .val (.int md), .val (.int w376), .val (.ref b377), .val (.int w407), .val (.int w408), .val (.int w412), .val (.int w417), .val (.int w419), .val (.int w421), .val (.double w423), .second, .val (.double w425), .second, .val (.int w446), .val (.int w449), .unset] [(.int w421), (.int w419)])) _
      exact k
    by_cases hc451 : w419 = w421
    · obtain ⟨cq452, kq452, q452a, q452b, q452c⟩ := isOf hZ e447 Eq435
      obtain ⟨_, _, ⟨T452, L452, k452, n452⟩, -, X452, ⟨Lc452, hQ452, l452, y452, z452⟩, st452⟩ := X447.virtualBack hx (y := (⟨"com/example/libclause/libclause/search/ScoreWindow", "score", "(I)D"⟩ : MethodName)) (z := (⟨"com/example/libclause/libclause/search/ScoreWindow", "score", "(I)D"⟩ : MethodName)) hown (mvT hZ (hw _ (List.mem_of_getElem? (i := 50) rfl))) (mvT hZ (hw _ (List.mem_of_getElem? (i := 51) rfl))) (notFace_of_selects (args := #[]) (mvT hZ (hw _ (List.mem_of_getElem? (i := 53) rfl)))) (mvT hZ (hw _ (List.mem_of_getElem? (i := 53) rfl))) (mvT hZ (hw _ (List.mem_of_getElem? (i := 52) rfl))) (by decide) (backOf (W := 0) (rm9 l Z a0 hw [] b377 w419 b386 w438 kkb386 w440 T435.heap n0 Z437 fq435_0 fq435_3 fz435_0 (own_hA A426 B443.1)) hZ (hw _ (List.mem_of_getElem? (i := 54) rfl)) (hw _ (List.mem_of_getElem? (i := 3) rfl)) (by decide) (by decide)) q452a q452c (g := (mkF m 143 #[.val (.int pf), .val (.int pa), .val (.int pb), .val (.int px), .val (.int py), .val (.int md), .val (.int w376), .val (.ref b377), .val (.int w407), .val (.int w408), .val (.int w412), .val (.int w417), .val (.int w419), .val (.int w421), .val (.double w423), .second, .val (.double w425), .second, .val (.int w446), .val (.int w449), .unset] [(.int w419), (.ref b377)])) rfl (by rw [hml]; rfl) (Steps.refl _) (argsL := [(.int w419)]) (rest := []) (lenOf pd_8 rfl) rfl (by show 2 * 0 + _ ≤ _; exact Nat.le_of_eq rfl) (hb hby at_143) (fun _ _ => ⟨rfl, e447, (by decide : 4 + 0 ≤ _), (by decide : 4133 + 0 ≤ _)⟩)
      dsimp only [Pt.U, Pt.locs, Pt.cells, Pt.slots] at X452 l452 y452 z452 st452 hQ452
      subst l452 y452 z452
      obtain ⟨rfl, N452q, e452⟩ := hQ452
      have N452 := Fr.app N447 N452q
      obtain ⟨cq453, kq453, q453a, q453b, q453c⟩ := isOf hZ e452 Eq435
      obtain ⟨_, _, ⟨T453, L453, k453, n453⟩, -, X453, ⟨Lc453, hQ453, l453, y453, z453⟩, st453⟩ := X452.virtualBack hx (y := (⟨"com/example/libclause/libclause/search/ScoreWindow", "count", "(I)I"⟩ : MethodName)) (z := (⟨"com/example/libclause/libclause/search/ScoreWindow", "count", "(I)I"⟩ : MethodName)) hown (mvT hZ (hw _ (List.mem_of_getElem? (i := 55) rfl))) (mvT hZ (hw _ (List.mem_of_getElem? (i := 56) rfl))) (notFace_of_selects (args := #[]) (mvT hZ (hw _ (List.mem_of_getElem? (i := 58) rfl)))) (mvT hZ (hw _ (List.mem_of_getElem? (i := 58) rfl))) (mvT hZ (hw _ (List.mem_of_getElem? (i := 57) rfl))) (by decide) (backOf (W := 0) (rm10 l Z a0 hw [] b377 w419 b387 w438 kkb387 w441 T435.heap n0 Z437 fq435_1 fq435_3 fz435_1 (own_hA A426 B443.1)) hZ (hw _ (List.mem_of_getElem? (i := 59) rfl)) (hw _ (List.mem_of_getElem? (i := 3) rfl)) (by decide) (by decide)) q453a q453c (g := (mkF m 159 #[.val (.int pf), .val (.int pa), .val (.int pb), .val (.int px), .val (.int py), .val (.int md), .val (.int w376), .val (.ref b377), .val (.int w407), .val (.int w408), .val (.int w412), .val (.int w417), .val (.int w419), .val (.int w421), .val (.double w423), .second, .val (.double w425), .second, .val (.int w446), .val (.int w449), .unset] [(.int w419), (.ref b377)])) rfl (by rw [hml]; rfl) (Steps.refl _) (argsL := [(.int w419)]) (rest := []) (lenOf pd_0 rfl) rfl (by show 2 * 0 + _ ≤ _; exact Nat.le_of_eq rfl) (hb hby at_159) (fun _ _ => ⟨rfl, e452, (by decide : 4 + 0 ≤ _), (by decide : 4133 + 0 ≤ _)⟩)
      dsimp only [Pt.U, Pt.locs, Pt.cells, Pt.slots] at X453 l453 y453 z453 st453 hQ453
      subst l453 y453 z453
      obtain ⟨rfl, N453q, e453⟩ := hQ453
      have N453 := Fr.app N452 N453q
      obtain ⟨cq454, kq454, q454a, q454b, q454c⟩ := isOf hZ e453 Eq435
      obtain ⟨_, _, ⟨T454, L454, k454, n454⟩, -, X454, ⟨Lc454, hQ454, l454, y454, z454⟩, st454⟩ := X453.virtualBack hx (y := (⟨"com/example/libclause/libclause/search/ScoreWindow", "next", "(I)I"⟩ : MethodName)) (z := (⟨"com/example/libclause/libclause/search/ScoreWindow", "next", "(I)I"⟩ : MethodName)) hown (mvT hZ (hw _ (List.mem_of_getElem? (i := 60) rfl))) (mvT hZ (hw _ (List.mem_of_getElem? (i := 61) rfl))) (notFace_of_selects (args := #[]) (mvT hZ (hw _ (List.mem_of_getElem? (i := 63) rfl)))) (mvT hZ (hw _ (List.mem_of_getElem? (i := 63) rfl))) (mvT hZ (hw _ (List.mem_of_getElem? (i := 62) rfl))) (by decide) (backOf (W := 0) (rm11 l Z a0 hw [] b377 (w446 + (1 : Int32)) b388 w438 w439 kkb388 w442 T435.heap n0 Z437 fq435_2 fq435_3 fq435_4 fz435_2 (own_hl A426 B443 hw446)) hZ (hw _ (List.mem_of_getElem? (i := 64) rfl)) (hw _ (List.mem_of_getElem? (i := 3) rfl)) (by decide) (by decide)) q454a q454c (g := (mkF m 172 #[.val (.int pf), .val (.int pa), .val (.int pb), .val (.int px), .val (.int py), .val (.int md), .val (.int w376), .val (.ref b377), .val (.int w407), .val (.int w408), .val (.int w412), .val (.int w417), .val (.int w419), .val (.int w421), .val (.double w423), .second, .val (.double w425), .second, .val (.int w446), .val (.int w449), .unset] [(.int (w446 + (1 : Int32))), (.ref b377)])) rfl (by rw [hml]; rfl) (Steps.refl _) (argsL := [(.int (w446 + (1 : Int32)))]) (rest := []) (lenOf pd_0 rfl) rfl (by show 2 * 0 + _ ≤ _; exact Nat.le_of_eq rfl) (hb hby at_172) (fun _ _ => ⟨rfl, e453, (by decide : 4 + 0 ≤ _), (by decide : 4133 + 0 ≤ _)⟩)
      dsimp only [Pt.U, Pt.locs, Pt.cells, Pt.slots] at X454 l454 y454 z454 st454 hQ454
      subst l454 y454 z454
      obtain ⟨rfl, N454q, e454⟩ := hQ454
      have N454 := Fr.app N453 N454q
      have S455 : ∀ t, Steps p.tables e below (T454.setTop (mkF m 187 #[.val (.int pf), .val (.int pa), .val (.int pb), .val (.int px), .val (.int py), .val (.int md), .val (.int w376), .val (.ref b377), .val (.int w407), .val (.int w408), .val (.int w412), .val (.int w417), .val (.int w419), .val (.int w421), .val (.double w423), .second, .val (.double w425), .second, .val (.int w446), .val (.int w449), .val (.int (1 : Int32))] [])) t → Steps p.tables e below (s₁.setTop (entryFrame m #[(.int pf), (.int pa), (.int pb), (.int px), (.int py), (.int md)] maxLocals)) t := by
        intro t k
        refine S450 t ?_
        refine XS.icmpNo X447.here hx rfl (hb hby at_136) rfl (teq hc451).2 ?_
        show Steps p.tables e below (T447.setTop (mkF m 139 #[.val (.int pf), .val (.int pa), .val (.int pb), .val (.int px), .val (.int py), .val (.int md), .val (.int w376), .val (.ref b377), .val (.int w407), .val (.int w408), .val (.int w412), .val (.int w417), .val (.int w419), .val (.int w421), .val (.double w423), .second, .val (.double w425), .second, .val (.int w446), .val (.int w449), .unset] [])) _
        refine XS.aload X447.here hx rfl (hb hby at_139) rfl rfl ?_
        show Steps p.tables e below (T447.setTop (mkF m 141 #[.val (.int pf), .val (.int pa), .val (.int pb), .val (.int px), .val (.int py), .val (.int md), .val (.int w376), .val (.ref b377), .val (.int w407), .val (.int w408), .val (.int w412), .val (.int w417), .val (.int w419), .val (.int w421), .val (.double w423), .second, .val (.double w425), .second, .val (.int w446), .val (.int w449), .unset] [(.ref b377)])) _
        refine XS.iload X447.here hx rfl (hb hby at_141) rfl ?_
        show Steps p.tables e below (T447.setTop (mkF m 143 #[.val (.int pf), .val (.int pa), .val (.int pb), .val (.int px), .val (.int py), .val (.int md), .val (.int w376), .val (.ref b377), .val (.int w407), .val (.int w408), .val (.int w412), .val (.int w417), .val (.int w419), .val (.int w421), .val (.double w423), .second, .val (.double w425), .second, .val (.int w446), .val (.int w449), .unset] [(.int w419), (.ref b377)])) _
        refine st452.trans ?_
        show Steps p.tables e below (T452.setTop (mkF m 146 #[.val (.int pf), .val (.int pa), .val (.int pb), .val (.int px), .val (.int py), .val (.int md), .val (.int w376), .val (.ref b377), .val (.int w407), .val (.int w408), .val (.int w412), .val (.int w417), .val (.int w419), .val (.int w421), .val (.double w423), .second, .val (.double w425), .second, .val (.int w446), .val (.int w449), .unset] [(.double (f9 w419 w438 w440))])) _
        refine XS.dload X452.here hx rfl (hb hby at_146) rfl ?_
        show Steps p.tables e below (T452.setTop (mkF m 148 #[.val (.int pf), .val (.int pa), .val (.int pb), .val (.int px), .val (.int py), .val (.int md), .val (.int w376), .val (.ref b377), .val (.int w407), .val (.int w408), .val (.int w412), .val (.int w417), .val (.int w419), .val (.int w421), .val (.double w423), .second, .val (.double w425), .second, .val (.int w446), .val (.int w449), .unset] [(.double w423), (.double (f9 w419 w438 w440))])) _
        refine XS.dload X452.here hx rfl (hb hby at_148) rfl ?_
        show Steps p.tables e below (T452.setTop (mkF m 150 #[.val (.int pf), .val (.int pa), .val (.int pb), .val (.int px), .val (.int py), .val (.int md), .val (.int w376), .val (.ref b377), .val (.int w407), .val (.int w408), .val (.int w412), .val (.int w417), .val (.int w419), .val (.int w421), .val (.double w423), .second, .val (.double w425), .second, .val (.int w446), .val (.int w449), .unset] [(.double w425), (.double w423), (.double (f9 w419 w438 w440))])) _
        refine XS.daddS X452.here hx rfl (hb hby at_150) rfl (own_nxy hw423 hw425) rfl ?_
        show Steps p.tables e below (T452.setTop (mkF m 151 #[.val (.int pf), .val (.int pa), .val (.int pb), .val (.int px), .val (.int py), .val (.int md), .val (.int w376), .val (.ref b377), .val (.int w407), .val (.int w408), .val (.int w412), .val (.int w417), .val (.int w419), .val (.int w421), .val (.double w423), .second, .val (.double w425), .second, .val (.int w446), .val (.int w449), .unset] [(.double (FP.dadd w423 w425)), (.double (f9 w419 w438 w440))])) _
        refine XS.dcmpS X452.here hx rfl (hb hby at_151) rfl rfl ?_
        show Steps p.tables e below (T452.setTop (mkF m 152 #[.val (.int pf), .val (.int pa), .val (.int pb), .val (.int px), .val (.int py), .val (.int md), .val (.int w376), .val (.ref b377), .val (.int w407), .val (.int w408), .val (.int w412), .val (.int w417), .val (.int w419), .val (.int w421), .val (.double w423), .second, .val (.double w425), .second, .val (.int w446), .val (.int w449), .unset] [(.int (cmpValue (FP.dcmp (f9 w419 w438 w440) (FP.dadd w423 w425)) .l))])) _
        refine XS.ifNo X452.here hx rfl (hb hby at_152) rfl ((if0 _ _).trans (teq (own_t152 A426 B443 hw423 hw425 hc451)).2) ?_
        show Steps p.tables e below (T452.setTop (mkF m 155 #[.val (.int pf), .val (.int pa), .val (.int pb), .val (.int px), .val (.int py), .val (.int md), .val (.int w376), .val (.ref b377), .val (.int w407), .val (.int w408), .val (.int w412), .val (.int w417), .val (.int w419), .val (.int w421), .val (.double w423), .second, .val (.double w425), .second, .val (.int w446), .val (.int w449), .unset] [])) _
        refine XS.aload X452.here hx rfl (hb hby at_155) rfl rfl ?_
        show Steps p.tables e below (T452.setTop (mkF m 157 #[.val (.int pf), .val (.int pa), .val (.int pb), .val (.int px), .val (.int py), .val (.int md), .val (.int w376), .val (.ref b377), .val (.int w407), .val (.int w408), .val (.int w412), .val (.int w417), .val (.int w419), .val (.int w421), .val (.double w423), .second, .val (.double w425), .second, .val (.int w446), .val (.int w449), .unset] [(.ref b377)])) _
        refine XS.iload X452.here hx rfl (hb hby at_157) rfl ?_
        show Steps p.tables e below (T452.setTop (mkF m 159 #[.val (.int pf), .val (.int pa), .val (.int pb), .val (.int px), .val (.int py), .val (.int md), .val (.int w376), .val (.ref b377), .val (.int w407), .val (.int w408), .val (.int w412), .val (.int w417), .val (.int w419), .val (.int w421), .val (.double w423), .second, .val (.double w425), .second, .val (.int w446), .val (.int w449), .unset] [(.int w419), (.ref b377)])) _
        refine st453.trans ?_
        show Steps p.tables e below (T453.setTop (mkF m 162 #[.val (.int pf), .val (.int pa), .val (.int pb), .val (.int px), .val (.int py), .val (.int md), .val (.int w376), .val (.ref b377), .val (.int w407), .val (.int w408), .val (.int w412), .val (.int w417), .val (.int w419), .val (.int w421), .val (.double w423), .second, .val (.double w425), .second, .val (.int w446), .val (.int w449), .unset] [(.int (f10 w419 w438 w441))])) _
        refine XS.iconst X453.here hx rfl (hb hby at_162) ?_
        show Steps p.tables e below (T453.setTop (mkF m 163 #[.val (.int pf), .val (.int pa), .val (.int pb), .val (.int px), .val (.int py), .val (.int md), .val (.int w376), .val (.ref b377), .val (.int w407), .val (.int w408), .val (.int w412), .val (.int w417), .val (.int w419), .val (.int w421), .val (.double w423), .second, .val (.double w425), .second, .val (.int w446), .val (.int w449), .unset] [(.int (2 : Int32)), (.int (f10 w419 w438 w441))])) _
        refine XS.icmpNo X453.here hx rfl (hb hby at_163) rfl (teq (own_t163 A426 B443 hc451)).2 ?_
        show Steps p.tables e below (T453.setTop (mkF m 166 #[.val (.int pf), .val (.int pa), .val (.int pb), .val (.int px), .val (.int py), .val (.int md), .val (.int w376), .val (.ref b377), .val (.int w407), .val (.int w408), .val (.int w412), .val (.int w417), .val (.int w419), .val (.int w421), .val (.double w423), .second, .val (.double w425), .second, .val (.int w446), .val (.int w449), .unset] [])) _
        refine XS.aload X453.here hx rfl (hb hby at_166) rfl rfl ?_
        show Steps p.tables e below (T453.setTop (mkF m 168 #[.val (.int pf), .val (.int pa), .val (.int pb), .val (.int px), .val (.int py), .val (.int md), .val (.int w376), .val (.ref b377), .val (.int w407), .val (.int w408), .val (.int w412), .val (.int w417), .val (.int w419), .val (.int w421), .val (.double w423), .second, .val (.double w425), .second, .val (.int w446), .val (.int w449), .unset] [(.ref b377)])) _
        refine XS.iload X453.here hx rfl (hb hby at_168) rfl ?_
        show Steps p.tables e below (T453.setTop (mkF m 170 #[.val (.int pf), .val (.int pa), .val (.int pb), .val (.int px), .val (.int py), .val (.int md), .val (.int w376), .val (.ref b377), .val (.int w407), .val (.int w408), .val (.int w412), .val (.int w417), .val (.int w419), .val (.int w421), .val (.double w423), .second, .val (.double w425), .second, .val (.int w446), .val (.int w449), .unset] [(.int w446), (.ref b377)])) _
        refine XS.iconst X453.here hx rfl (hb hby at_170) ?_
        show Steps p.tables e below (T453.setTop (mkF m 171 #[.val (.int pf), .val (.int pa), .val (.int pb), .val (.int px), .val (.int py), .val (.int md), .val (.int w376), .val (.ref b377), .val (.int w407), .val (.int w408), .val (.int w412), .val (.int w417), .val (.int w419), .val (.int w421), .val (.double w423), .second, .val (.double w425), .second, .val (.int w446), .val (.int w449), .unset] [(.int (1 : Int32)), (.int w446), (.ref b377)])) _
        refine XS.iadd X453.here hx rfl (hb hby at_171) rfl ?_
        show Steps p.tables e below (T453.setTop (mkF m 172 #[.val (.int pf), .val (.int pa), .val (.int pb), .val (.int px), .val (.int py), .val (.int md), .val (.int w376), .val (.ref b377), .val (.int w407), .val (.int w408), .val (.int w412), .val (.int w417), .val (.int w419), .val (.int w421), .val (.double w423), .second, .val (.double w425), .second, .val (.int w446), .val (.int w449), .unset] [(.int (w446 + (1 : Int32))), (.ref b377)])) _
        refine st454.trans ?_
        show Steps p.tables e below (T454.setTop (mkF m 175 #[.val (.int pf), .val (.int pa), .val (.int pb), .val (.int px), .val (.int py), .val (.int md), .val (.int w376), .val (.ref b377), .val (.int w407), .val (.int w408), .val (.int w412), .val (.int w417), .val (.int w419), .val (.int w421), .val (.double w423), .second, .val (.double w425), .second, .val (.int w446), .val (.int w449), .unset] [(.int (f11 (w446 + (1 : Int32)) w438 w439 w442))])) _
        refine XS.iload X454.here hx rfl (hb hby at_175) rfl ?_
        show Steps p.tables e below (T454.setTop (mkF m 177 #[.val (.int pf), .val (.int pa), .val (.int pb), .val (.int px), .val (.int py), .val (.int md), .val (.int w376), .val (.ref b377), .val (.int w407), .val (.int w408), .val (.int w412), .val (.int w417), .val (.int w419), .val (.int w421), .val (.double w423), .second, .val (.double w425), .second, .val (.int w446), .val (.int w449), .unset] [(.int w407), (.int (f11 (w446 + (1 : Int32)) w438 w439 w442))])) _
        refine XS.icmpNo X454.here hx rfl (hb hby at_177) rfl (teq (own_t177 A426 B443 hw446 hc451)).2 ?_
        show Steps p.tables e below (T454.setTop (mkF m 180 #[.val (.int pf), .val (.int pa), .val (.int pb), .val (.int px), .val (.int py), .val (.int md), .val (.int w376), .val (.ref b377), .val (.int w407), .val (.int w408), .val (.int w412), .val (.int w417), .val (.int w419), .val (.int w421), .val (.double w423), .second, .val (.double w425), .second, .val (.int w446), .val (.int w449), .unset] [])) _
        refine XS.iconst X454.here hx rfl (hb hby at_180) ?_
        show Steps p.tables e below (T454.setTop (mkF m 181 #[.val (.int pf), .val (.int pa), .val (.int pb), .val (.int px), .val (.int py), .val (.int md), .val (.int w376), .val (.ref b377), .val (.int w407), .val (.int w408), .val (.int w412), .val (.int w417), .val (.int w419), .val (.int w421), .val (.double w423), .second, .val (.double w425), .second, .val (.int w446), .val (.int w449), .unset] [(.int (1 : Int32))])) _
        refine XS.goto X454.here hx rfl (pc0 := 181) (pc' := 185) rfl (hb hby at_181) (by decide) (by decide) ?_
        show Steps p.tables e below (T454.setTop (mkF m 185 #[.val (.int pf), .val (.int pa), .val (.int pb), .val (.int px), .val (.int py), .val (.int md), .val (.int w376), .val (.ref b377), .val (.int w407), .val (.int w408), .val (.int w412), .val (.int w417), .val (.int w419), .val (.int w421), .val (.double w423), .second, .val (.double w425), .second, .val (.int w446), .val (.int w449), .unset] [(.int (1 : Int32))])) _
        refine XS.istore X454.here hx rfl (hb hby at_185) rfl (l' := #[.val (.int pf), .val (.int pa), .val (.int pb), .val (.int px), .val (.int py), .val (.int md), .val (.int w376), .val (.ref b377), .val (.int w407), .val (.int w408), .val (.int w412), .val (.int w417), .val (.int w419), .val (.int w421), .val (.double w423), .second, .val (.double w425), .second, .val (.int w446), .val (.int w449), .val (.int (1 : Int32))]) rfl ?_
        show Steps p.tables e below (T454.setTop (mkF m 187 #[.val (.int pf), .val (.int pa), .val (.int pb), .val (.int px), .val (.int py), .val (.int md), .val (.int w376), .val (.ref b377), .val (.int w407), .val (.int w408), .val (.int w412), .val (.int w417), .val (.int w419), .val (.int w421), .val (.double w423), .second, .val (.double w425), .second, .val (.int w446), .val (.int w449), .val (.int (1 : Int32))] [])) _
        exact k
      obtain ⟨cq456, kq456, q456a, q456b, q456c⟩ := isOf hZ e454 Eq435
      obtain ⟨_, _, ⟨T456, L456, k456, n456⟩, -, X456, ⟨Lc456, hQ456, l456, y456, z456⟩, st456⟩ := X454.virtualBack hx (y := (⟨"com/example/libclause/libclause/search/ScoreWindow", "next", "(I)I"⟩ : MethodName)) (z := (⟨"com/example/libclause/libclause/search/ScoreWindow", "next", "(I)I"⟩ : MethodName)) hown (mvT hZ (hw _ (List.mem_of_getElem? (i := 60) rfl))) (mvT hZ (hw _ (List.mem_of_getElem? (i := 61) rfl))) (notFace_of_selects (args := #[]) (mvT hZ (hw _ (List.mem_of_getElem? (i := 63) rfl)))) (mvT hZ (hw _ (List.mem_of_getElem? (i := 63) rfl))) (mvT hZ (hw _ (List.mem_of_getElem? (i := 62) rfl))) (by decide) (backOf (W := 0) (rm11 l Z a0 hw [] b377 w376 b388 w438 w439 kkb388 w442 T435.heap n0 Z437 fq435_2 fq435_3 fq435_4 fz435_2 (own_hf B443)) hZ (hw _ (List.mem_of_getElem? (i := 64) rfl)) (hw _ (List.mem_of_getElem? (i := 3) rfl)) (by decide) (by decide)) q456a q456c (g := (mkF m 268 #[.val (.int pf), .val (.int pa), .val (.int pb), .val (.int px), .val (.int py), .val (.int md), .val (.int w376), .val (.ref b377), .val (.int w407), .val (.int w408), .val (.int w412), .val (.int w417), .val (.int w419), .val (.int w421), .val (.double w423), .second, .val (.double w425), .second, .val (.int w446), .val (.int w449), .val (.int (1 : Int32))] [(.int w376), (.ref b377)])) rfl (by rw [hml]; rfl) (Steps.refl _) (argsL := [(.int w376)]) (rest := []) (lenOf pd_0 rfl) rfl (by show 2 * 0 + _ ≤ _; exact Nat.le_of_eq rfl) (hb hby at_268) (fun _ _ => ⟨rfl, e454, (by decide : 4 + 0 ≤ _), (by decide : 4133 + 0 ≤ _)⟩)
      dsimp only [Pt.U, Pt.locs, Pt.cells, Pt.slots] at X456 l456 y456 z456 st456 hQ456
      subst l456 y456 z456
      obtain ⟨rfl, N456q, e456⟩ := hQ456
      have N456 := Fr.app N454 N456q
      obtain ⟨cq457, kq457, q457a, q457b, q457c⟩ := isOf hZ e456 Eq435
      obtain ⟨_, _, ⟨T457, L457, k457, n457⟩, -, X457, ⟨Lc457, hQ457, l457, y457, z457⟩, st457⟩ := X456.virtualBack hx (y := (⟨"com/example/libclause/libclause/search/ScoreWindow", "next", "(I)I"⟩ : MethodName)) (z := (⟨"com/example/libclause/libclause/search/ScoreWindow", "next", "(I)I"⟩ : MethodName)) hown (mvT hZ (hw _ (List.mem_of_getElem? (i := 60) rfl))) (mvT hZ (hw _ (List.mem_of_getElem? (i := 61) rfl))) (notFace_of_selects (args := #[]) (mvT hZ (hw _ (List.mem_of_getElem? (i := 63) rfl)))) (mvT hZ (hw _ (List.mem_of_getElem? (i := 63) rfl))) (mvT hZ (hw _ (List.mem_of_getElem? (i := 62) rfl))) (by decide) (backOf (W := 0) (rm11 l Z a0 hw [] b377 (w449 + (1 : Int32)) b388 w438 w439 kkb388 w442 T435.heap n0 Z437 fq435_2 fq435_3 fq435_4 fz435_2 (own_hh A426 B443 hw449)) hZ (hw _ (List.mem_of_getElem? (i := 64) rfl)) (hw _ (List.mem_of_getElem? (i := 3) rfl)) (by decide) (by decide)) q457a q457c (g := (mkF m 282 #[.val (.int pf), .val (.int pa), .val (.int pb), .val (.int px), .val (.int py), .val (.int md), .val (.int w376), .val (.ref b377), .val (.int w407), .val (.int w408), .val (.int w412), .val (.int w417), .val (.int w419), .val (.int w421), .val (.double w423), .second, .val (.double w425), .second, .val (.int w446), .val (.int w449), .val (.int (1 : Int32))] [(.int (w449 + (1 : Int32))), (.ref b377)])) rfl (by rw [hml]; rfl) (Steps.refl _) (argsL := [(.int (w449 + (1 : Int32)))]) (rest := []) (lenOf pd_0 rfl) rfl (by show 2 * 0 + _ ≤ _; exact Nat.le_of_eq rfl) (hb hby at_282) (fun _ _ => ⟨rfl, e456, (by decide : 4 + 0 ≤ _), (by decide : 4133 + 0 ≤ _)⟩)
      dsimp only [Pt.U, Pt.locs, Pt.cells, Pt.slots] at X457 l457 y457 z457 st457 hQ457
      subst l457 y457 z457
      obtain ⟨rfl, N457q, e457⟩ := hQ457
      have N457 := Fr.app N456 N457q
      have S458 : ∀ t, Steps p.tables e below (T457.setTop (mkF m 295 #[.val (.int pf), .val (.int pa), .val (.int pb), .val (.int px), .val (.int py), .val (.int md), .val (.int w376), .val (.ref b377), .val (.int w407), .val (.int w408), .val (.int w412), .val (.int w417), .val (.int w419), .val (.int w421), .val (.double w423), .second, .val (.double w425), .second, .val (.int w446), .val (.int w449), .val (.int (1 : Int32))] [(.int (1 : Int32))])) t → Steps p.tables e below (s₁.setTop (entryFrame m #[(.int pf), (.int pa), (.int pb), (.int px), (.int py), (.int md)] maxLocals)) t := by
        intro t k
        refine S455 t ?_
        refine XS.goto X454.here hx rfl (pc0 := 187) (pc' := 259) rfl (hb hby at_187) (by decide) (by decide) ?_
        show Steps p.tables e below (T454.setTop (mkF m 259 #[.val (.int pf), .val (.int pa), .val (.int pb), .val (.int px), .val (.int py), .val (.int md), .val (.int w376), .val (.ref b377), .val (.int w407), .val (.int w408), .val (.int w412), .val (.int w417), .val (.int w419), .val (.int w421), .val (.double w423), .second, .val (.double w425), .second, .val (.int w446), .val (.int w449), .val (.int (1 : Int32))] [])) _
        refine XS.iload X454.here hx rfl (hb hby at_259) rfl ?_
        show Steps p.tables e below (T454.setTop (mkF m 261 #[.val (.int pf), .val (.int pa), .val (.int pb), .val (.int px), .val (.int py), .val (.int md), .val (.int w376), .val (.ref b377), .val (.int w407), .val (.int w408), .val (.int w412), .val (.int w417), .val (.int w419), .val (.int w421), .val (.double w423), .second, .val (.double w425), .second, .val (.int w446), .val (.int w449), .val (.int (1 : Int32))] [(.int (1 : Int32))])) _
        refine XS.ifNo X454.here hx rfl (hb hby at_261) rfl ((if0 _ _).trans (feq (by decide : ¬ ((1 : Int32) = (0 : Int32)))).1) ?_
        show Steps p.tables e below (T454.setTop (mkF m 264 #[.val (.int pf), .val (.int pa), .val (.int pb), .val (.int px), .val (.int py), .val (.int md), .val (.int w376), .val (.ref b377), .val (.int w407), .val (.int w408), .val (.int w412), .val (.int w417), .val (.int w419), .val (.int w421), .val (.double w423), .second, .val (.double w425), .second, .val (.int w446), .val (.int w449), .val (.int (1 : Int32))] [])) _
        refine XS.aload X454.here hx rfl (hb hby at_264) rfl rfl ?_
        show Steps p.tables e below (T454.setTop (mkF m 266 #[.val (.int pf), .val (.int pa), .val (.int pb), .val (.int px), .val (.int py), .val (.int md), .val (.int w376), .val (.ref b377), .val (.int w407), .val (.int w408), .val (.int w412), .val (.int w417), .val (.int w419), .val (.int w421), .val (.double w423), .second, .val (.double w425), .second, .val (.int w446), .val (.int w449), .val (.int (1 : Int32))] [(.ref b377)])) _
        refine XS.iload X454.here hx rfl (hb hby at_266) rfl ?_
        show Steps p.tables e below (T454.setTop (mkF m 268 #[.val (.int pf), .val (.int pa), .val (.int pb), .val (.int px), .val (.int py), .val (.int md), .val (.int w376), .val (.ref b377), .val (.int w407), .val (.int w408), .val (.int w412), .val (.int w417), .val (.int w419), .val (.int w421), .val (.double w423), .second, .val (.double w425), .second, .val (.int w446), .val (.int w449), .val (.int (1 : Int32))] [(.int w376), (.ref b377)])) _
        refine st456.trans ?_
        show Steps p.tables e below (T456.setTop (mkF m 271 #[.val (.int pf), .val (.int pa), .val (.int pb), .val (.int px), .val (.int py), .val (.int md), .val (.int w376), .val (.ref b377), .val (.int w407), .val (.int w408), .val (.int w412), .val (.int w417), .val (.int w419), .val (.int w421), .val (.double w423), .second, .val (.double w425), .second, .val (.int w446), .val (.int w449), .val (.int (1 : Int32))] [(.int (f11 w376 w438 w439 w442))])) _
        refine XS.iload X456.here hx rfl (hb hby at_271) rfl ?_
        show Steps p.tables e below (T456.setTop (mkF m 273 #[.val (.int pf), .val (.int pa), .val (.int pb), .val (.int px), .val (.int py), .val (.int md), .val (.int w376), .val (.ref b377), .val (.int w407), .val (.int w408), .val (.int w412), .val (.int w417), .val (.int w419), .val (.int w421), .val (.double w423), .second, .val (.double w425), .second, .val (.int w446), .val (.int w449), .val (.int (1 : Int32))] [(.int w446), (.int (f11 w376 w438 w439 w442))])) _
        refine XS.icmpNo X456.here hx rfl (hb hby at_273) rfl (teq (own_t273 A426 B443 hw446)).2 ?_
        show Steps p.tables e below (T456.setTop (mkF m 276 #[.val (.int pf), .val (.int pa), .val (.int pb), .val (.int px), .val (.int py), .val (.int md), .val (.int w376), .val (.ref b377), .val (.int w407), .val (.int w408), .val (.int w412), .val (.int w417), .val (.int w419), .val (.int w421), .val (.double w423), .second, .val (.double w425), .second, .val (.int w446), .val (.int w449), .val (.int (1 : Int32))] [])) _
        refine XS.aload X456.here hx rfl (hb hby at_276) rfl rfl ?_
        show Steps p.tables e below (T456.setTop (mkF m 278 #[.val (.int pf), .val (.int pa), .val (.int pb), .val (.int px), .val (.int py), .val (.int md), .val (.int w376), .val (.ref b377), .val (.int w407), .val (.int w408), .val (.int w412), .val (.int w417), .val (.int w419), .val (.int w421), .val (.double w423), .second, .val (.double w425), .second, .val (.int w446), .val (.int w449), .val (.int (1 : Int32))] [(.ref b377)])) _
        refine XS.iload X456.here hx rfl (hb hby at_278) rfl ?_
        show Steps p.tables e below (T456.setTop (mkF m 280 #[.val (.int pf), .val (.int pa), .val (.int pb), .val (.int px), .val (.int py), .val (.int md), .val (.int w376), .val (.ref b377), .val (.int w407), .val (.int w408), .val (.int w412), .val (.int w417), .val (.int w419), .val (.int w421), .val (.double w423), .second, .val (.double w425), .second, .val (.int w446), .val (.int w449), .val (.int (1 : Int32))] [(.int w449), (.ref b377)])) _
        refine XS.iconst X456.here hx rfl (hb hby at_280) ?_
        show Steps p.tables e below (T456.setTop (mkF m 281 #[.val (.int pf), .val (.int pa), .val (.int pb), .val (.int px), .val (.int py), .val (.int md), .val (.int w376), .val (.ref b377), .val (.int w407), .val (.int w408), .val (.int w412), .val (.int w417), .val (.int w419), .val (.int w421), .val (.double w423), .second, .val (.double w425), .second, .val (.int w446), .val (.int w449), .val (.int (1 : Int32))] [(.int (1 : Int32)), (.int w449), (.ref b377)])) _
        refine XS.iadd X456.here hx rfl (hb hby at_281) rfl ?_
        show Steps p.tables e below (T456.setTop (mkF m 282 #[.val (.int pf), .val (.int pa), .val (.int pb), .val (.int px), .val (.int py), .val (.int md), .val (.int w376), .val (.ref b377), .val (.int w407), .val (.int w408), .val (.int w412), .val (.int w417), .val (.int w419), .val (.int w421), .val (.double w423), .second, .val (.double w425), .second, .val (.int w446), .val (.int w449), .val (.int (1 : Int32))] [(.int (w449 + (1 : Int32))), (.ref b377)])) _
        refine st457.trans ?_
        show Steps p.tables e below (T457.setTop (mkF m 285 #[.val (.int pf), .val (.int pa), .val (.int pb), .val (.int px), .val (.int py), .val (.int md), .val (.int w376), .val (.ref b377), .val (.int w407), .val (.int w408), .val (.int w412), .val (.int w417), .val (.int w419), .val (.int w421), .val (.double w423), .second, .val (.double w425), .second, .val (.int w446), .val (.int w449), .val (.int (1 : Int32))] [(.int (f11 (w449 + (1 : Int32)) w438 w439 w442))])) _
        refine XS.iload X457.here hx rfl (hb hby at_285) rfl ?_
        show Steps p.tables e below (T457.setTop (mkF m 287 #[.val (.int pf), .val (.int pa), .val (.int pb), .val (.int px), .val (.int py), .val (.int md), .val (.int w376), .val (.ref b377), .val (.int w407), .val (.int w408), .val (.int w412), .val (.int w417), .val (.int w419), .val (.int w421), .val (.double w423), .second, .val (.double w425), .second, .val (.int w446), .val (.int w449), .val (.int (1 : Int32))] [(.int w407), (.int (f11 (w449 + (1 : Int32)) w438 w439 w442))])) _
        refine XS.icmpNo X457.here hx rfl (hb hby at_287) rfl (teq (own_t287 A426 B443 hw449)).2 ?_
        show Steps p.tables e below (T457.setTop (mkF m 290 #[.val (.int pf), .val (.int pa), .val (.int pb), .val (.int px), .val (.int py), .val (.int md), .val (.int w376), .val (.ref b377), .val (.int w407), .val (.int w408), .val (.int w412), .val (.int w417), .val (.int w419), .val (.int w421), .val (.double w423), .second, .val (.double w425), .second, .val (.int w446), .val (.int w449), .val (.int (1 : Int32))] [])) _
        refine XS.iconst X457.here hx rfl (hb hby at_290) ?_
        show Steps p.tables e below (T457.setTop (mkF m 291 #[.val (.int pf), .val (.int pa), .val (.int pb), .val (.int px), .val (.int py), .val (.int md), .val (.int w376), .val (.ref b377), .val (.int w407), .val (.int w408), .val (.int w412), .val (.int w417), .val (.int w419), .val (.int w421), .val (.double w423), .second, .val (.double w425), .second, .val (.int w446), .val (.int w449), .val (.int (1 : Int32))] [(.int (1 : Int32))])) _
        refine XS.goto X457.here hx rfl (pc0 := 291) (pc' := 295) rfl (hb hby at_291) (by decide) (by decide) ?_
        show Steps p.tables e below (T457.setTop (mkF m 295 #[.val (.int pf), .val (.int pa), .val (.int pb), .val (.int px), .val (.int py), .val (.int md), .val (.int w376), .val (.ref b377), .val (.int w407), .val (.int w408), .val (.int w412), .val (.int w417), .val (.int w419), .val (.int w421), .val (.double w423), .second, .val (.double w425), .second, .val (.int w446), .val (.int w449), .val (.int (1 : Int32))] [(.int (1 : Int32))])) _
        exact k
      obtain ⟨fs, hr, hrun, hended, hW, hsame⟩ := X457.leave (v := some (.int (1 : Int32))) (fun h => by rw [Bd.returns] at h; cases h)
      refine ⟨_, _, S458 _ ?_, hrun, hended, _, _, rfl, ?_, ⟨_, rfl⟩, hW, hsame.mono (by decide) (by decide)⟩
      · exact retN X457 hx (t := .boolean) Bd.returns (by simp) (hb hby at_295) hr
      · show Q0 Z pf pa pb px py md h0 n0 _ T457.heap _
        rw [e457]
        exact ⟨rfl, N457⟩
    · obtain ⟨cq459, kq459, q459a, q459b, q459c⟩ := isOf hZ e447 Eq435
      obtain ⟨_, _, ⟨T459, L459, k459, n459⟩, -, X459, ⟨Lc459, hQ459, l459, y459, z459⟩, st459⟩ := X447.virtualBack hx (y := (⟨"com/example/libclause/libclause/search/ScoreWindow", "score", "(I)D"⟩ : MethodName)) (z := (⟨"com/example/libclause/libclause/search/ScoreWindow", "score", "(I)D"⟩ : MethodName)) hown (mvT hZ (hw _ (List.mem_of_getElem? (i := 50) rfl))) (mvT hZ (hw _ (List.mem_of_getElem? (i := 51) rfl))) (notFace_of_selects (args := #[]) (mvT hZ (hw _ (List.mem_of_getElem? (i := 53) rfl)))) (mvT hZ (hw _ (List.mem_of_getElem? (i := 53) rfl))) (mvT hZ (hw _ (List.mem_of_getElem? (i := 52) rfl))) (by decide) (backOf (W := 0) (rm9 l Z a0 hw [] b377 w419 b386 w438 kkb386 w440 T435.heap n0 Z437 fq435_0 fq435_3 fz435_0 (own_hA A426 B443.1)) hZ (hw _ (List.mem_of_getElem? (i := 54) rfl)) (hw _ (List.mem_of_getElem? (i := 3) rfl)) (by decide) (by decide)) q459a q459c (g := (mkF m 194 #[.val (.int pf), .val (.int pa), .val (.int pb), .val (.int px), .val (.int py), .val (.int md), .val (.int w376), .val (.ref b377), .val (.int w407), .val (.int w408), .val (.int w412), .val (.int w417), .val (.int w419), .val (.int w421), .val (.double w423), .second, .val (.double w425), .second, .val (.int w446), .val (.int w449), .unset] [(.int w419), (.ref b377)])) rfl (by rw [hml]; rfl) (Steps.refl _) (argsL := [(.int w419)]) (rest := []) (lenOf pd_8 rfl) rfl (by show 2 * 0 + _ ≤ _; exact Nat.le_of_eq rfl) (hb hby at_194) (fun _ _ => ⟨rfl, e447, (by decide : 4 + 0 ≤ _), (by decide : 4133 + 0 ≤ _)⟩)
      dsimp only [Pt.U, Pt.locs, Pt.cells, Pt.slots] at X459 l459 y459 z459 st459 hQ459
      subst l459 y459 z459
      obtain ⟨rfl, N459q, e459⟩ := hQ459
      have N459 := Fr.app N447 N459q
      obtain ⟨cq460, kq460, q460a, q460b, q460c⟩ := isOf hZ e459 Eq435
      obtain ⟨_, _, ⟨T460, L460, k460, n460⟩, -, X460, ⟨Lc460, hQ460, l460, y460, z460⟩, st460⟩ := X459.virtualBack hx (y := (⟨"com/example/libclause/libclause/search/ScoreWindow", "score", "(I)D"⟩ : MethodName)) (z := (⟨"com/example/libclause/libclause/search/ScoreWindow", "score", "(I)D"⟩ : MethodName)) hown (mvT hZ (hw _ (List.mem_of_getElem? (i := 50) rfl))) (mvT hZ (hw _ (List.mem_of_getElem? (i := 51) rfl))) (notFace_of_selects (args := #[]) (mvT hZ (hw _ (List.mem_of_getElem? (i := 53) rfl)))) (mvT hZ (hw _ (List.mem_of_getElem? (i := 53) rfl))) (mvT hZ (hw _ (List.mem_of_getElem? (i := 52) rfl))) (by decide) (backOf (W := 0) (rm9 l Z a0 hw [] b377 w421 b386 w438 kkb386 w440 T435.heap n0 Z437 fq435_0 fq435_3 fz435_0 (own_hB A426 B443.1)) hZ (hw _ (List.mem_of_getElem? (i := 54) rfl)) (hw _ (List.mem_of_getElem? (i := 3) rfl)) (by decide) (by decide)) q460a q460c (g := (mkF m 207 #[.val (.int pf), .val (.int pa), .val (.int pb), .val (.int px), .val (.int py), .val (.int md), .val (.int w376), .val (.ref b377), .val (.int w407), .val (.int w408), .val (.int w412), .val (.int w417), .val (.int w419), .val (.int w421), .val (.double w423), .second, .val (.double w425), .second, .val (.int w446), .val (.int w449), .unset] [(.int w421), (.ref b377)])) rfl (by rw [hml]; rfl) (Steps.refl _) (argsL := [(.int w421)]) (rest := []) (lenOf pd_8 rfl) rfl (by show 2 * 0 + _ ≤ _; exact Nat.le_of_eq rfl) (hb hby at_207) (fun _ _ => ⟨rfl, e459, (by decide : 4 + 0 ≤ _), (by decide : 4133 + 0 ≤ _)⟩)
      dsimp only [Pt.U, Pt.locs, Pt.cells, Pt.slots] at X460 l460 y460 z460 st460 hQ460
      subst l460 y460 z460
      obtain ⟨rfl, N460q, e460⟩ := hQ460
      have N460 := Fr.app N459 N460q
      obtain ⟨cq461, kq461, q461a, q461b, q461c⟩ := isOf hZ e460 Eq435
      obtain ⟨_, _, ⟨T461, L461, k461, n461⟩, -, X461, ⟨Lc461, hQ461, l461, y461, z461⟩, st461⟩ := X460.virtualBack hx (y := (⟨"com/example/libclause/libclause/search/ScoreWindow", "count", "(I)I"⟩ : MethodName)) (z := (⟨"com/example/libclause/libclause/search/ScoreWindow", "count", "(I)I"⟩ : MethodName)) hown (mvT hZ (hw _ (List.mem_of_getElem? (i := 55) rfl))) (mvT hZ (hw _ (List.mem_of_getElem? (i := 56) rfl))) (notFace_of_selects (args := #[]) (mvT hZ (hw _ (List.mem_of_getElem? (i := 58) rfl)))) (mvT hZ (hw _ (List.mem_of_getElem? (i := 58) rfl))) (mvT hZ (hw _ (List.mem_of_getElem? (i := 57) rfl))) (by decide) (backOf (W := 0) (rm10 l Z a0 hw [] b377 w419 b387 w438 kkb387 w441 T435.heap n0 Z437 fq435_1 fq435_3 fz435_1 (own_hA A426 B443.1)) hZ (hw _ (List.mem_of_getElem? (i := 59) rfl)) (hw _ (List.mem_of_getElem? (i := 3) rfl)) (by decide) (by decide)) q461a q461c (g := (mkF m 220 #[.val (.int pf), .val (.int pa), .val (.int pb), .val (.int px), .val (.int py), .val (.int md), .val (.int w376), .val (.ref b377), .val (.int w407), .val (.int w408), .val (.int w412), .val (.int w417), .val (.int w419), .val (.int w421), .val (.double w423), .second, .val (.double w425), .second, .val (.int w446), .val (.int w449), .unset] [(.int w419), (.ref b377)])) rfl (by rw [hml]; rfl) (Steps.refl _) (argsL := [(.int w419)]) (rest := []) (lenOf pd_0 rfl) rfl (by show 2 * 0 + _ ≤ _; exact Nat.le_of_eq rfl) (hb hby at_220) (fun _ _ => ⟨rfl, e460, (by decide : 4 + 0 ≤ _), (by decide : 4133 + 0 ≤ _)⟩)
      dsimp only [Pt.U, Pt.locs, Pt.cells, Pt.slots] at X461 l461 y461 z461 st461 hQ461
      subst l461 y461 z461
      obtain ⟨rfl, N461q, e461⟩ := hQ461
      have N461 := Fr.app N460 N461q
      obtain ⟨cq462, kq462, q462a, q462b, q462c⟩ := isOf hZ e461 Eq435
      obtain ⟨_, _, ⟨T462, L462, k462, n462⟩, -, X462, ⟨Lc462, hQ462, l462, y462, z462⟩, st462⟩ := X461.virtualBack hx (y := (⟨"com/example/libclause/libclause/search/ScoreWindow", "count", "(I)I"⟩ : MethodName)) (z := (⟨"com/example/libclause/libclause/search/ScoreWindow", "count", "(I)I"⟩ : MethodName)) hown (mvT hZ (hw _ (List.mem_of_getElem? (i := 55) rfl))) (mvT hZ (hw _ (List.mem_of_getElem? (i := 56) rfl))) (notFace_of_selects (args := #[]) (mvT hZ (hw _ (List.mem_of_getElem? (i := 58) rfl)))) (mvT hZ (hw _ (List.mem_of_getElem? (i := 58) rfl))) (mvT hZ (hw _ (List.mem_of_getElem? (i := 57) rfl))) (by decide) (backOf (W := 0) (rm10 l Z a0 hw [] b377 w421 b387 w438 kkb387 w441 T435.heap n0 Z437 fq435_1 fq435_3 fz435_1 (own_hB A426 B443.1)) hZ (hw _ (List.mem_of_getElem? (i := 59) rfl)) (hw _ (List.mem_of_getElem? (i := 3) rfl)) (by decide) (by decide)) q462a q462c (g := (mkF m 231 #[.val (.int pf), .val (.int pa), .val (.int pb), .val (.int px), .val (.int py), .val (.int md), .val (.int w376), .val (.ref b377), .val (.int w407), .val (.int w408), .val (.int w412), .val (.int w417), .val (.int w419), .val (.int w421), .val (.double w423), .second, .val (.double w425), .second, .val (.int w446), .val (.int w449), .unset] [(.int w421), (.ref b377)])) rfl (by rw [hml]; rfl) (Steps.refl _) (argsL := [(.int w421)]) (rest := []) (lenOf pd_0 rfl) rfl (by show 2 * 0 + _ ≤ _; exact Nat.le_of_eq rfl) (hb hby at_231) (fun _ _ => ⟨rfl, e461, (by decide : 4 + 0 ≤ _), (by decide : 4133 + 0 ≤ _)⟩)
      dsimp only [Pt.U, Pt.locs, Pt.cells, Pt.slots] at X462 l462 y462 z462 st462 hQ462
      subst l462 y462 z462
      obtain ⟨rfl, N462q, e462⟩ := hQ462
      have N462 := Fr.app N461 N462q
      obtain ⟨cq463, kq463, q463a, q463b, q463c⟩ := isOf hZ e462 Eq435
      obtain ⟨_, _, ⟨T463, L463, k463, n463⟩, -, X463, ⟨Lc463, hQ463, l463, y463, z463⟩, st463⟩ := X462.virtualBack hx (y := (⟨"com/example/libclause/libclause/search/ScoreWindow", "next", "(I)I"⟩ : MethodName)) (z := (⟨"com/example/libclause/libclause/search/ScoreWindow", "next", "(I)I"⟩ : MethodName)) hown (mvT hZ (hw _ (List.mem_of_getElem? (i := 60) rfl))) (mvT hZ (hw _ (List.mem_of_getElem? (i := 61) rfl))) (notFace_of_selects (args := #[]) (mvT hZ (hw _ (List.mem_of_getElem? (i := 63) rfl)))) (mvT hZ (hw _ (List.mem_of_getElem? (i := 63) rfl))) (mvT hZ (hw _ (List.mem_of_getElem? (i := 62) rfl))) (by decide) (backOf (W := 0) (rm11 l Z a0 hw [] b377 (w446 + (1 : Int32)) b388 w438 w439 kkb388 w442 T435.heap n0 Z437 fq435_2 fq435_3 fq435_4 fz435_2 (own_hl A426 B443 hw446)) hZ (hw _ (List.mem_of_getElem? (i := 64) rfl)) (hw _ (List.mem_of_getElem? (i := 3) rfl)) (by decide) (by decide)) q463a q463c (g := (mkF m 244 #[.val (.int pf), .val (.int pa), .val (.int pb), .val (.int px), .val (.int py), .val (.int md), .val (.int w376), .val (.ref b377), .val (.int w407), .val (.int w408), .val (.int w412), .val (.int w417), .val (.int w419), .val (.int w421), .val (.double w423), .second, .val (.double w425), .second, .val (.int w446), .val (.int w449), .unset] [(.int (w446 + (1 : Int32))), (.ref b377)])) rfl (by rw [hml]; rfl) (Steps.refl _) (argsL := [(.int (w446 + (1 : Int32)))]) (rest := []) (lenOf pd_0 rfl) rfl (by show 2 * 0 + _ ≤ _; exact Nat.le_of_eq rfl) (hb hby at_244) (fun _ _ => ⟨rfl, e462, (by decide : 4 + 0 ≤ _), (by decide : 4133 + 0 ≤ _)⟩)
      dsimp only [Pt.U, Pt.locs, Pt.cells, Pt.slots] at X463 l463 y463 z463 st463 hQ463
      subst l463 y463 z463
      obtain ⟨rfl, N463q, e463⟩ := hQ463
      have N463 := Fr.app N462 N463q
      have S464 : ∀ t, Steps p.tables e below (T463.setTop (mkF m 259 #[.val (.int pf), .val (.int pa), .val (.int pb), .val (.int px), .val (.int py), .val (.int md), .val (.int w376), .val (.ref b377), .val (.int w407), .val (.int w408), .val (.int w412), .val (.int w417), .val (.int w419), .val (.int w421), .val (.double w423), .second, .val (.double w425), .second, .val (.int w446), .val (.int w449), .val (.int (1 : Int32))] [])) t → Steps p.tables e below (s₁.setTop (entryFrame m #[(.int pf), (.int pa), (.int pb), (.int px), (.int py), (.int md)] maxLocals)) t := by
        intro t k
        refine S450 t ?_
        refine XS.icmpYes X447.here hx rfl (pc0 := 136) (pc' := 190) rfl (hb hby at_136) rfl (feq hc451).2 (by decide) (by decide) ?_
        show Steps p.tables e below (T447.setTop (mkF m 190 #[.val (.int pf), .val (.int pa), .val (.int pb), .val (.int px), .val (.int py), .val (.int md), .val (.int w376), .val (.ref b377), .val (.int w407), .val (.int w408), .val (.int w412), .val (.int w417), .val (.int w419), .val (.int w421), .val (.double w423), .second, .val (.double w425), .second, .val (.int w446), .val (.int w449), .unset] [])) _
        refine XS.aload X447.here hx rfl (hb hby at_190) rfl rfl ?_
        show Steps p.tables e below (T447.setTop (mkF m 192 #[.val (.int pf), .val (.int pa), .val (.int pb), .val (.int px), .val (.int py), .val (.int md), .val (.int w376), .val (.ref b377), .val (.int w407), .val (.int w408), .val (.int w412), .val (.int w417), .val (.int w419), .val (.int w421), .val (.double w423), .second, .val (.double w425), .second, .val (.int w446), .val (.int w449), .unset] [(.ref b377)])) _
        refine XS.iload X447.here hx rfl (hb hby at_192) rfl ?_
        show Steps p.tables e below (T447.setTop (mkF m 194 #[.val (.int pf), .val (.int pa), .val (.int pb), .val (.int px), .val (.int py), .val (.int md), .val (.int w376), .val (.ref b377), .val (.int w407), .val (.int w408), .val (.int w412), .val (.int w417), .val (.int w419), .val (.int w421), .val (.double w423), .second, .val (.double w425), .second, .val (.int w446), .val (.int w449), .unset] [(.int w419), (.ref b377)])) _
        refine st459.trans ?_
        show Steps p.tables e below (T459.setTop (mkF m 197 #[.val (.int pf), .val (.int pa), .val (.int pb), .val (.int px), .val (.int py), .val (.int md), .val (.int w376), .val (.ref b377), .val (.int w407), .val (.int w408), .val (.int w412), .val (.int w417), .val (.int w419), .val (.int w421), .val (.double w423), .second, .val (.double w425), .second, .val (.int w446), .val (.int w449), .unset] [(.double (f9 w419 w438 w440))])) _
        refine XS.dload X459.here hx rfl (hb hby at_197) rfl ?_
        show Steps p.tables e below (T459.setTop (mkF m 199 #[.val (.int pf), .val (.int pa), .val (.int pb), .val (.int px), .val (.int py), .val (.int md), .val (.int w376), .val (.ref b377), .val (.int w407), .val (.int w408), .val (.int w412), .val (.int w417), .val (.int w419), .val (.int w421), .val (.double w423), .second, .val (.double w425), .second, .val (.int w446), .val (.int w449), .unset] [(.double w423), (.double (f9 w419 w438 w440))])) _
        refine XS.dcmpS X459.here hx rfl (hb hby at_199) rfl rfl ?_
        show Steps p.tables e below (T459.setTop (mkF m 200 #[.val (.int pf), .val (.int pa), .val (.int pb), .val (.int px), .val (.int py), .val (.int md), .val (.int w376), .val (.ref b377), .val (.int w407), .val (.int w408), .val (.int w412), .val (.int w417), .val (.int w419), .val (.int w421), .val (.double w423), .second, .val (.double w425), .second, .val (.int w446), .val (.int w449), .unset] [(.int (cmpValue (FP.dcmp (f9 w419 w438 w440) w423) .l))])) _
        refine XS.ifNo X459.here hx rfl (hb hby at_200) rfl ((if0 _ _).trans (teq (own_t200 A426 B443 hw423 hc451)).2) ?_
        show Steps p.tables e below (T459.setTop (mkF m 203 #[.val (.int pf), .val (.int pa), .val (.int pb), .val (.int px), .val (.int py), .val (.int md), .val (.int w376), .val (.ref b377), .val (.int w407), .val (.int w408), .val (.int w412), .val (.int w417), .val (.int w419), .val (.int w421), .val (.double w423), .second, .val (.double w425), .second, .val (.int w446), .val (.int w449), .unset] [])) _
        refine XS.aload X459.here hx rfl (hb hby at_203) rfl rfl ?_
        show Steps p.tables e below (T459.setTop (mkF m 205 #[.val (.int pf), .val (.int pa), .val (.int pb), .val (.int px), .val (.int py), .val (.int md), .val (.int w376), .val (.ref b377), .val (.int w407), .val (.int w408), .val (.int w412), .val (.int w417), .val (.int w419), .val (.int w421), .val (.double w423), .second, .val (.double w425), .second, .val (.int w446), .val (.int w449), .unset] [(.ref b377)])) _
        refine XS.iload X459.here hx rfl (hb hby at_205) rfl ?_
        show Steps p.tables e below (T459.setTop (mkF m 207 #[.val (.int pf), .val (.int pa), .val (.int pb), .val (.int px), .val (.int py), .val (.int md), .val (.int w376), .val (.ref b377), .val (.int w407), .val (.int w408), .val (.int w412), .val (.int w417), .val (.int w419), .val (.int w421), .val (.double w423), .second, .val (.double w425), .second, .val (.int w446), .val (.int w449), .unset] [(.int w421), (.ref b377)])) _
        refine st460.trans ?_
        show Steps p.tables e below (T460.setTop (mkF m 210 #[.val (.int pf), .val (.int pa), .val (.int pb), .val (.int px), .val (.int py), .val (.int md), .val (.int w376), .val (.ref b377), .val (.int w407), .val (.int w408), .val (.int w412), .val (.int w417), .val (.int w419), .val (.int w421), .val (.double w423), .second, .val (.double w425), .second, .val (.int w446), .val (.int w449), .unset] [(.double (f9 w421 w438 w440))])) _
        refine XS.dload X460.here hx rfl (hb hby at_210) rfl ?_
        show Steps p.tables e below (T460.setTop (mkF m 212 #[.val (.int pf), .val (.int pa), .val (.int pb), .val (.int px), .val (.int py), .val (.int md), .val (.int w376), .val (.ref b377), .val (.int w407), .val (.int w408), .val (.int w412), .val (.int w417), .val (.int w419), .val (.int w421), .val (.double w423), .second, .val (.double w425), .second, .val (.int w446), .val (.int w449), .unset] [(.double w425), (.double (f9 w421 w438 w440))])) _
        refine XS.dcmpS X460.here hx rfl (hb hby at_212) rfl rfl ?_
        show Steps p.tables e below (T460.setTop (mkF m 213 #[.val (.int pf), .val (.int pa), .val (.int pb), .val (.int px), .val (.int py), .val (.int md), .val (.int w376), .val (.ref b377), .val (.int w407), .val (.int w408), .val (.int w412), .val (.int w417), .val (.int w419), .val (.int w421), .val (.double w423), .second, .val (.double w425), .second, .val (.int w446), .val (.int w449), .unset] [(.int (cmpValue (FP.dcmp (f9 w421 w438 w440) w425) .l))])) _
        refine XS.ifNo X460.here hx rfl (hb hby at_213) rfl ((if0 _ _).trans (teq (own_t213 A426 B443 hw425 hc451)).2) ?_
        show Steps p.tables e below (T460.setTop (mkF m 216 #[.val (.int pf), .val (.int pa), .val (.int pb), .val (.int px), .val (.int py), .val (.int md), .val (.int w376), .val (.ref b377), .val (.int w407), .val (.int w408), .val (.int w412), .val (.int w417), .val (.int w419), .val (.int w421), .val (.double w423), .second, .val (.double w425), .second, .val (.int w446), .val (.int w449), .unset] [])) _
        refine XS.aload X460.here hx rfl (hb hby at_216) rfl rfl ?_
        show Steps p.tables e below (T460.setTop (mkF m 218 #[.val (.int pf), .val (.int pa), .val (.int pb), .val (.int px), .val (.int py), .val (.int md), .val (.int w376), .val (.ref b377), .val (.int w407), .val (.int w408), .val (.int w412), .val (.int w417), .val (.int w419), .val (.int w421), .val (.double w423), .second, .val (.double w425), .second, .val (.int w446), .val (.int w449), .unset] [(.ref b377)])) _
        refine XS.iload X460.here hx rfl (hb hby at_218) rfl ?_
        show Steps p.tables e below (T460.setTop (mkF m 220 #[.val (.int pf), .val (.int pa), .val (.int pb), .val (.int px), .val (.int py), .val (.int md), .val (.int w376), .val (.ref b377), .val (.int w407), .val (.int w408), .val (.int w412), .val (.int w417), .val (.int w419), .val (.int w421), .val (.double w423), .second, .val (.double w425), .second, .val (.int w446), .val (.int w449), .unset] [(.int w419), (.ref b377)])) _
        refine st461.trans ?_
        show Steps p.tables e below (T461.setTop (mkF m 223 #[.val (.int pf), .val (.int pa), .val (.int pb), .val (.int px), .val (.int py), .val (.int md), .val (.int w376), .val (.ref b377), .val (.int w407), .val (.int w408), .val (.int w412), .val (.int w417), .val (.int w419), .val (.int w421), .val (.double w423), .second, .val (.double w425), .second, .val (.int w446), .val (.int w449), .unset] [(.int (f10 w419 w438 w441))])) _
        refine XS.iconst X461.here hx rfl (hb hby at_223) ?_
        show Steps p.tables e below (T461.setTop (mkF m 224 #[.val (.int pf), .val (.int pa), .val (.int pb), .val (.int px), .val (.int py), .val (.int md), .val (.int w376), .val (.ref b377), .val (.int w407), .val (.int w408), .val (.int w412), .val (.int w417), .val (.int w419), .val (.int w421), .val (.double w423), .second, .val (.double w425), .second, .val (.int w446), .val (.int w449), .unset] [(.int (1 : Int32)), (.int (f10 w419 w438 w441))])) _
        refine XS.icmpNo X461.here hx rfl (hb hby at_224) rfl (teq (own_t224 A426 B443 hc451)).2 ?_
        show Steps p.tables e below (T461.setTop (mkF m 227 #[.val (.int pf), .val (.int pa), .val (.int pb), .val (.int px), .val (.int py), .val (.int md), .val (.int w376), .val (.ref b377), .val (.int w407), .val (.int w408), .val (.int w412), .val (.int w417), .val (.int w419), .val (.int w421), .val (.double w423), .second, .val (.double w425), .second, .val (.int w446), .val (.int w449), .unset] [])) _
        refine XS.aload X461.here hx rfl (hb hby at_227) rfl rfl ?_
        show Steps p.tables e below (T461.setTop (mkF m 229 #[.val (.int pf), .val (.int pa), .val (.int pb), .val (.int px), .val (.int py), .val (.int md), .val (.int w376), .val (.ref b377), .val (.int w407), .val (.int w408), .val (.int w412), .val (.int w417), .val (.int w419), .val (.int w421), .val (.double w423), .second, .val (.double w425), .second, .val (.int w446), .val (.int w449), .unset] [(.ref b377)])) _
        refine XS.iload X461.here hx rfl (hb hby at_229) rfl ?_
        show Steps p.tables e below (T461.setTop (mkF m 231 #[.val (.int pf), .val (.int pa), .val (.int pb), .val (.int px), .val (.int py), .val (.int md), .val (.int w376), .val (.ref b377), .val (.int w407), .val (.int w408), .val (.int w412), .val (.int w417), .val (.int w419), .val (.int w421), .val (.double w423), .second, .val (.double w425), .second, .val (.int w446), .val (.int w449), .unset] [(.int w421), (.ref b377)])) _
        refine st462.trans ?_
        show Steps p.tables e below (T462.setTop (mkF m 234 #[.val (.int pf), .val (.int pa), .val (.int pb), .val (.int px), .val (.int py), .val (.int md), .val (.int w376), .val (.ref b377), .val (.int w407), .val (.int w408), .val (.int w412), .val (.int w417), .val (.int w419), .val (.int w421), .val (.double w423), .second, .val (.double w425), .second, .val (.int w446), .val (.int w449), .unset] [(.int (f10 w421 w438 w441))])) _
        refine XS.iconst X462.here hx rfl (hb hby at_234) ?_
        show Steps p.tables e below (T462.setTop (mkF m 235 #[.val (.int pf), .val (.int pa), .val (.int pb), .val (.int px), .val (.int py), .val (.int md), .val (.int w376), .val (.ref b377), .val (.int w407), .val (.int w408), .val (.int w412), .val (.int w417), .val (.int w419), .val (.int w421), .val (.double w423), .second, .val (.double w425), .second, .val (.int w446), .val (.int w449), .unset] [(.int (1 : Int32)), (.int (f10 w421 w438 w441))])) _
        refine XS.icmpNo X462.here hx rfl (hb hby at_235) rfl (teq (own_t235 A426 B443 hc451)).2 ?_
        show Steps p.tables e below (T462.setTop (mkF m 238 #[.val (.int pf), .val (.int pa), .val (.int pb), .val (.int px), .val (.int py), .val (.int md), .val (.int w376), .val (.ref b377), .val (.int w407), .val (.int w408), .val (.int w412), .val (.int w417), .val (.int w419), .val (.int w421), .val (.double w423), .second, .val (.double w425), .second, .val (.int w446), .val (.int w449), .unset] [])) _
        refine XS.aload X462.here hx rfl (hb hby at_238) rfl rfl ?_
        show Steps p.tables e below (T462.setTop (mkF m 240 #[.val (.int pf), .val (.int pa), .val (.int pb), .val (.int px), .val (.int py), .val (.int md), .val (.int w376), .val (.ref b377), .val (.int w407), .val (.int w408), .val (.int w412), .val (.int w417), .val (.int w419), .val (.int w421), .val (.double w423), .second, .val (.double w425), .second, .val (.int w446), .val (.int w449), .unset] [(.ref b377)])) _
        refine XS.iload X462.here hx rfl (hb hby at_240) rfl ?_
        show Steps p.tables e below (T462.setTop (mkF m 242 #[.val (.int pf), .val (.int pa), .val (.int pb), .val (.int px), .val (.int py), .val (.int md), .val (.int w376), .val (.ref b377), .val (.int w407), .val (.int w408), .val (.int w412), .val (.int w417), .val (.int w419), .val (.int w421), .val (.double w423), .second, .val (.double w425), .second, .val (.int w446), .val (.int w449), .unset] [(.int w446), (.ref b377)])) _
        refine XS.iconst X462.here hx rfl (hb hby at_242) ?_
        show Steps p.tables e below (T462.setTop (mkF m 243 #[.val (.int pf), .val (.int pa), .val (.int pb), .val (.int px), .val (.int py), .val (.int md), .val (.int w376), .val (.ref b377), .val (.int w407), .val (.int w408), .val (.int w412), .val (.int w417), .val (.int w419), .val (.int w421), .val (.double w423), .second, .val (.double w425), .second, .val (.int w446), .val (.int w449), .unset] [(.int (1 : Int32)), (.int w446), (.ref b377)])) _
        refine XS.iadd X462.here hx rfl (hb hby at_243) rfl ?_
        show Steps p.tables e below (T462.setTop (mkF m 244 #[.val (.int pf), .val (.int pa), .val (.int pb), .val (.int px), .val (.int py), .val (.int md), .val (.int w376), .val (.ref b377), .val (.int w407), .val (.int w408), .val (.int w412), .val (.int w417), .val (.int w419), .val (.int w421), .val (.double w423), .second, .val (.double w425), .second, .val (.int w446), .val (.int w449), .unset] [(.int (w446 + (1 : Int32))), (.ref b377)])) _
        refine st463.trans ?_
        show Steps p.tables e below (T463.setTop (mkF m 247 #[.val (.int pf), .val (.int pa), .val (.int pb), .val (.int px), .val (.int py), .val (.int md), .val (.int w376), .val (.ref b377), .val (.int w407), .val (.int w408), .val (.int w412), .val (.int w417), .val (.int w419), .val (.int w421), .val (.double w423), .second, .val (.double w425), .second, .val (.int w446), .val (.int w449), .unset] [(.int (f11 (w446 + (1 : Int32)) w438 w439 w442))])) _
        refine XS.iload X463.here hx rfl (hb hby at_247) rfl ?_
        show Steps p.tables e below (T463.setTop (mkF m 249 #[.val (.int pf), .val (.int pa), .val (.int pb), .val (.int px), .val (.int py), .val (.int md), .val (.int w376), .val (.ref b377), .val (.int w407), .val (.int w408), .val (.int w412), .val (.int w417), .val (.int w419), .val (.int w421), .val (.double w423), .second, .val (.double w425), .second, .val (.int w446), .val (.int w449), .unset] [(.int w449), (.int (f11 (w446 + (1 : Int32)) w438 w439 w442))])) _
        refine XS.icmpNo X463.here hx rfl (hb hby at_249) rfl (teq (own_t249 A426 B443 hw446 hw449 hc451)).2 ?_
        show Steps p.tables e below (T463.setTop (mkF m 252 #[.val (.int pf), .val (.int pa), .val (.int pb), .val (.int px), .val (.int py), .val (.int md), .val (.int w376), .val (.ref b377), .val (.int w407), .val (.int w408), .val (.int w412), .val (.int w417), .val (.int w419), .val (.int w421), .val (.double w423), .second, .val (.double w425), .second, .val (.int w446), .val (.int w449), .unset] [])) _
        refine XS.iconst X463.here hx rfl (hb hby at_252) ?_
        show Steps p.tables e below (T463.setTop (mkF m 253 #[.val (.int pf), .val (.int pa), .val (.int pb), .val (.int px), .val (.int py), .val (.int md), .val (.int w376), .val (.ref b377), .val (.int w407), .val (.int w408), .val (.int w412), .val (.int w417), .val (.int w419), .val (.int w421), .val (.double w423), .second, .val (.double w425), .second, .val (.int w446), .val (.int w449), .unset] [(.int (1 : Int32))])) _
        refine XS.goto X463.here hx rfl (pc0 := 253) (pc' := 257) rfl (hb hby at_253) (by decide) (by decide) ?_
        show Steps p.tables e below (T463.setTop (mkF m 257 #[.val (.int pf), .val (.int pa), .val (.int pb), .val (.int px), .val (.int py), .val (.int md), .val (.int w376), .val (.ref b377), .val (.int w407), .val (.int w408), .val (.int w412), .val (.int w417), .val (.int w419), .val (.int w421), .val (.double w423), .second, .val (.double w425), .second, .val (.int w446), .val (.int w449), .unset] [(.int (1 : Int32))])) _
        refine XS.istore X463.here hx rfl (hb hby at_257) rfl (l' := #[.val (.int pf), .val (.int pa), .val (.int pb), .val (.int px), .val (.int py), .val (.int md), .val (.int w376), .val (.ref b377), .val (.int w407), .val (.int w408), .val (.int w412), .val (.int w417), .val (.int w419), .val (.int w421), .val (.double w423), .second, .val (.double w425), .second, .val (.int w446), .val (.int w449), .val (.int (1 : Int32))]) rfl ?_
        show Steps p.tables e below (T463.setTop (mkF m 259 #[.val (.int pf), .val (.int pa), .val (.int pb), .val (.int px), .val (.int py), .val (.int md), .val (.int w376), .val (.ref b377), .val (.int w407), .val (.int w408), .val (.int w412), .val (.int w417), .val (.int w419), .val (.int w421), .val (.double w423), .second, .val (.double w425), .second, .val (.int w446), .val (.int w449), .val (.int (1 : Int32))] [])) _
        exact k
      obtain ⟨cq465, kq465, q465a, q465b, q465c⟩ := isOf hZ e463 Eq435
      obtain ⟨_, _, ⟨T465, L465, k465, n465⟩, -, X465, ⟨Lc465, hQ465, l465, y465, z465⟩, st465⟩ := X463.virtualBack hx (y := (⟨"com/example/libclause/libclause/search/ScoreWindow", "next", "(I)I"⟩ : MethodName)) (z := (⟨"com/example/libclause/libclause/search/ScoreWindow", "next", "(I)I"⟩ : MethodName)) hown (mvT hZ (hw _ (List.mem_of_getElem? (i := 60) rfl))) (mvT hZ (hw _ (List.mem_of_getElem? (i := 61) rfl))) (notFace_of_selects (args := #[]) (mvT hZ (hw _ (List.mem_of_getElem? (i := 63) rfl)))) (mvT hZ (hw _ (List.mem_of_getElem? (i := 63) rfl))) (mvT hZ (hw _ (List.mem_of_getElem? (i := 62) rfl))) (by decide) (backOf (W := 0) (rm11 l Z a0 hw [] b377 w376 b388 w438 w439 kkb388 w442 T435.heap n0 Z437 fq435_2 fq435_3 fq435_4 fz435_2 (own_hf B443)) hZ (hw _ (List.mem_of_getElem? (i := 64) rfl)) (hw _ (List.mem_of_getElem? (i := 3) rfl)) (by decide) (by decide)) q465a q465c (g := (mkF m 268 #[.val (.int pf), .val (.int pa), .val (.int pb), .val (.int px), .val (.int py), .val (.int md), .val (.int w376), .val (.ref b377), .val (.int w407), .val (.int w408), .val (.int w412), .val (.int w417), .val (.int w419), .val (.int w421), .val (.double w423), .second, .val (.double w425), .second, .val (.int w446), .val (.int w449), .val (.int (1 : Int32))] [(.int w376), (.ref b377)])) rfl (by rw [hml]; rfl) (Steps.refl _) (argsL := [(.int w376)]) (rest := []) (lenOf pd_0 rfl) rfl (by show 2 * 0 + _ ≤ _; exact Nat.le_of_eq rfl) (hb hby at_268) (fun _ _ => ⟨rfl, e463, (by decide : 4 + 0 ≤ _), (by decide : 4133 + 0 ≤ _)⟩)
      dsimp only [Pt.U, Pt.locs, Pt.cells, Pt.slots] at X465 l465 y465 z465 st465 hQ465
      subst l465 y465 z465
      obtain ⟨rfl, N465q, e465⟩ := hQ465
      have N465 := Fr.app N463 N465q
      obtain ⟨cq466, kq466, q466a, q466b, q466c⟩ := isOf hZ e465 Eq435
      obtain ⟨_, _, ⟨T466, L466, k466, n466⟩, -, X466, ⟨Lc466, hQ466, l466, y466, z466⟩, st466⟩ := X465.virtualBack hx (y := (⟨"com/example/libclause/libclause/search/ScoreWindow", "next", "(I)I"⟩ : MethodName)) (z := (⟨"com/example/libclause/libclause/search/ScoreWindow", "next", "(I)I"⟩ : MethodName)) hown (mvT hZ (hw _ (List.mem_of_getElem? (i := 60) rfl))) (mvT hZ (hw _ (List.mem_of_getElem? (i := 61) rfl))) (notFace_of_selects (args := #[]) (mvT hZ (hw _ (List.mem_of_getElem? (i := 63) rfl)))) (mvT hZ (hw _ (List.mem_of_getElem? (i := 63) rfl))) (mvT hZ (hw _ (List.mem_of_getElem? (i := 62) rfl))) (by decide) (backOf (W := 0) (rm11 l Z a0 hw [] b377 (w449 + (1 : Int32)) b388 w438 w439 kkb388 w442 T435.heap n0 Z437 fq435_2 fq435_3 fq435_4 fz435_2 (own_hh A426 B443 hw449)) hZ (hw _ (List.mem_of_getElem? (i := 64) rfl)) (hw _ (List.mem_of_getElem? (i := 3) rfl)) (by decide) (by decide)) q466a q466c (g := (mkF m 282 #[.val (.int pf), .val (.int pa), .val (.int pb), .val (.int px), .val (.int py), .val (.int md), .val (.int w376), .val (.ref b377), .val (.int w407), .val (.int w408), .val (.int w412), .val (.int w417), .val (.int w419), .val (.int w421), .val (.double w423), .second, .val (.double w425), .second, .val (.int w446), .val (.int w449), .val (.int (1 : Int32))] [(.int (w449 + (1 : Int32))), (.ref b377)])) rfl (by rw [hml]; rfl) (Steps.refl _) (argsL := [(.int (w449 + (1 : Int32)))]) (rest := []) (lenOf pd_0 rfl) rfl (by show 2 * 0 + _ ≤ _; exact Nat.le_of_eq rfl) (hb hby at_282) (fun _ _ => ⟨rfl, e465, (by decide : 4 + 0 ≤ _), (by decide : 4133 + 0 ≤ _)⟩)
      dsimp only [Pt.U, Pt.locs, Pt.cells, Pt.slots] at X466 l466 y466 z466 st466 hQ466
      subst l466 y466 z466
      obtain ⟨rfl, N466q, e466⟩ := hQ466
      have N466 := Fr.app N465 N466q
      have S467 : ∀ t, Steps p.tables e below (T466.setTop (mkF m 295 #[.val (.int pf), .val (.int pa), .val (.int pb), .val (.int px), .val (.int py), .val (.int md), .val (.int w376), .val (.ref b377), .val (.int w407), .val (.int w408), .val (.int w412), .val (.int w417), .val (.int w419), .val (.int w421), .val (.double w423), .second, .val (.double w425), .second, .val (.int w446), .val (.int w449), .val (.int (1 : Int32))] [(.int (1 : Int32))])) t → Steps p.tables e below (s₁.setTop (entryFrame m #[(.int pf), (.int pa), (.int pb), (.int px), (.int py), (.int md)] maxLocals)) t := by
        intro t k
        refine S464 t ?_
        refine XS.iload X463.here hx rfl (hb hby at_259) rfl ?_
        show Steps p.tables e below (T463.setTop (mkF m 261 #[.val (.int pf), .val (.int pa), .val (.int pb), .val (.int px), .val (.int py), .val (.int md), .val (.int w376), .val (.ref b377), .val (.int w407), .val (.int w408), .val (.int w412), .val (.int w417), .val (.int w419), .val (.int w421), .val (.double w423), .second, .val (.double w425), .second, .val (.int w446), .val (.int w449), .val (.int (1 : Int32))] [(.int (1 : Int32))])) _
        refine XS.ifNo X463.here hx rfl (hb hby at_261) rfl ((if0 _ _).trans (feq (by decide : ¬ ((1 : Int32) = (0 : Int32)))).1) ?_
        show Steps p.tables e below (T463.setTop (mkF m 264 #[.val (.int pf), .val (.int pa), .val (.int pb), .val (.int px), .val (.int py), .val (.int md), .val (.int w376), .val (.ref b377), .val (.int w407), .val (.int w408), .val (.int w412), .val (.int w417), .val (.int w419), .val (.int w421), .val (.double w423), .second, .val (.double w425), .second, .val (.int w446), .val (.int w449), .val (.int (1 : Int32))] [])) _
        refine XS.aload X463.here hx rfl (hb hby at_264) rfl rfl ?_
        show Steps p.tables e below (T463.setTop (mkF m 266 #[.val (.int pf), .val (.int pa), .val (.int pb), .val (.int px), .val (.int py), .val (.int md), .val (.int w376), .val (.ref b377), .val (.int w407), .val (.int w408), .val (.int w412), .val (.int w417), .val (.int w419), .val (.int w421), .val (.double w423), .second, .val (.double w425), .second, .val (.int w446), .val (.int w449), .val (.int (1 : Int32))] [(.ref b377)])) _
        refine XS.iload X463.here hx rfl (hb hby at_266) rfl ?_
        show Steps p.tables e below (T463.setTop (mkF m 268 #[.val (.int pf), .val (.int pa), .val (.int pb), .val (.int px), .val (.int py), .val (.int md), .val (.int w376), .val (.ref b377), .val (.int w407), .val (.int w408), .val (.int w412), .val (.int w417), .val (.int w419), .val (.int w421), .val (.double w423), .second, .val (.double w425), .second, .val (.int w446), .val (.int w449), .val (.int (1 : Int32))] [(.int w376), (.ref b377)])) _
        refine st465.trans ?_
        show Steps p.tables e below (T465.setTop (mkF m 271 #[.val (.int pf), .val (.int pa), .val (.int pb), .val (.int px), .val (.int py), .val (.int md), .val (.int w376), .val (.ref b377), .val (.int w407), .val (.int w408), .val (.int w412), .val (.int w417), .val (.int w419), .val (.int w421), .val (.double w423), .second, .val (.double w425), .second, .val (.int w446), .val (.int w449), .val (.int (1 : Int32))] [(.int (f11 w376 w438 w439 w442))])) _
        refine XS.iload X465.here hx rfl (hb hby at_271) rfl ?_
        show Steps p.tables e below (T465.setTop (mkF m 273 #[.val (.int pf), .val (.int pa), .val (.int pb), .val (.int px), .val (.int py), .val (.int md), .val (.int w376), .val (.ref b377), .val (.int w407), .val (.int w408), .val (.int w412), .val (.int w417), .val (.int w419), .val (.int w421), .val (.double w423), .second, .val (.double w425), .second, .val (.int w446), .val (.int w449), .val (.int (1 : Int32))] [(.int w446), (.int (f11 w376 w438 w439 w442))])) _
        refine XS.icmpNo X465.here hx rfl (hb hby at_273) rfl (teq (own_t273 A426 B443 hw446)).2 ?_
        show Steps p.tables e below (T465.setTop (mkF m 276 #[.val (.int pf), .val (.int pa), .val (.int pb), .val (.int px), .val (.int py), .val (.int md), .val (.int w376), .val (.ref b377), .val (.int w407), .val (.int w408), .val (.int w412), .val (.int w417), .val (.int w419), .val (.int w421), .val (.double w423), .second, .val (.double w425), .second, .val (.int w446), .val (.int w449), .val (.int (1 : Int32))] [])) _
        refine XS.aload X465.here hx rfl (hb hby at_276) rfl rfl ?_
        show Steps p.tables e below (T465.setTop (mkF m 278 #[.val (.int pf), .val (.int pa), .val (.int pb), .val (.int px), .val (.int py), .val (.int md), .val (.int w376), .val (.ref b377), .val (.int w407), .val (.int w408), .val (.int w412), .val (.int w417), .val (.int w419), .val (.int w421), .val (.double w423), .second, .val (.double w425), .second, .val (.int w446), .val (.int w449), .val (.int (1 : Int32))] [(.ref b377)])) _
        refine XS.iload X465.here hx rfl (hb hby at_278) rfl ?_
        show Steps p.tables e below (T465.setTop (mkF m 280 #[.val (.int pf), .val (.int pa), .val (.int pb), .val (.int px), .val (.int py), .val (.int md), .val (.int w376), .val (.ref b377), .val (.int w407), .val (.int w408), .val (.int w412), .val (.int w417), .val (.int w419), .val (.int w421), .val (.double w423), .second, .val (.double w425), .second, .val (.int w446), .val (.int w449), .val (.int (1 : Int32))] [(.int w449), (.ref b377)])) _
        refine XS.iconst X465.here hx rfl (hb hby at_280) ?_
        show Steps p.tables e below (T465.setTop (mkF m 281 #[.val (.int pf), .val (.int pa), .val (.int pb), .val (.int px), .val (.int py), .val (.int md), .val (.int w376), .val (.ref b377), .val (.int w407), .val (.int w408), .val (.int w412), .val (.int w417), .val (.int w419), .val (.int w421), .val (.double w423), .second, .val (.double w425), .second, .val (.int w446), .val (.int w449), .val (.int (1 : Int32))] [(.int (1 : Int32)), (.int w449), (.ref b377)])) _
        refine XS.iadd X465.here hx rfl (hb hby at_281) rfl ?_
        show Steps p.tables e below (T465.setTop (mkF m 282 #[.val (.int pf), .val (.int pa), .val (.int pb), .val (.int px), .val (.int py), .val (.int md), .val (.int w376), .val (.ref b377), .val (.int w407), .val (.int w408), .val (.int w412), .val (.int w417), .val (.int w419), .val (.int w421), .val (.double w423), .second, .val (.double w425), .second, .val (.int w446), .val (.int w449), .val (.int (1 : Int32))] [(.int (w449 + (1 : Int32))), (.ref b377)])) _
        refine st466.trans ?_
        show Steps p.tables e below (T466.setTop (mkF m 285 #[.val (.int pf), .val (.int pa), .val (.int pb), .val (.int px), .val (.int py), .val (.int md), .val (.int w376), .val (.ref b377), .val (.int w407), .val (.int w408), .val (.int w412), .val (.int w417), .val (.int w419), .val (.int w421), .val (.double w423), .second, .val (.double w425), .second, .val (.int w446), .val (.int w449), .val (.int (1 : Int32))] [(.int (f11 (w449 + (1 : Int32)) w438 w439 w442))])) _
        refine XS.iload X466.here hx rfl (hb hby at_285) rfl ?_
        show Steps p.tables e below (T466.setTop (mkF m 287 #[.val (.int pf), .val (.int pa), .val (.int pb), .val (.int px), .val (.int py), .val (.int md), .val (.int w376), .val (.ref b377), .val (.int w407), .val (.int w408), .val (.int w412), .val (.int w417), .val (.int w419), .val (.int w421), .val (.double w423), .second, .val (.double w425), .second, .val (.int w446), .val (.int w449), .val (.int (1 : Int32))] [(.int w407), (.int (f11 (w449 + (1 : Int32)) w438 w439 w442))])) _
        refine XS.icmpNo X466.here hx rfl (hb hby at_287) rfl (teq (own_t287 A426 B443 hw449)).2 ?_
        show Steps p.tables e below (T466.setTop (mkF m 290 #[.val (.int pf), .val (.int pa), .val (.int pb), .val (.int px), .val (.int py), .val (.int md), .val (.int w376), .val (.ref b377), .val (.int w407), .val (.int w408), .val (.int w412), .val (.int w417), .val (.int w419), .val (.int w421), .val (.double w423), .second, .val (.double w425), .second, .val (.int w446), .val (.int w449), .val (.int (1 : Int32))] [])) _
        refine XS.iconst X466.here hx rfl (hb hby at_290) ?_
        show Steps p.tables e below (T466.setTop (mkF m 291 #[.val (.int pf), .val (.int pa), .val (.int pb), .val (.int px), .val (.int py), .val (.int md), .val (.int w376), .val (.ref b377), .val (.int w407), .val (.int w408), .val (.int w412), .val (.int w417), .val (.int w419), .val (.int w421), .val (.double w423), .second, .val (.double w425), .second, .val (.int w446), .val (.int w449), .val (.int (1 : Int32))] [(.int (1 : Int32))])) _
        refine XS.goto X466.here hx rfl (pc0 := 291) (pc' := 295) rfl (hb hby at_291) (by decide) (by decide) ?_
        show Steps p.tables e below (T466.setTop (mkF m 295 #[.val (.int pf), .val (.int pa), .val (.int pb), .val (.int px), .val (.int py), .val (.int md), .val (.int w376), .val (.ref b377), .val (.int w407), .val (.int w408), .val (.int w412), .val (.int w417), .val (.int w419), .val (.int w421), .val (.double w423), .second, .val (.double w425), .second, .val (.int w446), .val (.int w449), .val (.int (1 : Int32))] [(.int (1 : Int32))])) _
        exact k
      obtain ⟨fs, hr, hrun, hended, hW, hsame⟩ := X466.leave (v := some (.int (1 : Int32))) (fun h => by rw [Bd.returns] at h; cases h)
      refine ⟨_, _, S467 _ ?_, hrun, hended, _, _, rfl, ?_, ⟨_, rfl⟩, hW, hsame.mono (by decide) (by decide)⟩
      · exact retN X466 hx (t := .boolean) Bd.returns (by simp) (hb hby at_295) hr
      · show Q0 Z pf pa pb px py md h0 n0 _ T466.heap _
        rw [e466]
        exact ⟨rfl, N466⟩
  · have S468 : ∀ t, Steps p.tables e below (T405.setTop (mkF m 42 #[.val (.int pf), .val (.int pa), .val (.int pb), .val (.int px), .val (.int py), .val (.int md), .val (.int w376), .val (.ref b377), .val (.int w407), .val (.int w408), .unset, .unset, .unset, .unset, .unset, .unset, .unset, .unset, .unset, .unset, .unset] [(.int (1 : Int32))])) t → Steps p.tables e below (s₁.setTop (entryFrame m #[(.int pf), (.int pa), (.int pb), (.int px), (.int py), (.int md)] maxLocals)) t := by
      intro t k
      refine S409 t ?_
      refine XS.ifNo X405.here hx rfl (hb hby at_38) rfl ((if0 _ _).trans (flt hc410).2.2.1) ?_
      show Steps p.tables e below (T405.setTop (mkF m 41 #[.val (.int pf), .val (.int pa), .val (.int pb), .val (.int px), .val (.int py), .val (.int md), .val (.int w376), .val (.ref b377), .val (.int w407), .val (.int w408), .unset, .unset, .unset, .unset, .unset, .unset, .unset, .unset, .unset, .unset, .unset] [])) _
      refine XS.iconst X405.here hx rfl (hb hby at_41) ?_
      show Steps p.tables e below (T405.setTop (mkF m 42 #[.val (.int pf), .val (.int pa), .val (.int pb), .val (.int px), .val (.int py), .val (.int md), .val (.int w376), .val (.ref b377), .val (.int w407), .val (.int w408), .unset, .unset, .unset, .unset, .unset, .unset, .unset, .unset, .unset, .unset, .unset] [(.int (1 : Int32))])) _
      exact k
    obtain ⟨fs, hr, hrun, hended, hW, hsame⟩ := X405.leave (v := some (.int (1 : Int32))) (fun h => by rw [Bd.returns] at h; cases h)
    refine ⟨_, _, S468 _ ?_, hrun, hended, _, _, rfl, ?_, ⟨_, rfl⟩, hW, hsame.mono (by decide) (by decide)⟩
    · exact retN X405 hx (t := .boolean) Bd.returns (by simp) (hb hby at_42) hr
    · show Q0 Z pf pa pb px py md h0 n0 _ T405.heap _
      rw [e405]
      exact ⟨rfl, N405⟩
set_option maxRecDepth 65536 in
set_option maxHeartbeats 40000000 in
theorem comes_1 {Post : Tables → Env → Array Value → State → Outcome → State → Prop} (hpost : ∀ tb e args s v u, (limb_1_1.after args s (.returned v) u = true ∧ limb_1_2.after args s (.returned v) u = true ∧ True) → FrameEnd s (.returned v) u (Jvm.fieldLocs frame_1_writes args s ++ Jvm.arrayLocs frame_1_arrays args s ++ Jvm.staticLocs frame_1_statics s) 16 8384 → Post tb e args s (.returned v) u) :
    ArmFor flags0 classFile x code maxLocals ret World_1 tables_1 room_1 Calls_1 rest_1 Pre_1 Post := by
  intro l hfl _ _ p e ha hc hk s m args below hf hA hF happ hP
  obtain ⟨hcalls, hrest, hpre⟩ := hP
  obtain ⟨-, -, -, hnamed, -, -, -, hat⟩ := (Spec.applies_iff hf).mp happ
  obtain ⟨hg, hn⟩ := and_e (Cond.before_iff.mp (show (Jvm.Cond.and given_1 narrow_1).before args s = true from hpre))
  obtain ⟨g1, g2⟩ := and_e hg
  obtain ⟨g3, g4⟩ := and_e g2
  obtain ⟨g5, g6⟩ := and_e g4
  obtain ⟨g7, g8⟩ := and_e g6
  obtain ⟨g9, g10⟩ := and_e g8
  obtain ⟨g11, g12⟩ := and_e g10
  obtain ⟨w0, w1, w2, w3, w4, w5, rfl⟩ : ∃ w0 w1 w2 w3 w4 w5 : Value, args = #[w0, w1, w2, w3, w4, w5] := by
    have hs : args.size = 6 := by simpa [Cond.value, given_1] using g1
    obtain ⟨L⟩ := args
    match L, hs with
    | [w0, w1, w2, w3, w4, w5], _ => exact ⟨w0, w1, w2, w3, w4, w5, rfl⟩
  have hw := fun d (hd : d ∈ tables_1) => atoms_spec (ws := Jvm.Cond.code x code maxLocals ret :: tables_1) hat d (List.mem_cons_of_mem _ hd)
  have hfit : Fit s := fun {y c} hc i hi => by
    obtain ⟨ha, rfl⟩ := Array.getElem?_eq_some_iff.mp hc
    have q := List.all_eq_true.mp ((Array.all_eq_true_iff_forall_mem.mp hF) _ (Array.getElem_mem ha)) i (List.mem_range.mpr hi)
    simpa [Array.getElem?_eq_getElem hi] using q
  obtain ⟨i0, ei0⟩ := is_v g3
  obtain rfl : w0 = (.int i0) := Option.some.inj ei0
  obtain ⟨i1, ei1⟩ := is_v g5
  obtain rfl : w1 = (.int i1) := Option.some.inj ei1
  obtain ⟨i2, ei2⟩ := is_v g7
  obtain rfl : w2 = (.int i2) := Option.some.inj ei2
  obtain ⟨i3, ei3⟩ := is_v g9
  obtain rfl : w3 = (.int i3) := Option.some.inj ei3
  obtain ⟨i4, ei4⟩ := is_v g11
  obtain rfl : w4 = (.int i4) := Option.some.inj ei4
  obtain ⟨i5, ei5⟩ := is_v g12
  obtain rfl : w5 = (.int i5) := Option.some.inj ei5
  obtain ⟨n, o, h1, h2, h3, _, L, rfl, ⟨rfl, N⟩, hq⟩ := rm0 l s _ hw tables_1 i0 i1 i2 i3 i4 i5  s.heap s.heap.size (Nat.le_refl _)  p e ha hc hk s m _ below hf ((Spec.applies_iff_loose hf).mp happ).1 ⟨rfl, State.Warmed39.refl s, rfl⟩ trivial
  refine ⟨n, _, h1, h2, h3, hpost _ _ _ _ _ _ ⟨Cond.after_iff.mpr rfl, Cond.after_iff.mpr (eq_i res_at (Term.int_eval (1)) rfl), trivial⟩ ⟨hq.1, hq.2.1, (hq.2.2.sift fun y hy => Or.inr (N y hy)).mono (by decide) (by decide)⟩⟩
theorem main_1_1 : Claimed_1_1 := comes_1 fun _ _ _ _ _ _ h hF => ⟨h.1, hF⟩
theorem main_1_2 : Claimed_1_2 := comes_1 fun _ _ _ _ _ _ h hF => ⟨h.2.1, hF⟩
end Jvm.Pilot.@@N@@
namespace Jvm.Pilot.@@N@@
open Jvm Jvm.ClassFile Sem Op Lib Jvm.Free Jvm.Stand Jvm.Pilot.@@N@@.Jvm.D
/-! MADE BY PROGRAM (witnessworld.py) out of the Statement's table words and the real class files: 20 classes; the members and pool entries that the words name. The judged class is class 1, her method 1. -/
namespace start1
open Jvm.ClassFile
def u (s : String) : CpInfo := .utf8 (stringToUtf16 s)
/-- a pool by its gaps: so many unusable entries, then the entry; so many at the end -/
def gap : Nat → List CpInfo → List CpInfo
  | 0, r => r
  | n + 1, r => .unusable :: gap n r
def poolList (es : List (Nat × CpInfo)) (last : Nat) : List CpInfo := es.foldr (fun e r => gap e.1 (e.2 :: r)) (gap last [])
def pool (es : List (Nat × CpInfo)) (last : Nat) : Array CpInfo := ⟨poolList es last⟩
def fileOf (pool : Array CpInfo) (this : Nat) (attrs : Array Attribute := #[]) (ms : Array MethodInfo := #[]) (fl : Nat := 33) (sup : Nat := 0) (ifs : Array Nat := #[]) (fds : Array FieldInfo := #[]) : ClassFile where
  minorVersion := 0
  majorVersion := 65
  constantPool := pool
  accessFlags := fl
  thisClass := this
  superClass := sup
  interfaces := ifs
  fields := fds
  methods := ms
  attributes := attrs
def plain (name : String) (sup : Option ClassId) : Class where
  name := name
  kind := .ordinary
  loader := none
  accessFlags := 33
  super := sup
  interfaces := #[]
  cf := none
  fields := #[]
  methods := #[]
  instanceTypes := #[]
  staticTypes := #[]
  resolved := #[]
  callSites := []
  init := .initialized
  statics := none
  mirror := none

def pool0 : Array CpInfo := pool [(5, u "<init>"), (0, u "()V"), (1, .class_ 10), (1, u "java/lang/Object")] 113

def k0c0 : Code := { maxStack := 0, maxLocals := 1, code := object_method_1_code, exceptionTable := #[], attributes := #[] }
def k0m0 : Method := { name := "<init>", desc := "()V", sig := { parameters := [], returnType := none }, accessFlags := 1, code := some k0c0 }
/-- java/lang/Object -/
def k0 : Class := { plain "java/lang/Object" none with
  accessFlags := 33
  interfaces := #[]
  cf := some (fileOf pool0 8 #[] #[{ accessFlags := 1, nameIndex := 5, descriptorIndex := 6, attributes := #[] }] 33 0 #[] #[])
  fields := #[]
  methods := #[k0m0]
  instanceTypes := #[]
  staticTypes := #[]
  resolved := Array.replicate 124 none
  statics := none }

def pool1 : Array CpInfo := pool [(2, .class_ 4), (0, .nameAndType 5 6), (0, u "java/lang/Object"), (0, u "<init>"), (0, u "()V"), (0, .integer 2147483647), (0, .class_ 9), (0, u "com/example/libclause/libclause/search/ScoreWindow"), (0, .methodref 8 3), (0, .methodref 8 12), (0, .nameAndType 13 14), (0, u "start"), (0, u "(I)V"), (0, .methodref 8 16), (0, .nameAndType 17 18), (0, u "end"), (0, u "()I"), (0, .methodref 8 20), (0, .nameAndType 21 22), (0, u "add"), (0, u "(ID)V"), (0, .methodref 24 25), (0, .class_ 26), (0, .nameAndType 27 28), (0, u "java/lang/Math"), (0, u "min"), (0, u "(II)I"), (0, .methodref 24 30), (0, .nameAndType 31 28), (0, u "max"), (0, .methodref 8 33), (0, .nameAndType 34 35), (0, u "score"), (0, u "(I)D"), (0, .methodref 8 37), (0, .nameAndType 38 39), (0, u "count"), (0, u "(I)I"), (0, .methodref 8 41), (0, .nameAndType 42 39), (0, u "next"), (0, .class_ 44), (0, u "com/example/libclause/libclause/search/ScoreWindowAddPinLaw"), (2, u "law"), (0, u "(IIIIII)Z")] 3

def k1m0 : Method := { name := "<init>", desc := "()V", sig := { parameters := [], returnType := none }, accessFlags := 1, code := none }
def k1c1 : Code := { maxStack := 6, maxLocals := 21, code := code, exceptionTable := #[], attributes := #[] }
def k1m1 : Method := { name := "law", desc := "(IIIIII)Z", sig := { parameters := [.int, .int, .int, .int, .int, .int], returnType := some .boolean }, accessFlags := 9, code := some k1c1 }
/-- com/example/libclause/libclause/search/ScoreWindowAddPinLaw -/
def k1 : Class := { plain "com/example/libclause/libclause/search/ScoreWindowAddPinLaw" (some 0) with
  accessFlags := 49
  interfaces := #[]
  cf := some (fileOf pool1 43 #[] #[{ accessFlags := 1, nameIndex := 5, descriptorIndex := 6, attributes := #[] }, { accessFlags := 9, nameIndex := 47, descriptorIndex := 48, attributes := #[] }] 49 2 #[] #[])
  fields := #[]
  methods := #[k1m0, k1m1]
  instanceTypes := #[]
  staticTypes := #[]
  resolved := Array.replicate 52 none
  statics := none }

def pool2 : Array CpInfo := pool [(1, .methodref 2 3), (0, .class_ 4), (0, .nameAndType 5 6), (0, u "java/lang/Object"), (0, u "<init>"), (0, u "()V"), (0, .class_ 8), (0, u "com/example/libclause/libclause/search/ScoreWindow"), (0, .fieldref 7 10), (0, .nameAndType 11 12), (0, u "scores"), (0, u "[D"), (0, .fieldref 7 14), (0, .nameAndType 15 16), (0, u "counts"), (0, u "[I"), (0, .class_ 18), (0, u "java/lang/Long"), (0, .fieldref 7 20), (0, .nameAndType 21 22), (0, u "marked"), (0, u "[J"), (0, .methodref 17 24), (0, .nameAndType 25 26), (0, u "numberOfTrailingZeros"), (0, u "(J)I"), (0, .fieldref 7 28), (0, .nameAndType 29 30), (0, u "first"), (0, u "I"), (0, .long 2048), (3, .long 2147483647), (1, .methodref 38 39), (0, .class_ 40), (0, .nameAndType 41 42), (0, u "java/lang/Math"), (0, u "min"), (0, u "(JJ)J"), (0, .fieldref 7 44), (0, .nameAndType 45 30), (0, u "end"), (0, .long 18446744073709551615), (1, u "SIZE"), (4, u "start"), (0, u "(I)V"), (1, u "()I"), (0, u "add"), (0, u "(ID)V"), (0, u "next"), (0, u "(I)I"), (0, u "score"), (0, u "(I)D"), (0, u "count")] 2

def k2c0 : Code := { maxStack := 2, maxLocals := 1, code := prog_62_method_1_code, exceptionTable := #[], attributes := #[] }
def k2m0 : Method := { name := "<init>", desc := "()V", sig := { parameters := [], returnType := none }, accessFlags := 0, code := some k2c0 }
def k2c1 : Code := { maxStack := 6, maxLocals := 6, code := prog_62_method_2_code, exceptionTable := #[], attributes := #[] }
def k2m1 : Method := { name := "start", desc := "(I)V", sig := { parameters := [.int], returnType := none }, accessFlags := 0, code := some k2c1 }
def k2c2 : Code := { maxStack := 1, maxLocals := 1, code := prog_62_method_3_code, exceptionTable := #[], attributes := #[] }
def k2m2 : Method := { name := "end", desc := "()I", sig := { parameters := [], returnType := some .int }, accessFlags := 0, code := some k2c2 }
def k2c3 : Code := { maxStack := 7, maxLocals := 5, code := prog_62_method_4_code, exceptionTable := #[], attributes := #[] }
def k2m3 : Method := { name := "add", desc := "(ID)V", sig := { parameters := [.int, .double], returnType := none }, accessFlags := 0, code := some k2c3 }
def k2c4 : Code := { maxStack := 5, maxLocals := 6, code := prog_62_method_5_code, exceptionTable := #[], attributes := #[] }
def k2m4 : Method := { name := "next", desc := "(I)I", sig := { parameters := [.int], returnType := some .int }, accessFlags := 0, code := some k2c4 }
def k2c5 : Code := { maxStack := 3, maxLocals := 2, code := prog_62_method_6_code, exceptionTable := #[], attributes := #[] }
def k2m5 : Method := { name := "score", desc := "(I)D", sig := { parameters := [.int], returnType := some .double }, accessFlags := 0, code := some k2c5 }
def k2c6 : Code := { maxStack := 3, maxLocals := 2, code := prog_62_method_7_code, exceptionTable := #[], attributes := #[] }
def k2m6 : Method := { name := "count", desc := "(I)I", sig := { parameters := [.int], returnType := some .int }, accessFlags := 0, code := some k2c6 }
/-- com/example/libclause/libclause/search/ScoreWindow -/
def k2 : Class := { plain "com/example/libclause/libclause/search/ScoreWindow" (some 0) with
  accessFlags := 32
  interfaces := #[]
  cf := some (fileOf pool2 7 #[] #[{ accessFlags := 0, nameIndex := 5, descriptorIndex := 6, attributes := #[] }, { accessFlags := 0, nameIndex := 53, descriptorIndex := 54, attributes := #[] }, { accessFlags := 0, nameIndex := 45, descriptorIndex := 56, attributes := #[] }, { accessFlags := 0, nameIndex := 57, descriptorIndex := 58, attributes := #[] }, { accessFlags := 0, nameIndex := 59, descriptorIndex := 60, attributes := #[] }, { accessFlags := 0, nameIndex := 61, descriptorIndex := 62, attributes := #[] }, { accessFlags := 0, nameIndex := 63, descriptorIndex := 60, attributes := #[] }] 32 2 #[] #[{ accessFlags := 24, nameIndex := 48, descriptorIndex := 30, attributes := #[] }, { accessFlags := 18, nameIndex := 11, descriptorIndex := 12, attributes := #[] }, { accessFlags := 18, nameIndex := 15, descriptorIndex := 16, attributes := #[] }, { accessFlags := 18, nameIndex := 21, descriptorIndex := 22, attributes := #[] }, { accessFlags := 2, nameIndex := 29, descriptorIndex := 30, attributes := #[] }, { accessFlags := 2, nameIndex := 45, descriptorIndex := 30, attributes := #[] }])
  fields := #[{ name := "SIZE", type := .int, accessFlags := 24, slot := 0, constantValue := 0 }, { name := "scores", type := (.array .double), accessFlags := 18, slot := 0, constantValue := 0 }, { name := "counts", type := (.array .int), accessFlags := 18, slot := 1, constantValue := 0 }, { name := "marked", type := (.array .long), accessFlags := 18, slot := 2, constantValue := 0 }, { name := "first", type := .int, accessFlags := 2, slot := 3, constantValue := 0 }, { name := "end", type := .int, accessFlags := 2, slot := 4, constantValue := 0 }]
  methods := #[k2m0, k2m1, k2m2, k2m3, k2m4, k2m5, k2m6]
  instanceTypes := #[(.array .double), (.array .int), (.array .long), .int, .int]
  staticTypes := #[.int]
  resolved := Array.replicate 66 none
  statics := none }

def pool3 : Array CpInfo := pool [(1, .class_ 2), (0, u "java/lang/Math"), (1, .class_ 6), (1, u "java/lang/Object"), (0, u "<init>"), (0, u "()V"), (89, .class_ 100), (1, u "java/lang/Math$RandomNumberGeneratorHolder"), (20, u "(JJ)J"), (50, u "negativeZeroFloatBits"), (0, u "J"), (2, u "negativeZeroDoubleBits"), (21, u "max"), (2, u "min"), (43, u "$assertionsDisabled"), (0, u "Z"), (88, u "(II)I"), (2, u "twoToTheDoubleScaleDown"), (0, u "D"), (4, u "twoToTheDoubleScaleUp"), (9, u "E"), (3, u "PI"), (2, u "TAU"), (2, u "DEGREES_TO_RADIANS"), (0, u "RADIANS_TO_DEGREES")] 94

def k3m0 : Method := { name := "<init>", desc := "()V", sig := { parameters := [], returnType := none }, accessFlags := 2, code := none }
def k3c1 : Code := { maxStack := 2, maxLocals := 2, code := jdk_29_method_65_code, exceptionTable := #[], attributes := #[] }
def k3m1 : Method := { name := "max", desc := "(II)I", sig := { parameters := [.int, .int], returnType := some .int }, accessFlags := 9, code := some k3c1 }
def k3c2 : Code := { maxStack := 2, maxLocals := 2, code := jdk_29_method_69_code, exceptionTable := #[], attributes := #[] }
def k3m2 : Method := { name := "min", desc := "(II)I", sig := { parameters := [.int, .int], returnType := some .int }, accessFlags := 9, code := some k3c2 }
def k3c3 : Code := { maxStack := 4, maxLocals := 4, code := jdk_29_method_70_code, exceptionTable := #[], attributes := #[] }
def k3m3 : Method := { name := "min", desc := "(JJ)J", sig := { parameters := [.long, .long], returnType := some .long }, accessFlags := 9, code := some k3c3 }
/-- java/lang/Math -/
def k3 : Class := { plain "java/lang/Math" (some 0) with
  accessFlags := 49
  interfaces := #[]
  cf := some (fileOf pool3 1 #[.nestMembers #[98]] #[{ accessFlags := 2, nameIndex := 7, descriptorIndex := 8, attributes := #[] }, { accessFlags := 9, nameIndex := 198, descriptorIndex := 335, attributes := #[] }, { accessFlags := 9, nameIndex := 201, descriptorIndex := 335, attributes := #[] }, { accessFlags := 9, nameIndex := 201, descriptorIndex := 121, attributes := #[] }] 49 4 #[] #[{ accessFlags := 25, nameIndex := 354, descriptorIndex := 339, attributes := #[] }, { accessFlags := 25, nameIndex := 358, descriptorIndex := 339, attributes := #[] }, { accessFlags := 25, nameIndex := 361, descriptorIndex := 339, attributes := #[] }, { accessFlags := 26, nameIndex := 364, descriptorIndex := 339, attributes := #[] }, { accessFlags := 26, nameIndex := 365, descriptorIndex := 339, attributes := #[] }, { accessFlags := 26, nameIndex := 172, descriptorIndex := 173, attributes := #[] }, { accessFlags := 26, nameIndex := 176, descriptorIndex := 173, attributes := #[] }, { accessFlags := 8, nameIndex := 344, descriptorIndex := 339, attributes := #[] }, { accessFlags := 8, nameIndex := 338, descriptorIndex := 339, attributes := #[] }, { accessFlags := 4120, nameIndex := 245, descriptorIndex := 246, attributes := #[] }])
  fields := #[{ name := "E", type := .double, accessFlags := 25, slot := 0, constantValue := 0 }, { name := "PI", type := .double, accessFlags := 25, slot := 1, constantValue := 0 }, { name := "TAU", type := .double, accessFlags := 25, slot := 2, constantValue := 0 }, { name := "DEGREES_TO_RADIANS", type := .double, accessFlags := 26, slot := 3, constantValue := 0 }, { name := "RADIANS_TO_DEGREES", type := .double, accessFlags := 26, slot := 4, constantValue := 0 }, { name := "negativeZeroFloatBits", type := .long, accessFlags := 26, slot := 5, constantValue := 0 }, { name := "negativeZeroDoubleBits", type := .long, accessFlags := 26, slot := 6, constantValue := 0 }, { name := "twoToTheDoubleScaleUp", type := .double, accessFlags := 8, slot := 7, constantValue := 0 }, { name := "twoToTheDoubleScaleDown", type := .double, accessFlags := 8, slot := 8, constantValue := 0 }, { name := "$assertionsDisabled", type := .boolean, accessFlags := 4120, slot := 9, constantValue := 0 }]
  methods := #[k3m0, k3m1, k3m2, k3m3]
  instanceTypes := #[]
  staticTypes := #[.double, .double, .double, .double, .double, .long, .long, .double, .double, .boolean]
  resolved := Array.replicate 460 none
  statics := none }

def pool4 : Array CpInfo := pool [(1, .class_ 2), (0, u "java/io/Serializable"), (0, .class_ 4), (0, u "java/lang/Object")] 2

/-- java/io/Serializable -/
def k4 : Class := { plain "java/io/Serializable" (some 0) with
  accessFlags := 1537
  interfaces := #[]
  cf := some (fileOf pool4 1 #[] #[] 1537 3 #[] #[])
  fields := #[]
  methods := #[]
  instanceTypes := #[]
  staticTypes := #[]
  resolved := Array.replicate 7 none
  statics := none }

def pool5 : Array CpInfo := pool [(2, .class_ 4), (1, u "java/lang/Object"), (0, u "<init>"), (0, u "()V"), (1, .class_ 10), (1, u "java/lang/Number"), (2, .class_ 14), (0, u "java/io/Serializable"), (0, u "serialVersionUID"), (0, u "J")] 20

def k5m0 : Method := { name := "<init>", desc := "()V", sig := { parameters := [], returnType := none }, accessFlags := 1, code := none }
/-- java/lang/Number -/
def k5 : Class := { plain "java/lang/Number" (some 0) with
  accessFlags := 1057
  interfaces := #[4]
  cf := some (fileOf pool5 8 #[] #[{ accessFlags := 1, nameIndex := 5, descriptorIndex := 6, attributes := #[] }] 1057 2 #[13] #[{ accessFlags := 26, nameIndex := 15, descriptorIndex := 16, attributes := #[] }])
  fields := #[{ name := "serialVersionUID", type := .long, accessFlags := 26, slot := 0, constantValue := 0 }]
  methods := #[k5m0]
  instanceTypes := #[]
  staticTypes := #[.long]
  resolved := Array.replicate 37 none
  statics := none }

def pool6 : Array CpInfo := pool [(1, .class_ 2), (0, u "java/lang/Comparable"), (0, .class_ 4), (0, u "java/lang/Object")] 7

/-- java/lang/Comparable -/
def k6 : Class := { plain "java/lang/Comparable" (some 0) with
  accessFlags := 1537
  interfaces := #[]
  cf := some (fileOf pool6 1 #[] #[] 1537 3 #[] #[])
  fields := #[]
  methods := #[]
  instanceTypes := #[]
  staticTypes := #[]
  resolved := Array.replicate 12 none
  statics := none }

def pool7 : Array CpInfo := pool [(1, .class_ 2), (0, u "java/lang/constant/Constable"), (0, .class_ 4), (0, u "java/lang/Object")] 6

/-- java/lang/constant/Constable -/
def k7 : Class := { plain "java/lang/constant/Constable" (some 0) with
  accessFlags := 1537
  interfaces := #[]
  cf := some (fileOf pool7 1 #[] #[] 1537 3 #[] #[])
  fields := #[]
  methods := #[]
  instanceTypes := #[]
  staticTypes := #[]
  resolved := Array.replicate 11 none
  statics := none }

def pool8 : Array CpInfo := pool [(1, .class_ 2), (0, u "java/lang/constant/ConstantDesc"), (0, .class_ 4), (0, u "java/lang/Object")] 32

/-- java/lang/constant/ConstantDesc -/
def k8 : Class := { plain "java/lang/constant/ConstantDesc" (some 0) with
  accessFlags := 1537
  interfaces := #[]
  cf := some (fileOf pool8 1 #[] #[] 1537 3 #[] #[])
  fields := #[]
  methods := #[]
  instanceTypes := #[]
  staticTypes := #[]
  resolved := Array.replicate 37 none
  statics := none }

def pool9 : Array CpInfo := pool [(1, .class_ 2), (0, u "java/lang/Long"), (15, .class_ 20), (1, u "java/lang/Integer"), (80, u "(J)I"), (133, .class_ 237), (1, u "java/lang/Long$LongCache"), (33, .class_ 272), (0, u "java/lang/Number"), (2, u "value"), (0, u "J"), (33, u "(I)I"), (0, .methodref 18 312), (0, .nameAndType 313 310), (0, u "numberOfTrailingZeros"), (47, u "TYPE"), (0, u "Ljava/lang/Class;"), (0, .class_ 364), (0, u "java/lang/Comparable"), (0, .class_ 366), (0, u "java/lang/constant/Constable"), (0, .class_ 368), (0, u "java/lang/constant/ConstantDesc"), (0, u "MIN_VALUE"), (1, u "MAX_VALUE"), (4, u "SIZE"), (0, u "I"), (1, u "BYTES"), (1, u "serialVersionUID")] 142

def k9c0 : Code := { maxStack := 4, maxLocals := 3, code := jdk_35_method_49_code, exceptionTable := #[], attributes := #[] }
def k9m0 : Method := { name := "numberOfTrailingZeros", desc := "(J)I", sig := { parameters := [.long], returnType := some .int }, accessFlags := 9, code := some k9c0 }
/-- java/lang/Long -/
def k9 : Class := { plain "java/lang/Long" (some 5) with
  accessFlags := 49
  interfaces := #[6, 7, 8]
  cf := some (fileOf pool9 1 #[.nestMembers #[235]] #[{ accessFlags := 9, nameIndex := 313, descriptorIndex := 101, attributes := #[] }] 49 271 #[363, 365, 367] #[{ accessFlags := 25, nameIndex := 369, descriptorIndex := 276, attributes := #[] }, { accessFlags := 25, nameIndex := 371, descriptorIndex := 276, attributes := #[] }, { accessFlags := 25, nameIndex := 361, descriptorIndex := 362, attributes := #[] }, { accessFlags := 18, nameIndex := 275, descriptorIndex := 276, attributes := #[] }, { accessFlags := 25, nameIndex := 376, descriptorIndex := 377, attributes := #[] }, { accessFlags := 25, nameIndex := 379, descriptorIndex := 377, attributes := #[] }, { accessFlags := 26, nameIndex := 381, descriptorIndex := 276, attributes := #[] }])
  fields := #[{ name := "MIN_VALUE", type := .long, accessFlags := 25, slot := 0, constantValue := 0 }, { name := "MAX_VALUE", type := .long, accessFlags := 25, slot := 1, constantValue := 0 }, { name := "TYPE", type := (.object "java/lang/Class"), accessFlags := 25, slot := 2, constantValue := 0 }, { name := "value", type := .long, accessFlags := 18, slot := 0, constantValue := 0 }, { name := "SIZE", type := .int, accessFlags := 25, slot := 3, constantValue := 0 }, { name := "BYTES", type := .int, accessFlags := 25, slot := 4, constantValue := 0 }, { name := "serialVersionUID", type := .long, accessFlags := 26, slot := 5, constantValue := 0 }]
  methods := #[k9m0]
  instanceTypes := #[.long]
  staticTypes := #[.long, .long, (.object "java/lang/Class"), .int, .int, .long]
  resolved := Array.replicate 524 none
  statics := none }

def pool10 : Array CpInfo := pool [(1, .class_ 2), (0, u "java/lang/Integer"), (16, u "digits"), (0, u "[C"), (33, u "(I)I"), (30, u "DigitOnes"), (0, u "[B"), (2, u "DigitTens"), (99, .class_ 190), (0, u "java/lang/Integer$IntegerCache"), (3, u "I"), (8, .class_ 204), (0, u "java/lang/Number"), (2, u "value"), (56, .integer 65536), (37, u "TYPE"), (0, u "Ljava/lang/Class;"), (0, .class_ 305), (0, u "java/lang/Comparable"), (0, .class_ 307), (0, u "java/lang/constant/Constable"), (0, .class_ 309), (0, u "java/lang/constant/ConstantDesc"), (0, u "MIN_VALUE"), (1, u "MAX_VALUE"), (3, u "SIZE"), (1, u "BYTES"), (1, u "serialVersionUID"), (0, u "J"), (84, u "numberOfTrailingZeros")] 46

def k10c0 : Code := { maxStack := 3, maxLocals := 2, code := jdk_33_method_48_code, exceptionTable := #[], attributes := #[] }
def k10m0 : Method := { name := "numberOfTrailingZeros", desc := "(I)I", sig := { parameters := [.int], returnType := some .int }, accessFlags := 9, code := some k10c0 }
/-- java/lang/Integer -/
def k10 : Class := { plain "java/lang/Integer" (some 5) with
  accessFlags := 49
  interfaces := #[6, 7, 8]
  cf := some (fileOf pool10 1 #[.nestMembers #[189]] #[{ accessFlags := 9, nameIndex := 406, descriptorIndex := 54, attributes := #[] }] 49 203 #[304, 306, 308] #[{ accessFlags := 25, nameIndex := 310, descriptorIndex := 194, attributes := #[] }, { accessFlags := 25, nameIndex := 312, descriptorIndex := 194, attributes := #[] }, { accessFlags := 25, nameIndex := 302, descriptorIndex := 303, attributes := #[] }, { accessFlags := 24, nameIndex := 19, descriptorIndex := 20, attributes := #[] }, { accessFlags := 24, nameIndex := 89, descriptorIndex := 86, attributes := #[] }, { accessFlags := 24, nameIndex := 85, descriptorIndex := 86, attributes := #[] }, { accessFlags := 18, nameIndex := 207, descriptorIndex := 194, attributes := #[] }, { accessFlags := 25, nameIndex := 316, descriptorIndex := 194, attributes := #[] }, { accessFlags := 25, nameIndex := 318, descriptorIndex := 194, attributes := #[] }, { accessFlags := 26, nameIndex := 320, descriptorIndex := 321, attributes := #[] }])
  fields := #[{ name := "MIN_VALUE", type := .int, accessFlags := 25, slot := 0, constantValue := 0 }, { name := "MAX_VALUE", type := .int, accessFlags := 25, slot := 1, constantValue := 0 }, { name := "TYPE", type := (.object "java/lang/Class"), accessFlags := 25, slot := 2, constantValue := 0 }, { name := "digits", type := (.array .char), accessFlags := 24, slot := 3, constantValue := 0 }, { name := "DigitTens", type := (.array .byte), accessFlags := 24, slot := 4, constantValue := 0 }, { name := "DigitOnes", type := (.array .byte), accessFlags := 24, slot := 5, constantValue := 0 }, { name := "value", type := .int, accessFlags := 18, slot := 0, constantValue := 0 }, { name := "SIZE", type := .int, accessFlags := 25, slot := 6, constantValue := 0 }, { name := "BYTES", type := .int, accessFlags := 25, slot := 7, constantValue := 0 }, { name := "serialVersionUID", type := .long, accessFlags := 26, slot := 8, constantValue := 0 }]
  methods := #[k10m0]
  instanceTypes := #[.int]
  staticTypes := #[.int, .int, (.object "java/lang/Class"), (.array .char), (.array .byte), (.array .byte), .int, .int, .long]
  resolved := Array.replicate 453 none
  statics := none }

def pool11 : Array CpInfo := pool [(1, u "java/lang/Cloneable"), (0, .class_ 1), (0, u "java/lang/Object"), (0, .class_ 3)] 3

/-- java/lang/Cloneable -/
def k11 : Class := { plain "java/lang/Cloneable" (some 0) with
  accessFlags := 1537
  interfaces := #[]
  cf := some (fileOf pool11 2 #[] #[] 1537 4 #[] #[])
  fields := #[]
  methods := #[]
  instanceTypes := #[]
  staticTypes := #[]
  resolved := Array.replicate 8 none
  statics := none }

/-- the primitive byte -/
def k12 : Class := { plain "byte" none with kind := .primitive 'B', accessFlags := 0x411 }
/-- [B -/
def k13 : Class := { plain "[B" (some 0) with kind := .array 12 .byte, interfaces := #[11, 4], accessFlags := 1041 }

/-- the primitive double -/
def k14 : Class := { plain "double" none with kind := .primitive 'D', accessFlags := 0x411 }
/-- [D -/
def k15 : Class := { plain "[D" (some 0) with kind := .array 14 .double, interfaces := #[11, 4], accessFlags := 1041 }

/-- the primitive int -/
def k16 : Class := { plain "int" none with kind := .primitive 'I', accessFlags := 0x411 }
/-- [I -/
def k17 : Class := { plain "[I" (some 0) with kind := .array 16 .int, interfaces := #[11, 4], accessFlags := 1041 }

/-- the primitive long -/
def k18 : Class := { plain "long" none with kind := .primitive 'J', accessFlags := 0x411 }
/-- [J -/
def k19 : Class := { plain "[J" (some 0) with kind := .array 18 .long, interfaces := #[11, 4], accessFlags := 1041 }

def heap : Heap := #[]
def classes : Array Class := #[k0, k1, k2, k3, k4, k5, k6, k7, k8, k9, k10, k11, k12, k13, k14, k15, k16, k17, k18, k19]
def interned : List (Array UInt16 × Addr) := []
def slotsUsed : Nat := 0
def theMethod : MethodId := ⟨1, 1⟩
def args0 : Array Value := #[.int 5, .int 3, .int 7, .int 2, .int 4, .int 0]
def aboutOver (below : List Frame) : State where
  vm := { classes := classes, interned := interned.toArray }
  heap := heap
  slotsUsed := slotsUsed
  threads := #[{ frames := .invoking theMethod args0 :: below }]
def below0 : List Frame := [.native { method := ⟨0, 0⟩, args := #[] }]
def about1 : State := aboutOver below0
def p0 : Program := .bare "" "" ""
def e0 : Env := launch0.env 0 0 0
theorem w_frames : about1.frames = Frame.invoking theMethod args0 :: below0 := rfl
set_option maxRecDepth 65536 in
theorem w_args : argsFit about1.vm theMethod args0 = true := by decide +kernel
set_option maxRecDepth 65536 in
theorem w_heap : heapFits about1 = true := by decide +kernel
set_option maxRecDepth 65536 in
theorem w_runnable : about1.curStatus? = some .runnable := by decide +kernel
set_option maxRecDepth 65536 in
theorem w_alone : about1.alone = true := by decide +kernel
set_option maxRecDepth 65536 in
theorem w_named : about1.methodNamed? x = some theMethod := by decide +kernel
set_option maxRecDepth 65536 in
theorem w_hears : about1.hears theMethod below0 = true := by decide +kernel
set_option maxRecDepth 65536 in
theorem w_ripe : about1.ripe theMethod args0 below0 = true := by decide +kernel
theorem w_running : about1.status = .running := rfl
set_option maxRecDepth 65536 in
theorem w_room : about1.hasRoom e0.platform room_1 = true :=
  launch0.hasRoom_least _ room_1 (by decide +kernel) (by decide +kernel) (by decide +kernel) (by decide +kernel) (by decide +kernel) (by decide +kernel)
theorem allAtoms_all (ts : List Jvm.Cond) (a : Array Jvm.Value) (st : Jvm.State) : (allAtoms ts).before a st = ts.all (fun c => c.before a st) := by
  induction ts with
  | nil => rfl
  | cons c t ih =>
    show (Jvm.Cond.and c (allAtoms t)).before a st = _
    rw [Jvm.Cond.before_and, ih, List.all_cons]
def words1 : List Jvm.Cond := Jvm.Cond.code x code maxLocals ret :: tables_1
/-- a 'code' word, met by the world's own term for the bytes: nothing is compared byte by byte -/
theorem code_word {y : MethodName} {bytes : ByteArray} {mx : Nat} {rt : Option FieldType} {a : Array Value} {s : State} {m : MethodId} {meth : Method} {c : Code} (h1 : s.methodNamed? y = some m) (h2 : s.vm.method? m = some meth) (h3 : meth.code = some c) (h4 : c.code = bytes)
    (h5 : (c.maxLocals == mx && c.exceptionTable.isEmpty && decide (c.maxStack ≤ mostOperands) && decide (meth.sig.returnType = rt) && !meth.locks && decide (parseMethodDescriptor y.desc = some meth.sig)) = true) : (Jvm.Cond.code y bytes mx rt).before a s = true := by
  simp only [Bool.and_eq_true, beq_iff_eq, Bool.not_eq_true', decide_eq_true_eq] at h5
  obtain ⟨⟨⟨⟨⟨g1, g2⟩, g3⟩, g4⟩, g5⟩, g6⟩ := h5
  simp [Cond.before, Cond.holds, Cond.value, h1, h2, h3, h4, g1, g2, g3, g4, g5, g6]
def isCode : Jvm.Cond → Bool
  | .code _ _ _ _ => true
  | _ => false
theorem all_split {L : List Jvm.Cond} {P : Jvm.Cond → Bool} (h1 : L.all (fun c => isCode c || P c) = true) (h2 : ∀ c ∈ L.filter isCode, P c = true) : L.all P = true := by
  refine List.all_eq_true.mpr fun c hc => ?_
  have h := List.all_eq_true.mp h1 c hc
  rcases Bool.eq_false_or_eq_true (isCode c) with hi | hi
  · exact h2 c (List.mem_filter.mpr ⟨hc, hi⟩)
  · simpa [hi] using h
set_option maxRecDepth 65536 in
theorem w_c0 : (Jvm.Cond.code x code maxLocals ret).before args0 about1 = true := code_word (m := ⟨1, 1⟩) (meth := k1m1) (c := k1c1) (by decide +kernel) rfl rfl rfl (by decide +kernel)
set_option maxRecDepth 65536 in
theorem w_c1 : (Jvm.Cond.code ({ cls := "com/example/libclause/libclause/search/ScoreWindow", name := "<init>", desc := "()V" } : Jvm.MethodName) prog_62_method_1_code (1 : Nat) (Option.none : Option Jvm.ClassFile.FieldType)).before args0 about1 = true := code_word (m := ⟨2, 0⟩) (meth := k2m0) (c := k2c0) (by decide +kernel) rfl rfl rfl (by decide +kernel)
set_option maxRecDepth 65536 in
theorem w_c2 : (Jvm.Cond.code ({ cls := "java/lang/Object", name := "<init>", desc := "()V" } : Jvm.MethodName) object_method_1_code (1 : Nat) (Option.none : Option Jvm.ClassFile.FieldType)).before args0 about1 = true := code_word (m := ⟨0, 0⟩) (meth := k0m0) (c := k0c0) (by decide +kernel) rfl rfl rfl (by decide +kernel)
set_option maxRecDepth 65536 in
theorem w_c3 : (Jvm.Cond.code ({ cls := "com/example/libclause/libclause/search/ScoreWindow", name := "start", desc := "(I)V" } : Jvm.MethodName) prog_62_method_2_code (6 : Nat) (Option.none : Option Jvm.ClassFile.FieldType)).before args0 about1 = true := code_word (m := ⟨2, 1⟩) (meth := k2m1) (c := k2c1) (by decide +kernel) rfl rfl rfl (by decide +kernel)
set_option maxRecDepth 65536 in
theorem w_c4 : (Jvm.Cond.code ({ cls := "java/lang/Math", name := "min", desc := "(JJ)J" } : Jvm.MethodName) jdk_29_method_70_code (4 : Nat) (Option.some Jvm.ClassFile.FieldType.long)).before args0 about1 = true := code_word (m := ⟨3, 3⟩) (meth := k3m3) (c := k3c3) (by decide +kernel) rfl rfl rfl (by decide +kernel)
set_option maxRecDepth 65536 in
theorem w_c5 : (Jvm.Cond.code ({ cls := "com/example/libclause/libclause/search/ScoreWindow", name := "end", desc := "()I" } : Jvm.MethodName) prog_62_method_3_code (1 : Nat) (Option.some Jvm.ClassFile.FieldType.int)).before args0 about1 = true := code_word (m := ⟨2, 2⟩) (meth := k2m2) (c := k2c2) (by decide +kernel) rfl rfl rfl (by decide +kernel)
set_option maxRecDepth 65536 in
theorem w_c6 : (Jvm.Cond.code ({ cls := "com/example/libclause/libclause/search/ScoreWindow", name := "add", desc := "(ID)V" } : Jvm.MethodName) prog_62_method_4_code (5 : Nat) (Option.none : Option Jvm.ClassFile.FieldType)).before args0 about1 = true := code_word (m := ⟨2, 3⟩) (meth := k2m3) (c := k2c3) (by decide +kernel) rfl rfl rfl (by decide +kernel)
set_option maxRecDepth 65536 in
theorem w_c7 : (Jvm.Cond.code ({ cls := "java/lang/Math", name := "min", desc := "(II)I" } : Jvm.MethodName) jdk_29_method_69_code (2 : Nat) (Option.some Jvm.ClassFile.FieldType.int)).before args0 about1 = true := code_word (m := ⟨3, 2⟩) (meth := k3m2) (c := k3c2) (by decide +kernel) rfl rfl rfl (by decide +kernel)
set_option maxRecDepth 65536 in
theorem w_c8 : (Jvm.Cond.code ({ cls := "java/lang/Math", name := "max", desc := "(II)I" } : Jvm.MethodName) jdk_29_method_65_code (2 : Nat) (Option.some Jvm.ClassFile.FieldType.int)).before args0 about1 = true := code_word (m := ⟨3, 1⟩) (meth := k3m1) (c := k3c1) (by decide +kernel) rfl rfl rfl (by decide +kernel)
set_option maxRecDepth 65536 in
theorem w_c9 : (Jvm.Cond.code ({ cls := "com/example/libclause/libclause/search/ScoreWindow", name := "score", desc := "(I)D" } : Jvm.MethodName) prog_62_method_6_code (2 : Nat) (Option.some Jvm.ClassFile.FieldType.double)).before args0 about1 = true := code_word (m := ⟨2, 5⟩) (meth := k2m5) (c := k2c5) (by decide +kernel) rfl rfl rfl (by decide +kernel)
set_option maxRecDepth 65536 in
theorem w_c10 : (Jvm.Cond.code ({ cls := "com/example/libclause/libclause/search/ScoreWindow", name := "count", desc := "(I)I" } : Jvm.MethodName) prog_62_method_7_code (2 : Nat) (Option.some Jvm.ClassFile.FieldType.int)).before args0 about1 = true := code_word (m := ⟨2, 6⟩) (meth := k2m6) (c := k2c6) (by decide +kernel) rfl rfl rfl (by decide +kernel)
set_option maxRecDepth 65536 in
theorem w_c11 : (Jvm.Cond.code ({ cls := "com/example/libclause/libclause/search/ScoreWindow", name := "next", desc := "(I)I" } : Jvm.MethodName) prog_62_method_5_code (6 : Nat) (Option.some Jvm.ClassFile.FieldType.int)).before args0 about1 = true := code_word (m := ⟨2, 4⟩) (meth := k2m4) (c := k2c4) (by decide +kernel) rfl rfl rfl (by decide +kernel)
set_option maxRecDepth 65536 in
theorem w_c12 : (Jvm.Cond.code ({ cls := "java/lang/Long", name := "numberOfTrailingZeros", desc := "(J)I" } : Jvm.MethodName) jdk_35_method_49_code (3 : Nat) (Option.some Jvm.ClassFile.FieldType.int)).before args0 about1 = true := code_word (m := ⟨9, 0⟩) (meth := k9m0) (c := k9c0) (by decide +kernel) rfl rfl rfl (by decide +kernel)
set_option maxRecDepth 65536 in
theorem w_c13 : (Jvm.Cond.code ({ cls := "java/lang/Integer", name := "numberOfTrailingZeros", desc := "(I)I" } : Jvm.MethodName) jdk_33_method_48_code (2 : Nat) (Option.some Jvm.ClassFile.FieldType.int)).before args0 about1 = true := code_word (m := ⟨10, 0⟩) (meth := k10m0) (c := k10c0) (by decide +kernel) rfl rfl rfl (by decide +kernel)
def codes1 : List Jvm.Cond := [Jvm.Cond.code x code maxLocals ret, Jvm.Cond.code ({ cls := "com/example/libclause/libclause/search/ScoreWindow", name := "<init>", desc := "()V" } : Jvm.MethodName) prog_62_method_1_code (1 : Nat) (Option.none : Option Jvm.ClassFile.FieldType), Jvm.Cond.code ({ cls := "java/lang/Object", name := "<init>", desc := "()V" } : Jvm.MethodName) object_method_1_code (1 : Nat) (Option.none : Option Jvm.ClassFile.FieldType), Jvm.Cond.code ({ cls := "com/example/libclause/libclause/search/ScoreWindow", name := "start", desc := "(I)V" } : Jvm.MethodName) prog_62_method_2_code (6 : Nat) (Option.none : Option Jvm.ClassFile.FieldType), Jvm.Cond.code ({ cls := "java/lang/Math", name := "min", desc := "(JJ)J" } : Jvm.MethodName) jdk_29_method_70_code (4 : Nat) (Option.some Jvm.ClassFile.FieldType.long), Jvm.Cond.code ({ cls := "com/example/libclause/libclause/search/ScoreWindow", name := "end", desc := "()I" } : Jvm.MethodName) prog_62_method_3_code (1 : Nat) (Option.some Jvm.ClassFile.FieldType.int), Jvm.Cond.code ({ cls := "com/example/libclause/libclause/search/ScoreWindow", name := "add", desc := "(ID)V" } : Jvm.MethodName) prog_62_method_4_code (5 : Nat) (Option.none : Option Jvm.ClassFile.FieldType), Jvm.Cond.code ({ cls := "java/lang/Math", name := "min", desc := "(II)I" } : Jvm.MethodName) jdk_29_method_69_code (2 : Nat) (Option.some Jvm.ClassFile.FieldType.int), Jvm.Cond.code ({ cls := "java/lang/Math", name := "max", desc := "(II)I" } : Jvm.MethodName) jdk_29_method_65_code (2 : Nat) (Option.some Jvm.ClassFile.FieldType.int), Jvm.Cond.code ({ cls := "com/example/libclause/libclause/search/ScoreWindow", name := "score", desc := "(I)D" } : Jvm.MethodName) prog_62_method_6_code (2 : Nat) (Option.some Jvm.ClassFile.FieldType.double), Jvm.Cond.code ({ cls := "com/example/libclause/libclause/search/ScoreWindow", name := "count", desc := "(I)I" } : Jvm.MethodName) prog_62_method_7_code (2 : Nat) (Option.some Jvm.ClassFile.FieldType.int), Jvm.Cond.code ({ cls := "com/example/libclause/libclause/search/ScoreWindow", name := "next", desc := "(I)I" } : Jvm.MethodName) prog_62_method_5_code (6 : Nat) (Option.some Jvm.ClassFile.FieldType.int), Jvm.Cond.code ({ cls := "java/lang/Long", name := "numberOfTrailingZeros", desc := "(J)I" } : Jvm.MethodName) jdk_35_method_49_code (3 : Nat) (Option.some Jvm.ClassFile.FieldType.int), Jvm.Cond.code ({ cls := "java/lang/Integer", name := "numberOfTrailingZeros", desc := "(I)I" } : Jvm.MethodName) jdk_33_method_48_code (2 : Nat) (Option.some Jvm.ClassFile.FieldType.int)]
set_option maxRecDepth 65536 in
theorem codes_eq : words1.filter isCode = codes1 := rfl
theorem w_codes : ∀ c ∈ words1.filter isCode, c.before args0 about1 = true := by
  rw [codes_eq]
  intro c hc
  simp only [codes1, List.mem_cons, List.not_mem_nil, or_false] at hc
  rcases hc with rfl | rfl | rfl | rfl | rfl | rfl | rfl | rfl | rfl | rfl | rfl | rfl | rfl | rfl
  · exact w_c0
  · exact w_c1
  · exact w_c2
  · exact w_c3
  · exact w_c4
  · exact w_c5
  · exact w_c6
  · exact w_c7
  · exact w_c8
  · exact w_c9
  · exact w_c10
  · exact w_c11
  · exact w_c12
  · exact w_c13
set_option maxRecDepth 65536 in
theorem w_t1 : (words1.take 24).all (fun c => isCode c || c.before args0 about1) = true := by decide +kernel
set_option maxRecDepth 65536 in
theorem w_t2 : ((words1.drop 24).take 24).all (fun c => isCode c || c.before args0 about1) = true := by decide +kernel
set_option maxRecDepth 65536 in
theorem w_t3 : (((words1.drop 24).drop 24).take 24).all (fun c => isCode c || c.before args0 about1) = true := by decide +kernel
set_option maxRecDepth 65536 in
theorem w_t4 : (((words1.drop 24).drop 24).drop 24).all (fun c => isCode c || c.before args0 about1) = true := by decide +kernel
theorem w_tables : (allAtoms (Jvm.Cond.code x code maxLocals ret :: tables_1)).before args0 about1 = true := by
  rw [allAtoms_all]
  show words1.all (fun c => c.before args0 about1) = true
  refine all_split ?_ w_codes
  rw [← List.take_append_drop 24 words1, List.all_append, w_t1, ← List.take_append_drop 24 (words1.drop 24), List.all_append, w_t2, ← List.take_append_drop 24 ((words1.drop 24).drop 24), List.all_append, w_t3, w_t4]
  rfl
set_option maxRecDepth 65536 in
theorem w_case : (Jvm.Cond.and given_1 narrow_1).before args0 about1 = true := by decide +kernel
theorem w_applies : (headSpec (Jvm.Cond.code x code maxLocals ret :: tables_1) room_1).applies x e0.platform about1 = true :=
  (Spec.applies_iff w_frames).mpr ⟨w_running, w_runnable, w_alone, w_named, w_hears, w_ripe, w_room, w_tables⟩
theorem atStart : AtStart classFile x code maxLocals ret World_1 tables_1 room_1 Calls_1 rest_1 Pre_1 launch0 p0 e0 about1 theMethod args0 below0 :=
  ⟨lists_1, trivial, launch0.admits_env _ _ _, launch0.least_env, fairChoices_fair.cas, fairChoices_fair.clock, w_frames, w_args, w_heap, w_applies, trivial, trivial, w_case⟩
end start1
theorem witness_1 : WitnessClaimed_1 := ⟨start1.p0, start1.e0, start1.about1, start1.theMethod, start1.args0, start1.below0, start1.atStart⟩
end Jvm.Pilot.@@N@@
