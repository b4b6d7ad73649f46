import JvmDerived
import JvmDerived.Pilot.@@N@@Statement
import JvmDerived.Pilot.@@N@@Code
set_option linter.unusedVariables false
set_option linter.unusedSimpArgs false
@@BLOCK:NumsL.lean.txt@@
namespace Jvm.Pilot.@@N@@
open Jvm Jvm.ClassFile Sem Op Lib Jvm.Free Jvm.Stand Jvm.LawKit Jvm.RoadKit Bundle Jvm.Pilot.@@N@@.Jvm.D
theorem own_nb {z : Int32} (h : z = 0 ∨ z = 1) : nar .boolean z = z := by rcases h with rfl | rfl <;> decide
/-! doubles as whole numbers of 2^-1074: own_zv; the rounding of a quotient of whole numbers: own_rr -/
section FloatKit
open Jvm.FP.Core
def own_zv (a : UInt64) : Int := zval b64 (val64 a)
def own_rr (A B : Nat) : Nat := zmag b64 (roundRatio b64 false A B 0)
def own_Rep (V : Nat) : Prop := ∃ d, Jvm.FP.Core.fits b64 d ∧ d ≠ .nan ∧ zmag b64 d = V
theorem own_zmag_s (s : Bool) (A B : Nat) (e : Int) : zmag b64 (roundRatio b64 s A B e) = zmag b64 (roundRatio b64 false A B e) := by
  cases s
  · rfl
  · rw [show (true : Bool) = !false from rfl, ← negate_roundRatio]
    cases roundRatio b64 false A B e <;> rfl
theorem own_zv_round {s : Bool} {A B : Nat} {a : UInt64} (h : val64 a = roundRatio b64 s A B 0) : own_zv a = signed s (own_rr A B) := by
  unfold own_zv zval
  rw [h, sgn_roundRatio, own_zmag_s]; rfl
theorem own_units0 (A : Nat) : inUnits A 0 b64.qmin = A * one64 := by
  unfold inUnits
  rw [Int.zero_sub, pow_qmin64]
theorem own_rr_zero (B : Nat) : own_rr 0 B = 0 := by
  unfold own_rr roundRatio
  rw [if_pos rfl]; simp [zmag, inUnits]
theorem own_rr_rep (A : Nat) {B : Nat} (hB : 0 < B) : own_Rep (own_rr A B) := ⟨_, roundRatio_fits good_b64 false A hB 0, roundRatio_ne_nan _ _ _ _ _, rfl⟩
theorem own_rr_le {A B V : Nat} (hB : 0 < B) (hV : own_Rep V) (h : A * one64 ≤ V * B) : own_rr A B ≤ V := by
  obtain ⟨d, h1, h2, rfl⟩ := hV
  refine zmag_roundRatio_le good_b64 hB h1 h2 (e0 := b64.qmin) (Int.le_refl _) (by decide) ?_
  rw [own_units0, Int.sub_self, Int.toNat_zero, Nat.pow_zero, Nat.mul_one]
  exact h
theorem own_rr_ge {A B V : Nat} (hB : 0 < B) (hV : own_Rep V) (h : V * B ≤ A * one64) : V ≤ own_rr A B := by
  obtain ⟨d, h1, h2, rfl⟩ := hV
  refine zmag_roundRatio_ge good_b64 hB h1 (e0 := b64.qmin) (Int.le_refl _) (by decide) ?_
  rw [own_units0, Int.sub_self, Int.toNat_zero, Nat.pow_zero, Nat.mul_one]
  exact h
theorem own_rr_exact {A B V : Nat} (hB : 0 < B) (hV : own_Rep V) (h : A * one64 = V * B) : own_rr A B = V :=
  Nat.le_antisymm (own_rr_le hB hV (Nat.le_of_eq h)) (own_rr_ge hB hV (Nat.le_of_eq h.symm))
theorem own_rr_congr {A B A' B' : Nat} (hB : 0 < B) (hB' : 0 < B') (h : A * B' = A' * B) : own_rr A B = own_rr A' B' := by
  unfold own_rr
  rw [roundRatio_congr (e' := 0) hB hB' (by simpa using h)]
/-- what is finite -/
theorem own_fin_round {s : Bool} {A B : Nat} {a : UInt64} (h : val64 a = roundRatio b64 s A B 0) (hlt : own_rr A B < b64.tails * 2 ^ (b64.exps - 2)) : DFin a := by
  rcases roundRatio_cases b64 s A B 0 with ⟨c, q, e⟩ | e
  · exact ⟨s, c, q, by rw [h, e]⟩
  · exfalso
    rw [own_rr, ← own_zmag_s s, e] at hlt
    exact Nat.lt_irrefl _ hlt
/-- m * 2^k is a double -/
theorem own_rep_pow {m k : Nat} (hm : m < 2 ^ 53) (hk : k ≤ 2045) : own_Rep (m * 2 ^ k) := by
  have hq1 : b64.qmin ≤ (k : Int) - 1074 := by rw [qmin_b64]; omega
  have hq2 : (k : Int) - 1074 ≤ b64.qmax := by rw [show b64.qmax = 971 by decide]; omega
  obtain ⟨c', q', h1, h2⟩ := round_exact good_b64 false (c := m) (q := (k : Int) - 1074) (by exact hm) hq1 hq2
  refine ⟨_, round_fits good_b64 (.fin false m ((k : Int) - 1074)), by rw [h1]; exact Datum.noConfusion, ?_⟩
  rw [h1]
  show inUnits c' q' b64.qmin = _
  rw [h2]
  unfold inUnits
  rw [qmin_b64, show ((k : Int) - 1074 - -1074).toNat = k by omega]
theorem own_rep_zero : own_Rep 0 := by
  have := own_rep_pow (m := 0) (k := 0) (by decide) (by decide)
  simpa using this
/-- rounding keeps the order -/
theorem own_rr_mono {A B A' B' : Nat} (hB : 0 < B) (hB' : 0 < B') (h : A * B' ≤ A' * B) : own_rr A B ≤ own_rr A' B' := by
  rcases roundRatio_cases b64 false A' B' 0 with ⟨c', q', e'⟩ | e'
  · rcases roundRatio_cases b64 false A B 0 with ⟨c, q, e⟩ | e
    · refine Nat.le_of_not_lt fun hlt => ?_
      have f1 : Jvm.FP.Core.fits b64 (.fin false c q) := e ▸ roundRatio_fits good_b64 false A hB 0
      have f2 : Jvm.FP.Core.fits b64 (.fin false c' q') := e' ▸ roundRatio_fits good_b64 false A' hB' 0
      have d1 := roundRatio_nearest good_b64 hB e f2.1 f2.2.1 (e0 := b64.qmin) (Int.le_refl _) (by decide)
      have d2 := roundRatio_nearest good_b64 hB' e' f1.1 f1.2.1 (e0 := b64.qmin) (Int.le_refl _) (by decide)
      unfold distance at d1 d2
      have x1 : own_rr A B = inUnits c q b64.qmin := by unfold own_rr; rw [e]; rfl
      have x2 : own_rr A' B' = inUnits c' q' b64.qmin := by unfold own_rr; rw [e']; rfl
      rw [x1, x2] at hlt
      rw [own_units0] at d1 d2
      generalize inUnits c q b64.qmin = X at *
      generalize inUnits c' q' b64.qmin = Y at *
      have hU := one64_pos
      generalize hP : A * one64 = P at *
      generalize hP' : A' * one64 = P' at *
      have hPP : P * B' ≤ P' * B := by
        rw [← hP, ← hP', Nat.mul_right_comm, Nat.mul_right_comm A']; exact Nat.mul_le_mul_right _ h
      rw [← Int.natCast_mul, ← Int.natCast_mul] at d1 d2
      have hXB : Y * B + B ≤ X * B := by rw [← Nat.succ_mul]; exact Nat.mul_le_mul_right _ hlt
      have hXB' : Y * B' + B' ≤ X * B' := by rw [← Nat.succ_mul]; exact Nat.mul_le_mul_right _ hlt
      have g1 : X * B + Y * B ≤ 2 * P := by
        generalize X * B = xb at *; generalize Y * B = yb at *; omega
      have g2 : 2 * P' ≤ X * B' + Y * B' := by
        generalize X * B' = xb at *; generalize Y * B' = yb at *; omega
      have g3 : (X * B + Y * B) * B' ≤ 2 * P * B' := Nat.mul_le_mul_right _ g1
      have g4 : 2 * P' * B ≤ (X * B' + Y * B') * B := Nat.mul_le_mul_right _ g2
      have g5 : (X * B + Y * B) * B' = (X * B' + Y * B') * B := by
        rw [Nat.add_mul, Nat.add_mul, Nat.mul_right_comm X, Nat.mul_right_comm Y]
      have g6 : P * B' = P' * B := by
        rw [Nat.mul_assoc] at g3 g4
        rw [g5] at g3
        generalize P * B' = u at *; generalize P' * B = w at *; omega
      have g7 : A * B' = A' * B := by
        rw [← hP, ← hP', Nat.mul_right_comm, Nat.mul_right_comm A'] at g6
        exact Nat.eq_of_mul_eq_mul_right hU g6
      have g8 := own_rr_congr hB hB' g7
      rw [x1, x2] at g8
      omega
    · exfalso
      have i1 := (roundRatio_inf good_b64 (s := false) (A := A) (B := B) (e := 0) (e0 := -1075) hB (by decide) (by decide)).mp e
      have i2 : ¬ _ := fun z => by
        have := (roundRatio_inf good_b64 (s := false) (A := A') (B := B') (e := 0) (e0 := -1075) hB' (by decide) (by decide)).mpr z
        rw [this] at e'; cases e'
      apply i2
      generalize (2 ^ (b64.p + 1) - 1) * 2 ^ (b64.qmax - 1 - -1075).toNat = M at *
      have hU : ∀ z, inUnits z 0 (-1075) = z * 2 ^ (0 - (-1075 : Int)).toNat := fun z => rfl
      rw [hU] at i1 ⊢
      have hW := Nat.two_pow_pos (0 - (-1075 : Int)).toNat
      generalize 2 ^ (0 - (-1075 : Int)).toNat = W at *
      have j1 : M * B * B' ≤ A * W * B' := Nat.mul_le_mul_right _ i1
      have j2 : A * W * B' ≤ A' * W * B := by
        rw [Nat.mul_right_comm, Nat.mul_right_comm A']; exact Nat.mul_le_mul_right _ h
      have j3 : M * B' * B ≤ A' * W * B := by rw [Nat.mul_right_comm]; exact Nat.le_trans j1 j2
      exact Nat.le_of_mul_le_mul_right j3 hB
  · have f1 := roundRatio_fits good_b64 false A hB 0
    unfold own_rr
    rw [e']
    exact zmag_le_top good_b64 f1
/-- the relative error -/
theorem own_rr_err {A B : Nat} (hB : 0 < B) (hn : 2 ^ 52 * B ≤ A * one64) (hlt : own_rr A B < b64.tails * 2 ^ (b64.exps - 2)) :
    2 ^ 53 * (own_rr A B * B) ≤ 2 ^ 53 * (A * one64) + A * one64 ∧ 2 ^ 53 * (A * one64) ≤ 2 ^ 53 * (own_rr A B * B) + A * one64 := by
  have hA : 0 < A := by
    rcases Nat.eq_zero_or_pos A with rfl | h
    · rw [Nat.zero_mul] at hn; have := Nat.mul_pos (show 0 < 2 ^ 52 by decide) hB; omega
    · exact h
  rcases roundRatio_cases b64 false A B 0 with ⟨c, q, e⟩ | e
  · have x1 : own_rr A B = inUnits c q b64.qmin := by unfold own_rr; rw [e]; rfl
    have e1 := e
    unfold roundRatio at e1
    rw [if_neg (by omega)] at e1
    unfold roundAt at e1
    have hq := quantum_ge b64 A B 0
    have hnb := quantum_not_below (f := b64) hA hB 0
    have hle := nearest_units_le (f := b64) hA hB 0
    generalize hr : quantum b64 A B 0 = r at *
    obtain ⟨-, s2⟩ := settle_value good_b64 hle e1 (e0 := b64.qmin) hq
    obtain ⟨n1, n2, -⟩ := nearest_spec (unitsNum A 0 r) (unitsDen B 0 r) (unitsDen_pos hB 0 r)
    generalize nearest (unitsNum A 0 r) (unitsDen B 0 r) = m at *
    rw [x1, s2]
    -- the ratio in units of 2^r is at least 2^52
    obtain ⟨k, hk⟩ : ∃ k : Nat, r = (k : Int) - 1074 := ⟨(r + 1074).toNat, by rw [qmin_b64] at hq; omega⟩
    have hm : inUnits m r b64.qmin = m * 2 ^ k := by
      unfold inUnits; rw [qmin_b64, hk, show ((k : Int) - 1074 - -1074).toNat = k by omega]
    rw [hm]
    -- A' * 2^k * g = A * one64 * g and B' * 2^k .. : scale both
    have hsc : ∃ G : Nat, 0 < G ∧ unitsNum A 0 r * 2 ^ k = A * one64 * G ∧ unitsDen B 0 r = B * G := by
      by_cases hk2 : 1074 ≤ k
      · refine ⟨2 ^ (k - 1074), Nat.two_pow_pos _, ?_, ?_⟩
        · unfold unitsNum one64
          rw [hk, show (0 - ((k : Int) - 1074)).toNat = 0 by omega, Nat.pow_zero, Nat.mul_one, Nat.mul_assoc, ← Nat.pow_add, show 1074 + (k - 1074) = k by omega]
        · unfold unitsDen
          rw [hk, show ((k : Int) - 1074 - 0).toNat = k - 1074 by omega]
      · refine ⟨1, by decide, ?_, ?_⟩
        · unfold unitsNum one64
          rw [hk, show (0 - ((k : Int) - 1074)).toNat = 1074 - k by omega, Nat.mul_one, Nat.mul_assoc, ← Nat.pow_add, show 1074 - k + k = 1074 by omega]
        · unfold unitsDen
          rw [hk, show ((k : Int) - 1074 - 0).toNat = 0 by omega, Nat.pow_zero]
    obtain ⟨G, hG, s3, s4⟩ := hsc
    have hbig : 2 ^ 52 * unitsDen B 0 r ≤ unitsNum A 0 r := by
      rcases hnb with h0 | h0
      · have hk0 : k = 0 := by rw [qmin_b64] at h0; omega
        rw [hk0, Nat.pow_zero, Nat.mul_one] at s3
        rw [s3, s4, ← Nat.mul_assoc]
        exact Nat.mul_le_mul_right _ hn
      · rw [show (b64.p : Int) - 1 = ((52 : Nat) : Int) by decide, ← units_below] at h0
        omega
    rw [s4] at n1 n2 hbig
    generalize unitsNum A 0 r = A' at *
    have hK := Nat.two_pow_pos k
    generalize 2 ^ k = K at *
    generalize A * one64 = P at *
    -- n1 : 2A' ≤ (2m+1)(B G), n2 : 2 m (B G) ≤ 2 A' + B G, hbig : 2^52 (B G) ≤ A', s3 : A' K = P G
    have t1 : 2 * (A' * K) ≤ 2 * (m * K * (B * G)) + B * G * K := by
      have := Nat.mul_le_mul_right K n1
      calc 2 * (A' * K) = 2 * A' * K := by ((try generalize Jvm.FP.Core.one64 = own_U); ac_rfl)
        _ ≤ (2 * m + 1) * (B * G) * K := this
        _ = 2 * (m * K * (B * G)) + B * G * K := by rw [Nat.add_mul, Nat.add_mul, Nat.one_mul]; ((try generalize Jvm.FP.Core.one64 = own_U); ac_rfl)
    have t2 : 2 * (m * K * (B * G)) ≤ 2 * (A' * K) + B * G * K := by
      have := Nat.mul_le_mul_right K n2
      calc 2 * (m * K * (B * G)) = 2 * m * (B * G) * K := by ((try generalize Jvm.FP.Core.one64 = own_U); ac_rfl)
        _ ≤ (2 * A' + B * G) * K := this
        _ = 2 * (A' * K) + B * G * K := by rw [Nat.add_mul]; ((try generalize Jvm.FP.Core.one64 = own_U); ac_rfl)
    have t3 : 2 ^ 52 * (B * G * K) ≤ A' * K := by
      have := Nat.mul_le_mul_right K hbig
      rw [Nat.mul_assoc] at this; exact this
    rw [s3] at t1 t2 t3
    have t4 : m * K * (B * G) = (m * K * B) * G := by ((try generalize Jvm.FP.Core.one64 = own_U); ac_rfl)
    have t5 : B * G * K = B * K * G := by ((try generalize Jvm.FP.Core.one64 = own_U); ac_rfl)
    rw [t4, t5] at t1 t2
    rw [t5] at t3
    have u1 : 2 * P ≤ 2 * (m * K * B) + B * K := by
      refine Nat.le_of_mul_le_mul_right (c := G) ?_ hG
      rw [Nat.add_mul, Nat.mul_assoc, Nat.mul_assoc 2]; exact t1
    have u2 : 2 * (m * K * B) ≤ 2 * P + B * K := by
      refine Nat.le_of_mul_le_mul_right (c := G) ?_ hG
      rw [Nat.add_mul, Nat.mul_assoc, Nat.mul_assoc 2]; exact t2
    have u3 : 2 ^ 52 * (B * K) ≤ P := by
      refine Nat.le_of_mul_le_mul_right (c := G) ?_ hG
      rw [Nat.mul_assoc]; exact t3
    generalize m * K * B = x at *
    generalize B * K = y at *
    constructor <;> omega
  · exfalso
    rw [own_rr, e] at hlt
    exact Nat.lt_irrefl _ hlt
/-! comparisons -/
theorem own_cmp {a b : UInt64} (ha : val64 a ≠ .nan) (hb : val64 b ≠ .nan) (o : CmpOp) : cmpValue (Jvm.FP.dcmp a b) o = if own_zv a < own_zv b then -1 else if own_zv a = own_zv b then 0 else 1 := by
  have h := dcmp_zval ha hb
  unfold own_zv
  show cmpValue (dcmp a b) o = _
  rw [h, compare_ite]
  by_cases h1 : zval b64 (val64 a) < zval b64 (val64 b)
  · rw [if_pos h1, if_pos h1]; rfl
  · rw [if_neg h1, if_neg h1]
    by_cases h2 : zval b64 (val64 a) = zval b64 (val64 b)
    · rw [if_pos h2, if_pos h2]; rfl
    · rw [if_neg h2, if_neg h2]; rfl
theorem own_fin_ne {a : UInt64} (h : DFin a) : val64 a ≠ .nan := h.ne_nan
theorem own_fin_nn {a : UInt64} (h : DFin a) : Jvm.Free.Fl.NoNaN64 a := Jvm.Free.Fl.val64_no.mpr h.ne_nan
/-! whole numbers -/
theorem own_i2d (x : Int32) : own_zv (Jvm.FP.i2d x) = x.toInt * (one64 : Int) := DInt_zval (i2d_int x)
theorem own_i2d_fin (x : Int32) : DFin (Jvm.FP.i2d x) := Jvm.FP.Core.i2d_fin x
theorem own_l2d {x : Int64} (h : x.toInt.natAbs ≤ 2 ^ 53) : own_zv (Jvm.FP.l2d x) = x.toInt * (one64 : Int) := DInt_zval (l2d_int h)
theorem own_l2d_fin (x : Int64) : DFin (Jvm.FP.l2d x) := Jvm.FP.Core.l2d_fin x
/-! the sign -/
theorem own_sgn {a : UInt64} (h : own_zv a ≠ 0) : sgn (val64 a) = decide (own_zv a < 0) := by
  unfold own_zv zval at *
  have hz : 0 < zmag b64 (val64 a) := Nat.pos_of_ne_zero fun q => h (by rw [q, signed_zero])
  rw [signed_lt_zero _ hz]
theorem own_natAbs (a : UInt64) : (own_zv a).natAbs = zmag b64 (val64 a) := natAbs_signed _ _
/-! division -/
theorem own_div {a b : UInt64} (ha : DFin a) (hb : DFin b) (hz : own_zv b ≠ 0) :
    val64 (Jvm.FP.ddiv a b) = roundRatio b64 (sgn (val64 a) != sgn (val64 b)) (own_zv a).natAbs (own_zv b).natAbs 0 := by
  rw [own_natAbs, own_natAbs]
  have hzb : zmag b64 (val64 b) ≠ 0 := fun q => hz (by unfold own_zv zval; rw [q, signed_zero])
  show val64 (ddiv a b) = _
  rw [val64_ddiv]
  have fa := val64_fits a
  have fb := val64_fits b
  obtain ⟨s, c, q, e1⟩ := ha
  obtain ⟨t, d, r, e2⟩ := hb
  rw [e1] at fa ⊢
  rw [e2] at fb hzb ⊢
  have hd : d ≠ 0 := fun w => hzb (by subst w; show 0 * _ = 0; exact Nat.zero_mul _)
  show (if d = 0 then _ else roundRatio b64 (s != t) c d (q - r)) = roundRatio b64 (s != t) (inUnits c q b64.qmin) (inUnits d r b64.qmin) 0
  rw [if_neg hd]
  have hq := fa.2.1
  have hr := fb.2.1
  rw [qmin_b64] at hq hr
  refine roundRatio_congr (Nat.pos_of_ne_zero hd) ?_ ?_
  · exact Nat.mul_pos (Nat.pos_of_ne_zero hd) (Nat.two_pow_pos _)
  · unfold inUnits
    rw [qmin_b64]
    obtain ⟨u, hu⟩ : ∃ u : Nat, q = (u : Int) - 1074 := ⟨(q + 1074).toNat, by omega⟩
    obtain ⟨w, hw⟩ : ∃ w : Nat, r = (w : Int) - 1074 := ⟨(r + 1074).toNat, by omega⟩
    subst hu hw
    rw [show ((u : Int) - 1074 - -1074).toNat = u by omega, show ((w : Int) - 1074 - -1074).toNat = w by omega]
    rw [show ((u : Int) - 1074 - ((w : Int) - 1074) - 0).toNat = u - w by omega, show (0 - ((u : Int) - 1074 - ((w : Int) - 1074))).toNat = w - u by omega]
    have : w + (u - w) = u + (w - u) := by omega
    calc c * (d * 2 ^ w) * 2 ^ (u - w) = c * d * 2 ^ (w + (u - w)) := by rw [Nat.pow_add]; ((try generalize Jvm.FP.Core.one64 = own_U); ac_rfl)
      _ = c * 2 ^ u * d * 2 ^ (w - u) := by rw [this, Nat.pow_add]; ((try generalize Jvm.FP.Core.one64 = own_U); ac_rfl)
theorem own_signed_abs (z : Int) : signed (decide (z < 0)) z.natAbs = z := by
  unfold signed
  by_cases h : z < 0 <;> simp [h] <;> omega
theorem own_zv_div_pos {a b : UInt64} (ha : DFin a) (hb : DFin b) (h0 : 0 ≤ own_zv a) (hz : 0 < own_zv b) : own_zv (Jvm.FP.ddiv a b) = (own_rr (own_zv a).natAbs (own_zv b).natAbs : Int) := by
  rw [own_zv_round (own_div ha hb (by omega))]
  by_cases h : own_zv a = 0
  · rw [h]; show signed _ (own_rr 0 _) = _
    rw [show (0 : Int).natAbs = 0 from rfl, own_rr_zero, signed_zero]; rfl
  · rw [own_sgn h, own_sgn (by omega), decide_eq_false (by omega), decide_eq_false (by omega)]; rfl
theorem own_zv_div_neg {a b : UInt64} (ha : DFin a) (hb : DFin b) (h0 : own_zv a ≤ 0) (hz : 0 < own_zv b) : own_zv (Jvm.FP.ddiv a b) = -(own_rr (own_zv a).natAbs (own_zv b).natAbs : Int) := by
  rw [own_zv_round (own_div ha hb (by omega))]
  by_cases h : own_zv a = 0
  · rw [h]; show signed _ (own_rr 0 _) = _
    rw [show (0 : Int).natAbs = 0 from rfl, own_rr_zero, signed_zero]; rfl
  · rw [own_sgn h, own_sgn (by omega), decide_eq_true (by omega), decide_eq_false (by omega)]; rfl
/-- a quotient of two whole numbers -/
theorem own_rr_int (i j : Nat) (hj : 0 < j) : own_rr (i * one64) (j * one64) = own_rr i j :=
  own_rr_congr (Nat.mul_pos hj one64_pos) hj (by ((try generalize Jvm.FP.Core.one64 = own_U); ac_rfl))
theorem own_natAbs_one (i : Int) : (i * (one64 : Int)).natAbs = i.natAbs * one64 := by rw [Int.natAbs_mul]; rfl
theorem own_top {V : Nat} (h : V ≤ 2 ^ 1023 * one64) : V < b64.tails * 2 ^ (b64.exps - 2) := by
  refine Nat.lt_of_le_of_lt h ?_
  decide +kernel
/-! the sign turned -/
theorem own_dneg_bits (a : UInt64) : a.toNat = (Jvm.FP.dneg a).toNat + 2 ^ 63 ∨ (Jvm.FP.dneg a).toNat = a.toNat + 2 ^ 63 := by
  have h := a.toNat_lt
  have e : (Jvm.FP.dneg a).toNat = a.toNat ^^^ 2 ^ 63 := by
    show (a ^^^ 0x8000000000000000).toNat = _
    rw [UInt64.toNat_xor]; rfl
  rw [e]
  by_cases hb : 2 ^ 63 ≤ a.toNat
  · left
    have : a.toNat ^^^ 2 ^ 63 = a.toNat - 2 ^ 63 := by
      apply Nat.eq_of_testBit_eq; intro i
      obtain ⟨k, hk⟩ : ∃ k, a.toNat = 2 ^ 63 + k := ⟨a.toNat - 2 ^ 63, by omega⟩
      have hk2 : k < 2 ^ 63 := by omega
      rw [hk, Nat.add_sub_cancel_left, Nat.testBit_xor, Nat.testBit_two_pow]
      by_cases hi : 63 = i
      · subst hi
        rw [Nat.testBit_two_pow_add_eq, Nat.testBit_lt_two_pow hk2]; rfl
      · by_cases hi2 : i < 63
        · rw [Nat.testBit_two_pow_add_gt hi2]; simp [hi]
        · have : 63 < i := by omega
          rw [Nat.testBit_lt_two_pow (Nat.lt_of_lt_of_le (show 2 ^ 63 + k < 2 ^ 64 by omega) (Nat.pow_le_pow_right (by decide) this)), Nat.testBit_lt_two_pow (Nat.lt_of_lt_of_le hk2 (Nat.pow_le_pow_right (by decide) (Nat.le_of_lt this)))]
          simp [hi]
    omega
  · right
    have : a.toNat ^^^ 2 ^ 63 = a.toNat + 2 ^ 63 := by
      apply Nat.eq_of_testBit_eq; intro i
      have hk2 : a.toNat < 2 ^ 63 := by omega
      rw [Nat.testBit_xor, Nat.testBit_two_pow, Nat.add_comm]
      by_cases hi : 63 = i
      · subst hi
        rw [Nat.testBit_two_pow_add_eq, Nat.testBit_lt_two_pow hk2]; rfl
      · by_cases hi2 : i < 63
        · rw [Nat.testBit_two_pow_add_gt hi2]; simp [hi]
        · have : 63 < i := by omega
          rw [Nat.testBit_lt_two_pow (Nat.lt_of_lt_of_le (show 2 ^ 63 + a.toNat < 2 ^ 64 by omega) (Nat.pow_le_pow_right (by decide) this)), Nat.testBit_lt_two_pow (Nat.lt_of_lt_of_le hk2 (Nat.pow_le_pow_right (by decide) (Nat.le_of_lt this)))]
          simp [hi]
    omega
theorem own_dneg_val (a : UInt64) : val64 (Jvm.FP.dneg a) = negate (val64 a) := val64_neg_bits (own_dneg_bits a)
theorem own_dneg (a : UInt64) : own_zv (Jvm.FP.dneg a) = -own_zv a := by unfold own_zv; rw [own_dneg_val, zval_negate]
theorem own_dneg_fin {a : UInt64} (h : DFin a) : DFin (Jvm.FP.dneg a) := by
  obtain ⟨s, c, q, e⟩ := h
  exact ⟨!s, c, q, by rw [own_dneg_val, e]; rfl⟩
/-! product -/
theorem own_mul {a b : UInt64} (ha : DFin a) (hb : DFin b) :
    val64 (Jvm.FP.dmul a b) = roundRatio b64 (sgn (val64 a) != sgn (val64 b)) ((own_zv a).natAbs * (own_zv b).natAbs) (one64 * one64) 0 := by
  rw [own_natAbs, own_natAbs]
  show val64 (dmul a b) = _
  rw [val64_dmul]
  have fa := val64_fits a
  have fb := val64_fits b
  obtain ⟨s, c, q, e1⟩ := ha
  obtain ⟨t, d, r, e2⟩ := hb
  rw [e1] at fa ⊢
  rw [e2] at fb ⊢
  show roundRatio b64 (s != t) (c * d) 1 (q + r) = roundRatio b64 (s != t) (inUnits c q b64.qmin * inUnits d r b64.qmin) (one64 * one64) 0
  have hq := fa.2.1
  have hr := fb.2.1
  rw [qmin_b64] at hq hr
  refine roundRatio_congr (by decide) (Nat.mul_pos one64_pos one64_pos) ?_
  unfold inUnits one64
  rw [qmin_b64]
  obtain ⟨u, hu⟩ : ∃ u : Nat, q = (u : Int) - 1074 := ⟨(q + 1074).toNat, by omega⟩
  obtain ⟨w, hw⟩ : ∃ w : Nat, r = (w : Int) - 1074 := ⟨(r + 1074).toNat, by omega⟩
  subst hu hw
  rw [show ((u : Int) - 1074 - -1074).toNat = u by omega, show ((w : Int) - 1074 - -1074).toNat = w by omega]
  rw [show ((u : Int) - 1074 + ((w : Int) - 1074) - 0).toNat = u + w - 2148 by omega, show (0 - ((u : Int) - 1074 + ((w : Int) - 1074))).toNat = 2148 - (u + w) by omega]
  generalize hx : u + w - 2148 = x
  generalize hy : 2148 - (u + w) = y
  have h5 : 1074 + (1074 + x) = u + (w + y) := by omega
  calc c * d * (2 ^ 1074 * 2 ^ 1074) * 2 ^ x = c * d * 2 ^ (1074 + (1074 + x)) := by rw [Nat.pow_add, Nat.pow_add]; generalize 2 ^ 1074 = own_W; ac_rfl
    _ = c * 2 ^ u * (d * 2 ^ w) * 1 * 2 ^ y := by rw [h5, Nat.pow_add, Nat.pow_add, Nat.mul_one]; ((try generalize Jvm.FP.Core.one64 = own_U); ac_rfl)
theorem own_zv_mul_pos {a b : UInt64} (ha : DFin a) (hb : DFin b) (h0 : 0 ≤ own_zv a) (h1 : 0 ≤ own_zv b) : own_zv (Jvm.FP.dmul a b) = (own_rr ((own_zv a).natAbs * (own_zv b).natAbs) (one64 * one64) : Int) := by
  rw [own_zv_round (own_mul ha hb)]
  by_cases h : own_zv a = 0
  · rw [h]; show signed _ (own_rr (0 * _) _) = (own_rr (0 * _) _ : Int)
    rw [Nat.zero_mul, own_rr_zero, signed_zero]; rfl
  · by_cases h' : own_zv b = 0
    · rw [h']; show signed _ (own_rr (_ * 0) _) = (own_rr (_ * 0) _ : Int)
      rw [Nat.mul_zero, own_rr_zero, signed_zero]; rfl
    · rw [own_sgn h, own_sgn h', decide_eq_false (by omega), decide_eq_false (by omega)]; rfl
/-! sum -/
theorem own_add {a b : UInt64} (ha : DFin a) (hb : DFin b) : ∃ sg, val64 (Jvm.FP.dadd a b) = roundRatio b64 sg (own_zv a + own_zv b).natAbs one64 0 ∧ signed sg (own_zv a + own_zv b).natAbs = own_zv a + own_zv b := by
  show ∃ sg, val64 (dadd a b) = _ ∧ _
  rw [val64_dadd]
  have fa := val64_fits a
  have fb := val64_fits b
  obtain ⟨s, c, q, e1⟩ := ha
  obtain ⟨t, d, r, e2⟩ := hb
  unfold own_zv
  rw [e1] at fa ⊢
  rw [e2] at fb ⊢
  obtain ⟨sg, n, e, h1, h2, h3⟩ := sum_units fa fb
  rw [h1, ← h3, natAbs_signed]
  refine ⟨sg, ?_, rfl⟩
  show roundRatio b64 sg n 1 e = _
  refine roundRatio_congr (by decide) one64_pos ?_
  unfold inUnits one64
  rw [qmin_b64] at h2 ⊢
  obtain ⟨u, hu⟩ : ∃ u : Nat, e = (u : Int) - 1074 := ⟨(e + 1074).toNat, by omega⟩
  subst hu
  rw [show ((u : Int) - 1074 - -1074).toNat = u by omega, show ((u : Int) - 1074 - 0).toNat = u - 1074 by omega, show (0 - ((u : Int) - 1074)).toNat = 1074 - u by omega]
  have h5 : 1074 + (u - 1074) = u + (1074 - u) := by omega
  calc n * 2 ^ 1074 * 2 ^ (u - 1074) = n * 2 ^ (1074 + (u - 1074)) := by rw [Nat.pow_add 2 1074 (u - 1074), Nat.mul_assoc]
    _ = n * 2 ^ u * 1 * 2 ^ (1074 - u) := by rw [h5, Nat.pow_add, Nat.mul_one]; ((try generalize Jvm.FP.Core.one64 = own_U); ac_rfl)
theorem own_zv_add_pos {a b : UInt64} (ha : DFin a) (hb : DFin b) (h0 : 0 ≤ own_zv a + own_zv b) : own_zv (Jvm.FP.dadd a b) = (own_rr (own_zv a + own_zv b).natAbs one64 : Int) := by
  obtain ⟨sg, h1, h2⟩ := own_add ha hb
  rw [own_zv_round h1]
  generalize own_zv a + own_zv b = z at *
  by_cases h : z = 0
  · subst h; show signed sg (own_rr 0 _) = (own_rr 0 _ : Int)
    rw [own_rr_zero, signed_zero]; rfl
  · have : sg = false := by
      cases sg
      · rfl
      · exfalso; simp [signed] at h2; omega
    subst this; rfl
theorem own_add_exact {a b : UInt64} (ha : DFin a) (hb : DFin b) (hr : own_Rep (own_zv a + own_zv b).natAbs) : own_zv (Jvm.FP.dadd a b) = own_zv a + own_zv b := by
  obtain ⟨sg, h1, h2⟩ := own_add ha hb
  rw [own_zv_round h1, own_rr_exact one64_pos hr rfl, h2]
theorem own_add_fin {a b : UInt64} (ha : DFin a) (hb : DFin b) (hr : own_Rep (own_zv a + own_zv b).natAbs) (hlt : (own_zv a + own_zv b).natAbs ≤ 2 ^ 1023 * one64) : DFin (Jvm.FP.dadd a b) := by
  obtain ⟨sg, h1, h2⟩ := own_add ha hb
  exact own_fin_round h1 (by rw [own_rr_exact one64_pos hr rfl]; exact own_top hlt)
theorem own_sub_eq {a b : UInt64} (hb : DFin b) : Jvm.FP.dsub a b = Jvm.FP.dadd a (Jvm.FP.dneg b) := by
  show dsub a b = dadd a (Jvm.FP.dneg b)
  rw [dsub_eq]
  congr 1
  refine (val64_inj ?_ ?_)
  · rw [val64_dneg]; exact negate_ne_nan hb.ne_nan
  · rw [val64_dneg, own_dneg_val]
theorem own_cmp_int {i j : Int} {a b : UInt64} (ha : DInt i a) (hb : DInt j b) (o : CmpOp) : cmpValue (Jvm.FP.dcmp a b) o = if i < j then -1 else if i = j then 0 else 1 := by
  show cmpValue (dcmp a b) o = _
  rw [dcmp_int ha hb, compare_ite]
  by_cases h1 : i < j
  · rw [if_pos h1, if_pos h1]; rfl
  · rw [if_neg h1, if_neg h1]
    by_cases h2 : i = j
    · rw [if_pos h2, if_pos h2]; rfl
    · rw [if_neg h2, if_neg h2]; rfl
theorem own_cmp_i (x y : Int32) (o : CmpOp) : cmpValue (Jvm.FP.dcmp (Jvm.FP.i2d x) (Jvm.FP.i2d y)) o = if x.toInt < y.toInt then -1 else if x.toInt = y.toInt then 0 else 1 := own_cmp_int (i2d_int x) (i2d_int y) o
theorem own_dneg_int {i : Int} {a : UInt64} (h : DInt i a) : DInt (-i) (Jvm.FP.dneg a) := by
  unfold DInt; rw [own_dneg_val]; exact whole_negate h
end FloatKit
theorem own_lc (x y : Int64) : lcmpW x y = if x.toInt < y.toInt then -1 else if x.toInt = y.toInt then 0 else 1 := by
  unfold lcmpW
  simp only [gt_iff_lt, Int64.lt_iff_toInt_lt, ← Int64.toInt_inj]
  by_cases h1 : x.toInt < y.toInt
  · rw [if_neg (by omega), if_neg (by omega), if_pos h1]
  · by_cases h2 : x.toInt = y.toInt
    · rw [if_neg (by omega), if_pos h2, if_neg h1, if_pos h2]
    · rw [if_pos (by omega), if_neg h1, if_neg h2]
theorem own_mod_bounds (x y : Int32) (hx : 0 ≤ x.toInt) (hy : 0 < y.toInt) : 0 ≤ (x % y).toInt ∧ (x % y).toInt < y.toInt := by
  rw [Int32.toInt_mod]; exact ⟨Int.tmod_nonneg _ hx, Int.tmod_lt_of_pos _ hy⟩
theorem own_m31 (x : Int32) : 0 ≤ (x &&& (2147483647 : Int32)).toInt := by
  rw [Jvm.Kit.i32_mask x (2147483647 : Int32) (k := 31) (by decide) (by decide)]; omega
theorem own_mask {x m : Int32} {k : Nat} (hk : k < 32) (hm : m.toBitVec.toNat = 2 ^ k - 1) : 0 ≤ (x &&& m).toInt ∧ (x &&& m).toInt < 2 ^ k := by
  rw [Jvm.Kit.i32_mask x m hk hm]
  have : (0 : Int) < 2 ^ k := Int.pow_pos (by decide)
  exact ⟨Int.emod_nonneg _ (by omega), Int.emod_lt_of_pos _ this⟩
theorem own_lc_pos (x y : Int64) : (0 : Int32) < lcmpW x y ↔ y.toInt < x.toInt := by
  rw [own_lc]
  by_cases h1 : x.toInt < y.toInt
  · rw [if_pos h1]; exact ⟨fun h => absurd h (by decide), fun h => by omega⟩
  · rw [if_neg h1]
    by_cases h2 : x.toInt = y.toInt
    · rw [if_pos h2]; exact ⟨fun h => absurd h (by decide), fun h => by omega⟩
    · rw [if_neg h2]; exact ⟨fun _ => by omega, fun _ => by decide⟩
theorem own_lc_neg (x y : Int64) : lcmpW x y < (0 : Int32) ↔ x.toInt < y.toInt := by
  rw [own_lc]
  by_cases h1 : x.toInt < y.toInt
  · rw [if_pos h1]; exact ⟨fun _ => h1, fun _ => by decide⟩
  · rw [if_neg h1]
    by_cases h2 : x.toInt = y.toInt
    · rw [if_pos h2]; exact ⟨fun h => absurd h (by decide), fun h => by omega⟩
    · rw [if_neg h2]; exact ⟨fun h => absurd h (by decide), fun h => by omega⟩
theorem own_lc_eq (x y : Int64) : lcmpW x y = (0 : Int32) ↔ x.toInt = y.toInt := by
  rw [own_lc]
  by_cases h1 : x.toInt < y.toInt
  · rw [if_pos h1]; exact ⟨fun h => absurd h (by decide), fun h => by omega⟩
  · rw [if_neg h1]
    by_cases h2 : x.toInt = y.toInt
    · rw [if_pos h2]; exact ⟨fun _ => h2, fun _ => rfl⟩
    · rw [if_neg h2]; exact ⟨fun h => absurd h (by decide), fun h => absurd h h2⟩

theorem d2_0 : decode jdk_30_method_1_code 0 = .ok (.aload_n 0, 1) := by decide +kernel
theorem d2_1 : decode jdk_30_method_1_code 1 = .ok (.invokespecial 1, 3) := by decide +kernel
theorem d2_4 : decode jdk_30_method_1_code 4 = .ok (.return_, 1) := by decide +kernel
theorem ef_2 (m : MethodId) (x0 : Addr) : entryFrame m #[(.ref x0)] 1 = mkF m 0 #[.val (.ref x0)] [] := by first | (simp [entryFrame, mkF, argsToLocals, Value.category]; done) | rfl
theorem pn_0 : plainName "java/lang/Record" = true := by first | (simp [plainName, overriddenIn]; done) | decide +kernel
def Q2 (Z : State) (a1 : Addr) (h0 : Heap) (n0 : Nat) (v : Option Value) (h : Heap) (L : List Loc) : Prop := v = none ∧ Fr n0 L ∧ h = h0
set_option maxRecDepth 65536 in
set_option maxHeartbeats 40000000 in
theorem rm2 (l : Launch) (Z : State) (a0 : Array Value) (hw : ∀ d ∈ tables_1, d.before a0 Z = true) (ws : List Jvm.Cond) (a1 : Addr) (h0 : Heap) (n0 : Nat) (Z0 : n0 ≤ h0.size)  :
    MetFree l (⟨"java/lang/Record", "<init>", "()V"⟩ : MethodName) (head1 (Jvm.Cond.code (⟨"java/lang/Record", "<init>", "()V"⟩ : MethodName) jdk_30_method_1_code 1 none :: ws) ({ frames := 1, cells := 0, slots := 0, locals := 12 } : Room)) (fun a U => a = #[(.ref a1)] ∧ Z.Warmed39 U.vm ∧ U.heap = h0) (fun _ _ _ _ _ => True) (fun _ U o U' => ∃ v L, o = .returned v ∧ Q2 Z a1 h0 n0 v U'.heap L ∧ FrameEnd U o U' L ({ frames := 1, cells := 0, slots := 0, locals := 12 } : Room).cells ({ frames := 1, cells := 0, slots := 0, locals := 12 } : Room).slots) := by
  refine MetFree.of_bodySF (plainFor_of_name pn_0) hisR ?_
  intro p e s m args below meth c s₁ Bd hml0 hP hK
  obtain ⟨rfl, hZ, hh⟩ := hP
  have hx := Bd.exec
  have hby := Bd.bytes
  have hml : c.maxLocals = 1 := hml0
  have hown : s.vm.findClass "java/lang/Record" = some m.cls := findClass_of_methodNamed Bd.named
  have hnm := (name_of_methodNamed Bd.named Bd.method).1
  have X0 : Stand p l e ({ frames := 1, cells := 0, slots := 0, locals := 12 } : Room) s m #[(.ref a1)] below meth c s₁ [] 0 0 := Stand.of_body Bd
  have e0 : s₁.heap = h0 := by rw [← hh, Bd.state]; rfl
  have N0 := Fr.nil n0
  have pre0 : ∀ t, Steps p.tables e below (s₁.setTop (mkF m 0 #[.val (.ref a1)] [])) t → Steps p.tables e below (s₁.setTop (entryFrame m #[(.ref a1)] 1)) t := fun t k => castTop (ef_2 m a1) k
  obtain ⟨T3, X3, e3, st3⟩ := initO X0 hx hZ hown (hw _ (List.mem_of_getElem? (i := 11) rfl)) (hw _ (List.mem_of_getElem? (i := 12) rfl)) (hw _ (List.mem_of_getElem? (i := 13) rfl)) e0 (g := (mkF m 1 #[.val (.ref a1)] [(.ref a1)])) rfl (by rw [hml]; rfl) rfl (hb hby d2_1) (by decide) (W := 0) (by show 2 * 0 + _ ≤ _; exact Nat.le_of_eq rfl) (by decide)
  obtain ⟨fs, hr, hrun, hended, hW, hsame⟩ := X3.leave (v := none) (fun _ => rfl)
  refine ⟨_, _, pre0 _ ?_, hrun, hended, _, _, rfl, ?_, ⟨_, rfl⟩, hW, hsame.mono (by decide) (by decide)⟩
  · refine XS.aloadN X0.here hx rfl (hb hby d2_0) rfl rfl ?_
    show Steps p.tables e below (s₁.setTop (mkF m 1 #[.val (.ref a1)] [(.ref a1)])) _
    refine st3 _ ?_
    show Steps p.tables e below (T3.setTop (mkF m 4 #[.val (.ref a1)] [])) _
    exact X3.returnOut hx Bd.returns (hb hby d2_4) hr
  · show Q2 Z a1 h0 n0 _ T3.heap _
    rw [e3]
    exact ⟨rfl, N0, rfl⟩
theorem pd_0 : parseMethodDescriptor "()V" = some ⟨[], none⟩ := by decide +kernel
theorem d1_0 : decode prog_20_method_1_code 0 = .ok (.aload_n 0, 1) := by decide +kernel
theorem d1_1 : decode prog_20_method_1_code 1 = .ok (.invokespecial 1, 3) := by decide +kernel
theorem d1_4 : decode prog_20_method_1_code 4 = .ok (.aload_n 0, 1) := by decide +kernel
theorem d1_5 : decode prog_20_method_1_code 5 = .ok (.dload_n 1, 1) := by decide +kernel
theorem d1_6 : decode prog_20_method_1_code 6 = .ok (.putfield 7, 3) := by decide +kernel
theorem d1_9 : decode prog_20_method_1_code 9 = .ok (.aload_n 0, 1) := by decide +kernel
theorem d1_10 : decode prog_20_method_1_code 10 = .ok (.dload_n 3, 1) := by decide +kernel
theorem d1_11 : decode prog_20_method_1_code 11 = .ok (.putfield 13, 3) := by decide +kernel
theorem d1_14 : decode prog_20_method_1_code 14 = .ok (.return_, 1) := by decide +kernel
theorem ef_1 (m : MethodId) (x0 : Addr) (x1 : UInt64) (x2 : UInt64) : entryFrame m #[(.ref x0), (.double x1), (.double x2)] 5 = mkF m 0 #[.val (.ref x0), .val (.double x1), .second, .val (.double x2), .second] [] := by first | (simp [entryFrame, mkF, argsToLocals, Value.category]; done) | rfl
theorem pn_1 : plainName "com/example/cinderbench/cinderbench/algorithms/Worth" = true := by first | (simp [plainName, overriddenIn]; done) | decide +kernel
def Q1 (Z : State) (a4 : Addr) (d5 : UInt64) (d6 : UInt64) (h0 : Heap) (n0 : Nat) (v : Option Value) (h : Heap) (L : List Loc) : Prop := v = none ∧ Fr n0 L ∧ Keep h0 h [a4] ∧ Exa Z h a4 "com/example/cinderbench/cinderbench/algorithms/Worth" ∧ Fld Z h a4 "com/example/cinderbench/cinderbench/algorithms/Worth" "utility" "D" (.double d5) ∧ Fld Z h a4 "com/example/cinderbench/cinderbench/algorithms/Worth" "preference" "D" (.double d6)
set_option maxRecDepth 65536 in
set_option maxHeartbeats 40000000 in
theorem rm1 (l : Launch) (Z : State) (a0 : Array Value) (hw : ∀ d ∈ tables_1, d.before a0 Z = true) (ws : List Jvm.Cond) (a4 : Addr) (d5 : UInt64) (d6 : UInt64) (h0 : Heap) (n0 : Nat) (Z0 : n0 ≤ h0.size) (E1 : Exa Z h0 a4 "com/example/cinderbench/cinderbench/algorithms/Worth") (F_utility_a4 : Fld Z h0 a4 "com/example/cinderbench/cinderbench/algorithms/Worth" "utility" "D" (.double (0 : UInt64))) (F_preference_a4 : Fld Z h0 a4 "com/example/cinderbench/cinderbench/algorithms/Worth" "preference" "D" (.double (0 : UInt64))) (g1 : n0 ≤ a4) :
    MetFree l (⟨"com/example/cinderbench/cinderbench/algorithms/Worth", "<init>", "(DD)V"⟩ : MethodName) (head1 (Jvm.Cond.code (⟨"com/example/cinderbench/cinderbench/algorithms/Worth", "<init>", "(DD)V"⟩ : MethodName) prog_20_method_1_code 5 none :: ws) ({ frames := 2, cells := 0, slots := 0, locals := 24 } : Room)) (fun a U => a = #[(.ref a4), (.double d5), (.double d6)] ∧ Z.Warmed39 U.vm ∧ U.heap = h0) (fun _ _ _ _ _ => True) (fun _ U o U' => ∃ v L, o = .returned v ∧ Q1 Z a4 d5 d6 h0 n0 v U'.heap L ∧ FrameEnd U o U' L ({ frames := 2, cells := 0, slots := 0, locals := 24 } : Room).cells ({ frames := 2, cells := 0, slots := 0, locals := 24 } : Room).slots) := by
  refine MetFree.of_bodySF (plainFor_of_name pn_1) hisR ?_
  intro p e s m args below meth c s₁ Bd hml0 hP hK
  obtain ⟨rfl, hZ, hh⟩ := hP
  have hx := Bd.exec
  have hby := Bd.bytes
  have hml : c.maxLocals = 5 := hml0
  have hown : s.vm.findClass "com/example/cinderbench/cinderbench/algorithms/Worth" = some m.cls := findClass_of_methodNamed Bd.named
  have hnm := (name_of_methodNamed Bd.named Bd.method).1
  have X0 : Stand p l e ({ frames := 2, cells := 0, slots := 0, locals := 24 } : Room) s m #[(.ref a4), (.double d5), (.double d6)] below meth c s₁ [] 0 0 := Stand.of_body Bd
  have e0 : s₁.heap = h0 := by rw [← hh, Bd.state]; rfl
  have N0 := Fr.nil n0
  have pre0 : ∀ t, Steps p.tables e below (s₁.setTop (mkF m 0 #[.val (.ref a4), .val (.double d5), .second, .val (.double d6), .second] [])) t → Steps p.tables e below (s₁.setTop (entryFrame m #[(.ref a4), (.double d5), (.double d6)] 5)) t := fun t k => castTop (ef_1 m a4 d5 d6) k
  obtain ⟨_, _, ⟨T7, L7, k7, n7⟩, -, X7, ⟨Lc7, hQ7, l7, y7, z7⟩, st7⟩ := X0.specialBack hx (y := (⟨"java/lang/Record", "<init>", "()V"⟩ : MethodName)) rfl hown (mvT hZ (hw _ (List.mem_of_getElem? (i := 6) rfl))) (mvT hZ (hw _ (List.mem_of_getElem? (i := 7) rfl))) (mvT hZ (hw _ (List.mem_of_getElem? (i := 10) rfl))) (by decide) (backOf (W := 0) (rm2 l Z a0 hw [] a4 h0 n0 Z0) hZ (hw _ (List.mem_of_getElem? (i := 10) rfl)) (hw _ (List.mem_of_getElem? (i := 9) rfl)) (by decide) (by decide)) (g := (mkF m 1 #[.val (.ref a4), .val (.double d5), .second, .val (.double d6), .second] [(.ref a4)])) rfl (by rw [hml]; rfl) (Steps.refl _) (a := a4) (argsL := []) (rest := []) (lenOf pd_0 rfl) rfl (by show 2 * 0 + _ ≤ _; exact Nat.le_of_eq rfl) (hb hby d1_1) (fun _ _ => ⟨rfl, e0, (by decide : 0 + 0 ≤ _), (by decide : 0 + 0 ≤ _)⟩)
  dsimp only [Pt.U, Pt.locs, Pt.cells, Pt.slots] at X7 l7 y7 z7 st7 hQ7
  subst l7 y7 z7
  obtain ⟨rfl, N7q, e7⟩ := hQ7
  have N7 := Fr.app N0 N7q
  obtain ⟨T8, h8, X8, e8, W8, st8⟩ := putF X7 hx hZ hown (host := "") (Or.inl (hw _ (List.mem_of_getElem? (i := 14) rfl))) Via.refl e7 F_utility_a4 E1 (Or.inr ⟨(hw _ (List.mem_of_getElem? (i := 15) rfl)), rfl, hnm⟩) (hw _ (List.mem_of_getElem? (i := 1) rfl)) (ty := .double) (by decide) rfl rfl (g := (mkF m 6 #[.val (.ref a4), .val (.double d5), .second, .val (.double d6), .second] [(.double d5), (.ref a4)])) rfl rfl (hb hby d1_6)
  have f9 : Exa Z h8 a4 "com/example/cinderbench/cinderbench/algorithms/Worth" := E1.wr W8
  have f10 : Fld Z h8 a4 "com/example/cinderbench/cinderbench/algorithms/Worth" "utility" "D" (.double d5) := F_utility_a4.same W8
  have f11 : Fld Z h8 a4 "com/example/cinderbench/cinderbench/algorithms/Worth" "preference" "D" (.double (0 : UInt64)) := F_preference_a4.other W8 (Or.inr (slot_ne (Or.inr (hw _ (List.mem_of_getElem? (i := 17) rfl))) (Or.inr (hw _ (List.mem_of_getElem? (i := 15) rfl))) (by decide) (t := .double) (t' := .double) (by decide) (by decide)))
  have N12 := Fr.snoc X8 N7 g1
  have K13 : Keep h0 h8 [a4] := (Keep.refl h0 [a4]).wr W8 (Or.inl (List.mem_of_getElem? (i := 0) rfl))
  have Z14 : n0 ≤ h8.size := Nat.le_trans Z0 (Keep.of_wr W8).1
  obtain ⟨T15, h15, X15, e15, W15, st15⟩ := putF X8 hx hZ hown (host := "") (Or.inl (hw _ (List.mem_of_getElem? (i := 16) rfl))) Via.refl e8 f11 f9 (Or.inr ⟨(hw _ (List.mem_of_getElem? (i := 17) rfl)), rfl, hnm⟩) (hw _ (List.mem_of_getElem? (i := 1) rfl)) (ty := .double) (by decide) rfl rfl (g := (mkF m 11 #[.val (.ref a4), .val (.double d5), .second, .val (.double d6), .second] [(.double d6), (.ref a4)])) rfl rfl (hb hby d1_11)
  have f16 : Exa Z h15 a4 "com/example/cinderbench/cinderbench/algorithms/Worth" := f9.wr W15
  have f17 : Fld Z h15 a4 "com/example/cinderbench/cinderbench/algorithms/Worth" "utility" "D" (.double d5) := f10.other W15 (Or.inr (slot_ne (Or.inr (hw _ (List.mem_of_getElem? (i := 15) rfl))) (Or.inr (hw _ (List.mem_of_getElem? (i := 17) rfl))) (by decide) (t := .double) (t' := .double) (by decide) (by decide)))
  have f18 : Fld Z h15 a4 "com/example/cinderbench/cinderbench/algorithms/Worth" "preference" "D" (.double d6) := f11.same W15
  have N19 := Fr.snoc X15 N12 g1
  have K20 : Keep h0 h15 [a4] := K13.wr W15 (Or.inl (List.mem_of_getElem? (i := 0) rfl))
  have Z21 : n0 ≤ h15.size := Nat.le_trans Z14 (Keep.of_wr W15).1
  obtain ⟨fs, hr, hrun, hended, hW, hsame⟩ := X15.leave (v := none) (fun _ => rfl)
  refine ⟨_, _, pre0 _ ?_, hrun, hended, _, _, rfl, ?_, ⟨_, rfl⟩, hW, hsame.mono (by decide) (by decide)⟩
  · refine XS.aloadN X0.here hx rfl (hb hby d1_0) rfl rfl ?_
    show Steps p.tables e below (s₁.setTop (mkF m 1 #[.val (.ref a4), .val (.double d5), .second, .val (.double d6), .second] [(.ref a4)])) _
    refine st7.trans ?_
    show Steps p.tables e below (T7.setTop (mkF m 4 #[.val (.ref a4), .val (.double d5), .second, .val (.double d6), .second] [])) _
    refine XS.aloadN X7.here hx rfl (hb hby d1_4) rfl rfl ?_
    show Steps p.tables e below (T7.setTop (mkF m 5 #[.val (.ref a4), .val (.double d5), .second, .val (.double d6), .second] [(.ref a4)])) _
    refine XS.dloadN X7.here hx rfl (hb hby d1_5) rfl ?_
    show Steps p.tables e below (T7.setTop (mkF m 6 #[.val (.ref a4), .val (.double d5), .second, .val (.double d6), .second] [(.double d5), (.ref a4)])) _
    refine st8 _ ?_
    show Steps p.tables e below (T8.setTop (mkF m 9 #[.val (.ref a4), .val (.double d5), .second, .val (.double d6), .second] [])) _
    refine XS.aloadN X8.here hx rfl (hb hby d1_9) rfl rfl ?_
    show Steps p.tables e below (T8.setTop (mkF m 10 #[.val (.ref a4), .val (.double d5), .second, .val (.double d6), .second] [(.ref a4)])) _
    refine XS.dloadN X8.here hx rfl (hb hby d1_10) rfl ?_
    show Steps p.tables e below (T8.setTop (mkF m 11 #[.val (.ref a4), .val (.double d5), .second, .val (.double d6), .second] [(.double d6), (.ref a4)])) _
    refine st15 _ ?_
    show Steps p.tables e below (T15.setTop (mkF m 14 #[.val (.ref a4), .val (.double d5), .second, .val (.double d6), .second] [])) _
    exact X15.returnOut hx Bd.returns (hb hby d1_14) hr
  · show Q1 Z a4 d5 d6 h0 n0 _ T15.heap _
    rw [e15]
    exact ⟨rfl, N19, K20, f16, f17, f18⟩
def f4 (z24 : UInt64) (z26 : UInt64) (z31 : UInt64) (z33 : UInt64) : Int32 := (if (cmpValue (FP.dcmp z24 z26) .l) = (0 : Int32) then (if (cmpValue (FP.dcmp z31 z33) .l) = (0 : Int32) then (0 : Int32) else (if (0 : Int32) < (cmpValue (FP.dcmp z31 z33) .l) then (1 : Int32) else (-1 : Int32))) else (if (0 : Int32) < (cmpValue (FP.dcmp z24 z26) .l) then (1 : Int32) else (-1 : Int32)))
theorem d4_0 : decode prog_20_method_7_code 0 = .ok (.iconst 0, 1) := by decide +kernel
theorem d4_1 : decode prog_20_method_7_code 1 = .ok (.istore_n 2, 1) := by decide +kernel
theorem d4_2 : decode prog_20_method_7_code 2 = .ok (.aload_n 0, 1) := by decide +kernel
theorem d4_3 : decode prog_20_method_7_code 3 = .ok (.getfield 7, 3) := by decide +kernel
theorem d4_6 : decode prog_20_method_7_code 6 = .ok (.aload_n 1, 1) := by decide +kernel
theorem d4_7 : decode prog_20_method_7_code 7 = .ok (.getfield 7, 3) := by decide +kernel
theorem d4_10 : decode prog_20_method_7_code 10 = .ok (.dcmp .l, 1) := by decide +kernel
theorem d4_11 : decode prog_20_method_7_code 11 = .ok (.ifCond .eq 24, 3) := by decide +kernel
theorem d4_14 : decode prog_20_method_7_code 14 = .ok (.aload_n 0, 1) := by decide +kernel
theorem d4_15 : decode prog_20_method_7_code 15 = .ok (.getfield 7, 3) := by decide +kernel
theorem d4_18 : decode prog_20_method_7_code 18 = .ok (.aload_n 1, 1) := by decide +kernel
theorem d4_19 : decode prog_20_method_7_code 19 = .ok (.getfield 7, 3) := by decide +kernel
theorem d4_22 : decode prog_20_method_7_code 22 = .ok (.dcmp .l, 1) := by decide +kernel
theorem d4_23 : decode prog_20_method_7_code 23 = .ok (.ifCond .le 7, 3) := by decide +kernel
theorem d4_26 : decode prog_20_method_7_code 26 = .ok (.iconst 1, 1) := by decide +kernel
theorem d4_27 : decode prog_20_method_7_code 27 = .ok (.goto 4, 3) := by decide +kernel
theorem d4_30 : decode prog_20_method_7_code 30 = .ok (.iconst (-1), 1) := by decide +kernel
theorem d4_31 : decode prog_20_method_7_code 31 = .ok (.istore_n 2, 1) := by decide +kernel
theorem d4_32 : decode prog_20_method_7_code 32 = .ok (.goto 33, 3) := by decide +kernel
theorem d4_35 : decode prog_20_method_7_code 35 = .ok (.aload_n 0, 1) := by decide +kernel
theorem d4_36 : decode prog_20_method_7_code 36 = .ok (.getfield 13, 3) := by decide +kernel
theorem d4_39 : decode prog_20_method_7_code 39 = .ok (.aload_n 1, 1) := by decide +kernel
theorem d4_40 : decode prog_20_method_7_code 40 = .ok (.getfield 13, 3) := by decide +kernel
theorem d4_43 : decode prog_20_method_7_code 43 = .ok (.dcmp .l, 1) := by decide +kernel
theorem d4_44 : decode prog_20_method_7_code 44 = .ok (.ifCond .eq 21, 3) := by decide +kernel
theorem d4_47 : decode prog_20_method_7_code 47 = .ok (.aload_n 0, 1) := by decide +kernel
theorem d4_48 : decode prog_20_method_7_code 48 = .ok (.getfield 13, 3) := by decide +kernel
theorem d4_51 : decode prog_20_method_7_code 51 = .ok (.aload_n 1, 1) := by decide +kernel
theorem d4_52 : decode prog_20_method_7_code 52 = .ok (.getfield 13, 3) := by decide +kernel
theorem d4_55 : decode prog_20_method_7_code 55 = .ok (.dcmp .l, 1) := by decide +kernel
theorem d4_56 : decode prog_20_method_7_code 56 = .ok (.ifCond .le 7, 3) := by decide +kernel
theorem d4_59 : decode prog_20_method_7_code 59 = .ok (.iconst 1, 1) := by decide +kernel
theorem d4_60 : decode prog_20_method_7_code 60 = .ok (.goto 4, 3) := by decide +kernel
theorem d4_63 : decode prog_20_method_7_code 63 = .ok (.iconst (-1), 1) := by decide +kernel
theorem d4_64 : decode prog_20_method_7_code 64 = .ok (.istore_n 2, 1) := by decide +kernel
theorem d4_65 : decode prog_20_method_7_code 65 = .ok (.iload_n 2, 1) := by decide +kernel
theorem d4_66 : decode prog_20_method_7_code 66 = .ok (.ireturn, 1) := by decide +kernel
theorem ef_4 (m : MethodId) (x0 : Addr) (x1 : Addr) : entryFrame m #[(.ref x0), (.ref x1)] 3 = mkF m 0 #[.val (.ref x0), .val (.ref x1), .unset] [] := by first | (simp [entryFrame, mkF, argsToLocals, Value.category]; done) | rfl
def Q4 (Z : State) (a22 : Addr) (a23 : Addr) (z24 : UInt64) (z26 : UInt64) (z31 : UInt64) (z33 : UInt64) (h0 : Heap) (n0 : Nat) (v : Option Value) (h : Heap) (L : List Loc) : Prop := v = some (.int (f4 z24 z26 z31 z33)) ∧ Fr n0 L ∧ h = h0
set_option maxRecDepth 65536 in
set_option maxHeartbeats 40000000 in
theorem rm4 (l : Launch) (Z : State) (a0 : Array Value) (hw : ∀ d ∈ tables_1, d.before a0 Z = true) (ws : List Jvm.Cond) (a22 : Addr) (a23 : Addr) (z24 : UInt64) (z26 : UInt64) (z31 : UInt64) (z33 : UInt64) (h0 : Heap) (n0 : Nat) (Z0 : n0 ≤ h0.size) (F_utility_a22 : Fld Z h0 a22 "com/example/cinderbench/cinderbench/algorithms/Worth" "utility" "D" (.double z24)) (F_utility_a23 : Fld Z h0 a23 "com/example/cinderbench/cinderbench/algorithms/Worth" "utility" "D" (.double z26)) (F_preference_a22 : Fld Z h0 a22 "com/example/cinderbench/cinderbench/algorithms/Worth" "preference" "D" (.double z31)) (F_preference_a23 : Fld Z h0 a23 "com/example/cinderbench/cinderbench/algorithms/Worth" "preference" "D" (.double z33)) :
    MetFree l (⟨"com/example/cinderbench/cinderbench/algorithms/Worth", "compareTo", "(Lcom/example/cinderbench/cinderbench/algorithms/Worth;)I"⟩ : MethodName) (head1 (Jvm.Cond.code (⟨"com/example/cinderbench/cinderbench/algorithms/Worth", "compareTo", "(Lcom/example/cinderbench/cinderbench/algorithms/Worth;)I"⟩ : MethodName) prog_20_method_7_code 3 (some .int) :: ws) ({ frames := 0, cells := 0, slots := 0, locals := 0 } : Room)) (fun a U => a = #[(.ref a22), (.ref a23)] ∧ Z.Warmed39 U.vm ∧ U.heap = h0) (fun _ _ _ _ _ => True) (fun _ U o U' => ∃ v L, o = .returned v ∧ Q4 Z a22 a23 z24 z26 z31 z33 h0 n0 v U'.heap L ∧ FrameEnd U o U' L ({ frames := 0, cells := 0, slots := 0, locals := 0 } : Room).cells ({ frames := 0, cells := 0, slots := 0, locals := 0 } : Room).slots) := by
  refine MetFree.of_bodySF (plainFor_of_name pn_1) hisR ?_
  intro p e s m args below meth c s₁ Bd hml0 hP hK
  obtain ⟨rfl, hZ, hh⟩ := hP
  have hx := Bd.exec
  have hby := Bd.bytes
  have hml : c.maxLocals = 3 := hml0
  have hown : s.vm.findClass "com/example/cinderbench/cinderbench/algorithms/Worth" = some m.cls := findClass_of_methodNamed Bd.named
  have hnm := (name_of_methodNamed Bd.named Bd.method).1
  have X0 : Stand p l e ({ frames := 0, cells := 0, slots := 0, locals := 0 } : Room) s m #[(.ref a22), (.ref a23)] below meth c s₁ [] 0 0 := Stand.of_body Bd
  have e0 : s₁.heap = h0 := by rw [← hh, Bd.state]; rfl
  have N0 := Fr.nil n0
  have pre0 : ∀ t, Steps p.tables e below (s₁.setTop (mkF m 0 #[.val (.ref a22), .val (.ref a23), .unset] [])) t → Steps p.tables e below (s₁.setTop (entryFrame m #[(.ref a22), (.ref a23)] 3)) t := fun t k => castTop (ef_4 m a22 a23) k
  obtain ⟨T55, X55, e55, st55⟩ := getF X0 hx hZ hown (host := "") (Or.inl (hw _ (List.mem_of_getElem? (i := 14) rfl))) Via.refl e0 F_utility_a22 (g := (mkF m 3 #[.val (.ref a22), .val (.ref a23), .val (.int (0 : Int32))] [(.ref a22)])) rfl rfl (hb hby d4_3)
  obtain ⟨T56, X56, e56, st56⟩ := getF X55 hx hZ hown (host := "") (Or.inl (hw _ (List.mem_of_getElem? (i := 14) rfl))) Via.refl e55 F_utility_a23 (g := (mkF m 7 #[.val (.ref a22), .val (.ref a23), .val (.int (0 : Int32))] [(.ref a23), (.double z24)])) rfl rfl (hb hby d4_7)
  have S57 : ∀ t, Steps p.tables e below (T56.setTop (mkF m 11 #[.val (.ref a22), .val (.ref a23), .val (.int (0 : Int32))] [(.int (cmpValue (FP.dcmp z24 z26) .l))])) t → Steps p.tables e below (s₁.setTop (entryFrame m #[(.ref a22), (.ref a23)] 3)) t := by
    intro t k
    refine pre0 t ?_
    refine XS.iconst X0.here hx rfl (hb hby d4_0) ?_
    show Steps p.tables e below (s₁.setTop (mkF m 1 #[.val (.ref a22), .val (.ref a23), .unset] [(.int (0 : Int32))])) _
    refine XS.istoreN X0.here hx rfl (hb hby d4_1) rfl (l' := #[.val (.ref a22), .val (.ref a23), .val (.int (0 : Int32))]) rfl ?_
    show Steps p.tables e below (s₁.setTop (mkF m 2 #[.val (.ref a22), .val (.ref a23), .val (.int (0 : Int32))] [])) _
    refine XS.aloadN X0.here hx rfl (hb hby d4_2) rfl rfl ?_
    show Steps p.tables e below (s₁.setTop (mkF m 3 #[.val (.ref a22), .val (.ref a23), .val (.int (0 : Int32))] [(.ref a22)])) _
    refine st55 _ ?_
    show Steps p.tables e below (T55.setTop (mkF m 6 #[.val (.ref a22), .val (.ref a23), .val (.int (0 : Int32))] [(.double z24)])) _
    refine XS.aloadN X55.here hx rfl (hb hby d4_6) rfl rfl ?_
    show Steps p.tables e below (T55.setTop (mkF m 7 #[.val (.ref a22), .val (.ref a23), .val (.int (0 : Int32))] [(.ref a23), (.double z24)])) _
    refine st56 _ ?_
    show Steps p.tables e below (T56.setTop (mkF m 10 #[.val (.ref a22), .val (.ref a23), .val (.int (0 : Int32))] [(.double z26), (.double z24)])) _
    refine XS.dcmpS X56.here hx rfl (hb hby d4_10) rfl rfl ?_
    show Steps p.tables e below (T56.setTop (mkF m 11 #[.val (.ref a22), .val (.ref a23), .val (.int (0 : Int32))] [(.int (cmpValue (FP.dcmp z24 z26) .l))])) _
    exact k
  obtain ⟨w58, hw58⟩ : ∃ z : Int32, z = (cmpValue (FP.dcmp z24 z26) .l) := ⟨_, rfl⟩
  rw [← hw58] at S57
  by_cases hc59 : w58 = (0 : Int32)
  · obtain ⟨T60, X60, e60, st60⟩ := getF X56 hx hZ hown (host := "") (Or.inl (hw _ (List.mem_of_getElem? (i := 16) rfl))) Via.refl e56 F_preference_a22 (g := (mkF m 36 #[.val (.ref a22), .val (.ref a23), .val (.int (0 : Int32))] [(.ref a22)])) rfl rfl (hb hby d4_36)
    obtain ⟨T61, X61, e61, st61⟩ := getF X60 hx hZ hown (host := "") (Or.inl (hw _ (List.mem_of_getElem? (i := 16) rfl))) Via.refl e60 F_preference_a23 (g := (mkF m 40 #[.val (.ref a22), .val (.ref a23), .val (.int (0 : Int32))] [(.ref a23), (.double z31)])) rfl rfl (hb hby d4_40)
    have S62 : ∀ t, Steps p.tables e below (T61.setTop (mkF m 44 #[.val (.ref a22), .val (.ref a23), .val (.int (0 : Int32))] [(.int (cmpValue (FP.dcmp z31 z33) .l))])) t → Steps p.tables e below (s₁.setTop (entryFrame m #[(.ref a22), (.ref a23)] 3)) t := by
      intro t k
      refine S57 t ?_
      refine XS.ifYes X56.here hx rfl (pc0 := 11) (pc' := 35) rfl (hb hby d4_11) rfl ((if0 _ _).trans (teq hc59).1) (by decide) (by decide) ?_
      show Steps p.tables e below (T56.setTop (mkF m 35 #[.val (.ref a22), .val (.ref a23), .val (.int (0 : Int32))] [])) _
      refine XS.aloadN X56.here hx rfl (hb hby d4_35) rfl rfl ?_
      show Steps p.tables e below (T56.setTop (mkF m 36 #[.val (.ref a22), .val (.ref a23), .val (.int (0 : Int32))] [(.ref a22)])) _
      refine st60 _ ?_
      show Steps p.tables e below (T60.setTop (mkF m 39 #[.val (.ref a22), .val (.ref a23), .val (.int (0 : Int32))] [(.double z31)])) _
      refine XS.aloadN X60.here hx rfl (hb hby d4_39) rfl rfl ?_
      show Steps p.tables e below (T60.setTop (mkF m 40 #[.val (.ref a22), .val (.ref a23), .val (.int (0 : Int32))] [(.ref a23), (.double z31)])) _
      refine st61 _ ?_
      show Steps p.tables e below (T61.setTop (mkF m 43 #[.val (.ref a22), .val (.ref a23), .val (.int (0 : Int32))] [(.double z33), (.double z31)])) _
      refine XS.dcmpS X61.here hx rfl (hb hby d4_43) rfl rfl ?_
      show Steps p.tables e below (T61.setTop (mkF m 44 #[.val (.ref a22), .val (.ref a23), .val (.int (0 : Int32))] [(.int (cmpValue (FP.dcmp z31 z33) .l))])) _
      exact k
    obtain ⟨w63, hw63⟩ : ∃ z : Int32, z = (cmpValue (FP.dcmp z31 z33) .l) := ⟨_, rfl⟩
    rw [← hw63] at S62
    by_cases hc64 : w63 = (0 : Int32)
    · have S65 : ∀ t, Steps p.tables e below (T61.setTop (mkF m 66 #[.val (.ref a22), .val (.ref a23), .val (.int (0 : Int32))] [(.int (0 : Int32))])) t → Steps p.tables e below (s₁.setTop (entryFrame m #[(.ref a22), (.ref a23)] 3)) t := by
        intro t k
        refine S62 t ?_
        refine XS.ifYes X61.here hx rfl (pc0 := 44) (pc' := 65) rfl (hb hby d4_44) rfl ((if0 _ _).trans (teq hc64).1) (by decide) (by decide) ?_
        show Steps p.tables e below (T61.setTop (mkF m 65 #[.val (.ref a22), .val (.ref a23), .val (.int (0 : Int32))] [])) _
        refine XS.iloadN X61.here hx rfl (hb hby d4_65) rfl ?_
        show Steps p.tables e below (T61.setTop (mkF m 66 #[.val (.ref a22), .val (.ref a23), .val (.int (0 : Int32))] [(.int (0 : Int32))])) _
        exact k
      have hf : f4 z24 z26 z31 z33 = (0 : Int32) := by
        unfold f4
        subst hw58 hw63
        rw [if_pos hc59, if_pos hc64]
      obtain ⟨fs, hr, hrun, hended, hW, hsame⟩ := X61.leave (v := some (.int (0 : Int32))) (fun h => by rw [Bd.returns] at h; cases h)
      refine ⟨_, _, S65 _ ?_, hrun, hended, _, _, rfl, ?_, ⟨_, rfl⟩, hW, hsame.mono (by decide) (by decide)⟩
      · exact retOut X61 hx Bd.returns rfl (Or.inl ⟨rfl, Or.inl rfl, _, rfl⟩) (hb hby d4_66) hr
      · show Q4 Z a22 a23 z24 z26 z31 z33 h0 n0 _ T61.heap _
        rw [e61]
        exact ⟨by rw [hf], N0, rfl⟩
    · obtain ⟨T66, X66, e66, st66⟩ := getF X61 hx hZ hown (host := "") (Or.inl (hw _ (List.mem_of_getElem? (i := 16) rfl))) Via.refl e61 F_preference_a22 (g := (mkF m 48 #[.val (.ref a22), .val (.ref a23), .val (.int (0 : Int32))] [(.ref a22)])) rfl rfl (hb hby d4_48)
      obtain ⟨T67, X67, e67, st67⟩ := getF X66 hx hZ hown (host := "") (Or.inl (hw _ (List.mem_of_getElem? (i := 16) rfl))) Via.refl e66 F_preference_a23 (g := (mkF m 52 #[.val (.ref a22), .val (.ref a23), .val (.int (0 : Int32))] [(.ref a23), (.double z31)])) rfl rfl (hb hby d4_52)
      have S68 : ∀ t, Steps p.tables e below (T67.setTop (mkF m 56 #[.val (.ref a22), .val (.ref a23), .val (.int (0 : Int32))] [(.int (cmpValue (FP.dcmp z31 z33) .l))])) t → Steps p.tables e below (s₁.setTop (entryFrame m #[(.ref a22), (.ref a23)] 3)) t := by
        intro t k
        refine S62 t ?_
        refine XS.ifNo X61.here hx rfl (hb hby d4_44) rfl ((if0 _ _).trans (feq hc64).1) ?_
        show Steps p.tables e below (T61.setTop (mkF m 47 #[.val (.ref a22), .val (.ref a23), .val (.int (0 : Int32))] [])) _
        refine XS.aloadN X61.here hx rfl (hb hby d4_47) rfl rfl ?_
        show Steps p.tables e below (T61.setTop (mkF m 48 #[.val (.ref a22), .val (.ref a23), .val (.int (0 : Int32))] [(.ref a22)])) _
        refine st66 _ ?_
        show Steps p.tables e below (T66.setTop (mkF m 51 #[.val (.ref a22), .val (.ref a23), .val (.int (0 : Int32))] [(.double z31)])) _
        refine XS.aloadN X66.here hx rfl (hb hby d4_51) rfl rfl ?_
        show Steps p.tables e below (T66.setTop (mkF m 52 #[.val (.ref a22), .val (.ref a23), .val (.int (0 : Int32))] [(.ref a23), (.double z31)])) _
        refine st67 _ ?_
        show Steps p.tables e below (T67.setTop (mkF m 55 #[.val (.ref a22), .val (.ref a23), .val (.int (0 : Int32))] [(.double z33), (.double z31)])) _
        refine XS.dcmpS X67.here hx rfl (hb hby d4_55) rfl rfl ?_
        show Steps p.tables e below (T67.setTop (mkF m 56 #[.val (.ref a22), .val (.ref a23), .val (.int (0 : Int32))] [(.int (cmpValue (FP.dcmp z31 z33) .l))])) _
        exact k
      obtain ⟨w69, hw69⟩ : ∃ z : Int32, z = (cmpValue (FP.dcmp z31 z33) .l) := ⟨_, rfl⟩
      rw [← hw69] at S68
      have S71 : ∀ t, Steps p.tables e below (T67.setTop (mkF m 64 #[.val (.ref a22), .val (.ref a23), .val (.int (0 : Int32))] [(.int (if (0 : Int32) < w69 then (1 : Int32) else (-1 : Int32)))])) t → Steps p.tables e below (s₁.setTop (entryFrame m #[(.ref a22), (.ref a23)] 3)) t := by
        intro t k
        refine S68 t ?_
        by_cases hc70 : (0 : Int32) < w69
        · rw [if_pos hc70] at k
          refine XS.ifNo X67.here hx rfl (hb hby d4_56) rfl ((if0 _ _).trans (tlt hc70).2.2.2) ?_
          show Steps p.tables e below (T67.setTop (mkF m 59 #[.val (.ref a22), .val (.ref a23), .val (.int (0 : Int32))] [])) _
          refine XS.iconst X67.here hx rfl (hb hby d4_59) ?_
          show Steps p.tables e below (T67.setTop (mkF m 60 #[.val (.ref a22), .val (.ref a23), .val (.int (0 : Int32))] [(.int (1 : Int32))])) _
          refine XS.goto X67.here hx rfl (pc0 := 60) (pc' := 64) rfl (hb hby d4_60) (by decide) (by decide) ?_
          show Steps p.tables e below (T67.setTop (mkF m 64 #[.val (.ref a22), .val (.ref a23), .val (.int (0 : Int32))] [(.int (1 : Int32))])) _
          exact k
        · rw [if_neg hc70] at k
          refine XS.ifYes X67.here hx rfl (pc0 := 56) (pc' := 63) rfl (hb hby d4_56) rfl ((if0 _ _).trans (flt hc70).2.2.2) (by decide) (by decide) ?_
          show Steps p.tables e below (T67.setTop (mkF m 63 #[.val (.ref a22), .val (.ref a23), .val (.int (0 : Int32))] [])) _
          refine XS.iconst X67.here hx rfl (hb hby d4_63) ?_
          show Steps p.tables e below (T67.setTop (mkF m 64 #[.val (.ref a22), .val (.ref a23), .val (.int (0 : Int32))] [(.int (-1 : Int32))])) _
          exact k
      obtain ⟨w72, hw72⟩ : ∃ z : Int32, z = (if (0 : Int32) < w69 then (1 : Int32) else (-1 : Int32)) := ⟨_, rfl⟩
      rw [← hw72] at S71
      have S73 : ∀ t, Steps p.tables e below (T67.setTop (mkF m 66 #[.val (.ref a22), .val (.ref a23), .val (.int w72)] [(.int w72)])) t → Steps p.tables e below (s₁.setTop (entryFrame m #[(.ref a22), (.ref a23)] 3)) t := by
        intro t k
        refine S71 t ?_
        refine XS.istoreN X67.here hx rfl (hb hby d4_64) rfl (l' := #[.val (.ref a22), .val (.ref a23), .val (.int w72)]) rfl ?_
        show Steps p.tables e below (T67.setTop (mkF m 65 #[.val (.ref a22), .val (.ref a23), .val (.int w72)] [])) _
        refine XS.iloadN X67.here hx rfl (hb hby d4_65) rfl ?_
        show Steps p.tables e below (T67.setTop (mkF m 66 #[.val (.ref a22), .val (.ref a23), .val (.int w72)] [(.int w72)])) _
        exact k
      have hf : f4 z24 z26 z31 z33 = w72 := by
        unfold f4
        subst hw58 hw63 hw69 hw72
        rw [if_pos hc59, if_neg hc64]
      obtain ⟨fs, hr, hrun, hended, hW, hsame⟩ := X67.leave (v := some (.int w72)) (fun h => by rw [Bd.returns] at h; cases h)
      refine ⟨_, _, S73 _ ?_, hrun, hended, _, _, rfl, ?_, ⟨_, rfl⟩, hW, hsame.mono (by decide) (by decide)⟩
      · exact retOut X67 hx Bd.returns rfl (Or.inl ⟨rfl, Or.inl rfl, _, rfl⟩) (hb hby d4_66) hr
      · show Q4 Z a22 a23 z24 z26 z31 z33 h0 n0 _ T67.heap _
        rw [e67]
        exact ⟨by rw [hf], N0, rfl⟩
  · obtain ⟨T74, X74, e74, st74⟩ := getF X56 hx hZ hown (host := "") (Or.inl (hw _ (List.mem_of_getElem? (i := 14) rfl))) Via.refl e56 F_utility_a22 (g := (mkF m 15 #[.val (.ref a22), .val (.ref a23), .val (.int (0 : Int32))] [(.ref a22)])) rfl rfl (hb hby d4_15)
    obtain ⟨T75, X75, e75, st75⟩ := getF X74 hx hZ hown (host := "") (Or.inl (hw _ (List.mem_of_getElem? (i := 14) rfl))) Via.refl e74 F_utility_a23 (g := (mkF m 19 #[.val (.ref a22), .val (.ref a23), .val (.int (0 : Int32))] [(.ref a23), (.double z24)])) rfl rfl (hb hby d4_19)
    have S76 : ∀ t, Steps p.tables e below (T75.setTop (mkF m 23 #[.val (.ref a22), .val (.ref a23), .val (.int (0 : Int32))] [(.int (cmpValue (FP.dcmp z24 z26) .l))])) t → Steps p.tables e below (s₁.setTop (entryFrame m #[(.ref a22), (.ref a23)] 3)) t := by
      intro t k
      refine S57 t ?_
      refine XS.ifNo X56.here hx rfl (hb hby d4_11) rfl ((if0 _ _).trans (feq hc59).1) ?_
      show Steps p.tables e below (T56.setTop (mkF m 14 #[.val (.ref a22), .val (.ref a23), .val (.int (0 : Int32))] [])) _
      refine XS.aloadN X56.here hx rfl (hb hby d4_14) rfl rfl ?_
      show Steps p.tables e below (T56.setTop (mkF m 15 #[.val (.ref a22), .val (.ref a23), .val (.int (0 : Int32))] [(.ref a22)])) _
      refine st74 _ ?_
      show Steps p.tables e below (T74.setTop (mkF m 18 #[.val (.ref a22), .val (.ref a23), .val (.int (0 : Int32))] [(.double z24)])) _
      refine XS.aloadN X74.here hx rfl (hb hby d4_18) rfl rfl ?_
      show Steps p.tables e below (T74.setTop (mkF m 19 #[.val (.ref a22), .val (.ref a23), .val (.int (0 : Int32))] [(.ref a23), (.double z24)])) _
      refine st75 _ ?_
      show Steps p.tables e below (T75.setTop (mkF m 22 #[.val (.ref a22), .val (.ref a23), .val (.int (0 : Int32))] [(.double z26), (.double z24)])) _
      refine XS.dcmpS X75.here hx rfl (hb hby d4_22) rfl rfl ?_
      show Steps p.tables e below (T75.setTop (mkF m 23 #[.val (.ref a22), .val (.ref a23), .val (.int (0 : Int32))] [(.int (cmpValue (FP.dcmp z24 z26) .l))])) _
      exact k
    obtain ⟨w77, hw77⟩ : ∃ z : Int32, z = (cmpValue (FP.dcmp z24 z26) .l) := ⟨_, rfl⟩
    rw [← hw77] at S76
    have S79 : ∀ t, Steps p.tables e below (T75.setTop (mkF m 31 #[.val (.ref a22), .val (.ref a23), .val (.int (0 : Int32))] [(.int (if (0 : Int32) < w77 then (1 : Int32) else (-1 : Int32)))])) t → Steps p.tables e below (s₁.setTop (entryFrame m #[(.ref a22), (.ref a23)] 3)) t := by
      intro t k
      refine S76 t ?_
      by_cases hc78 : (0 : Int32) < w77
      · rw [if_pos hc78] at k
        refine XS.ifNo X75.here hx rfl (hb hby d4_23) rfl ((if0 _ _).trans (tlt hc78).2.2.2) ?_
        show Steps p.tables e below (T75.setTop (mkF m 26 #[.val (.ref a22), .val (.ref a23), .val (.int (0 : Int32))] [])) _
        refine XS.iconst X75.here hx rfl (hb hby d4_26) ?_
        show Steps p.tables e below (T75.setTop (mkF m 27 #[.val (.ref a22), .val (.ref a23), .val (.int (0 : Int32))] [(.int (1 : Int32))])) _
        refine XS.goto X75.here hx rfl (pc0 := 27) (pc' := 31) rfl (hb hby d4_27) (by decide) (by decide) ?_
        show Steps p.tables e below (T75.setTop (mkF m 31 #[.val (.ref a22), .val (.ref a23), .val (.int (0 : Int32))] [(.int (1 : Int32))])) _
        exact k
      · rw [if_neg hc78] at k
        refine XS.ifYes X75.here hx rfl (pc0 := 23) (pc' := 30) rfl (hb hby d4_23) rfl ((if0 _ _).trans (flt hc78).2.2.2) (by decide) (by decide) ?_
        show Steps p.tables e below (T75.setTop (mkF m 30 #[.val (.ref a22), .val (.ref a23), .val (.int (0 : Int32))] [])) _
        refine XS.iconst X75.here hx rfl (hb hby d4_30) ?_
        show Steps p.tables e below (T75.setTop (mkF m 31 #[.val (.ref a22), .val (.ref a23), .val (.int (0 : Int32))] [(.int (-1 : Int32))])) _
        exact k
    obtain ⟨w80, hw80⟩ : ∃ z : Int32, z = (if (0 : Int32) < w77 then (1 : Int32) else (-1 : Int32)) := ⟨_, rfl⟩
    rw [← hw80] at S79
    have S81 : ∀ t, Steps p.tables e below (T75.setTop (mkF m 66 #[.val (.ref a22), .val (.ref a23), .val (.int w80)] [(.int w80)])) t → Steps p.tables e below (s₁.setTop (entryFrame m #[(.ref a22), (.ref a23)] 3)) t := by
      intro t k
      refine S79 t ?_
      refine XS.istoreN X75.here hx rfl (hb hby d4_31) rfl (l' := #[.val (.ref a22), .val (.ref a23), .val (.int w80)]) rfl ?_
      show Steps p.tables e below (T75.setTop (mkF m 32 #[.val (.ref a22), .val (.ref a23), .val (.int w80)] [])) _
      refine XS.goto X75.here hx rfl (pc0 := 32) (pc' := 65) rfl (hb hby d4_32) (by decide) (by decide) ?_
      show Steps p.tables e below (T75.setTop (mkF m 65 #[.val (.ref a22), .val (.ref a23), .val (.int w80)] [])) _
      refine XS.iloadN X75.here hx rfl (hb hby d4_65) rfl ?_
      show Steps p.tables e below (T75.setTop (mkF m 66 #[.val (.ref a22), .val (.ref a23), .val (.int w80)] [(.int w80)])) _
      exact k
    have hf : f4 z24 z26 z31 z33 = w80 := by
      unfold f4
      subst hw58 hw77 hw80
      rw [if_neg hc59]
    obtain ⟨fs, hr, hrun, hended, hW, hsame⟩ := X75.leave (v := some (.int w80)) (fun h => by rw [Bd.returns] at h; cases h)
    refine ⟨_, _, S81 _ ?_, hrun, hended, _, _, rfl, ?_, ⟨_, rfl⟩, hW, hsame.mono (by decide) (by decide)⟩
    · exact retOut X75 hx Bd.returns rfl (Or.inl ⟨rfl, Or.inl rfl, _, rfl⟩) (hb hby d4_66) hr
    · show Q4 Z a22 a23 z24 z26 z31 z33 h0 n0 _ T75.heap _
      rw [e75]
      exact ⟨by rw [hf], N0, rfl⟩
theorem pd_1 : parseMethodDescriptor "(DD)V" = some ⟨[.double, .double], none⟩ := by decide +kernel
theorem pd_2 : parseMethodDescriptor "(Lcom/example/cinderbench/cinderbench/algorithms/Worth;)I" = some ⟨[(.object "com/example/cinderbench/cinderbench/algorithms/Worth")], some .int⟩ := by decide +kernel
set_option maxRecDepth 65536 in
theorem own_law (a1 : Int32) (a2 : Int32) (u1 : Int32) (u2 : Int32) (fl : Int32)  (v0 : Int32) (hv0 : v0 = (fl &&& (1 : Int32))) (v1 : Int32) (hv1 : v1 = (if v0 = (0 : Int32) then a2 else a1)) (v2 : Int32) (hv2 : v2 = (u1 % (5 : Int32))) (v3 : Int32) (hv3 : v3 = (u2 % (5 : Int32))) (v4 : Int32) (hv4 : v4 = (f4 (FP.i2d a1) (FP.i2d v1) (FP.i2d v2) (FP.i2d v3))) (v5 : Int64) (hv5 : v5 = (((a1.toInt64 - v1.toInt64) * (17 : Int64)) + (v2 - v3).toInt64)) (v6 : Int32) (hv6 : v6 = (lcmpW v5 (0 : Int64))) (v7 : Int32) (hv7 : v7 = (if (0 : Int32) < v6 then (1 : Int32) else (0 : Int32))) (v8 : Int32) (hv8 : v8 = (lcmpW v5 (0 : Int64))) (v9 : Int32) (hv9 : v9 = (if v8 < (0 : Int32) then (1 : Int32) else (0 : Int32))) (v10 : Int32) (hv10 : v10 = (if (0 : Int32) < v4 then (1 : Int32) else (0 : Int32))) (v11 : Int32) (hv11 : v11 = (if v10 = v7 then (if (if v4 < (0 : Int32) then (1 : Int32) else (0 : Int32)) = v9 then (1 : Int32) else (0 : Int32)) else (0 : Int32)))  : v11 = (1 : Int32) := by
  have fin : ∀ s : Int32, (s = -1 ∨ s = 0 ∨ s = 1) → v4 = s → lcmpW v5 0 = s → v11 = 1 := by
    intro s hs r4 r5
    rw [r5] at hv6 hv8
    subst hv11 hv10 hv9 hv8 hv7 hv6 r4
    rcases hs with h | h | h <;> rw [h] <;> decide
  have A1 := a1.toInt_lt
  have A2 := a1.le_toInt
  have B1 := v1.toInt_lt
  have B2 := v1.le_toInt
  have C1 : -5 < v2.toInt ∧ v2.toInt < 5 := by
    rw [hv2, Int32.toInt_mod]; exact ⟨Int.lt_tmod_of_pos _ (by decide), Int.tmod_lt_of_pos _ (by decide)⟩
  have C2 : -5 < v3.toInt ∧ v3.toInt < 5 := by
    rw [hv3, Int32.toInt_mod]; exact ⟨Int.lt_tmod_of_pos _ (by decide), Int.tmod_lt_of_pos _ (by decide)⟩
  have e1 : (a1.toInt64 - v1.toInt64).toInt = a1.toInt - v1.toInt := by
    rw [Jvm.Kit.i64_sub] <;> simp only [Int32.toInt_toInt64] <;> omega
  have e2 : ((a1.toInt64 - v1.toInt64) * (17 : Int64)).toInt = (a1.toInt - v1.toInt) * 17 := by
    have h17 : (17 : Int64).toInt = 17 := by decide
    rw [Jvm.Kit.i64_mul] <;> rw [e1, h17] <;> omega
  have e3 : (v2 - v3).toInt64.toInt = v2.toInt - v3.toInt := by
    rw [Int32.toInt_toInt64, Jvm.Kit.i32_sub] <;> omega
  have K : v5.toInt = (a1.toInt - v1.toInt) * 17 + (v2.toInt - v3.toInt) := by
    rw [hv5, Jvm.Kit.i64_add] <;> rw [e2, e3] <;> omega
  have L : lcmpW v5 0 = if v5.toInt < 0 then -1 else if v5.toInt = 0 then 0 else 1 := own_lc v5 0
  have c1 := own_cmp_i a1 v1 .l
  have c2 := own_cmp_i v2 v3 .l
  by_cases h1 : a1.toInt < v1.toInt
  · rw [if_pos h1] at c1
    refine fin (-1) (Or.inl rfl) ?_ ?_
    · rw [hv4]; unfold f4; rw [c1, if_neg (by decide), if_neg (by decide)]
    · rw [L, if_pos (by omega)]
  · rw [if_neg h1] at c1
    by_cases h2 : a1.toInt = v1.toInt
    · rw [if_pos h2] at c1
      by_cases h3 : v2.toInt < v3.toInt
      · rw [if_pos h3] at c2
        refine fin (-1) (Or.inl rfl) ?_ ?_
        · rw [hv4]; unfold f4; rw [c1, c2, if_pos (by decide), if_neg (by decide), if_neg (by decide)]
        · rw [L, if_pos (by omega)]
      · rw [if_neg h3] at c2
        by_cases h4 : v2.toInt = v3.toInt
        · rw [if_pos h4] at c2
          refine fin 0 (Or.inr (Or.inl rfl)) ?_ ?_
          · rw [hv4]; unfold f4; rw [c1, c2, if_pos (by decide), if_pos (by decide)]
          · rw [L, if_neg (by omega), if_pos (by omega)]
        · rw [if_neg h4] at c2
          refine fin 1 (Or.inr (Or.inr rfl)) ?_ ?_
          · rw [hv4]; unfold f4; rw [c1, c2, if_pos (by decide), if_neg (by decide), if_pos (by decide)]
          · rw [L, if_neg (by omega), if_neg (by omega)]
    · rw [if_neg h2] at c1
      refine fin 1 (Or.inr (Or.inr rfl)) ?_ ?_
      · rw [hv4]; unfold f4; rw [c1, if_neg (by decide), if_pos (by decide)]
      · rw [L, if_neg (by omega), if_neg (by omega)]
theorem ef_0 (m : MethodId) (x0 : Int32) (x1 : Int32) (x2 : Int32) (x3 : Int32) (x4 : Int32) : entryFrame m #[(.int x0), (.int x1), (.int x2), (.int x3), (.int x4)] maxLocals = mkF m 0 #[.val (.int x0), .val (.int x1), .val (.int x2), .val (.int x3), .val (.int x4), .unset, .unset, .unset, .unset, .unset, .unset, .unset, .unset, .unset, .unset, .unset] [] := by first | (simp [entryFrame, mkF, argsToLocals, Value.category, maxLocals]; done) | rfl
theorem pn_2 : plainName "com/example/cinderbench/cinderbench/algorithms/WorthCompareToPinLaw" = true := by first | (simp [plainName, overriddenIn]; done) | decide +kernel
def Q0 (Z : State) (a1 : Int32) (a2 : Int32) (u1 : Int32) (u2 : Int32) (fl : Int32) (h0 : Heap) (n0 : Nat) (v : Option Value) (h : Heap) (L : List Loc) : Prop := v = some (.int 1) ∧ Fr n0 L
set_option maxRecDepth 65536 in
set_option maxHeartbeats 40000000 in
theorem rm0 (l : Launch) (Z : State) (a0 : Array Value) (hw : ∀ d ∈ tables_1, d.before a0 Z = true) (ws : List Jvm.Cond) (a1 : Int32) (a2 : Int32) (u1 : Int32) (u2 : Int32) (fl : Int32) (h0 : Heap) (n0 : Nat) (Z0 : n0 ≤ h0.size)  :
    MetFree l x (head1 (Jvm.Cond.code x code maxLocals ret :: ws) room_1) (fun a U => a = #[(.int a1), (.int a2), (.int u1), (.int u2), (.int fl)] ∧ Z.Warmed39 U.vm ∧ U.heap = h0) (fun _ _ _ _ _ => True) (fun _ U o U' => ∃ v L, o = .returned v ∧ Q0 Z a1 a2 u1 u2 fl h0 n0 v U'.heap L ∧ FrameEnd U o U' L room_1.cells room_1.slots) := by
  refine MetFree.of_bodySF (plainFor_of_name pn_2) hisR ?_
  intro p e s m args below meth c s₁ Bd hml0 hP hK
  obtain ⟨rfl, hZ, hh⟩ := hP
  have hx := Bd.exec
  have hby := Bd.bytes
  have hml : c.maxLocals = 16 := hml0
  have hown : s.vm.findClass "com/example/cinderbench/cinderbench/algorithms/WorthCompareToPinLaw" = some m.cls := findClass_of_methodNamed Bd.named
  have hnm := (name_of_methodNamed Bd.named Bd.method).1
  have X0 : Stand p l e room_1 s m #[(.int a1), (.int a2), (.int u1), (.int u2), (.int fl)] below meth c s₁ [] 0 0 := Stand.of_body Bd
  have e0 : s₁.heap = h0 := by rw [← hh, Bd.state]; rfl
  have N0 := Fr.nil n0
  have pre0 : ∀ t, Steps p.tables e below (s₁.setTop (mkF m 0 #[.val (.int a1), .val (.int a2), .val (.int u1), .val (.int u2), .val (.int fl), .unset, .unset, .unset, .unset, .unset, .unset, .unset, .unset, .unset, .unset, .unset] [])) t → Steps p.tables e below (s₁.setTop (entryFrame m #[(.int a1), (.int a2), (.int u1), (.int u2), (.int fl)] maxLocals)) t := fun t k => castTop (ef_0 m a1 a2 u1 u2 fl) k
  have S82 : ∀ t, Steps p.tables e below (s₁.setTop (mkF m 7 #[.val (.int a1), .val (.int a2), .val (.int u1), .val (.int u2), .val (.int fl), .val (.int a1), .unset, .unset, .unset, .unset, .unset, .unset, .unset, .unset, .unset, .unset] [(.int (fl &&& (1 : Int32)))])) t → Steps p.tables e below (s₁.setTop (entryFrame m #[(.int a1), (.int a2), (.int u1), (.int u2), (.int fl)] maxLocals)) t := by
    intro t k
    refine pre0 t ?_
    refine XS.iloadN X0.here hx rfl (hb hby at_0) rfl ?_
    show Steps p.tables e below (s₁.setTop (mkF m 1 #[.val (.int a1), .val (.int a2), .val (.int u1), .val (.int u2), .val (.int fl), .unset, .unset, .unset, .unset, .unset, .unset, .unset, .unset, .unset, .unset, .unset] [(.int a1)])) _
    refine XS.istore X0.here hx rfl (hb hby at_1) rfl (l' := #[.val (.int a1), .val (.int a2), .val (.int u1), .val (.int u2), .val (.int fl), .val (.int a1), .unset, .unset, .unset, .unset, .unset, .unset, .unset, .unset, .unset, .unset]) rfl ?_
    show Steps p.tables e below (s₁.setTop (mkF m 3 #[.val (.int a1), .val (.int a2), .val (.int u1), .val (.int u2), .val (.int fl), .val (.int a1), .unset, .unset, .unset, .unset, .unset, .unset, .unset, .unset, .unset, .unset] [])) _
    refine XS.iload X0.here hx rfl (hb hby at_3) rfl ?_
    show Steps p.tables e below (s₁.setTop (mkF m 5 #[.val (.int a1), .val (.int a2), .val (.int u1), .val (.int u2), .val (.int fl), .val (.int a1), .unset, .unset, .unset, .unset, .unset, .unset, .unset, .unset, .unset, .unset] [(.int fl)])) _
    refine XS.iconst X0.here hx rfl (hb hby at_5) ?_
    show Steps p.tables e below (s₁.setTop (mkF m 6 #[.val (.int a1), .val (.int a2), .val (.int u1), .val (.int u2), .val (.int fl), .val (.int a1), .unset, .unset, .unset, .unset, .unset, .unset, .unset, .unset, .unset, .unset] [(.int (1 : Int32)), (.int fl)])) _
    refine XS.iand X0.here hx rfl (hb hby at_6) rfl ?_
    show Steps p.tables e below (s₁.setTop (mkF m 7 #[.val (.int a1), .val (.int a2), .val (.int u1), .val (.int u2), .val (.int fl), .val (.int a1), .unset, .unset, .unset, .unset, .unset, .unset, .unset, .unset, .unset, .unset] [(.int (fl &&& (1 : Int32)))])) _
    exact k
  obtain ⟨w83, hw83⟩ : ∃ z : Int32, z = (fl &&& (1 : Int32)) := ⟨_, rfl⟩
  rw [← hw83] at S82
  have S85 : ∀ t, Steps p.tables e below (s₁.setTop (mkF m 15 #[.val (.int a1), .val (.int a2), .val (.int u1), .val (.int u2), .val (.int fl), .val (.int a1), .unset, .unset, .unset, .unset, .unset, .unset, .unset, .unset, .unset, .unset] [(.int (if w83 = (0 : Int32) then a2 else a1))])) t → Steps p.tables e below (s₁.setTop (entryFrame m #[(.int a1), (.int a2), (.int u1), (.int u2), (.int fl)] maxLocals)) t := by
    intro t k
    refine S82 t ?_
    by_cases hc84 : w83 = (0 : Int32)
    · rw [if_pos hc84] at k
      refine XS.ifYes X0.here hx rfl (pc0 := 7) (pc' := 14) rfl (hb hby at_7) rfl ((if0 _ _).trans (teq hc84).1) (by decide) (by decide) ?_
      show Steps p.tables e below (s₁.setTop (mkF m 14 #[.val (.int a1), .val (.int a2), .val (.int u1), .val (.int u2), .val (.int fl), .val (.int a1), .unset, .unset, .unset, .unset, .unset, .unset, .unset, .unset, .unset, .unset] [])) _
      refine XS.iloadN X0.here hx rfl (hb hby at_14) rfl ?_
      show Steps p.tables e below (s₁.setTop (mkF m 15 #[.val (.int a1), .val (.int a2), .val (.int u1), .val (.int u2), .val (.int fl), .val (.int a1), .unset, .unset, .unset, .unset, .unset, .unset, .unset, .unset, .unset, .unset] [(.int a2)])) _
      exact k
    · rw [if_neg hc84] at k
      refine XS.ifNo X0.here hx rfl (hb hby at_7) rfl ((if0 _ _).trans (feq hc84).1) ?_
      show Steps p.tables e below (s₁.setTop (mkF m 10 #[.val (.int a1), .val (.int a2), .val (.int u1), .val (.int u2), .val (.int fl), .val (.int a1), .unset, .unset, .unset, .unset, .unset, .unset, .unset, .unset, .unset, .unset] [])) _
      refine XS.iloadN X0.here hx rfl (hb hby at_10) rfl ?_
      show Steps p.tables e below (s₁.setTop (mkF m 11 #[.val (.int a1), .val (.int a2), .val (.int u1), .val (.int u2), .val (.int fl), .val (.int a1), .unset, .unset, .unset, .unset, .unset, .unset, .unset, .unset, .unset, .unset] [(.int a1)])) _
      refine XS.goto X0.here hx rfl (pc0 := 11) (pc' := 15) rfl (hb hby at_11) (by decide) (by decide) ?_
      show Steps p.tables e below (s₁.setTop (mkF m 15 #[.val (.int a1), .val (.int a2), .val (.int u1), .val (.int u2), .val (.int fl), .val (.int a1), .unset, .unset, .unset, .unset, .unset, .unset, .unset, .unset, .unset, .unset] [(.int a1)])) _
      exact k
  obtain ⟨w86, hw86⟩ : ∃ z : Int32, z = (if w83 = (0 : Int32) then a2 else a1) := ⟨_, rfl⟩
  rw [← hw86] at S85
  obtain ⟨T87, h87, X87, e87, E87, A87, D87, -, st87⟩ := newO X0 hx hZ hown (hw _ (List.mem_of_getElem? (i := 0) rfl)) (hw _ (List.mem_of_getElem? (i := 1) rfl)) (hw _ (List.mem_of_getElem? (i := 2) rfl)) e0 (g := (mkF m 27 #[.val (.int a1), .val (.int a2), .val (.int u1), .val (.int u2), .val (.int fl), .val (.int a1), .val (.int w86), .val (.int (u1 % (5 : Int32))), .val (.int (u2 % (5 : Int32))), .unset, .unset, .unset, .unset, .unset, .unset, .unset] [])) rfl (hb hby at_27) (by decide) (by decide)
  obtain ⟨b87, g87⟩ : ∃ z, z = h0.size := ⟨_, rfl⟩
  rw [← g87] at A87 D87 st87
  have gg87 : n0 ≤ b87 := Nat.le_trans Z0 (Nat.le_of_eq g87.symm)
  have sz87 : h0.size ≤ b87 := Nat.le_trans (Keep.refl h0 []).1 (Nat.le_of_eq g87.symm)
  have K88 : Keep h0 h87 [] := (Keep.refl h0 []).ext E87
  have Z89 : n0 ≤ h87.size := Nat.le_trans Z0 E87.1
  have f90 : Fld Z h87 b87 "com/example/cinderbench/cinderbench/algorithms/Worth" "utility" "D" (.double (0 : UInt64)) := D87 (Or.inr (hw _ (List.mem_of_getElem? (i := 15) rfl))) (ty := .double) (by decide)
  have f91 : Fld Z h87 b87 "com/example/cinderbench/cinderbench/algorithms/Worth" "preference" "D" (.double (0 : UInt64)) := D87 (Or.inr (hw _ (List.mem_of_getElem? (i := 17) rfl))) (ty := .double) (by decide)
  obtain ⟨_, _, ⟨T92, L92, k92, n92⟩, -, X92, ⟨Lc92, hQ92, l92, y92, z92⟩, st92⟩ := X87.specialBack hx (y := (⟨"com/example/cinderbench/cinderbench/algorithms/Worth", "<init>", "(DD)V"⟩ : MethodName)) rfl hown (mvT hZ (hw _ (List.mem_of_getElem? (i := 3) rfl))) (mvT hZ (hw _ (List.mem_of_getElem? (i := 4) rfl))) (mvT hZ (hw _ (List.mem_of_getElem? (i := 5) rfl))) (by decide) (backOf (W := 1) (rm1 l Z a0 hw [] b87 (FP.i2d a1) (FP.i2d (u1 % (5 : Int32))) h87 n0 Z89 A87 f90 f91 gg87) hZ (hw _ (List.mem_of_getElem? (i := 5) rfl)) (hw _ (List.mem_of_getElem? (i := 2) rfl)) (by decide) (by decide)) (g := (mkF m 37 #[.val (.int a1), .val (.int a2), .val (.int u1), .val (.int u2), .val (.int fl), .val (.int a1), .val (.int w86), .val (.int (u1 % (5 : Int32))), .val (.int (u2 % (5 : Int32))), .unset, .unset, .unset, .unset, .unset, .unset, .unset] [(.double (FP.i2d (u1 % (5 : Int32)))), (.double (FP.i2d a1)), (.ref b87), (.ref b87)])) rfl (by rw [hml]; rfl) (Steps.refl _) (a := b87) (argsL := [(.double (FP.i2d a1)), (.double (FP.i2d (u1 % (5 : Int32))))]) (rest := [(.ref b87)]) (lenOf pd_1 rfl) rfl (by show 2 * 0 + _ ≤ _; exact Nat.le_of_eq rfl) (hb hby at_37) (fun _ _ => ⟨rfl, e87, (by decide : 1 + 0 ≤ _), (by decide : 2 + 0 ≤ _)⟩)
  dsimp only [Pt.U, Pt.locs, Pt.cells, Pt.slots] at X92 l92 y92 z92 st92 hQ92
  subst l92 y92 z92
  obtain ⟨rfl, N92q, K92, Eq92, fq92_0, fq92_1⟩ := hQ92
  have N92 := Fr.app N0 N92q
  have K93 : Keep h0 T92.heap [] := K88.trans K92 (allS (Or.inr sz87) all0)
  have Z94 : n0 ≤ T92.heap.size := Nat.le_trans Z89 K92.1
  obtain ⟨T95, h95, X95, e95, E95, A95, D95, -, st95⟩ := newO X92 hx hZ hown (hw _ (List.mem_of_getElem? (i := 0) rfl)) (hw _ (List.mem_of_getElem? (i := 1) rfl)) (hw _ (List.mem_of_getElem? (i := 2) rfl)) rfl (g := (mkF m 42 #[.val (.int a1), .val (.int a2), .val (.int u1), .val (.int u2), .val (.int fl), .val (.int a1), .val (.int w86), .val (.int (u1 % (5 : Int32))), .val (.int (u2 % (5 : Int32))), .val (.ref b87), .unset, .unset, .unset, .unset, .unset, .unset] [])) rfl (hb hby at_42) (by decide) (by decide)
  obtain ⟨b95, g95⟩ : ∃ z, z = T92.heap.size := ⟨_, rfl⟩
  rw [← g95] at A95 D95 st95
  have ne96 : b87 ≠ b95 := Nat.ne_of_lt (Nat.lt_of_lt_of_le Eq92.lt (Nat.le_of_eq g95.symm))
  have gg95 : n0 ≤ b95 := Nat.le_trans Z94 (Nat.le_of_eq g95.symm)
  have sz95 : h0.size ≤ b95 := Nat.le_trans K93.1 (Nat.le_of_eq g95.symm)
  have f97 : Exa Z h95 b87 "com/example/cinderbench/cinderbench/algorithms/Worth" := Eq92.ext E95
  have f98 : Fld Z h95 b87 "com/example/cinderbench/cinderbench/algorithms/Worth" "utility" "D" (.double (FP.i2d a1)) := fq92_0.ext E95
  have f99 : Fld Z h95 b87 "com/example/cinderbench/cinderbench/algorithms/Worth" "preference" "D" (.double (FP.i2d (u1 % (5 : Int32)))) := fq92_1.ext E95
  have K100 : Keep h0 h95 [] := K93.ext E95
  have Z101 : n0 ≤ h95.size := Nat.le_trans Z94 E95.1
  have f102 : Fld Z h95 b95 "com/example/cinderbench/cinderbench/algorithms/Worth" "utility" "D" (.double (0 : UInt64)) := D95 (Or.inr (hw _ (List.mem_of_getElem? (i := 15) rfl))) (ty := .double) (by decide)
  have f103 : Fld Z h95 b95 "com/example/cinderbench/cinderbench/algorithms/Worth" "preference" "D" (.double (0 : UInt64)) := D95 (Or.inr (hw _ (List.mem_of_getElem? (i := 17) rfl))) (ty := .double) (by decide)
  obtain ⟨_, _, ⟨T104, L104, k104, n104⟩, -, X104, ⟨Lc104, hQ104, l104, y104, z104⟩, st104⟩ := X95.specialBack hx (y := (⟨"com/example/cinderbench/cinderbench/algorithms/Worth", "<init>", "(DD)V"⟩ : MethodName)) rfl hown (mvT hZ (hw _ (List.mem_of_getElem? (i := 3) rfl))) (mvT hZ (hw _ (List.mem_of_getElem? (i := 4) rfl))) (mvT hZ (hw _ (List.mem_of_getElem? (i := 5) rfl))) (by decide) (backOf (W := 1) (rm1 l Z a0 hw [] b95 (FP.i2d w86) (FP.i2d (u2 % (5 : Int32))) h95 n0 Z101 A95 f102 f103 gg95) hZ (hw _ (List.mem_of_getElem? (i := 5) rfl)) (hw _ (List.mem_of_getElem? (i := 2) rfl)) (by decide) (by decide)) (g := (mkF m 52 #[.val (.int a1), .val (.int a2), .val (.int u1), .val (.int u2), .val (.int fl), .val (.int a1), .val (.int w86), .val (.int (u1 % (5 : Int32))), .val (.int (u2 % (5 : Int32))), .val (.ref b87), .unset, .unset, .unset, .unset, .unset, .unset] [(.double (FP.i2d (u2 % (5 : Int32)))), (.double (FP.i2d w86)), (.ref b95), (.ref b95)])) rfl (by rw [hml]; rfl) (Steps.refl _) (a := b95) (argsL := [(.double (FP.i2d w86)), (.double (FP.i2d (u2 % (5 : Int32))))]) (rest := [(.ref b95)]) (lenOf pd_1 rfl) rfl (by show 2 * 0 + _ ≤ _; exact Nat.le_of_eq rfl) (hb hby at_52) (fun _ _ => ⟨rfl, e95, (by decide : 2 + 0 ≤ _), (by decide : 4 + 0 ≤ _)⟩)
  dsimp only [Pt.U, Pt.locs, Pt.cells, Pt.slots] at X104 l104 y104 z104 st104 hQ104
  subst l104 y104 z104
  obtain ⟨rfl, N104q, K104, Eq104, fq104_0, fq104_1⟩ := hQ104
  have N104 := Fr.app N92 N104q
  have f105 : Exa Z T104.heap b87 "com/example/cinderbench/cinderbench/algorithms/Worth" := f97.keep K104
  have f106 : Fld Z T104.heap b87 "com/example/cinderbench/cinderbench/algorithms/Worth" "utility" "D" (.double (FP.i2d a1)) := f98.keep K104 (ninS ne96 nin0)
  have f107 : Fld Z T104.heap b87 "com/example/cinderbench/cinderbench/algorithms/Worth" "preference" "D" (.double (FP.i2d (u1 % (5 : Int32)))) := f99.keep K104 (ninS ne96 nin0)
  have K108 : Keep h0 T104.heap [] := K100.trans K104 (allS (Or.inr sz95) all0)
  have Z109 : n0 ≤ T104.heap.size := Nat.le_trans Z101 K104.1
  obtain ⟨cq110, kq110, q110a, q110b, q110c⟩ := isOf hZ rfl f105
  obtain ⟨_, _, ⟨T110, L110, k110, n110⟩, -, X110, ⟨Lc110, hQ110, l110, y110, z110⟩, st110⟩ := X104.virtualBack hx (y := (⟨"com/example/cinderbench/cinderbench/algorithms/Worth", "compareTo", "(Lcom/example/cinderbench/cinderbench/algorithms/Worth;)I"⟩ : MethodName)) (z := (⟨"com/example/cinderbench/cinderbench/algorithms/Worth", "compareTo", "(Lcom/example/cinderbench/cinderbench/algorithms/Worth;)I"⟩ : MethodName)) hown (mvT hZ (hw _ (List.mem_of_getElem? (i := 18) rfl))) (mvT hZ (hw _ (List.mem_of_getElem? (i := 19) rfl))) (notFace_of_selects (args := #[]) (mvT hZ (hw _ (List.mem_of_getElem? (i := 21) rfl)))) (mvT hZ (hw _ (List.mem_of_getElem? (i := 21) rfl))) (mvT hZ (hw _ (List.mem_of_getElem? (i := 20) rfl))) (by decide) (backOf (W := 0) (rm4 l Z a0 hw [] b87 b95 (FP.i2d a1) (FP.i2d w86) (FP.i2d (u1 % (5 : Int32))) (FP.i2d (u2 % (5 : Int32))) T104.heap n0 Z109 f106 fq104_0 f107 fq104_1) hZ (hw _ (List.mem_of_getElem? (i := 22) rfl)) (hw _ (List.mem_of_getElem? (i := 2) rfl)) (by decide) (by decide)) q110a q110c (g := (mkF m 61 #[.val (.int a1), .val (.int a2), .val (.int u1), .val (.int u2), .val (.int fl), .val (.int a1), .val (.int w86), .val (.int (u1 % (5 : Int32))), .val (.int (u2 % (5 : Int32))), .val (.ref b87), .val (.ref b95), .unset, .unset, .unset, .unset, .unset] [(.ref b95), (.ref b87)])) rfl (by rw [hml]; rfl) (Steps.refl _) (argsL := [(.ref b95)]) (rest := []) (lenOf pd_2 rfl) rfl (by show 2 * 0 + _ ≤ _; exact Nat.le_of_eq rfl) (hb hby at_61) (fun _ _ => ⟨rfl, rfl, (by decide : 2 + 0 ≤ _), (by decide : 4 + 0 ≤ _)⟩)
  dsimp only [Pt.U, Pt.locs, Pt.cells, Pt.slots] at X110 l110 y110 z110 st110 hQ110
  subst l110 y110 z110
  obtain ⟨rfl, N110q, e110⟩ := hQ110
  have N110 := Fr.app N104 N110q
  have S111 : ∀ t, Steps p.tables e below (T110.setTop (mkF m 66 #[.val (.int a1), .val (.int a2), .val (.int u1), .val (.int u2), .val (.int fl), .val (.int a1), .val (.int w86), .val (.int (u1 % (5 : Int32))), .val (.int (u2 % (5 : Int32))), .val (.ref b87), .val (.ref b95), .val (.int (f4 (FP.i2d a1) (FP.i2d w86) (FP.i2d (u1 % (5 : Int32))) (FP.i2d (u2 % (5 : Int32))))), .unset, .unset, .unset, .unset] [])) t → Steps p.tables e below (s₁.setTop (entryFrame m #[(.int a1), (.int a2), (.int u1), (.int u2), (.int fl)] maxLocals)) t := by
    intro t k
    refine S85 t ?_
    refine XS.istore X0.here hx rfl (hb hby at_15) rfl (l' := #[.val (.int a1), .val (.int a2), .val (.int u1), .val (.int u2), .val (.int fl), .val (.int a1), .val (.int w86), .unset, .unset, .unset, .unset, .unset, .unset, .unset, .unset, .unset]) rfl ?_
    show Steps p.tables e below (s₁.setTop (mkF m 17 #[.val (.int a1), .val (.int a2), .val (.int u1), .val (.int u2), .val (.int fl), .val (.int a1), .val (.int w86), .unset, .unset, .unset, .unset, .unset, .unset, .unset, .unset, .unset] [])) _
    refine XS.iloadN X0.here hx rfl (hb hby at_17) rfl ?_
    show Steps p.tables e below (s₁.setTop (mkF m 18 #[.val (.int a1), .val (.int a2), .val (.int u1), .val (.int u2), .val (.int fl), .val (.int a1), .val (.int w86), .unset, .unset, .unset, .unset, .unset, .unset, .unset, .unset, .unset] [(.int u1)])) _
    refine XS.iconst X0.here hx rfl (hb hby at_18) ?_
    show Steps p.tables e below (s₁.setTop (mkF m 19 #[.val (.int a1), .val (.int a2), .val (.int u1), .val (.int u2), .val (.int fl), .val (.int a1), .val (.int w86), .unset, .unset, .unset, .unset, .unset, .unset, .unset, .unset, .unset] [(.int (5 : Int32)), (.int u1)])) _
    refine Jvm.RoadKit.iremM X0 hx rfl (hb hby at_19) rfl (by decide) ?_
    show Steps p.tables e below (s₁.setTop (mkF m 20 #[.val (.int a1), .val (.int a2), .val (.int u1), .val (.int u2), .val (.int fl), .val (.int a1), .val (.int w86), .unset, .unset, .unset, .unset, .unset, .unset, .unset, .unset, .unset] [(.int (u1 % (5 : Int32)))])) _
    refine XS.istore X0.here hx rfl (hb hby at_20) rfl (l' := #[.val (.int a1), .val (.int a2), .val (.int u1), .val (.int u2), .val (.int fl), .val (.int a1), .val (.int w86), .val (.int (u1 % (5 : Int32))), .unset, .unset, .unset, .unset, .unset, .unset, .unset, .unset]) rfl ?_
    show Steps p.tables e below (s₁.setTop (mkF m 22 #[.val (.int a1), .val (.int a2), .val (.int u1), .val (.int u2), .val (.int fl), .val (.int a1), .val (.int w86), .val (.int (u1 % (5 : Int32))), .unset, .unset, .unset, .unset, .unset, .unset, .unset, .unset] [])) _
    refine XS.iloadN X0.here hx rfl (hb hby at_22) rfl ?_
    show Steps p.tables e below (s₁.setTop (mkF m 23 #[.val (.int a1), .val (.int a2), .val (.int u1), .val (.int u2), .val (.int fl), .val (.int a1), .val (.int w86), .val (.int (u1 % (5 : Int32))), .unset, .unset, .unset, .unset, .unset, .unset, .unset, .unset] [(.int u2)])) _
    refine XS.iconst X0.here hx rfl (hb hby at_23) ?_
    show Steps p.tables e below (s₁.setTop (mkF m 24 #[.val (.int a1), .val (.int a2), .val (.int u1), .val (.int u2), .val (.int fl), .val (.int a1), .val (.int w86), .val (.int (u1 % (5 : Int32))), .unset, .unset, .unset, .unset, .unset, .unset, .unset, .unset] [(.int (5 : Int32)), (.int u2)])) _
    refine Jvm.RoadKit.iremM X0 hx rfl (hb hby at_24) rfl (by decide) ?_
    show Steps p.tables e below (s₁.setTop (mkF m 25 #[.val (.int a1), .val (.int a2), .val (.int u1), .val (.int u2), .val (.int fl), .val (.int a1), .val (.int w86), .val (.int (u1 % (5 : Int32))), .unset, .unset, .unset, .unset, .unset, .unset, .unset, .unset] [(.int (u2 % (5 : Int32)))])) _
    refine XS.istore X0.here hx rfl (hb hby at_25) rfl (l' := #[.val (.int a1), .val (.int a2), .val (.int u1), .val (.int u2), .val (.int fl), .val (.int a1), .val (.int w86), .val (.int (u1 % (5 : Int32))), .val (.int (u2 % (5 : Int32))), .unset, .unset, .unset, .unset, .unset, .unset, .unset]) rfl ?_
    show Steps p.tables e below (s₁.setTop (mkF m 27 #[.val (.int a1), .val (.int a2), .val (.int u1), .val (.int u2), .val (.int fl), .val (.int a1), .val (.int w86), .val (.int (u1 % (5 : Int32))), .val (.int (u2 % (5 : Int32))), .unset, .unset, .unset, .unset, .unset, .unset, .unset] [])) _
    refine st87 _ ?_
    show Steps p.tables e below (T87.setTop (mkF m 30 #[.val (.int a1), .val (.int a2), .val (.int u1), .val (.int u2), .val (.int fl), .val (.int a1), .val (.int w86), .val (.int (u1 % (5 : Int32))), .val (.int (u2 % (5 : Int32))), .unset, .unset, .unset, .unset, .unset, .unset, .unset] [(.ref b87)])) _
    refine XS.dup X87.here hx rfl (hb hby at_30) rfl rfl ?_
    show Steps p.tables e below (T87.setTop (mkF m 31 #[.val (.int a1), .val (.int a2), .val (.int u1), .val (.int u2), .val (.int fl), .val (.int a1), .val (.int w86), .val (.int (u1 % (5 : Int32))), .val (.int (u2 % (5 : Int32))), .unset, .unset, .unset, .unset, .unset, .unset, .unset] [(.ref b87), (.ref b87)])) _
    refine XS.iload X87.here hx rfl (hb hby at_31) rfl ?_
    show Steps p.tables e below (T87.setTop (mkF m 33 #[.val (.int a1), .val (.int a2), .val (.int u1), .val (.int u2), .val (.int fl), .val (.int a1), .val (.int w86), .val (.int (u1 % (5 : Int32))), .val (.int (u2 % (5 : Int32))), .unset, .unset, .unset, .unset, .unset, .unset, .unset] [(.int a1), (.ref b87), (.ref b87)])) _
    refine XS.i2dS X87.here hx rfl (hb hby at_33) rfl rfl ?_
    show Steps p.tables e below (T87.setTop (mkF m 34 #[.val (.int a1), .val (.int a2), .val (.int u1), .val (.int u2), .val (.int fl), .val (.int a1), .val (.int w86), .val (.int (u1 % (5 : Int32))), .val (.int (u2 % (5 : Int32))), .unset, .unset, .unset, .unset, .unset, .unset, .unset] [(.double (FP.i2d a1)), (.ref b87), (.ref b87)])) _
    refine XS.iload X87.here hx rfl (hb hby at_34) rfl ?_
    show Steps p.tables e below (T87.setTop (mkF m 36 #[.val (.int a1), .val (.int a2), .val (.int u1), .val (.int u2), .val (.int fl), .val (.int a1), .val (.int w86), .val (.int (u1 % (5 : Int32))), .val (.int (u2 % (5 : Int32))), .unset, .unset, .unset, .unset, .unset, .unset, .unset] [(.int (u1 % (5 : Int32))), (.double (FP.i2d a1)), (.ref b87), (.ref b87)])) _
    refine XS.i2dS X87.here hx rfl (hb hby at_36) rfl rfl ?_
    show Steps p.tables e below (T87.setTop (mkF m 37 #[.val (.int a1), .val (.int a2), .val (.int u1), .val (.int u2), .val (.int fl), .val (.int a1), .val (.int w86), .val (.int (u1 % (5 : Int32))), .val (.int (u2 % (5 : Int32))), .unset, .unset, .unset, .unset, .unset, .unset, .unset] [(.double (FP.i2d (u1 % (5 : Int32)))), (.double (FP.i2d a1)), (.ref b87), (.ref b87)])) _
    refine st92.trans ?_
    show Steps p.tables e below (T92.setTop (mkF m 40 #[.val (.int a1), .val (.int a2), .val (.int u1), .val (.int u2), .val (.int fl), .val (.int a1), .val (.int w86), .val (.int (u1 % (5 : Int32))), .val (.int (u2 % (5 : Int32))), .unset, .unset, .unset, .unset, .unset, .unset, .unset] [(.ref b87)])) _
    refine XS.astore X92.here hx rfl (hb hby at_40) rfl rfl (l' := #[.val (.int a1), .val (.int a2), .val (.int u1), .val (.int u2), .val (.int fl), .val (.int a1), .val (.int w86), .val (.int (u1 % (5 : Int32))), .val (.int (u2 % (5 : Int32))), .val (.ref b87), .unset, .unset, .unset, .unset, .unset, .unset]) rfl ?_
    show Steps p.tables e below (T92.setTop (mkF m 42 #[.val (.int a1), .val (.int a2), .val (.int u1), .val (.int u2), .val (.int fl), .val (.int a1), .val (.int w86), .val (.int (u1 % (5 : Int32))), .val (.int (u2 % (5 : Int32))), .val (.ref b87), .unset, .unset, .unset, .unset, .unset, .unset] [])) _
    refine st95 _ ?_
    show Steps p.tables e below (T95.setTop (mkF m 45 #[.val (.int a1), .val (.int a2), .val (.int u1), .val (.int u2), .val (.int fl), .val (.int a1), .val (.int w86), .val (.int (u1 % (5 : Int32))), .val (.int (u2 % (5 : Int32))), .val (.ref b87), .unset, .unset, .unset, .unset, .unset, .unset] [(.ref b95)])) _
    refine XS.dup X95.here hx rfl (hb hby at_45) rfl rfl ?_
    show Steps p.tables e below (T95.setTop (mkF m 46 #[.val (.int a1), .val (.int a2), .val (.int u1), .val (.int u2), .val (.int fl), .val (.int a1), .val (.int w86), .val (.int (u1 % (5 : Int32))), .val (.int (u2 % (5 : Int32))), .val (.ref b87), .unset, .unset, .unset, .unset, .unset, .unset] [(.ref b95), (.ref b95)])) _
    refine XS.iload X95.here hx rfl (hb hby at_46) rfl ?_
    show Steps p.tables e below (T95.setTop (mkF m 48 #[.val (.int a1), .val (.int a2), .val (.int u1), .val (.int u2), .val (.int fl), .val (.int a1), .val (.int w86), .val (.int (u1 % (5 : Int32))), .val (.int (u2 % (5 : Int32))), .val (.ref b87), .unset, .unset, .unset, .unset, .unset, .unset] [(.int w86), (.ref b95), (.ref b95)])) _
    refine XS.i2dS X95.here hx rfl (hb hby at_48) rfl rfl ?_
    show Steps p.tables e below (T95.setTop (mkF m 49 #[.val (.int a1), .val (.int a2), .val (.int u1), .val (.int u2), .val (.int fl), .val (.int a1), .val (.int w86), .val (.int (u1 % (5 : Int32))), .val (.int (u2 % (5 : Int32))), .val (.ref b87), .unset, .unset, .unset, .unset, .unset, .unset] [(.double (FP.i2d w86)), (.ref b95), (.ref b95)])) _
    refine XS.iload X95.here hx rfl (hb hby at_49) rfl ?_
    show Steps p.tables e below (T95.setTop (mkF m 51 #[.val (.int a1), .val (.int a2), .val (.int u1), .val (.int u2), .val (.int fl), .val (.int a1), .val (.int w86), .val (.int (u1 % (5 : Int32))), .val (.int (u2 % (5 : Int32))), .val (.ref b87), .unset, .unset, .unset, .unset, .unset, .unset] [(.int (u2 % (5 : Int32))), (.double (FP.i2d w86)), (.ref b95), (.ref b95)])) _
    refine XS.i2dS X95.here hx rfl (hb hby at_51) rfl rfl ?_
    show Steps p.tables e below (T95.setTop (mkF m 52 #[.val (.int a1), .val (.int a2), .val (.int u1), .val (.int u2), .val (.int fl), .val (.int a1), .val (.int w86), .val (.int (u1 % (5 : Int32))), .val (.int (u2 % (5 : Int32))), .val (.ref b87), .unset, .unset, .unset, .unset, .unset, .unset] [(.double (FP.i2d (u2 % (5 : Int32)))), (.double (FP.i2d w86)), (.ref b95), (.ref b95)])) _
    refine st104.trans ?_
    show Steps p.tables e below (T104.setTop (mkF m 55 #[.val (.int a1), .val (.int a2), .val (.int u1), .val (.int u2), .val (.int fl), .val (.int a1), .val (.int w86), .val (.int (u1 % (5 : Int32))), .val (.int (u2 % (5 : Int32))), .val (.ref b87), .unset, .unset, .unset, .unset, .unset, .unset] [(.ref b95)])) _
    refine XS.astore X104.here hx rfl (hb hby at_55) rfl rfl (l' := #[.val (.int a1), .val (.int a2), .val (.int u1), .val (.int u2), .val (.int fl), .val (.int a1), .val (.int w86), .val (.int (u1 % (5 : Int32))), .val (.int (u2 % (5 : Int32))), .val (.ref b87), .val (.ref b95), .unset, .unset, .unset, .unset, .unset]) rfl ?_
    show Steps p.tables e below (T104.setTop (mkF m 57 #[.val (.int a1), .val (.int a2), .val (.int u1), .val (.int u2), .val (.int fl), .val (.int a1), .val (.int w86), .val (.int (u1 % (5 : Int32))), .val (.int (u2 % (5 : Int32))), .val (.ref b87), .val (.ref b95), .unset, .unset, .unset, .unset, .unset] [])) _
    refine XS.aload X104.here hx rfl (hb hby at_57) rfl rfl ?_
    show Steps p.tables e below (T104.setTop (mkF m 59 #[.val (.int a1), .val (.int a2), .val (.int u1), .val (.int u2), .val (.int fl), .val (.int a1), .val (.int w86), .val (.int (u1 % (5 : Int32))), .val (.int (u2 % (5 : Int32))), .val (.ref b87), .val (.ref b95), .unset, .unset, .unset, .unset, .unset] [(.ref b87)])) _
    refine XS.aload X104.here hx rfl (hb hby at_59) rfl rfl ?_
    show Steps p.tables e below (T104.setTop (mkF m 61 #[.val (.int a1), .val (.int a2), .val (.int u1), .val (.int u2), .val (.int fl), .val (.int a1), .val (.int w86), .val (.int (u1 % (5 : Int32))), .val (.int (u2 % (5 : Int32))), .val (.ref b87), .val (.ref b95), .unset, .unset, .unset, .unset, .unset] [(.ref b95), (.ref b87)])) _
    refine st110.trans ?_
    show Steps p.tables e below (T110.setTop (mkF m 64 #[.val (.int a1), .val (.int a2), .val (.int u1), .val (.int u2), .val (.int fl), .val (.int a1), .val (.int w86), .val (.int (u1 % (5 : Int32))), .val (.int (u2 % (5 : Int32))), .val (.ref b87), .val (.ref b95), .unset, .unset, .unset, .unset, .unset] [(.int (f4 (FP.i2d a1) (FP.i2d w86) (FP.i2d (u1 % (5 : Int32))) (FP.i2d (u2 % (5 : Int32)))))])) _
    refine XS.istore X110.here hx rfl (hb hby at_64) rfl (l' := #[.val (.int a1), .val (.int a2), .val (.int u1), .val (.int u2), .val (.int fl), .val (.int a1), .val (.int w86), .val (.int (u1 % (5 : Int32))), .val (.int (u2 % (5 : Int32))), .val (.ref b87), .val (.ref b95), .val (.int (f4 (FP.i2d a1) (FP.i2d w86) (FP.i2d (u1 % (5 : Int32))) (FP.i2d (u2 % (5 : Int32))))), .unset, .unset, .unset, .unset]) rfl ?_
    show Steps p.tables e below (T110.setTop (mkF m 66 #[.val (.int a1), .val (.int a2), .val (.int u1), .val (.int u2), .val (.int fl), .val (.int a1), .val (.int w86), .val (.int (u1 % (5 : Int32))), .val (.int (u2 % (5 : Int32))), .val (.ref b87), .val (.ref b95), .val (.int (f4 (FP.i2d a1) (FP.i2d w86) (FP.i2d (u1 % (5 : Int32))) (FP.i2d (u2 % (5 : Int32))))), .unset, .unset, .unset, .unset] [])) _
    exact k
  obtain ⟨w112, hw112⟩ : ∃ z : Int32, z = (u1 % (5 : Int32)) := ⟨_, rfl⟩
  rw [← hw112] at S111
  obtain ⟨w113, hw113⟩ : ∃ z : Int32, z = (u2 % (5 : Int32)) := ⟨_, rfl⟩
  rw [← hw113] at S111
  obtain ⟨w114, hw114⟩ : ∃ z : Int32, z = (f4 (FP.i2d a1) (FP.i2d w86) (FP.i2d w112) (FP.i2d w113)) := ⟨_, rfl⟩
  rw [← hw114] at S111
  have S115 : ∀ t, Steps p.tables e below (T110.setTop (mkF m 86 #[.val (.int a1), .val (.int a2), .val (.int u1), .val (.int u2), .val (.int fl), .val (.int a1), .val (.int w86), .val (.int w112), .val (.int w113), .val (.ref b87), .val (.ref b95), .val (.int w114), .val (.long (((a1.toInt64 - w86.toInt64) * (17 : Int64)) + (w112 - w113).toInt64)), .second, .unset, .unset] [])) t → Steps p.tables e below (s₁.setTop (entryFrame m #[(.int a1), (.int a2), (.int u1), (.int u2), (.int fl)] maxLocals)) t := by
    intro t k
    refine S111 t ?_
    refine XS.iload X110.here hx rfl (hb hby at_66) rfl ?_
    show Steps p.tables e below (T110.setTop (mkF m 68 #[.val (.int a1), .val (.int a2), .val (.int u1), .val (.int u2), .val (.int fl), .val (.int a1), .val (.int w86), .val (.int w112), .val (.int w113), .val (.ref b87), .val (.ref b95), .val (.int w114), .unset, .unset, .unset, .unset] [(.int a1)])) _
    refine XS.i2l X110.here hx rfl (hb hby at_68) rfl ?_
    show Steps p.tables e below (T110.setTop (mkF m 69 #[.val (.int a1), .val (.int a2), .val (.int u1), .val (.int u2), .val (.int fl), .val (.int a1), .val (.int w86), .val (.int w112), .val (.int w113), .val (.ref b87), .val (.ref b95), .val (.int w114), .unset, .unset, .unset, .unset] [(.long a1.toInt64)])) _
    refine XS.iload X110.here hx rfl (hb hby at_69) rfl ?_
    show Steps p.tables e below (T110.setTop (mkF m 71 #[.val (.int a1), .val (.int a2), .val (.int u1), .val (.int u2), .val (.int fl), .val (.int a1), .val (.int w86), .val (.int w112), .val (.int w113), .val (.ref b87), .val (.ref b95), .val (.int w114), .unset, .unset, .unset, .unset] [(.int w86), (.long a1.toInt64)])) _
    refine XS.i2l X110.here hx rfl (hb hby at_71) rfl ?_
    show Steps p.tables e below (T110.setTop (mkF m 72 #[.val (.int a1), .val (.int a2), .val (.int u1), .val (.int u2), .val (.int fl), .val (.int a1), .val (.int w86), .val (.int w112), .val (.int w113), .val (.ref b87), .val (.ref b95), .val (.int w114), .unset, .unset, .unset, .unset] [(.long w86.toInt64), (.long a1.toInt64)])) _
    refine XS.lsub X110.here hx rfl (hb hby at_72) rfl ?_
    show Steps p.tables e below (T110.setTop (mkF m 73 #[.val (.int a1), .val (.int a2), .val (.int u1), .val (.int u2), .val (.int fl), .val (.int a1), .val (.int w86), .val (.int w112), .val (.int w113), .val (.ref b87), .val (.ref b95), .val (.int w114), .unset, .unset, .unset, .unset] [(.long (a1.toInt64 - w86.toInt64))])) _
    refine X110.ldc2Long hx hown (mvT hZ (hw _ (List.mem_of_getElem? (i := 23) rfl))) (g := (mkF m 73 #[.val (.int a1), .val (.int a2), .val (.int u1), .val (.int u2), .val (.int fl), .val (.int a1), .val (.int w86), .val (.int w112), .val (.int w113), .val (.ref b87), .val (.ref b95), .val (.int w114), .unset, .unset, .unset, .unset] [(.long (a1.toInt64 - w86.toInt64))])) rfl (hb hby at_73) _ ?_
    show Steps p.tables e below (T110.setTop (mkF m 76 #[.val (.int a1), .val (.int a2), .val (.int u1), .val (.int u2), .val (.int fl), .val (.int a1), .val (.int w86), .val (.int w112), .val (.int w113), .val (.ref b87), .val (.ref b95), .val (.int w114), .unset, .unset, .unset, .unset] [(.long (17 : Int64)), (.long (a1.toInt64 - w86.toInt64))])) _
    refine XS.lmul X110.here hx rfl (hb hby at_76) rfl ?_
    show Steps p.tables e below (T110.setTop (mkF m 77 #[.val (.int a1), .val (.int a2), .val (.int u1), .val (.int u2), .val (.int fl), .val (.int a1), .val (.int w86), .val (.int w112), .val (.int w113), .val (.ref b87), .val (.ref b95), .val (.int w114), .unset, .unset, .unset, .unset] [(.long ((a1.toInt64 - w86.toInt64) * (17 : Int64)))])) _
    refine XS.iload X110.here hx rfl (hb hby at_77) rfl ?_
    show Steps p.tables e below (T110.setTop (mkF m 79 #[.val (.int a1), .val (.int a2), .val (.int u1), .val (.int u2), .val (.int fl), .val (.int a1), .val (.int w86), .val (.int w112), .val (.int w113), .val (.ref b87), .val (.ref b95), .val (.int w114), .unset, .unset, .unset, .unset] [(.int w112), (.long ((a1.toInt64 - w86.toInt64) * (17 : Int64)))])) _
    refine XS.iload X110.here hx rfl (hb hby at_79) rfl ?_
    show Steps p.tables e below (T110.setTop (mkF m 81 #[.val (.int a1), .val (.int a2), .val (.int u1), .val (.int u2), .val (.int fl), .val (.int a1), .val (.int w86), .val (.int w112), .val (.int w113), .val (.ref b87), .val (.ref b95), .val (.int w114), .unset, .unset, .unset, .unset] [(.int w113), (.int w112), (.long ((a1.toInt64 - w86.toInt64) * (17 : Int64)))])) _
    refine XS.isub X110.here hx rfl (hb hby at_81) rfl ?_
    show Steps p.tables e below (T110.setTop (mkF m 82 #[.val (.int a1), .val (.int a2), .val (.int u1), .val (.int u2), .val (.int fl), .val (.int a1), .val (.int w86), .val (.int w112), .val (.int w113), .val (.ref b87), .val (.ref b95), .val (.int w114), .unset, .unset, .unset, .unset] [(.int (w112 - w113)), (.long ((a1.toInt64 - w86.toInt64) * (17 : Int64)))])) _
    refine XS.i2l X110.here hx rfl (hb hby at_82) rfl ?_
    show Steps p.tables e below (T110.setTop (mkF m 83 #[.val (.int a1), .val (.int a2), .val (.int u1), .val (.int u2), .val (.int fl), .val (.int a1), .val (.int w86), .val (.int w112), .val (.int w113), .val (.ref b87), .val (.ref b95), .val (.int w114), .unset, .unset, .unset, .unset] [(.long (w112 - w113).toInt64), (.long ((a1.toInt64 - w86.toInt64) * (17 : Int64)))])) _
    refine XS.ladd X110.here hx rfl (hb hby at_83) rfl ?_
    show Steps p.tables e below (T110.setTop (mkF m 84 #[.val (.int a1), .val (.int a2), .val (.int u1), .val (.int u2), .val (.int fl), .val (.int a1), .val (.int w86), .val (.int w112), .val (.int w113), .val (.ref b87), .val (.ref b95), .val (.int w114), .unset, .unset, .unset, .unset] [(.long (((a1.toInt64 - w86.toInt64) * (17 : Int64)) + (w112 - w113).toInt64))])) _
    refine XS.lstore X110.here hx rfl (hb hby at_84) rfl (l' := #[.val (.int a1), .val (.int a2), .val (.int u1), .val (.int u2), .val (.int fl), .val (.int a1), .val (.int w86), .val (.int w112), .val (.int w113), .val (.ref b87), .val (.ref b95), .val (.int w114), .val (.long (((a1.toInt64 - w86.toInt64) * (17 : Int64)) + (w112 - w113).toInt64)), .second, .unset, .unset]) rfl ?_
    show Steps p.tables e below (T110.setTop (mkF m 86 #[.val (.int a1), .val (.int a2), .val (.int u1), .val (.int u2), .val (.int fl), .val (.int a1), .val (.int w86), .val (.int w112), .val (.int w113), .val (.ref b87), .val (.ref b95), .val (.int w114), .val (.long (((a1.toInt64 - w86.toInt64) * (17 : Int64)) + (w112 - w113).toInt64)), .second, .unset, .unset] [])) _
    exact k
  obtain ⟨w116, hw116⟩ : ∃ z : Int64, z = (((a1.toInt64 - w86.toInt64) * (17 : Int64)) + (w112 - w113).toInt64) := ⟨_, rfl⟩
  rw [← hw116] at S115
  have S117 : ∀ t, Steps p.tables e below (T110.setTop (mkF m 90 #[.val (.int a1), .val (.int a2), .val (.int u1), .val (.int u2), .val (.int fl), .val (.int a1), .val (.int w86), .val (.int w112), .val (.int w113), .val (.ref b87), .val (.ref b95), .val (.int w114), .val (.long w116), .second, .unset, .unset] [(.int (lcmpW w116 (0 : Int64)))])) t → Steps p.tables e below (s₁.setTop (entryFrame m #[(.int a1), (.int a2), (.int u1), (.int u2), (.int fl)] maxLocals)) t := by
    intro t k
    refine S115 t ?_
    refine XS.lload X110.here hx rfl (hb hby at_86) rfl ?_
    show Steps p.tables e below (T110.setTop (mkF m 88 #[.val (.int a1), .val (.int a2), .val (.int u1), .val (.int u2), .val (.int fl), .val (.int a1), .val (.int w86), .val (.int w112), .val (.int w113), .val (.ref b87), .val (.ref b95), .val (.int w114), .val (.long w116), .second, .unset, .unset] [(.long w116)])) _
    refine XS.lconst X110.here hx rfl (hb hby at_88) ?_
    show Steps p.tables e below (T110.setTop (mkF m 89 #[.val (.int a1), .val (.int a2), .val (.int u1), .val (.int u2), .val (.int fl), .val (.int a1), .val (.int w86), .val (.int w112), .val (.int w113), .val (.ref b87), .val (.ref b95), .val (.int w114), .val (.long w116), .second, .unset, .unset] [(.long (0 : Int64)), (.long w116)])) _
    refine XS.lcmp X110.here hx rfl (hb hby at_89) rfl ?_
    show Steps p.tables e below (T110.setTop (mkF m 90 #[.val (.int a1), .val (.int a2), .val (.int u1), .val (.int u2), .val (.int fl), .val (.int a1), .val (.int w86), .val (.int w112), .val (.int w113), .val (.ref b87), .val (.ref b95), .val (.int w114), .val (.long w116), .second, .unset, .unset] [(.int (lcmpW w116 (0 : Int64)))])) _
    exact k
  obtain ⟨w118, hw118⟩ : ∃ z : Int32, z = (lcmpW w116 (0 : Int64)) := ⟨_, rfl⟩
  rw [← hw118] at S117
  have S120 : ∀ t, Steps p.tables e below (T110.setTop (mkF m 98 #[.val (.int a1), .val (.int a2), .val (.int u1), .val (.int u2), .val (.int fl), .val (.int a1), .val (.int w86), .val (.int w112), .val (.int w113), .val (.ref b87), .val (.ref b95), .val (.int w114), .val (.long w116), .second, .unset, .unset] [(.int (if (0 : Int32) < w118 then (1 : Int32) else (0 : Int32)))])) t → Steps p.tables e below (s₁.setTop (entryFrame m #[(.int a1), (.int a2), (.int u1), (.int u2), (.int fl)] maxLocals)) t := by
    intro t k
    refine S117 t ?_
    by_cases hc119 : (0 : Int32) < w118
    · rw [if_pos hc119] at k
      refine XS.ifNo X110.here hx rfl (hb hby at_90) rfl ((if0 _ _).trans (tlt hc119).2.2.2) ?_
      show Steps p.tables e below (T110.setTop (mkF m 93 #[.val (.int a1), .val (.int a2), .val (.int u1), .val (.int u2), .val (.int fl), .val (.int a1), .val (.int w86), .val (.int w112), .val (.int w113), .val (.ref b87), .val (.ref b95), .val (.int w114), .val (.long w116), .second, .unset, .unset] [])) _
      refine XS.iconst X110.here hx rfl (hb hby at_93) ?_
      show Steps p.tables e below (T110.setTop (mkF m 94 #[.val (.int a1), .val (.int a2), .val (.int u1), .val (.int u2), .val (.int fl), .val (.int a1), .val (.int w86), .val (.int w112), .val (.int w113), .val (.ref b87), .val (.ref b95), .val (.int w114), .val (.long w116), .second, .unset, .unset] [(.int (1 : Int32))])) _
      refine XS.goto X110.here hx rfl (pc0 := 94) (pc' := 98) rfl (hb hby at_94) (by decide) (by decide) ?_
      show Steps p.tables e below (T110.setTop (mkF m 98 #[.val (.int a1), .val (.int a2), .val (.int u1), .val (.int u2), .val (.int fl), .val (.int a1), .val (.int w86), .val (.int w112), .val (.int w113), .val (.ref b87), .val (.ref b95), .val (.int w114), .val (.long w116), .second, .unset, .unset] [(.int (1 : Int32))])) _
      exact k
    · rw [if_neg hc119] at k
      refine XS.ifYes X110.here hx rfl (pc0 := 90) (pc' := 97) rfl (hb hby at_90) rfl ((if0 _ _).trans (flt hc119).2.2.2) (by decide) (by decide) ?_
      show Steps p.tables e below (T110.setTop (mkF m 97 #[.val (.int a1), .val (.int a2), .val (.int u1), .val (.int u2), .val (.int fl), .val (.int a1), .val (.int w86), .val (.int w112), .val (.int w113), .val (.ref b87), .val (.ref b95), .val (.int w114), .val (.long w116), .second, .unset, .unset] [])) _
      refine XS.iconst X110.here hx rfl (hb hby at_97) ?_
      show Steps p.tables e below (T110.setTop (mkF m 98 #[.val (.int a1), .val (.int a2), .val (.int u1), .val (.int u2), .val (.int fl), .val (.int a1), .val (.int w86), .val (.int w112), .val (.int w113), .val (.ref b87), .val (.ref b95), .val (.int w114), .val (.long w116), .second, .unset, .unset] [(.int (0 : Int32))])) _
      exact k
  obtain ⟨w121, hw121⟩ : ∃ z : Int32, z = (if (0 : Int32) < w118 then (1 : Int32) else (0 : Int32)) := ⟨_, rfl⟩
  rw [← hw121] at S120
  have S122 : ∀ t, Steps p.tables e below (T110.setTop (mkF m 104 #[.val (.int a1), .val (.int a2), .val (.int u1), .val (.int u2), .val (.int fl), .val (.int a1), .val (.int w86), .val (.int w112), .val (.int w113), .val (.ref b87), .val (.ref b95), .val (.int w114), .val (.long w116), .second, .val (.int w121), .unset] [(.int (lcmpW w116 (0 : Int64)))])) t → Steps p.tables e below (s₁.setTop (entryFrame m #[(.int a1), (.int a2), (.int u1), (.int u2), (.int fl)] maxLocals)) t := by
    intro t k
    refine S120 t ?_
    refine XS.istore X110.here hx rfl (hb hby at_98) rfl (l' := #[.val (.int a1), .val (.int a2), .val (.int u1), .val (.int u2), .val (.int fl), .val (.int a1), .val (.int w86), .val (.int w112), .val (.int w113), .val (.ref b87), .val (.ref b95), .val (.int w114), .val (.long w116), .second, .val (.int w121), .unset]) rfl ?_
    show Steps p.tables e below (T110.setTop (mkF m 100 #[.val (.int a1), .val (.int a2), .val (.int u1), .val (.int u2), .val (.int fl), .val (.int a1), .val (.int w86), .val (.int w112), .val (.int w113), .val (.ref b87), .val (.ref b95), .val (.int w114), .val (.long w116), .second, .val (.int w121), .unset] [])) _
    refine XS.lload X110.here hx rfl (hb hby at_100) rfl ?_
    show Steps p.tables e below (T110.setTop (mkF m 102 #[.val (.int a1), .val (.int a2), .val (.int u1), .val (.int u2), .val (.int fl), .val (.int a1), .val (.int w86), .val (.int w112), .val (.int w113), .val (.ref b87), .val (.ref b95), .val (.int w114), .val (.long w116), .second, .val (.int w121), .unset] [(.long w116)])) _
    refine XS.lconst X110.here hx rfl (hb hby at_102) ?_
    show Steps p.tables e below (T110.setTop (mkF m 103 #[.val (.int a1), .val (.int a2), .val (.int u1), .val (.int u2), .val (.int fl), .val (.int a1), .val (.int w86), .val (.int w112), .val (.int w113), .val (.ref b87), .val (.ref b95), .val (.int w114), .val (.long w116), .second, .val (.int w121), .unset] [(.long (0 : Int64)), (.long w116)])) _
    refine XS.lcmp X110.here hx rfl (hb hby at_103) rfl ?_
    show Steps p.tables e below (T110.setTop (mkF m 104 #[.val (.int a1), .val (.int a2), .val (.int u1), .val (.int u2), .val (.int fl), .val (.int a1), .val (.int w86), .val (.int w112), .val (.int w113), .val (.ref b87), .val (.ref b95), .val (.int w114), .val (.long w116), .second, .val (.int w121), .unset] [(.int (lcmpW w116 (0 : Int64)))])) _
    exact k
  obtain ⟨w123, hw123⟩ : ∃ z : Int32, z = (lcmpW w116 (0 : Int64)) := ⟨_, rfl⟩
  rw [← hw123] at S122
  have S125 : ∀ t, Steps p.tables e below (T110.setTop (mkF m 112 #[.val (.int a1), .val (.int a2), .val (.int u1), .val (.int u2), .val (.int fl), .val (.int a1), .val (.int w86), .val (.int w112), .val (.int w113), .val (.ref b87), .val (.ref b95), .val (.int w114), .val (.long w116), .second, .val (.int w121), .unset] [(.int (if w123 < (0 : Int32) then (1 : Int32) else (0 : Int32)))])) t → Steps p.tables e below (s₁.setTop (entryFrame m #[(.int a1), (.int a2), (.int u1), (.int u2), (.int fl)] maxLocals)) t := by
    intro t k
    refine S122 t ?_
    by_cases hc124 : w123 < (0 : Int32)
    · rw [if_pos hc124] at k
      refine XS.ifNo X110.here hx rfl (hb hby at_104) rfl ((if0 _ _).trans (tlt hc124).2.1) ?_
      show Steps p.tables e below (T110.setTop (mkF m 107 #[.val (.int a1), .val (.int a2), .val (.int u1), .val (.int u2), .val (.int fl), .val (.int a1), .val (.int w86), .val (.int w112), .val (.int w113), .val (.ref b87), .val (.ref b95), .val (.int w114), .val (.long w116), .second, .val (.int w121), .unset] [])) _
      refine XS.iconst X110.here hx rfl (hb hby at_107) ?_
      show Steps p.tables e below (T110.setTop (mkF m 108 #[.val (.int a1), .val (.int a2), .val (.int u1), .val (.int u2), .val (.int fl), .val (.int a1), .val (.int w86), .val (.int w112), .val (.int w113), .val (.ref b87), .val (.ref b95), .val (.int w114), .val (.long w116), .second, .val (.int w121), .unset] [(.int (1 : Int32))])) _
      refine XS.goto X110.here hx rfl (pc0 := 108) (pc' := 112) rfl (hb hby at_108) (by decide) (by decide) ?_
      show Steps p.tables e below (T110.setTop (mkF m 112 #[.val (.int a1), .val (.int a2), .val (.int u1), .val (.int u2), .val (.int fl), .val (.int a1), .val (.int w86), .val (.int w112), .val (.int w113), .val (.ref b87), .val (.ref b95), .val (.int w114), .val (.long w116), .second, .val (.int w121), .unset] [(.int (1 : Int32))])) _
      exact k
    · rw [if_neg hc124] at k
      refine XS.ifYes X110.here hx rfl (pc0 := 104) (pc' := 111) rfl (hb hby at_104) rfl ((if0 _ _).trans (flt hc124).2.1) (by decide) (by decide) ?_
      show Steps p.tables e below (T110.setTop (mkF m 111 #[.val (.int a1), .val (.int a2), .val (.int u1), .val (.int u2), .val (.int fl), .val (.int a1), .val (.int w86), .val (.int w112), .val (.int w113), .val (.ref b87), .val (.ref b95), .val (.int w114), .val (.long w116), .second, .val (.int w121), .unset] [])) _
      refine XS.iconst X110.here hx rfl (hb hby at_111) ?_
      show Steps p.tables e below (T110.setTop (mkF m 112 #[.val (.int a1), .val (.int a2), .val (.int u1), .val (.int u2), .val (.int fl), .val (.int a1), .val (.int w86), .val (.int w112), .val (.int w113), .val (.ref b87), .val (.ref b95), .val (.int w114), .val (.long w116), .second, .val (.int w121), .unset] [(.int (0 : Int32))])) _
      exact k
  obtain ⟨w126, hw126⟩ : ∃ z : Int32, z = (if w123 < (0 : Int32) then (1 : Int32) else (0 : Int32)) := ⟨_, rfl⟩
  rw [← hw126] at S125
  have S127 : ∀ t, Steps p.tables e below (T110.setTop (mkF m 116 #[.val (.int a1), .val (.int a2), .val (.int u1), .val (.int u2), .val (.int fl), .val (.int a1), .val (.int w86), .val (.int w112), .val (.int w113), .val (.ref b87), .val (.ref b95), .val (.int w114), .val (.long w116), .second, .val (.int w121), .val (.int w126)] [(.int w114)])) t → Steps p.tables e below (s₁.setTop (entryFrame m #[(.int a1), (.int a2), (.int u1), (.int u2), (.int fl)] maxLocals)) t := by
    intro t k
    refine S125 t ?_
    refine XS.istore X110.here hx rfl (hb hby at_112) rfl (l' := #[.val (.int a1), .val (.int a2), .val (.int u1), .val (.int u2), .val (.int fl), .val (.int a1), .val (.int w86), .val (.int w112), .val (.int w113), .val (.ref b87), .val (.ref b95), .val (.int w114), .val (.long w116), .second, .val (.int w121), .val (.int w126)]) rfl ?_
    show Steps p.tables e below (T110.setTop (mkF m 114 #[.val (.int a1), .val (.int a2), .val (.int u1), .val (.int u2), .val (.int fl), .val (.int a1), .val (.int w86), .val (.int w112), .val (.int w113), .val (.ref b87), .val (.ref b95), .val (.int w114), .val (.long w116), .second, .val (.int w121), .val (.int w126)] [])) _
    refine XS.iload X110.here hx rfl (hb hby at_114) rfl ?_
    show Steps p.tables e below (T110.setTop (mkF m 116 #[.val (.int a1), .val (.int a2), .val (.int u1), .val (.int u2), .val (.int fl), .val (.int a1), .val (.int w86), .val (.int w112), .val (.int w113), .val (.ref b87), .val (.ref b95), .val (.int w114), .val (.long w116), .second, .val (.int w121), .val (.int w126)] [(.int w114)])) _
    exact k
  have S129 : ∀ t, Steps p.tables e below (T110.setTop (mkF m 124 #[.val (.int a1), .val (.int a2), .val (.int u1), .val (.int u2), .val (.int fl), .val (.int a1), .val (.int w86), .val (.int w112), .val (.int w113), .val (.ref b87), .val (.ref b95), .val (.int w114), .val (.long w116), .second, .val (.int w121), .val (.int w126)] [(.int (if (0 : Int32) < w114 then (1 : Int32) else (0 : Int32)))])) t → Steps p.tables e below (s₁.setTop (entryFrame m #[(.int a1), (.int a2), (.int u1), (.int u2), (.int fl)] maxLocals)) t := by
    intro t k
    refine S127 t ?_
    by_cases hc128 : (0 : Int32) < w114
    · rw [if_pos hc128] at k
      refine XS.ifNo X110.here hx rfl (hb hby at_116) rfl ((if0 _ _).trans (tlt hc128).2.2.2) ?_
      show Steps p.tables e below (T110.setTop (mkF m 119 #[.val (.int a1), .val (.int a2), .val (.int u1), .val (.int u2), .val (.int fl), .val (.int a1), .val (.int w86), .val (.int w112), .val (.int w113), .val (.ref b87), .val (.ref b95), .val (.int w114), .val (.long w116), .second, .val (.int w121), .val (.int w126)] [])) _
      refine XS.iconst X110.here hx rfl (hb hby at_119) ?_
      show Steps p.tables e below (T110.setTop (mkF m 120 #[.val (.int a1), .val (.int a2), .val (.int u1), .val (.int u2), .val (.int fl), .val (.int a1), .val (.int w86), .val (.int w112), .val (.int w113), .val (.ref b87), .val (.ref b95), .val (.int w114), .val (.long w116), .second, .val (.int w121), .val (.int w126)] [(.int (1 : Int32))])) _
      refine XS.goto X110.here hx rfl (pc0 := 120) (pc' := 124) rfl (hb hby at_120) (by decide) (by decide) ?_
      show Steps p.tables e below (T110.setTop (mkF m 124 #[.val (.int a1), .val (.int a2), .val (.int u1), .val (.int u2), .val (.int fl), .val (.int a1), .val (.int w86), .val (.int w112), .val (.int w113), .val (.ref b87), .val (.ref b95), .val (.int w114), .val (.long w116), .second, .val (.int w121), .val (.int w126)] [(.int (1 : Int32))])) _
      exact k
    · rw [if_neg hc128] at k
      refine XS.ifYes X110.here hx rfl (pc0 := 116) (pc' := 123) rfl (hb hby at_116) rfl ((if0 _ _).trans (flt hc128).2.2.2) (by decide) (by decide) ?_
      show Steps p.tables e below (T110.setTop (mkF m 123 #[.val (.int a1), .val (.int a2), .val (.int u1), .val (.int u2), .val (.int fl), .val (.int a1), .val (.int w86), .val (.int w112), .val (.int w113), .val (.ref b87), .val (.ref b95), .val (.int w114), .val (.long w116), .second, .val (.int w121), .val (.int w126)] [])) _
      refine XS.iconst X110.here hx rfl (hb hby at_123) ?_
      show Steps p.tables e below (T110.setTop (mkF m 124 #[.val (.int a1), .val (.int a2), .val (.int u1), .val (.int u2), .val (.int fl), .val (.int a1), .val (.int w86), .val (.int w112), .val (.int w113), .val (.ref b87), .val (.ref b95), .val (.int w114), .val (.long w116), .second, .val (.int w121), .val (.int w126)] [(.int (0 : Int32))])) _
      exact k
  obtain ⟨w130, hw130⟩ : ∃ z : Int32, z = (if (0 : Int32) < w114 then (1 : Int32) else (0 : Int32)) := ⟨_, rfl⟩
  rw [← hw130] at S129
  have S131 : ∀ t, Steps p.tables e below (T110.setTop (mkF m 126 #[.val (.int a1), .val (.int a2), .val (.int u1), .val (.int u2), .val (.int fl), .val (.int a1), .val (.int w86), .val (.int w112), .val (.int w113), .val (.ref b87), .val (.ref b95), .val (.int w114), .val (.long w116), .second, .val (.int w121), .val (.int w126)] [(.int w121), (.int w130)])) t → Steps p.tables e below (s₁.setTop (entryFrame m #[(.int a1), (.int a2), (.int u1), (.int u2), (.int fl)] maxLocals)) t := by
    intro t k
    refine S129 t ?_
    refine XS.iload X110.here hx rfl (hb hby at_124) rfl ?_
    show Steps p.tables e below (T110.setTop (mkF m 126 #[.val (.int a1), .val (.int a2), .val (.int u1), .val (.int u2), .val (.int fl), .val (.int a1), .val (.int w86), .val (.int w112), .val (.int w113), .val (.ref b87), .val (.ref b95), .val (.int w114), .val (.long w116), .second, .val (.int w121), .val (.int w126)] [(.int w121), (.int w130)])) _
    exact k
  have S135 : ∀ t, Steps p.tables e below (T110.setTop (mkF m 149 #[.val (.int a1), .val (.int a2), .val (.int u1), .val (.int u2), .val (.int fl), .val (.int a1), .val (.int w86), .val (.int w112), .val (.int w113), .val (.ref b87), .val (.ref b95), .val (.int w114), .val (.long w116), .second, .val (.int w121), .val (.int w126)] [(.int (if w130 = w121 then (if (if w114 < (0 : Int32) then (1 : Int32) else (0 : Int32)) = w126 then (1 : Int32) else (0 : Int32)) else (0 : Int32)))])) t → Steps p.tables e below (s₁.setTop (entryFrame m #[(.int a1), (.int a2), (.int u1), (.int u2), (.int fl)] maxLocals)) t := by
    intro t k
    refine S131 t ?_
    by_cases hc132 : w130 = w121
    · rw [if_pos hc132] at k
      refine XS.icmpNo X110.here hx rfl (hb hby at_126) rfl (teq hc132).2 ?_
      show Steps p.tables e below (T110.setTop (mkF m 129 #[.val (.int a1), .val (.int a2), .val (.int u1), .val (.int u2), .val (.int fl), .val (.int a1), .val (.int w86), .val (.int w112), .val (.int w113), .val (.ref b87), .val (.ref b95), .val (.int w114), .val (.long w116), .second, .val (.int w121), .val (.int w126)] [])) _
      refine XS.iload X110.here hx rfl (hb hby at_129) rfl ?_
      show Steps p.tables e below (T110.setTop (mkF m 131 #[.val (.int a1), .val (.int a2), .val (.int u1), .val (.int u2), .val (.int fl), .val (.int a1), .val (.int w86), .val (.int w112), .val (.int w113), .val (.ref b87), .val (.ref b95), .val (.int w114), .val (.long w116), .second, .val (.int w121), .val (.int w126)] [(.int w114)])) _
      suffices k136 : Steps p.tables e below (T110.setTop (mkF m 139 #[.val (.int a1), .val (.int a2), .val (.int u1), .val (.int u2), .val (.int fl), .val (.int a1), .val (.int w86), .val (.int w112), .val (.int w113), .val (.ref b87), .val (.ref b95), .val (.int w114), .val (.long w116), .second, .val (.int w121), .val (.int w126)] [(.int (if w114 < (0 : Int32) then (1 : Int32) else (0 : Int32)))])) t by
        by_cases hc133 : w114 < (0 : Int32)
        · rw [if_pos hc133] at k136
          refine XS.ifNo X110.here hx rfl (hb hby at_131) rfl ((if0 _ _).trans (tlt hc133).2.1) ?_
          show Steps p.tables e below (T110.setTop (mkF m 134 #[.val (.int a1), .val (.int a2), .val (.int u1), .val (.int u2), .val (.int fl), .val (.int a1), .val (.int w86), .val (.int w112), .val (.int w113), .val (.ref b87), .val (.ref b95), .val (.int w114), .val (.long w116), .second, .val (.int w121), .val (.int w126)] [])) _
          refine XS.iconst X110.here hx rfl (hb hby at_134) ?_
          show Steps p.tables e below (T110.setTop (mkF m 135 #[.val (.int a1), .val (.int a2), .val (.int u1), .val (.int u2), .val (.int fl), .val (.int a1), .val (.int w86), .val (.int w112), .val (.int w113), .val (.ref b87), .val (.ref b95), .val (.int w114), .val (.long w116), .second, .val (.int w121), .val (.int w126)] [(.int (1 : Int32))])) _
          refine XS.goto X110.here hx rfl (pc0 := 135) (pc' := 139) rfl (hb hby at_135) (by decide) (by decide) ?_
          show Steps p.tables e below (T110.setTop (mkF m 139 #[.val (.int a1), .val (.int a2), .val (.int u1), .val (.int u2), .val (.int fl), .val (.int a1), .val (.int w86), .val (.int w112), .val (.int w113), .val (.ref b87), .val (.ref b95), .val (.int w114), .val (.long w116), .second, .val (.int w121), .val (.int w126)] [(.int (1 : Int32))])) _
          exact k136
        · rw [if_neg hc133] at k136
          refine XS.ifYes X110.here hx rfl (pc0 := 131) (pc' := 138) rfl (hb hby at_131) rfl ((if0 _ _).trans (flt hc133).2.1) (by decide) (by decide) ?_
          show Steps p.tables e below (T110.setTop (mkF m 138 #[.val (.int a1), .val (.int a2), .val (.int u1), .val (.int u2), .val (.int fl), .val (.int a1), .val (.int w86), .val (.int w112), .val (.int w113), .val (.ref b87), .val (.ref b95), .val (.int w114), .val (.long w116), .second, .val (.int w121), .val (.int w126)] [])) _
          refine XS.iconst X110.here hx rfl (hb hby at_138) ?_
          show Steps p.tables e below (T110.setTop (mkF m 139 #[.val (.int a1), .val (.int a2), .val (.int u1), .val (.int u2), .val (.int fl), .val (.int a1), .val (.int w86), .val (.int w112), .val (.int w113), .val (.ref b87), .val (.ref b95), .val (.int w114), .val (.long w116), .second, .val (.int w121), .val (.int w126)] [(.int (0 : Int32))])) _
          exact k136
      refine XS.iload X110.here hx rfl (hb hby at_139) rfl ?_
      show Steps p.tables e below (T110.setTop (mkF m 141 #[.val (.int a1), .val (.int a2), .val (.int u1), .val (.int u2), .val (.int fl), .val (.int a1), .val (.int w86), .val (.int w112), .val (.int w113), .val (.ref b87), .val (.ref b95), .val (.int w114), .val (.long w116), .second, .val (.int w121), .val (.int w126)] [(.int w126), (.int (if w114 < (0 : Int32) then (1 : Int32) else (0 : Int32)))])) _
      by_cases hc134 : (if w114 < (0 : Int32) then (1 : Int32) else (0 : Int32)) = w126
      · rw [if_pos hc134] at k
        refine XS.icmpNo X110.here hx rfl (hb hby at_141) rfl (teq hc134).2 ?_
        show Steps p.tables e below (T110.setTop (mkF m 144 #[.val (.int a1), .val (.int a2), .val (.int u1), .val (.int u2), .val (.int fl), .val (.int a1), .val (.int w86), .val (.int w112), .val (.int w113), .val (.ref b87), .val (.ref b95), .val (.int w114), .val (.long w116), .second, .val (.int w121), .val (.int w126)] [])) _
        refine XS.iconst X110.here hx rfl (hb hby at_144) ?_
        show Steps p.tables e below (T110.setTop (mkF m 145 #[.val (.int a1), .val (.int a2), .val (.int u1), .val (.int u2), .val (.int fl), .val (.int a1), .val (.int w86), .val (.int w112), .val (.int w113), .val (.ref b87), .val (.ref b95), .val (.int w114), .val (.long w116), .second, .val (.int w121), .val (.int w126)] [(.int (1 : Int32))])) _
        refine XS.goto X110.here hx rfl (pc0 := 145) (pc' := 149) rfl (hb hby at_145) (by decide) (by decide) ?_
        show Steps p.tables e below (T110.setTop (mkF m 149 #[.val (.int a1), .val (.int a2), .val (.int u1), .val (.int u2), .val (.int fl), .val (.int a1), .val (.int w86), .val (.int w112), .val (.int w113), .val (.ref b87), .val (.ref b95), .val (.int w114), .val (.long w116), .second, .val (.int w121), .val (.int w126)] [(.int (1 : Int32))])) _
        exact k
      · rw [if_neg hc134] at k
        refine XS.icmpYes X110.here hx rfl (pc0 := 141) (pc' := 148) rfl (hb hby at_141) rfl (feq hc134).2 (by decide) (by decide) ?_
        show Steps p.tables e below (T110.setTop (mkF m 148 #[.val (.int a1), .val (.int a2), .val (.int u1), .val (.int u2), .val (.int fl), .val (.int a1), .val (.int w86), .val (.int w112), .val (.int w113), .val (.ref b87), .val (.ref b95), .val (.int w114), .val (.long w116), .second, .val (.int w121), .val (.int w126)] [])) _
        refine XS.iconst X110.here hx rfl (hb hby at_148) ?_
        show Steps p.tables e below (T110.setTop (mkF m 149 #[.val (.int a1), .val (.int a2), .val (.int u1), .val (.int u2), .val (.int fl), .val (.int a1), .val (.int w86), .val (.int w112), .val (.int w113), .val (.ref b87), .val (.ref b95), .val (.int w114), .val (.long w116), .second, .val (.int w121), .val (.int w126)] [(.int (0 : Int32))])) _
        exact k
    · rw [if_neg hc132] at k
      refine XS.icmpYes X110.here hx rfl (pc0 := 126) (pc' := 148) rfl (hb hby at_126) rfl (feq hc132).2 (by decide) (by decide) ?_
      show Steps p.tables e below (T110.setTop (mkF m 148 #[.val (.int a1), .val (.int a2), .val (.int u1), .val (.int u2), .val (.int fl), .val (.int a1), .val (.int w86), .val (.int w112), .val (.int w113), .val (.ref b87), .val (.ref b95), .val (.int w114), .val (.long w116), .second, .val (.int w121), .val (.int w126)] [])) _
      refine XS.iconst X110.here hx rfl (hb hby at_148) ?_
      show Steps p.tables e below (T110.setTop (mkF m 149 #[.val (.int a1), .val (.int a2), .val (.int u1), .val (.int u2), .val (.int fl), .val (.int a1), .val (.int w86), .val (.int w112), .val (.int w113), .val (.ref b87), .val (.ref b95), .val (.int w114), .val (.long w116), .second, .val (.int w121), .val (.int w126)] [(.int (0 : Int32))])) _
      exact k
  obtain ⟨w137, hw137⟩ : ∃ z : Int32, z = (if w130 = w121 then (if (if w114 < (0 : Int32) then (1 : Int32) else (0 : Int32)) = w126 then (1 : Int32) else (0 : Int32)) else (0 : Int32)) := ⟨_, rfl⟩
  rw [← hw137] at S135
  have hres : w137 = (1 : Int32) := (own_law a1 a2 u1 u2 fl w83 hw83 w86 hw86 w112 hw112 w113 hw113 w114 hw114 w116 hw116 w118 hw118 w121 hw121 w123 hw123 w126 hw126 w130 hw130 w137 hw137)
  subst hres
  obtain ⟨fs, hr, hrun, hended, hW, hsame⟩ := X110.leave (v := some (.int (1 : Int32))) (fun h => by rw [Bd.returns] at h; cases h)
  refine ⟨_, _, S135 _ ?_, hrun, hended, _, _, rfl, ?_, ⟨_, rfl⟩, hW, hsame.mono (by decide) (by decide)⟩
  · exact retN X110 hx (t := .boolean) Bd.returns (by simp) (hb hby at_149) hr
  · show Q0 Z a1 a2 u1 u2 fl h0 n0 _ T110.heap _
    rw [e110]
    exact ⟨rfl, N110⟩
set_option maxRecDepth 65536 in
set_option maxHeartbeats 40000000 in
theorem comes_1 {Post : Tables → Env → Array Value → State → Outcome → State → Prop} (hpost : ∀ tb e args s v u, (limb_1_1.after args s (.returned v) u = true ∧ limb_1_2.after args s (.returned v) u = true ∧ True) → FrameEnd s (.returned v) u (Jvm.fieldLocs frame_1_writes args s ++ Jvm.arrayLocs frame_1_arrays args s ++ Jvm.staticLocs frame_1_statics s) 16 128 → Post tb e args s (.returned v) u) :
    ArmFor flags0 classFile x code maxLocals ret World_1 tables_1 room_1 Calls_1 rest_1 Pre_1 Post := by
  intro l hfl _ _ p e ha hc hk s m args below hf hA hF happ hP
  obtain ⟨hcalls, hrest, hpre⟩ := hP
  obtain ⟨-, -, -, hnamed, -, -, -, hat⟩ := (Spec.applies_iff hf).mp happ
  obtain ⟨hg, hn⟩ := and_e (Cond.before_iff.mp (show (Jvm.Cond.and given_1 narrow_1).before args s = true from hpre))
  obtain ⟨g1, g2⟩ := and_e hg
  obtain ⟨g3, g4⟩ := and_e g2
  obtain ⟨g5, g6⟩ := and_e g4
  obtain ⟨g7, g8⟩ := and_e g6
  obtain ⟨g9, g10⟩ := and_e g8
  obtain ⟨w0, w1, w2, w3, w4, rfl⟩ : ∃ w0 w1 w2 w3 w4 : Value, args = #[w0, w1, w2, w3, w4] := by
    have hs : args.size = 5 := by simpa [Cond.value, given_1] using g1
    obtain ⟨L⟩ := args
    match L, hs with
    | [w0, w1, w2, w3, w4], _ => exact ⟨w0, w1, w2, w3, w4, rfl⟩
  have hw := fun d (hd : d ∈ tables_1) => atoms_spec (ws := Jvm.Cond.code x code maxLocals ret :: tables_1) hat d (List.mem_cons_of_mem _ hd)
  have hfit : Fit s := fun {y c} hc i hi => by
    obtain ⟨ha, rfl⟩ := Array.getElem?_eq_some_iff.mp hc
    have q := List.all_eq_true.mp ((Array.all_eq_true_iff_forall_mem.mp hF) _ (Array.getElem_mem ha)) i (List.mem_range.mpr hi)
    simpa [Array.getElem?_eq_getElem hi] using q
  obtain ⟨i0, ei0⟩ := is_v g3
  obtain rfl : w0 = (.int i0) := Option.some.inj ei0
  obtain ⟨i1, ei1⟩ := is_v g5
  obtain rfl : w1 = (.int i1) := Option.some.inj ei1
  obtain ⟨i2, ei2⟩ := is_v g7
  obtain rfl : w2 = (.int i2) := Option.some.inj ei2
  obtain ⟨i3, ei3⟩ := is_v g9
  obtain rfl : w3 = (.int i3) := Option.some.inj ei3
  obtain ⟨i4, ei4⟩ := is_v g10
  obtain rfl : w4 = (.int i4) := Option.some.inj ei4
  obtain ⟨n, o, h1, h2, h3, _, L, rfl, ⟨rfl, N⟩, hq⟩ := rm0 l s _ hw tables_1 i0 i1 i2 i3 i4  s.heap s.heap.size (Nat.le_refl _)  p e ha hc hk s m _ below hf ((Spec.applies_iff_loose hf).mp happ).1 ⟨rfl, State.Warmed39.refl s, rfl⟩ trivial
  refine ⟨n, _, h1, h2, h3, hpost _ _ _ _ _ _ ⟨Cond.after_iff.mpr rfl, Cond.after_iff.mpr (eq_i res_at (Term.int_eval (1)) rfl), trivial⟩ ⟨hq.1, hq.2.1, (hq.2.2.sift fun y hy => Or.inr (N y hy)).mono (by decide) (by decide)⟩⟩
theorem main_1_1 : Claimed_1_1 := comes_1 fun _ _ _ _ _ _ h hF => ⟨h.1, hF⟩
theorem main_1_2 : Claimed_1_2 := comes_1 fun _ _ _ _ _ _ h hF => ⟨h.2.1, hF⟩
end Jvm.Pilot.@@N@@
namespace Jvm.Pilot.@@N@@
open Jvm Jvm.ClassFile Sem Op Lib Jvm.Free Jvm.Stand Jvm.Pilot.@@N@@.Jvm.D
/-! MADE BY PROGRAM (witnessworld.py) out of the Statement's table words and the real class files: 11 classes; the members and pool entries that the words name. The judged class is class 1, her method 1. -/
namespace start1
open Jvm.ClassFile
def u (s : String) : CpInfo := .utf8 (stringToUtf16 s)
/-- a pool by its gaps: so many unusable entries, then the entry; so many at the end -/
def gap : Nat → List CpInfo → List CpInfo
  | 0, r => r
  | n + 1, r => .unusable :: gap n r
def poolList (es : List (Nat × CpInfo)) (last : Nat) : List CpInfo := es.foldr (fun e r => gap e.1 (e.2 :: r)) (gap last [])
def pool (es : List (Nat × CpInfo)) (last : Nat) : Array CpInfo := ⟨poolList es last⟩
def fileOf (pool : Array CpInfo) (this : Nat) (attrs : Array Attribute := #[]) (ms : Array MethodInfo := #[]) (fl : Nat := 33) (sup : Nat := 0) (ifs : Array Nat := #[]) (fds : Array FieldInfo := #[]) : ClassFile where
  minorVersion := 0
  majorVersion := 65
  constantPool := pool
  accessFlags := fl
  thisClass := this
  superClass := sup
  interfaces := ifs
  fields := fds
  methods := ms
  attributes := attrs
def plain (name : String) (sup : Option ClassId) : Class where
  name := name
  kind := .ordinary
  loader := none
  accessFlags := 33
  super := sup
  interfaces := #[]
  cf := none
  fields := #[]
  methods := #[]
  instanceTypes := #[]
  staticTypes := #[]
  resolved := #[]
  callSites := []
  init := .initialized
  statics := none
  mirror := none

def pool0 : Array CpInfo := pool [(5, u "<init>"), (0, u "()V"), (1, .class_ 10), (1, u "java/lang/Object")] 113

def k0c0 : Code := { maxStack := 0, maxLocals := 1, code := object_method_1_code, exceptionTable := #[], attributes := #[] }
def k0m0 : Method := { name := "<init>", desc := "()V", sig := { parameters := [], returnType := none }, accessFlags := 1, code := some k0c0 }
/-- java/lang/Object -/
def k0 : Class := { plain "java/lang/Object" none with
  accessFlags := 33
  interfaces := #[]
  cf := some (fileOf pool0 8 #[] #[{ accessFlags := 1, nameIndex := 5, descriptorIndex := 6, attributes := #[] }] 33 0 #[] #[])
  fields := #[]
  methods := #[k0m0]
  instanceTypes := #[]
  staticTypes := #[]
  resolved := Array.replicate 124 none
  statics := none }

def pool1 : Array CpInfo := pool [(2, .class_ 4), (1, u "java/lang/Object"), (0, u "<init>"), (0, u "()V"), (0, .class_ 8), (0, u "com/example/cinderbench/cinderbench/algorithms/Worth"), (0, .methodref 7 10), (0, .nameAndType 5 11), (0, u "(DD)V"), (0, .methodref 7 13), (0, .nameAndType 14 15), (0, u "compareTo"), (0, u "(Lcom/example/cinderbench/cinderbench/algorithms/Worth;)I"), (0, .long 17), (1, .class_ 19), (0, u "com/example/cinderbench/cinderbench/algorithms/WorthCompareToPinLaw"), (2, u "law"), (0, u "(IIIII)Z")] 3

def k1m0 : Method := { name := "<init>", desc := "()V", sig := { parameters := [], returnType := none }, accessFlags := 1, code := none }
def k1c1 : Code := { maxStack := 6, maxLocals := 16, code := code, exceptionTable := #[], attributes := #[] }
def k1m1 : Method := { name := "law", desc := "(IIIII)Z", sig := { parameters := [.int, .int, .int, .int, .int], returnType := some .boolean }, accessFlags := 9, code := some k1c1 }
/-- com/example/cinderbench/cinderbench/algorithms/WorthCompareToPinLaw -/
def k1 : Class := { plain "com/example/cinderbench/cinderbench/algorithms/WorthCompareToPinLaw" (some 0) with
  accessFlags := 49
  interfaces := #[]
  cf := some (fileOf pool1 18 #[] #[{ accessFlags := 1, nameIndex := 5, descriptorIndex := 6, attributes := #[] }, { accessFlags := 9, nameIndex := 22, descriptorIndex := 23, attributes := #[] }] 49 2 #[] #[])
  fields := #[]
  methods := #[k1m0, k1m1]
  instanceTypes := #[]
  staticTypes := #[]
  resolved := Array.replicate 27 none
  statics := none }

def pool2 : Array CpInfo := pool [(1, .methodref 2 3), (0, .class_ 4), (0, .nameAndType 5 6), (0, u "java/lang/Object"), (0, u "<init>"), (0, u "()V"), (0, .class_ 8), (0, u "java/lang/Record")] 13

def k2c0 : Code := { maxStack := 1, maxLocals := 1, code := jdk_30_method_1_code, exceptionTable := #[], attributes := #[] }
def k2m0 : Method := { name := "<init>", desc := "()V", sig := { parameters := [], returnType := none }, accessFlags := 4, code := some k2c0 }
/-- java/lang/Record -/
def k2 : Class := { plain "java/lang/Record" (some 0) with
  accessFlags := 1057
  interfaces := #[]
  cf := some (fileOf pool2 7 #[] #[{ accessFlags := 4, nameIndex := 5, descriptorIndex := 6, attributes := #[] }] 1057 2 #[] #[])
  fields := #[]
  methods := #[k2m0]
  instanceTypes := #[]
  staticTypes := #[]
  resolved := Array.replicate 22 none
  statics := none }

def pool3 : Array CpInfo := pool [(1, .class_ 2), (0, u "java/lang/Comparable"), (0, .class_ 4), (0, u "java/lang/Object")] 7

/-- java/lang/Comparable -/
def k3 : Class := { plain "java/lang/Comparable" (some 0) with
  accessFlags := 1537
  interfaces := #[]
  cf := some (fileOf pool3 1 #[] #[] 1537 3 #[] #[])
  fields := #[]
  methods := #[]
  instanceTypes := #[]
  staticTypes := #[]
  resolved := Array.replicate 12 none
  statics := none }

def pool4 : Array CpInfo := pool [(1, .methodref 2 3), (0, .class_ 4), (0, .nameAndType 5 6), (0, u "java/lang/Record"), (0, u "<init>"), (0, u "()V"), (0, .fieldref 8 9), (0, .class_ 10), (0, .nameAndType 11 12), (0, u "com/example/cinderbench/cinderbench/algorithms/Worth"), (0, u "utility"), (0, u "D"), (0, .fieldref 8 14), (0, .nameAndType 15 12), (0, u "preference"), (2, u "(DD)V"), (6, u "ZERO"), (0, u "Lcom/example/cinderbench/cinderbench/algorithms/Worth;"), (18, u "compareTo"), (0, u "(Lcom/example/cinderbench/cinderbench/algorithms/Worth;)I"), (17, u "LOWEST"), (0, .class_ 66), (0, u "java/lang/Comparable")] 50

def k4c0 : Code := { maxStack := 3, maxLocals := 5, code := prog_20_method_1_code, exceptionTable := #[], attributes := #[] }
def k4m0 : Method := { name := "<init>", desc := "(DD)V", sig := { parameters := [.double, .double], returnType := none }, accessFlags := 0, code := some k4c0 }
def k4c1 : Code := { maxStack := 4, maxLocals := 3, code := prog_20_method_7_code, exceptionTable := #[], attributes := #[] }
def k4m1 : Method := { name := "compareTo", desc := "(Lcom/example/cinderbench/cinderbench/algorithms/Worth;)I", sig := { parameters := [(.object "com/example/cinderbench/cinderbench/algorithms/Worth")], returnType := some .int }, accessFlags := 1, code := some k4c1 }
/-- com/example/cinderbench/cinderbench/algorithms/Worth -/
def k4 : Class := { plain "com/example/cinderbench/cinderbench/algorithms/Worth" (some 2) with
  accessFlags := 48
  interfaces := #[3]
  cf := some (fileOf pool4 8 #[] #[{ accessFlags := 0, nameIndex := 5, descriptorIndex := 18, attributes := #[] }, { accessFlags := 1, nameIndex := 45, descriptorIndex := 46, attributes := #[] }] 48 2 #[65] #[{ accessFlags := 18, nameIndex := 11, descriptorIndex := 12, attributes := #[] }, { accessFlags := 18, nameIndex := 15, descriptorIndex := 12, attributes := #[] }, { accessFlags := 24, nameIndex := 25, descriptorIndex := 26, attributes := #[] }, { accessFlags := 24, nameIndex := 64, descriptorIndex := 26, attributes := #[] }])
  fields := #[{ name := "utility", type := .double, accessFlags := 18, slot := 0, constantValue := 0 }, { name := "preference", type := .double, accessFlags := 18, slot := 1, constantValue := 0 }, { name := "ZERO", type := (.object "com/example/cinderbench/cinderbench/algorithms/Worth"), accessFlags := 24, slot := 0, constantValue := 0 }, { name := "LOWEST", type := (.object "com/example/cinderbench/cinderbench/algorithms/Worth"), accessFlags := 24, slot := 1, constantValue := 0 }]
  methods := #[k4m0, k4m1]
  instanceTypes := #[.double, .double]
  staticTypes := #[(.object "com/example/cinderbench/cinderbench/algorithms/Worth"), (.object "com/example/cinderbench/cinderbench/algorithms/Worth")]
  resolved := Array.replicate 117 none
  statics := none }

def pool5 : Array CpInfo := pool [(1, u "java/lang/Cloneable"), (0, .class_ 1), (0, u "java/lang/Object"), (0, .class_ 3)] 3

/-- java/lang/Cloneable -/
def k5 : Class := { plain "java/lang/Cloneable" (some 0) with
  accessFlags := 1537
  interfaces := #[]
  cf := some (fileOf pool5 2 #[] #[] 1537 4 #[] #[])
  fields := #[]
  methods := #[]
  instanceTypes := #[]
  staticTypes := #[]
  resolved := Array.replicate 8 none
  statics := none }

def pool6 : Array CpInfo := pool [(1, u "java/io/Serializable"), (0, .class_ 1), (0, u "java/lang/Object"), (0, .class_ 3)] 3

/-- java/io/Serializable -/
def k6 : Class := { plain "java/io/Serializable" (some 0) with
  accessFlags := 1537
  interfaces := #[]
  cf := some (fileOf pool6 2 #[] #[] 1537 4 #[] #[])
  fields := #[]
  methods := #[]
  instanceTypes := #[]
  staticTypes := #[]
  resolved := Array.replicate 8 none
  statics := none }

/-- the primitive byte -/
def k7 : Class := { plain "byte" none with kind := .primitive 'B', accessFlags := 0x411 }
/-- [B -/
def k8 : Class := { plain "[B" (some 0) with kind := .array 7 .byte, interfaces := #[5, 6], accessFlags := 1041 }

/-- the primitive int -/
def k9 : Class := { plain "int" none with kind := .primitive 'I', accessFlags := 0x411 }
/-- [I -/
def k10 : Class := { plain "[I" (some 0) with kind := .array 9 .int, interfaces := #[5, 6], accessFlags := 1041 }

def heap : Heap := #[]
def classes : Array Class := #[k0, k1, k2, k3, k4, k5, k6, k7, k8, k9, k10]
def interned : List (Array UInt16 × Addr) := []
def slotsUsed : Nat := 0
def theMethod : MethodId := ⟨1, 1⟩
def args0 : Array Value := #[.int 5, .int 6, .int 3, .int 2, .int 0]
def aboutOver (below : List Frame) : State where
  vm := { classes := classes, interned := interned.toArray }
  heap := heap
  slotsUsed := slotsUsed
  threads := #[{ frames := .invoking theMethod args0 :: below }]
def below0 : List Frame := [.native { method := ⟨0, 0⟩, args := #[] }]
def about1 : State := aboutOver below0
def p0 : Program := .bare "" "" ""
def e0 : Env := launch0.env 0 0 0
theorem w_frames : about1.frames = Frame.invoking theMethod args0 :: below0 := rfl
set_option maxRecDepth 65536 in
theorem w_args : argsFit about1.vm theMethod args0 = true := by decide +kernel
set_option maxRecDepth 65536 in
theorem w_heap : heapFits about1 = true := by decide +kernel
set_option maxRecDepth 65536 in
theorem w_runnable : about1.curStatus? = some .runnable := by decide +kernel
set_option maxRecDepth 65536 in
theorem w_alone : about1.alone = true := by decide +kernel
set_option maxRecDepth 65536 in
theorem w_named : about1.methodNamed? x = some theMethod := by decide +kernel
set_option maxRecDepth 65536 in
theorem w_hears : about1.hears theMethod below0 = true := by decide +kernel
set_option maxRecDepth 65536 in
theorem w_ripe : about1.ripe theMethod args0 below0 = true := by decide +kernel
theorem w_running : about1.status = .running := rfl
set_option maxRecDepth 65536 in
theorem w_room : about1.hasRoom e0.platform room_1 = true :=
  launch0.hasRoom_least _ room_1 (by decide +kernel) (by decide +kernel) (by decide +kernel) (by decide +kernel) (by decide +kernel) (by decide +kernel)
theorem allAtoms_all (ts : List Jvm.Cond) (a : Array Jvm.Value) (st : Jvm.State) : (allAtoms ts).before a st = ts.all (fun c => c.before a st) := by
  induction ts with
  | nil => rfl
  | cons c t ih =>
    show (Jvm.Cond.and c (allAtoms t)).before a st = _
    rw [Jvm.Cond.before_and, ih, List.all_cons]
def words1 : List Jvm.Cond := Jvm.Cond.code x code maxLocals ret :: tables_1
/-- a 'code' word, met by the world's own term for the bytes: nothing is compared byte by byte -/
theorem code_word {y : MethodName} {bytes : ByteArray} {mx : Nat} {rt : Option FieldType} {a : Array Value} {s : State} {m : MethodId} {meth : Method} {c : Code} (h1 : s.methodNamed? y = some m) (h2 : s.vm.method? m = some meth) (h3 : meth.code = some c) (h4 : c.code = bytes)
    (h5 : (c.maxLocals == mx && c.exceptionTable.isEmpty && decide (c.maxStack ≤ mostOperands) && decide (meth.sig.returnType = rt) && !meth.locks && decide (parseMethodDescriptor y.desc = some meth.sig)) = true) : (Jvm.Cond.code y bytes mx rt).before a s = true := by
  simp only [Bool.and_eq_true, beq_iff_eq, Bool.not_eq_true', decide_eq_true_eq] at h5
  obtain ⟨⟨⟨⟨⟨g1, g2⟩, g3⟩, g4⟩, g5⟩, g6⟩ := h5
  simp [Cond.before, Cond.holds, Cond.value, h1, h2, h3, h4, g1, g2, g3, g4, g5, g6]
def isCode : Jvm.Cond → Bool
  | .code _ _ _ _ => true
  | _ => false
theorem all_split {L : List Jvm.Cond} {P : Jvm.Cond → Bool} (h1 : L.all (fun c => isCode c || P c) = true) (h2 : ∀ c ∈ L.filter isCode, P c = true) : L.all P = true := by
  refine List.all_eq_true.mpr fun c hc => ?_
  have h := List.all_eq_true.mp h1 c hc
  rcases Bool.eq_false_or_eq_true (isCode c) with hi | hi
  · exact h2 c (List.mem_filter.mpr ⟨hc, hi⟩)
  · simpa [hi] using h
set_option maxRecDepth 65536 in
theorem w_c0 : (Jvm.Cond.code x code maxLocals ret).before args0 about1 = true := code_word (m := ⟨1, 1⟩) (meth := k1m1) (c := k1c1) (by decide +kernel) rfl rfl rfl (by decide +kernel)
set_option maxRecDepth 65536 in
theorem w_c1 : (Jvm.Cond.code ({ cls := "com/example/cinderbench/cinderbench/algorithms/Worth", name := "<init>", desc := "(DD)V" } : Jvm.MethodName) prog_20_method_1_code (5 : Nat) (Option.none : Option Jvm.ClassFile.FieldType)).before args0 about1 = true := code_word (m := ⟨4, 0⟩) (meth := k4m0) (c := k4c0) (by decide +kernel) rfl rfl rfl (by decide +kernel)
set_option maxRecDepth 65536 in
theorem w_c2 : (Jvm.Cond.code ({ cls := "java/lang/Record", name := "<init>", desc := "()V" } : Jvm.MethodName) jdk_30_method_1_code (1 : Nat) (Option.none : Option Jvm.ClassFile.FieldType)).before args0 about1 = true := code_word (m := ⟨2, 0⟩) (meth := k2m0) (c := k2c0) (by decide +kernel) rfl rfl rfl (by decide +kernel)
set_option maxRecDepth 65536 in
theorem w_c3 : (Jvm.Cond.code ({ cls := "java/lang/Object", name := "<init>", desc := "()V" } : Jvm.MethodName) object_method_1_code (1 : Nat) (Option.none : Option Jvm.ClassFile.FieldType)).before args0 about1 = true := code_word (m := ⟨0, 0⟩) (meth := k0m0) (c := k0c0) (by decide +kernel) rfl rfl rfl (by decide +kernel)
set_option maxRecDepth 65536 in
theorem w_c4 : (Jvm.Cond.code ({ cls := "com/example/cinderbench/cinderbench/algorithms/Worth", name := "compareTo", desc := "(Lcom/example/cinderbench/cinderbench/algorithms/Worth;)I" } : Jvm.MethodName) prog_20_method_7_code (3 : Nat) (Option.some Jvm.ClassFile.FieldType.int)).before args0 about1 = true := code_word (m := ⟨4, 1⟩) (meth := k4m1) (c := k4c1) (by decide +kernel) rfl rfl rfl (by decide +kernel)
def codes1 : List Jvm.Cond := [Jvm.Cond.code x code maxLocals ret, Jvm.Cond.code ({ cls := "com/example/cinderbench/cinderbench/algorithms/Worth", name := "<init>", desc := "(DD)V" } : Jvm.MethodName) prog_20_method_1_code (5 : Nat) (Option.none : Option Jvm.ClassFile.FieldType), Jvm.Cond.code ({ cls := "java/lang/Record", name := "<init>", desc := "()V" } : Jvm.MethodName) jdk_30_method_1_code (1 : Nat) (Option.none : Option Jvm.ClassFile.FieldType), Jvm.Cond.code ({ cls := "java/lang/Object", name := "<init>", desc := "()V" } : Jvm.MethodName) object_method_1_code (1 : Nat) (Option.none : Option Jvm.ClassFile.FieldType), Jvm.Cond.code ({ cls := "com/example/cinderbench/cinderbench/algorithms/Worth", name := "compareTo", desc := "(Lcom/example/cinderbench/cinderbench/algorithms/Worth;)I" } : Jvm.MethodName) prog_20_method_7_code (3 : Nat) (Option.some Jvm.ClassFile.FieldType.int)]
set_option maxRecDepth 65536 in
theorem codes_eq : words1.filter isCode = codes1 := rfl
theorem w_codes : ∀ c ∈ words1.filter isCode, c.before args0 about1 = true := by
  rw [codes_eq]
  intro c hc
  simp only [codes1, List.mem_cons, List.not_mem_nil, or_false] at hc
  rcases hc with rfl | rfl | rfl | rfl | rfl
  · exact w_c0
  · exact w_c1
  · exact w_c2
  · exact w_c3
  · exact w_c4
set_option maxRecDepth 65536 in
theorem w_t1 : (words1.take 24).all (fun c => isCode c || c.before args0 about1) = true := by decide +kernel
set_option maxRecDepth 65536 in
theorem w_t2 : (words1.drop 24).all (fun c => isCode c || c.before args0 about1) = true := by decide +kernel
theorem w_tables : (allAtoms (Jvm.Cond.code x code maxLocals ret :: tables_1)).before args0 about1 = true := by
  rw [allAtoms_all]
  show words1.all (fun c => c.before args0 about1) = true
  refine all_split ?_ w_codes
  rw [← List.take_append_drop 24 words1, List.all_append, w_t1, w_t2]
  rfl
set_option maxRecDepth 65536 in
theorem w_case : (Jvm.Cond.and given_1 narrow_1).before args0 about1 = true := by decide +kernel
theorem w_applies : (headSpec (Jvm.Cond.code x code maxLocals ret :: tables_1) room_1).applies x e0.platform about1 = true :=
  (Spec.applies_iff w_frames).mpr ⟨w_running, w_runnable, w_alone, w_named, w_hears, w_ripe, w_room, w_tables⟩
theorem atStart : AtStart classFile x code maxLocals ret World_1 tables_1 room_1 Calls_1 rest_1 Pre_1 launch0 p0 e0 about1 theMethod args0 below0 :=
  ⟨lists_1, trivial, launch0.admits_env _ _ _, launch0.least_env, fairChoices_fair.cas, fairChoices_fair.clock, w_frames, w_args, w_heap, w_applies, trivial, trivial, w_case⟩
end start1
theorem witness_1 : WitnessClaimed_1 := ⟨start1.p0, start1.e0, start1.about1, start1.theMethod, start1.args0, start1.below0, start1.atStart⟩
end Jvm.Pilot.@@N@@
