import JvmDerived
import JvmDerived.Pilot.@@N@@Statement
import JvmDerived.Pilot.@@N@@Code
set_option linter.unusedVariables false
set_option linter.unusedSimpArgs false
@@BLOCK:NumsL.lean.txt@@
namespace Jvm.Pilot.@@N@@
open Jvm Jvm.ClassFile Sem Op Lib Jvm.Free Jvm.Stand Jvm.LawKit Jvm.RoadKit Bundle Jvm.Pilot.@@N@@.Jvm.D
theorem own_nb {z : Int32} (h : z = 0 ∨ z = 1) : nar .boolean z = z := by rcases h with rfl | rfl <;> decide
/-! doubles as whole numbers of 2^-1074: own_zv; the rounding of a quotient of whole numbers: own_rr -/
section FloatKit
open Jvm.FP.Core
def own_zv (a : UInt64) : Int := zval b64 (val64 a)
def own_rr (A B : Nat) : Nat := zmag b64 (roundRatio b64 false A B 0)
def own_Rep (V : Nat) : Prop := ∃ d, Jvm.FP.Core.fits b64 d ∧ d ≠ .nan ∧ zmag b64 d = V
theorem own_zmag_s (s : Bool) (A B : Nat) (e : Int) : zmag b64 (roundRatio b64 s A B e) = zmag b64 (roundRatio b64 false A B e) := by
  cases s
  · rfl
  · rw [show (true : Bool) = !false from rfl, ← negate_roundRatio]
    cases roundRatio b64 false A B e <;> rfl
theorem own_zv_round {s : Bool} {A B : Nat} {a : UInt64} (h : val64 a = roundRatio b64 s A B 0) : own_zv a = signed s (own_rr A B) := by
  unfold own_zv zval
  rw [h, sgn_roundRatio, own_zmag_s]; rfl
theorem own_units0 (A : Nat) : inUnits A 0 b64.qmin = A * one64 := by
  unfold inUnits
  rw [Int.zero_sub, pow_qmin64]
theorem own_rr_zero (B : Nat) : own_rr 0 B = 0 := by
  unfold own_rr roundRatio
  rw [if_pos rfl]; simp [zmag, inUnits]
theorem own_rr_rep (A : Nat) {B : Nat} (hB : 0 < B) : own_Rep (own_rr A B) := ⟨_, roundRatio_fits good_b64 false A hB 0, roundRatio_ne_nan _ _ _ _ _, rfl⟩
theorem own_rr_le {A B V : Nat} (hB : 0 < B) (hV : own_Rep V) (h : A * one64 ≤ V * B) : own_rr A B ≤ V := by
  obtain ⟨d, h1, h2, rfl⟩ := hV
  refine zmag_roundRatio_le good_b64 hB h1 h2 (e0 := b64.qmin) (Int.le_refl _) (by decide) ?_
  rw [own_units0, Int.sub_self, Int.toNat_zero, Nat.pow_zero, Nat.mul_one]
  exact h
theorem own_rr_ge {A B V : Nat} (hB : 0 < B) (hV : own_Rep V) (h : V * B ≤ A * one64) : V ≤ own_rr A B := by
  obtain ⟨d, h1, h2, rfl⟩ := hV
  refine zmag_roundRatio_ge good_b64 hB h1 (e0 := b64.qmin) (Int.le_refl _) (by decide) ?_
  rw [own_units0, Int.sub_self, Int.toNat_zero, Nat.pow_zero, Nat.mul_one]
  exact h
theorem own_rr_exact {A B V : Nat} (hB : 0 < B) (hV : own_Rep V) (h : A * one64 = V * B) : own_rr A B = V :=
  Nat.le_antisymm (own_rr_le hB hV (Nat.le_of_eq h)) (own_rr_ge hB hV (Nat.le_of_eq h.symm))
theorem own_rr_congr {A B A' B' : Nat} (hB : 0 < B) (hB' : 0 < B') (h : A * B' = A' * B) : own_rr A B = own_rr A' B' := by
  unfold own_rr
  rw [roundRatio_congr (e' := 0) hB hB' (by simpa using h)]
/-- what is finite -/
theorem own_fin_round {s : Bool} {A B : Nat} {a : UInt64} (h : val64 a = roundRatio b64 s A B 0) (hlt : own_rr A B < b64.tails * 2 ^ (b64.exps - 2)) : DFin a := by
  rcases roundRatio_cases b64 s A B 0 with ⟨c, q, e⟩ | e
  · exact ⟨s, c, q, by rw [h, e]⟩
  · exfalso
    rw [own_rr, ← own_zmag_s s, e] at hlt
    exact Nat.lt_irrefl _ hlt
/-- m * 2^k is a double -/
theorem own_rep_pow {m k : Nat} (hm : m < 2 ^ 53) (hk : k ≤ 2045) : own_Rep (m * 2 ^ k) := by
  have hq1 : b64.qmin ≤ (k : Int) - 1074 := by rw [qmin_b64]; omega
  have hq2 : (k : Int) - 1074 ≤ b64.qmax := by rw [show b64.qmax = 971 by decide]; omega
  obtain ⟨c', q', h1, h2⟩ := round_exact good_b64 false (c := m) (q := (k : Int) - 1074) (by exact hm) hq1 hq2
  refine ⟨_, round_fits good_b64 (.fin false m ((k : Int) - 1074)), by rw [h1]; exact Datum.noConfusion, ?_⟩
  rw [h1]
  show inUnits c' q' b64.qmin = _
  rw [h2]
  unfold inUnits
  rw [qmin_b64, show ((k : Int) - 1074 - -1074).toNat = k by omega]
theorem own_rep_zero : own_Rep 0 := by
  have := own_rep_pow (m := 0) (k := 0) (by decide) (by decide)
  simpa using this
/-- rounding keeps the order -/
theorem own_rr_mono {A B A' B' : Nat} (hB : 0 < B) (hB' : 0 < B') (h : A * B' ≤ A' * B) : own_rr A B ≤ own_rr A' B' := by
  rcases roundRatio_cases b64 false A' B' 0 with ⟨c', q', e'⟩ | e'
  · rcases roundRatio_cases b64 false A B 0 with ⟨c, q, e⟩ | e
    · refine Nat.le_of_not_lt fun hlt => ?_
      have f1 : Jvm.FP.Core.fits b64 (.fin false c q) := e ▸ roundRatio_fits good_b64 false A hB 0
      have f2 : Jvm.FP.Core.fits b64 (.fin false c' q') := e' ▸ roundRatio_fits good_b64 false A' hB' 0
      have d1 := roundRatio_nearest good_b64 hB e f2.1 f2.2.1 (e0 := b64.qmin) (Int.le_refl _) (by decide)
      have d2 := roundRatio_nearest good_b64 hB' e' f1.1 f1.2.1 (e0 := b64.qmin) (Int.le_refl _) (by decide)
      unfold distance at d1 d2
      have x1 : own_rr A B = inUnits c q b64.qmin := by unfold own_rr; rw [e]; rfl
      have x2 : own_rr A' B' = inUnits c' q' b64.qmin := by unfold own_rr; rw [e']; rfl
      rw [x1, x2] at hlt
      rw [own_units0] at d1 d2
      generalize inUnits c q b64.qmin = X at *
      generalize inUnits c' q' b64.qmin = Y at *
      have hU := one64_pos
      generalize hP : A * one64 = P at *
      generalize hP' : A' * one64 = P' at *
      have hPP : P * B' ≤ P' * B := by
        rw [← hP, ← hP', Nat.mul_right_comm, Nat.mul_right_comm A']; exact Nat.mul_le_mul_right _ h
      rw [← Int.natCast_mul, ← Int.natCast_mul] at d1 d2
      have hXB : Y * B + B ≤ X * B := by rw [← Nat.succ_mul]; exact Nat.mul_le_mul_right _ hlt
      have hXB' : Y * B' + B' ≤ X * B' := by rw [← Nat.succ_mul]; exact Nat.mul_le_mul_right _ hlt
      have g1 : X * B + Y * B ≤ 2 * P := by
        generalize X * B = xb at *; generalize Y * B = yb at *; omega
      have g2 : 2 * P' ≤ X * B' + Y * B' := by
        generalize X * B' = xb at *; generalize Y * B' = yb at *; omega
      have g3 : (X * B + Y * B) * B' ≤ 2 * P * B' := Nat.mul_le_mul_right _ g1
      have g4 : 2 * P' * B ≤ (X * B' + Y * B') * B := Nat.mul_le_mul_right _ g2
      have g5 : (X * B + Y * B) * B' = (X * B' + Y * B') * B := by
        rw [Nat.add_mul, Nat.add_mul, Nat.mul_right_comm X, Nat.mul_right_comm Y]
      have g6 : P * B' = P' * B := by
        rw [Nat.mul_assoc] at g3 g4
        rw [g5] at g3
        generalize P * B' = u at *; generalize P' * B = w at *; omega
      have g7 : A * B' = A' * B := by
        rw [← hP, ← hP', Nat.mul_right_comm, Nat.mul_right_comm A'] at g6
        exact Nat.eq_of_mul_eq_mul_right hU g6
      have g8 := own_rr_congr hB hB' g7
      rw [x1, x2] at g8
      omega
    · exfalso
      have i1 := (roundRatio_inf good_b64 (s := false) (A := A) (B := B) (e := 0) (e0 := -1075) hB (by decide) (by decide)).mp e
      have i2 : ¬ _ := fun z => by
        have := (roundRatio_inf good_b64 (s := false) (A := A') (B := B') (e := 0) (e0 := -1075) hB' (by decide) (by decide)).mpr z
        rw [this] at e'; cases e'
      apply i2
      generalize (2 ^ (b64.p + 1) - 1) * 2 ^ (b64.qmax - 1 - -1075).toNat = M at *
      have hU : ∀ z, inUnits z 0 (-1075) = z * 2 ^ (0 - (-1075 : Int)).toNat := fun z => rfl
      rw [hU] at i1 ⊢
      have hW := Nat.two_pow_pos (0 - (-1075 : Int)).toNat
      generalize 2 ^ (0 - (-1075 : Int)).toNat = W at *
      have j1 : M * B * B' ≤ A * W * B' := Nat.mul_le_mul_right _ i1
      have j2 : A * W * B' ≤ A' * W * B := by
        rw [Nat.mul_right_comm, Nat.mul_right_comm A']; exact Nat.mul_le_mul_right _ h
      have j3 : M * B' * B ≤ A' * W * B := by rw [Nat.mul_right_comm]; exact Nat.le_trans j1 j2
      exact Nat.le_of_mul_le_mul_right j3 hB
  · have f1 := roundRatio_fits good_b64 false A hB 0
    unfold own_rr
    rw [e']
    exact zmag_le_top good_b64 f1
/-- the relative error -/
theorem own_rr_err {A B : Nat} (hB : 0 < B) (hn : 2 ^ 52 * B ≤ A * one64) (hlt : own_rr A B < b64.tails * 2 ^ (b64.exps - 2)) :
    2 ^ 53 * (own_rr A B * B) ≤ 2 ^ 53 * (A * one64) + A * one64 ∧ 2 ^ 53 * (A * one64) ≤ 2 ^ 53 * (own_rr A B * B) + A * one64 := by
  have hA : 0 < A := by
    rcases Nat.eq_zero_or_pos A with rfl | h
    · rw [Nat.zero_mul] at hn; have := Nat.mul_pos (show 0 < 2 ^ 52 by decide) hB; omega
    · exact h
  rcases roundRatio_cases b64 false A B 0 with ⟨c, q, e⟩ | e
  · have x1 : own_rr A B = inUnits c q b64.qmin := by unfold own_rr; rw [e]; rfl
    have e1 := e
    unfold roundRatio at e1
    rw [if_neg (by omega)] at e1
    unfold roundAt at e1
    have hq := quantum_ge b64 A B 0
    have hnb := quantum_not_below (f := b64) hA hB 0
    have hle := nearest_units_le (f := b64) hA hB 0
    generalize hr : quantum b64 A B 0 = r at *
    obtain ⟨-, s2⟩ := settle_value good_b64 hle e1 (e0 := b64.qmin) hq
    obtain ⟨n1, n2, -⟩ := nearest_spec (unitsNum A 0 r) (unitsDen B 0 r) (unitsDen_pos hB 0 r)
    generalize nearest (unitsNum A 0 r) (unitsDen B 0 r) = m at *
    rw [x1, s2]
    -- the ratio in units of 2^r is at least 2^52
    obtain ⟨k, hk⟩ : ∃ k : Nat, r = (k : Int) - 1074 := ⟨(r + 1074).toNat, by rw [qmin_b64] at hq; omega⟩
    have hm : inUnits m r b64.qmin = m * 2 ^ k := by
      unfold inUnits; rw [qmin_b64, hk, show ((k : Int) - 1074 - -1074).toNat = k by omega]
    rw [hm]
    -- A' * 2^k * g = A * one64 * g and B' * 2^k .. : scale both
    have hsc : ∃ G : Nat, 0 < G ∧ unitsNum A 0 r * 2 ^ k = A * one64 * G ∧ unitsDen B 0 r = B * G := by
      by_cases hk2 : 1074 ≤ k
      · refine ⟨2 ^ (k - 1074), Nat.two_pow_pos _, ?_, ?_⟩
        · unfold unitsNum one64
          rw [hk, show (0 - ((k : Int) - 1074)).toNat = 0 by omega, Nat.pow_zero, Nat.mul_one, Nat.mul_assoc, ← Nat.pow_add, show 1074 + (k - 1074) = k by omega]
        · unfold unitsDen
          rw [hk, show ((k : Int) - 1074 - 0).toNat = k - 1074 by omega]
      · refine ⟨1, by decide, ?_, ?_⟩
        · unfold unitsNum one64
          rw [hk, show (0 - ((k : Int) - 1074)).toNat = 1074 - k by omega, Nat.mul_one, Nat.mul_assoc, ← Nat.pow_add, show 1074 - k + k = 1074 by omega]
        · unfold unitsDen
          rw [hk, show ((k : Int) - 1074 - 0).toNat = 0 by omega, Nat.pow_zero]
    obtain ⟨G, hG, s3, s4⟩ := hsc
    have hbig : 2 ^ 52 * unitsDen B 0 r ≤ unitsNum A 0 r := by
      rcases hnb with h0 | h0
      · have hk0 : k = 0 := by rw [qmin_b64] at h0; omega
        rw [hk0, Nat.pow_zero, Nat.mul_one] at s3
        rw [s3, s4, ← Nat.mul_assoc]
        exact Nat.mul_le_mul_right _ hn
      · rw [show (b64.p : Int) - 1 = ((52 : Nat) : Int) by decide, ← units_below] at h0
        omega
    rw [s4] at n1 n2 hbig
    generalize unitsNum A 0 r = A' at *
    have hK := Nat.two_pow_pos k
    generalize 2 ^ k = K at *
    generalize A * one64 = P at *
    -- n1 : 2A' ≤ (2m+1)(B G), n2 : 2 m (B G) ≤ 2 A' + B G, hbig : 2^52 (B G) ≤ A', s3 : A' K = P G
    have t1 : 2 * (A' * K) ≤ 2 * (m * K * (B * G)) + B * G * K := by
      have := Nat.mul_le_mul_right K n1
      calc 2 * (A' * K) = 2 * A' * K := by ((try generalize Jvm.FP.Core.one64 = own_U); ac_rfl)
        _ ≤ (2 * m + 1) * (B * G) * K := this
        _ = 2 * (m * K * (B * G)) + B * G * K := by rw [Nat.add_mul, Nat.add_mul, Nat.one_mul]; ((try generalize Jvm.FP.Core.one64 = own_U); ac_rfl)
    have t2 : 2 * (m * K * (B * G)) ≤ 2 * (A' * K) + B * G * K := by
      have := Nat.mul_le_mul_right K n2
      calc 2 * (m * K * (B * G)) = 2 * m * (B * G) * K := by ((try generalize Jvm.FP.Core.one64 = own_U); ac_rfl)
        _ ≤ (2 * A' + B * G) * K := this
        _ = 2 * (A' * K) + B * G * K := by rw [Nat.add_mul]; ((try generalize Jvm.FP.Core.one64 = own_U); ac_rfl)
    have t3 : 2 ^ 52 * (B * G * K) ≤ A' * K := by
      have := Nat.mul_le_mul_right K hbig
      rw [Nat.mul_assoc] at this; exact this
    rw [s3] at t1 t2 t3
    have t4 : m * K * (B * G) = (m * K * B) * G := by ((try generalize Jvm.FP.Core.one64 = own_U); ac_rfl)
    have t5 : B * G * K = B * K * G := by ((try generalize Jvm.FP.Core.one64 = own_U); ac_rfl)
    rw [t4, t5] at t1 t2
    rw [t5] at t3
    have u1 : 2 * P ≤ 2 * (m * K * B) + B * K := by
      refine Nat.le_of_mul_le_mul_right (c := G) ?_ hG
      rw [Nat.add_mul, Nat.mul_assoc, Nat.mul_assoc 2]; exact t1
    have u2 : 2 * (m * K * B) ≤ 2 * P + B * K := by
      refine Nat.le_of_mul_le_mul_right (c := G) ?_ hG
      rw [Nat.add_mul, Nat.mul_assoc, Nat.mul_assoc 2]; exact t2
    have u3 : 2 ^ 52 * (B * K) ≤ P := by
      refine Nat.le_of_mul_le_mul_right (c := G) ?_ hG
      rw [Nat.mul_assoc]; exact t3
    generalize m * K * B = x at *
    generalize B * K = y at *
    constructor <;> omega
  · exfalso
    rw [own_rr, e] at hlt
    exact Nat.lt_irrefl _ hlt
/-! comparisons -/
theorem own_cmp {a b : UInt64} (ha : val64 a ≠ .nan) (hb : val64 b ≠ .nan) (o : CmpOp) : cmpValue (Jvm.FP.dcmp a b) o = if own_zv a < own_zv b then -1 else if own_zv a = own_zv b then 0 else 1 := by
  have h := dcmp_zval ha hb
  unfold own_zv
  show cmpValue (dcmp a b) o = _
  rw [h, compare_ite]
  by_cases h1 : zval b64 (val64 a) < zval b64 (val64 b)
  · rw [if_pos h1, if_pos h1]; rfl
  · rw [if_neg h1, if_neg h1]
    by_cases h2 : zval b64 (val64 a) = zval b64 (val64 b)
    · rw [if_pos h2, if_pos h2]; rfl
    · rw [if_neg h2, if_neg h2]; rfl
theorem own_fin_ne {a : UInt64} (h : DFin a) : val64 a ≠ .nan := h.ne_nan
theorem own_fin_nn {a : UInt64} (h : DFin a) : Jvm.Free.Fl.NoNaN64 a := Jvm.Free.Fl.val64_no.mpr h.ne_nan
/-! whole numbers -/
theorem own_i2d (x : Int32) : own_zv (Jvm.FP.i2d x) = x.toInt * (one64 : Int) := DInt_zval (i2d_int x)
theorem own_i2d_fin (x : Int32) : DFin (Jvm.FP.i2d x) := Jvm.FP.Core.i2d_fin x
theorem own_l2d {x : Int64} (h : x.toInt.natAbs ≤ 2 ^ 53) : own_zv (Jvm.FP.l2d x) = x.toInt * (one64 : Int) := DInt_zval (l2d_int h)
theorem own_l2d_fin (x : Int64) : DFin (Jvm.FP.l2d x) := Jvm.FP.Core.l2d_fin x
/-! the sign -/
theorem own_sgn {a : UInt64} (h : own_zv a ≠ 0) : sgn (val64 a) = decide (own_zv a < 0) := by
  unfold own_zv zval at *
  have hz : 0 < zmag b64 (val64 a) := Nat.pos_of_ne_zero fun q => h (by rw [q, signed_zero])
  rw [signed_lt_zero _ hz]
theorem own_natAbs (a : UInt64) : (own_zv a).natAbs = zmag b64 (val64 a) := natAbs_signed _ _
/-! division -/
theorem own_div {a b : UInt64} (ha : DFin a) (hb : DFin b) (hz : own_zv b ≠ 0) :
    val64 (Jvm.FP.ddiv a b) = roundRatio b64 (sgn (val64 a) != sgn (val64 b)) (own_zv a).natAbs (own_zv b).natAbs 0 := by
  rw [own_natAbs, own_natAbs]
  have hzb : zmag b64 (val64 b) ≠ 0 := fun q => hz (by unfold own_zv zval; rw [q, signed_zero])
  show val64 (ddiv a b) = _
  rw [val64_ddiv]
  have fa := val64_fits a
  have fb := val64_fits b
  obtain ⟨s, c, q, e1⟩ := ha
  obtain ⟨t, d, r, e2⟩ := hb
  rw [e1] at fa ⊢
  rw [e2] at fb hzb ⊢
  have hd : d ≠ 0 := fun w => hzb (by subst w; show 0 * _ = 0; exact Nat.zero_mul _)
  show (if d = 0 then _ else roundRatio b64 (s != t) c d (q - r)) = roundRatio b64 (s != t) (inUnits c q b64.qmin) (inUnits d r b64.qmin) 0
  rw [if_neg hd]
  have hq := fa.2.1
  have hr := fb.2.1
  rw [qmin_b64] at hq hr
  refine roundRatio_congr (Nat.pos_of_ne_zero hd) ?_ ?_
  · exact Nat.mul_pos (Nat.pos_of_ne_zero hd) (Nat.two_pow_pos _)
  · unfold inUnits
    rw [qmin_b64]
    obtain ⟨u, hu⟩ : ∃ u : Nat, q = (u : Int) - 1074 := ⟨(q + 1074).toNat, by omega⟩
    obtain ⟨w, hw⟩ : ∃ w : Nat, r = (w : Int) - 1074 := ⟨(r + 1074).toNat, by omega⟩
    subst hu hw
    rw [show ((u : Int) - 1074 - -1074).toNat = u by omega, show ((w : Int) - 1074 - -1074).toNat = w by omega]
    rw [show ((u : Int) - 1074 - ((w : Int) - 1074) - 0).toNat = u - w by omega, show (0 - ((u : Int) - 1074 - ((w : Int) - 1074))).toNat = w - u by omega]
    have : w + (u - w) = u + (w - u) := by omega
    calc c * (d * 2 ^ w) * 2 ^ (u - w) = c * d * 2 ^ (w + (u - w)) := by rw [Nat.pow_add]; ((try generalize Jvm.FP.Core.one64 = own_U); ac_rfl)
      _ = c * 2 ^ u * d * 2 ^ (w - u) := by rw [this, Nat.pow_add]; ((try generalize Jvm.FP.Core.one64 = own_U); ac_rfl)
theorem own_signed_abs (z : Int) : signed (decide (z < 0)) z.natAbs = z := by
  unfold signed
  by_cases h : z < 0 <;> simp [h] <;> omega
theorem own_zv_div_pos {a b : UInt64} (ha : DFin a) (hb : DFin b) (h0 : 0 ≤ own_zv a) (hz : 0 < own_zv b) : own_zv (Jvm.FP.ddiv a b) = (own_rr (own_zv a).natAbs (own_zv b).natAbs : Int) := by
  rw [own_zv_round (own_div ha hb (by omega))]
  by_cases h : own_zv a = 0
  · rw [h]; show signed _ (own_rr 0 _) = _
    rw [show (0 : Int).natAbs = 0 from rfl, own_rr_zero, signed_zero]; rfl
  · rw [own_sgn h, own_sgn (by omega), decide_eq_false (by omega), decide_eq_false (by omega)]; rfl
theorem own_zv_div_neg {a b : UInt64} (ha : DFin a) (hb : DFin b) (h0 : own_zv a ≤ 0) (hz : 0 < own_zv b) : own_zv (Jvm.FP.ddiv a b) = -(own_rr (own_zv a).natAbs (own_zv b).natAbs : Int) := by
  rw [own_zv_round (own_div ha hb (by omega))]
  by_cases h : own_zv a = 0
  · rw [h]; show signed _ (own_rr 0 _) = _
    rw [show (0 : Int).natAbs = 0 from rfl, own_rr_zero, signed_zero]; rfl
  · rw [own_sgn h, own_sgn (by omega), decide_eq_true (by omega), decide_eq_false (by omega)]; rfl
/-- a quotient of two whole numbers -/
theorem own_rr_int (i j : Nat) (hj : 0 < j) : own_rr (i * one64) (j * one64) = own_rr i j :=
  own_rr_congr (Nat.mul_pos hj one64_pos) hj (by ((try generalize Jvm.FP.Core.one64 = own_U); ac_rfl))
theorem own_natAbs_one (i : Int) : (i * (one64 : Int)).natAbs = i.natAbs * one64 := by rw [Int.natAbs_mul]; rfl
theorem own_top {V : Nat} (h : V ≤ 2 ^ 1023 * one64) : V < b64.tails * 2 ^ (b64.exps - 2) := by
  refine Nat.lt_of_le_of_lt h ?_
  decide +kernel
/-! the sign turned -/
theorem own_dneg_bits (a : UInt64) : a.toNat = (Jvm.FP.dneg a).toNat + 2 ^ 63 ∨ (Jvm.FP.dneg a).toNat = a.toNat + 2 ^ 63 := by
  have h := a.toNat_lt
  have e : (Jvm.FP.dneg a).toNat = a.toNat ^^^ 2 ^ 63 := by
    show (a ^^^ 0x8000000000000000).toNat = _
    rw [UInt64.toNat_xor]; rfl
  rw [e]
  by_cases hb : 2 ^ 63 ≤ a.toNat
  · left
    have : a.toNat ^^^ 2 ^ 63 = a.toNat - 2 ^ 63 := by
      apply Nat.eq_of_testBit_eq; intro i
      obtain ⟨k, hk⟩ : ∃ k, a.toNat = 2 ^ 63 + k := ⟨a.toNat - 2 ^ 63, by omega⟩
      have hk2 : k < 2 ^ 63 := by omega
      rw [hk, Nat.add_sub_cancel_left, Nat.testBit_xor, Nat.testBit_two_pow]
      by_cases hi : 63 = i
      · subst hi
        rw [Nat.testBit_two_pow_add_eq, Nat.testBit_lt_two_pow hk2]; rfl
      · by_cases hi2 : i < 63
        · rw [Nat.testBit_two_pow_add_gt hi2]; simp [hi]
        · have : 63 < i := by omega
          rw [Nat.testBit_lt_two_pow (Nat.lt_of_lt_of_le (show 2 ^ 63 + k < 2 ^ 64 by omega) (Nat.pow_le_pow_right (by decide) this)), Nat.testBit_lt_two_pow (Nat.lt_of_lt_of_le hk2 (Nat.pow_le_pow_right (by decide) (Nat.le_of_lt this)))]
          simp [hi]
    omega
  · right
    have : a.toNat ^^^ 2 ^ 63 = a.toNat + 2 ^ 63 := by
      apply Nat.eq_of_testBit_eq; intro i
      have hk2 : a.toNat < 2 ^ 63 := by omega
      rw [Nat.testBit_xor, Nat.testBit_two_pow, Nat.add_comm]
      by_cases hi : 63 = i
      · subst hi
        rw [Nat.testBit_two_pow_add_eq, Nat.testBit_lt_two_pow hk2]; rfl
      · by_cases hi2 : i < 63
        · rw [Nat.testBit_two_pow_add_gt hi2]; simp [hi]
        · have : 63 < i := by omega
          rw [Nat.testBit_lt_two_pow (Nat.lt_of_lt_of_le (show 2 ^ 63 + a.toNat < 2 ^ 64 by omega) (Nat.pow_le_pow_right (by decide) this)), Nat.testBit_lt_two_pow (Nat.lt_of_lt_of_le hk2 (Nat.pow_le_pow_right (by decide) (Nat.le_of_lt this)))]
          simp [hi]
    omega
theorem own_dneg_val (a : UInt64) : val64 (Jvm.FP.dneg a) = negate (val64 a) := val64_neg_bits (own_dneg_bits a)
theorem own_dneg (a : UInt64) : own_zv (Jvm.FP.dneg a) = -own_zv a := by unfold own_zv; rw [own_dneg_val, zval_negate]
theorem own_dneg_fin {a : UInt64} (h : DFin a) : DFin (Jvm.FP.dneg a) := by
  obtain ⟨s, c, q, e⟩ := h
  exact ⟨!s, c, q, by rw [own_dneg_val, e]; rfl⟩
/-! product -/
theorem own_mul {a b : UInt64} (ha : DFin a) (hb : DFin b) :
    val64 (Jvm.FP.dmul a b) = roundRatio b64 (sgn (val64 a) != sgn (val64 b)) ((own_zv a).natAbs * (own_zv b).natAbs) (one64 * one64) 0 := by
  rw [own_natAbs, own_natAbs]
  show val64 (dmul a b) = _
  rw [val64_dmul]
  have fa := val64_fits a
  have fb := val64_fits b
  obtain ⟨s, c, q, e1⟩ := ha
  obtain ⟨t, d, r, e2⟩ := hb
  rw [e1] at fa ⊢
  rw [e2] at fb ⊢
  show roundRatio b64 (s != t) (c * d) 1 (q + r) = roundRatio b64 (s != t) (inUnits c q b64.qmin * inUnits d r b64.qmin) (one64 * one64) 0
  have hq := fa.2.1
  have hr := fb.2.1
  rw [qmin_b64] at hq hr
  refine roundRatio_congr (by decide) (Nat.mul_pos one64_pos one64_pos) ?_
  unfold inUnits one64
  rw [qmin_b64]
  obtain ⟨u, hu⟩ : ∃ u : Nat, q = (u : Int) - 1074 := ⟨(q + 1074).toNat, by omega⟩
  obtain ⟨w, hw⟩ : ∃ w : Nat, r = (w : Int) - 1074 := ⟨(r + 1074).toNat, by omega⟩
  subst hu hw
  rw [show ((u : Int) - 1074 - -1074).toNat = u by omega, show ((w : Int) - 1074 - -1074).toNat = w by omega]
  rw [show ((u : Int) - 1074 + ((w : Int) - 1074) - 0).toNat = u + w - 2148 by omega, show (0 - ((u : Int) - 1074 + ((w : Int) - 1074))).toNat = 2148 - (u + w) by omega]
  generalize hx : u + w - 2148 = x
  generalize hy : 2148 - (u + w) = y
  have h5 : 1074 + (1074 + x) = u + (w + y) := by omega
  calc c * d * (2 ^ 1074 * 2 ^ 1074) * 2 ^ x = c * d * 2 ^ (1074 + (1074 + x)) := by rw [Nat.pow_add, Nat.pow_add]; generalize 2 ^ 1074 = own_W; ac_rfl
    _ = c * 2 ^ u * (d * 2 ^ w) * 1 * 2 ^ y := by rw [h5, Nat.pow_add, Nat.pow_add, Nat.mul_one]; ((try generalize Jvm.FP.Core.one64 = own_U); ac_rfl)
theorem own_zv_mul_pos {a b : UInt64} (ha : DFin a) (hb : DFin b) (h0 : 0 ≤ own_zv a) (h1 : 0 ≤ own_zv b) : own_zv (Jvm.FP.dmul a b) = (own_rr ((own_zv a).natAbs * (own_zv b).natAbs) (one64 * one64) : Int) := by
  rw [own_zv_round (own_mul ha hb)]
  by_cases h : own_zv a = 0
  · rw [h]; show signed _ (own_rr (0 * _) _) = (own_rr (0 * _) _ : Int)
    rw [Nat.zero_mul, own_rr_zero, signed_zero]; rfl
  · by_cases h' : own_zv b = 0
    · rw [h']; show signed _ (own_rr (_ * 0) _) = (own_rr (_ * 0) _ : Int)
      rw [Nat.mul_zero, own_rr_zero, signed_zero]; rfl
    · rw [own_sgn h, own_sgn h', decide_eq_false (by omega), decide_eq_false (by omega)]; rfl
/-! sum -/
theorem own_add {a b : UInt64} (ha : DFin a) (hb : DFin b) : ∃ sg, val64 (Jvm.FP.dadd a b) = roundRatio b64 sg (own_zv a + own_zv b).natAbs one64 0 ∧ signed sg (own_zv a + own_zv b).natAbs = own_zv a + own_zv b := by
  show ∃ sg, val64 (dadd a b) = _ ∧ _
  rw [val64_dadd]
  have fa := val64_fits a
  have fb := val64_fits b
  obtain ⟨s, c, q, e1⟩ := ha
  obtain ⟨t, d, r, e2⟩ := hb
  unfold own_zv
  rw [e1] at fa ⊢
  rw [e2] at fb ⊢
  obtain ⟨sg, n, e, h1, h2, h3⟩ := sum_units fa fb
  rw [h1, ← h3, natAbs_signed]
  refine ⟨sg, ?_, rfl⟩
  show roundRatio b64 sg n 1 e = _
  refine roundRatio_congr (by decide) one64_pos ?_
  unfold inUnits one64
  rw [qmin_b64] at h2 ⊢
  obtain ⟨u, hu⟩ : ∃ u : Nat, e = (u : Int) - 1074 := ⟨(e + 1074).toNat, by omega⟩
  subst hu
  rw [show ((u : Int) - 1074 - -1074).toNat = u by omega, show ((u : Int) - 1074 - 0).toNat = u - 1074 by omega, show (0 - ((u : Int) - 1074)).toNat = 1074 - u by omega]
  have h5 : 1074 + (u - 1074) = u + (1074 - u) := by omega
  calc n * 2 ^ 1074 * 2 ^ (u - 1074) = n * 2 ^ (1074 + (u - 1074)) := by rw [Nat.pow_add 2 1074 (u - 1074), Nat.mul_assoc]
    _ = n * 2 ^ u * 1 * 2 ^ (1074 - u) := by rw [h5, Nat.pow_add, Nat.mul_one]; ((try generalize Jvm.FP.Core.one64 = own_U); ac_rfl)
theorem own_zv_add_pos {a b : UInt64} (ha : DFin a) (hb : DFin b) (h0 : 0 ≤ own_zv a + own_zv b) : own_zv (Jvm.FP.dadd a b) = (own_rr (own_zv a + own_zv b).natAbs one64 : Int) := by
  obtain ⟨sg, h1, h2⟩ := own_add ha hb
  rw [own_zv_round h1]
  generalize own_zv a + own_zv b = z at *
  by_cases h : z = 0
  · subst h; show signed sg (own_rr 0 _) = (own_rr 0 _ : Int)
    rw [own_rr_zero, signed_zero]; rfl
  · have : sg = false := by
      cases sg
      · rfl
      · exfalso; simp [signed] at h2; omega
    subst this; rfl
theorem own_add_exact {a b : UInt64} (ha : DFin a) (hb : DFin b) (hr : own_Rep (own_zv a + own_zv b).natAbs) : own_zv (Jvm.FP.dadd a b) = own_zv a + own_zv b := by
  obtain ⟨sg, h1, h2⟩ := own_add ha hb
  rw [own_zv_round h1, own_rr_exact one64_pos hr rfl, h2]
theorem own_add_fin {a b : UInt64} (ha : DFin a) (hb : DFin b) (hr : own_Rep (own_zv a + own_zv b).natAbs) (hlt : (own_zv a + own_zv b).natAbs ≤ 2 ^ 1023 * one64) : DFin (Jvm.FP.dadd a b) := by
  obtain ⟨sg, h1, h2⟩ := own_add ha hb
  exact own_fin_round h1 (by rw [own_rr_exact one64_pos hr rfl]; exact own_top hlt)
theorem own_sub_eq {a b : UInt64} (hb : DFin b) : Jvm.FP.dsub a b = Jvm.FP.dadd a (Jvm.FP.dneg b) := by
  show dsub a b = dadd a (Jvm.FP.dneg b)
  rw [dsub_eq]
  congr 1
  refine (val64_inj ?_ ?_)
  · rw [val64_dneg]; exact negate_ne_nan hb.ne_nan
  · rw [val64_dneg, own_dneg_val]
theorem own_cmp_int {i j : Int} {a b : UInt64} (ha : DInt i a) (hb : DInt j b) (o : CmpOp) : cmpValue (Jvm.FP.dcmp a b) o = if i < j then -1 else if i = j then 0 else 1 := by
  show cmpValue (dcmp a b) o = _
  rw [dcmp_int ha hb, compare_ite]
  by_cases h1 : i < j
  · rw [if_pos h1, if_pos h1]; rfl
  · rw [if_neg h1, if_neg h1]
    by_cases h2 : i = j
    · rw [if_pos h2, if_pos h2]; rfl
    · rw [if_neg h2, if_neg h2]; rfl
theorem own_cmp_i (x y : Int32) (o : CmpOp) : cmpValue (Jvm.FP.dcmp (Jvm.FP.i2d x) (Jvm.FP.i2d y)) o = if x.toInt < y.toInt then -1 else if x.toInt = y.toInt then 0 else 1 := own_cmp_int (i2d_int x) (i2d_int y) o
theorem own_dneg_int {i : Int} {a : UInt64} (h : DInt i a) : DInt (-i) (Jvm.FP.dneg a) := by
  unfold DInt; rw [own_dneg_val]; exact whole_negate h
end FloatKit
theorem own_lc (x y : Int64) : lcmpW x y = if x.toInt < y.toInt then -1 else if x.toInt = y.toInt then 0 else 1 := by
  unfold lcmpW
  simp only [gt_iff_lt, Int64.lt_iff_toInt_lt, ← Int64.toInt_inj]
  by_cases h1 : x.toInt < y.toInt
  · rw [if_neg (by omega), if_neg (by omega), if_pos h1]
  · by_cases h2 : x.toInt = y.toInt
    · rw [if_neg (by omega), if_pos h2, if_neg h1, if_pos h2]
    · rw [if_pos (by omega), if_neg h1, if_neg h2]
theorem own_mod_bounds (x y : Int32) (hx : 0 ≤ x.toInt) (hy : 0 < y.toInt) : 0 ≤ (x % y).toInt ∧ (x % y).toInt < y.toInt := by
  rw [Int32.toInt_mod]; exact ⟨Int.tmod_nonneg _ hx, Int.tmod_lt_of_pos _ hy⟩
theorem own_m31 (x : Int32) : 0 ≤ (x &&& (2147483647 : Int32)).toInt := by
  rw [Jvm.Kit.i32_mask x (2147483647 : Int32) (k := 31) (by decide) (by decide)]; omega
theorem own_mask {x m : Int32} {k : Nat} (hk : k < 32) (hm : m.toBitVec.toNat = 2 ^ k - 1) : 0 ≤ (x &&& m).toInt ∧ (x &&& m).toInt < 2 ^ k := by
  rw [Jvm.Kit.i32_mask x m hk hm]
  have : (0 : Int) < 2 ^ k := Int.pow_pos (by decide)
  exact ⟨Int.emod_nonneg _ (by omega), Int.emod_lt_of_pos _ this⟩
theorem own_lc_pos (x y : Int64) : (0 : Int32) < lcmpW x y ↔ y.toInt < x.toInt := by
  rw [own_lc]
  by_cases h1 : x.toInt < y.toInt
  · rw [if_pos h1]; exact ⟨fun h => absurd h (by decide), fun h => by omega⟩
  · rw [if_neg h1]
    by_cases h2 : x.toInt = y.toInt
    · rw [if_pos h2]; exact ⟨fun h => absurd h (by decide), fun h => by omega⟩
    · rw [if_neg h2]; exact ⟨fun _ => by omega, fun _ => by decide⟩
theorem own_lc_neg (x y : Int64) : lcmpW x y < (0 : Int32) ↔ x.toInt < y.toInt := by
  rw [own_lc]
  by_cases h1 : x.toInt < y.toInt
  · rw [if_pos h1]; exact ⟨fun _ => h1, fun _ => by decide⟩
  · rw [if_neg h1]
    by_cases h2 : x.toInt = y.toInt
    · rw [if_pos h2]; exact ⟨fun h => absurd h (by decide), fun h => by omega⟩
    · rw [if_neg h2]; exact ⟨fun h => absurd h (by decide), fun h => by omega⟩
theorem own_lc_eq (x y : Int64) : lcmpW x y = (0 : Int32) ↔ x.toInt = y.toInt := by
  rw [own_lc]
  by_cases h1 : x.toInt < y.toInt
  · rw [if_pos h1]; exact ⟨fun h => absurd h (by decide), fun h => by omega⟩
  · rw [if_neg h1]
    by_cases h2 : x.toInt = y.toInt
    · rw [if_pos h2]; exact ⟨fun _ => h2, fun _ => rfl⟩
    · rw [if_neg h2]; exact ⟨fun h => absurd h (by decide), fun h => absurd h h2⟩

theorem d2_0 : decode jdk_30_method_1_code 0 = .ok (.aload_n 0, 1) := by decide +kernel
theorem d2_1 : decode jdk_30_method_1_code 1 = .ok (.invokespecial 1, 3) := by decide +kernel
theorem d2_4 : decode jdk_30_method_1_code 4 = .ok (.return_, 1) := by decide +kernel
theorem ef_2 (m : MethodId) (x0 : Addr) : entryFrame m #[(.ref x0)] 1 = mkF m 0 #[.val (.ref x0)] [] := by first | (simp [entryFrame, mkF, argsToLocals, Value.category]; done) | rfl
theorem pn_0 : plainName "java/lang/Record" = true := by first | (simp [plainName, overriddenIn]; done) | decide +kernel
def Q2 (Z : State) (a1 : Addr) (h0 : Heap) (n0 : Nat) (v : Option Value) (h : Heap) (L : List Loc) : Prop := v = none ∧ Fr n0 L ∧ h = h0
set_option maxRecDepth 65536 in
set_option maxHeartbeats 40000000 in
theorem rm2 (l : Launch) (Z : State) (a0 : Array Value) (hw : ∀ d ∈ tables_1, d.before a0 Z = true) (ws : List Jvm.Cond) (a1 : Addr) (h0 : Heap) (n0 : Nat) (Z0 : n0 ≤ h0.size)  :
    MetFree l (⟨"java/lang/Record", "<init>", "()V"⟩ : MethodName) (head1 (Jvm.Cond.code (⟨"java/lang/Record", "<init>", "()V"⟩ : MethodName) jdk_30_method_1_code 1 none :: ws) ({ frames := 1, cells := 0, slots := 0, locals := 12 } : Room)) (fun a U => a = #[(.ref a1)] ∧ Z.Warmed39 U.vm ∧ U.heap = h0) (fun _ _ _ _ _ => True) (fun _ U o U' => ∃ v L, o = .returned v ∧ Q2 Z a1 h0 n0 v U'.heap L ∧ FrameEnd U o U' L ({ frames := 1, cells := 0, slots := 0, locals := 12 } : Room).cells ({ frames := 1, cells := 0, slots := 0, locals := 12 } : Room).slots) := by
  refine MetFree.of_bodySF (plainFor_of_name pn_0) hisR ?_
  intro p e s m args below meth c s₁ Bd hml0 hP hK
  obtain ⟨rfl, hZ, hh⟩ := hP
  have hx := Bd.exec
  have hby := Bd.bytes
  have hml : c.maxLocals = 1 := hml0
  have hown : s.vm.findClass "java/lang/Record" = some m.cls := findClass_of_methodNamed Bd.named
  have hnm := (name_of_methodNamed Bd.named Bd.method).1
  have X0 : Stand p l e ({ frames := 1, cells := 0, slots := 0, locals := 12 } : Room) s m #[(.ref a1)] below meth c s₁ [] 0 0 := Stand.of_body Bd
  have e0 : s₁.heap = h0 := by rw [← hh, Bd.state]; rfl
  have N0 := Fr.nil n0
  have pre0 : ∀ t, Steps p.tables e below (s₁.setTop (mkF m 0 #[.val (.ref a1)] [])) t → Steps p.tables e below (s₁.setTop (entryFrame m #[(.ref a1)] 1)) t := fun t k => castTop (ef_2 m a1) k
  obtain ⟨T3, X3, e3, st3⟩ := initO X0 hx hZ hown (hw _ (List.mem_of_getElem? (i := 11) rfl)) (hw _ (List.mem_of_getElem? (i := 12) rfl)) (hw _ (List.mem_of_getElem? (i := 13) rfl)) e0 (g := (mkF m 1 #[.val (.ref a1)] [(.ref a1)])) rfl (by rw [hml]; rfl) rfl (hb hby d2_1) (by decide) (W := 0) (by show 2 * 0 + _ ≤ _; exact Nat.le_of_eq rfl) (by decide)
  obtain ⟨fs, hr, hrun, hended, hW, hsame⟩ := X3.leave (v := none) (fun _ => rfl)
  refine ⟨_, _, pre0 _ ?_, hrun, hended, _, _, rfl, ?_, ⟨_, rfl⟩, hW, hsame.mono (by decide) (by decide)⟩
  · refine XS.aloadN X0.here hx rfl (hb hby d2_0) rfl rfl ?_
    show Steps p.tables e below (s₁.setTop (mkF m 1 #[.val (.ref a1)] [(.ref a1)])) _
    refine st3 _ ?_
    show Steps p.tables e below (T3.setTop (mkF m 4 #[.val (.ref a1)] [])) _
    exact X3.returnOut hx Bd.returns (hb hby d2_4) hr
  · show Q2 Z a1 h0 n0 _ T3.heap _
    rw [e3]
    exact ⟨rfl, N0, rfl⟩
theorem pd_0 : parseMethodDescriptor "()V" = some ⟨[], none⟩ := by decide +kernel
theorem d1_0 : decode prog_53_method_1_code 0 = .ok (.aload_n 0, 1) := by decide +kernel
theorem d1_1 : decode prog_53_method_1_code 1 = .ok (.invokespecial 1, 3) := by decide +kernel
theorem d1_4 : decode prog_53_method_1_code 4 = .ok (.aload_n 0, 1) := by decide +kernel
theorem d1_5 : decode prog_53_method_1_code 5 = .ok (.dload_n 1, 1) := by decide +kernel
theorem d1_6 : decode prog_53_method_1_code 6 = .ok (.putfield 7, 3) := by decide +kernel
theorem d1_9 : decode prog_53_method_1_code 9 = .ok (.aload_n 0, 1) := by decide +kernel
theorem d1_10 : decode prog_53_method_1_code 10 = .ok (.dload_n 3, 1) := by decide +kernel
theorem d1_11 : decode prog_53_method_1_code 11 = .ok (.putfield 13, 3) := by decide +kernel
theorem d1_14 : decode prog_53_method_1_code 14 = .ok (.return_, 1) := by decide +kernel
theorem ef_1 (m : MethodId) (x0 : Addr) (x1 : UInt64) (x2 : UInt64) : entryFrame m #[(.ref x0), (.double x1), (.double x2)] 5 = mkF m 0 #[.val (.ref x0), .val (.double x1), .second, .val (.double x2), .second] [] := by first | (simp [entryFrame, mkF, argsToLocals, Value.category]; done) | rfl
theorem pn_1 : plainName "com/example/cinderbench/cinderbench/core/geo/Rings$Nearest" = true := by first | (simp [plainName, overriddenIn]; done) | decide +kernel
def Q1 (Z : State) (a4 : Addr) (d5 : UInt64) (d6 : UInt64) (h0 : Heap) (n0 : Nat) (v : Option Value) (h : Heap) (L : List Loc) : Prop := v = none ∧ Fr n0 L ∧ Keep h0 h [a4] ∧ Exa Z h a4 "com/example/cinderbench/cinderbench/core/geo/Rings$Nearest" ∧ Fld Z h a4 "com/example/cinderbench/cinderbench/core/geo/Rings$Nearest" "share" "D" (.double d5) ∧ Fld Z h a4 "com/example/cinderbench/cinderbench/core/geo/Rings$Nearest" "metres" "D" (.double d6)
set_option maxRecDepth 65536 in
set_option maxHeartbeats 40000000 in
theorem rm1 (l : Launch) (Z : State) (a0 : Array Value) (hw : ∀ d ∈ tables_1, d.before a0 Z = true) (ws : List Jvm.Cond) (a4 : Addr) (d5 : UInt64) (d6 : UInt64) (h0 : Heap) (n0 : Nat) (Z0 : n0 ≤ h0.size) (E1 : Exa Z h0 a4 "com/example/cinderbench/cinderbench/core/geo/Rings$Nearest") (F_share_a4 : Fld Z h0 a4 "com/example/cinderbench/cinderbench/core/geo/Rings$Nearest" "share" "D" (.double (0 : UInt64))) (F_metres_a4 : Fld Z h0 a4 "com/example/cinderbench/cinderbench/core/geo/Rings$Nearest" "metres" "D" (.double (0 : UInt64))) (g1 : n0 ≤ a4) :
    MetFree l (⟨"com/example/cinderbench/cinderbench/core/geo/Rings$Nearest", "<init>", "(DD)V"⟩ : MethodName) (head1 (Jvm.Cond.code (⟨"com/example/cinderbench/cinderbench/core/geo/Rings$Nearest", "<init>", "(DD)V"⟩ : MethodName) prog_53_method_1_code 5 none :: ws) ({ frames := 2, cells := 0, slots := 0, locals := 24 } : Room)) (fun a U => a = #[(.ref a4), (.double d5), (.double d6)] ∧ Z.Warmed39 U.vm ∧ U.heap = h0) (fun _ _ _ _ _ => True) (fun _ U o U' => ∃ v L, o = .returned v ∧ Q1 Z a4 d5 d6 h0 n0 v U'.heap L ∧ FrameEnd U o U' L ({ frames := 2, cells := 0, slots := 0, locals := 24 } : Room).cells ({ frames := 2, cells := 0, slots := 0, locals := 24 } : Room).slots) := by
  refine MetFree.of_bodySF (plainFor_of_name pn_1) hisR ?_
  intro p e s m args below meth c s₁ Bd hml0 hP hK
  obtain ⟨rfl, hZ, hh⟩ := hP
  have hx := Bd.exec
  have hby := Bd.bytes
  have hml : c.maxLocals = 5 := hml0
  have hown : s.vm.findClass "com/example/cinderbench/cinderbench/core/geo/Rings$Nearest" = some m.cls := findClass_of_methodNamed Bd.named
  have hnm := (name_of_methodNamed Bd.named Bd.method).1
  have X0 : Stand p l e ({ frames := 2, cells := 0, slots := 0, locals := 24 } : Room) s m #[(.ref a4), (.double d5), (.double d6)] below meth c s₁ [] 0 0 := Stand.of_body Bd
  have e0 : s₁.heap = h0 := by rw [← hh, Bd.state]; rfl
  have N0 := Fr.nil n0
  have pre0 : ∀ t, Steps p.tables e below (s₁.setTop (mkF m 0 #[.val (.ref a4), .val (.double d5), .second, .val (.double d6), .second] [])) t → Steps p.tables e below (s₁.setTop (entryFrame m #[(.ref a4), (.double d5), (.double d6)] 5)) t := fun t k => castTop (ef_1 m a4 d5 d6) k
  obtain ⟨_, _, ⟨T7, L7, k7, n7⟩, -, X7, ⟨Lc7, hQ7, l7, y7, z7⟩, st7⟩ := X0.specialBack hx (y := (⟨"java/lang/Record", "<init>", "()V"⟩ : MethodName)) rfl hown (mvT hZ (hw _ (List.mem_of_getElem? (i := 6) rfl))) (mvT hZ (hw _ (List.mem_of_getElem? (i := 7) rfl))) (mvT hZ (hw _ (List.mem_of_getElem? (i := 10) rfl))) (by decide) (backOf (W := 0) (rm2 l Z a0 hw [] a4 h0 n0 Z0) hZ (hw _ (List.mem_of_getElem? (i := 10) rfl)) (hw _ (List.mem_of_getElem? (i := 9) rfl)) (by decide) (by decide)) (g := (mkF m 1 #[.val (.ref a4), .val (.double d5), .second, .val (.double d6), .second] [(.ref a4)])) rfl (by rw [hml]; rfl) (Steps.refl _) (a := a4) (argsL := []) (rest := []) (lenOf pd_0 rfl) rfl (by show 2 * 0 + _ ≤ _; exact Nat.le_of_eq rfl) (hb hby d1_1) (fun _ _ => ⟨rfl, e0, (by decide : 0 + 0 ≤ _), (by decide : 0 + 0 ≤ _)⟩)
  dsimp only [Pt.U, Pt.locs, Pt.cells, Pt.slots] at X7 l7 y7 z7 st7 hQ7
  subst l7 y7 z7
  obtain ⟨rfl, N7q, e7⟩ := hQ7
  have N7 := Fr.app N0 N7q
  obtain ⟨T8, h8, X8, e8, W8, st8⟩ := putF X7 hx hZ hown (host := "") (Or.inl (hw _ (List.mem_of_getElem? (i := 14) rfl))) Via.refl e7 F_share_a4 E1 (Or.inr ⟨(hw _ (List.mem_of_getElem? (i := 15) rfl)), rfl, hnm⟩) (hw _ (List.mem_of_getElem? (i := 1) rfl)) (ty := .double) (by decide) rfl rfl (g := (mkF m 6 #[.val (.ref a4), .val (.double d5), .second, .val (.double d6), .second] [(.double d5), (.ref a4)])) rfl rfl (hb hby d1_6)
  have f9 : Exa Z h8 a4 "com/example/cinderbench/cinderbench/core/geo/Rings$Nearest" := E1.wr W8
  have f10 : Fld Z h8 a4 "com/example/cinderbench/cinderbench/core/geo/Rings$Nearest" "share" "D" (.double d5) := F_share_a4.same W8
  have f11 : Fld Z h8 a4 "com/example/cinderbench/cinderbench/core/geo/Rings$Nearest" "metres" "D" (.double (0 : UInt64)) := F_metres_a4.other W8 (Or.inr (slot_ne (Or.inr (hw _ (List.mem_of_getElem? (i := 17) rfl))) (Or.inr (hw _ (List.mem_of_getElem? (i := 15) rfl))) (by decide) (t := .double) (t' := .double) (by decide) (by decide)))
  have N12 := Fr.snoc X8 N7 g1
  have K13 : Keep h0 h8 [a4] := (Keep.refl h0 [a4]).wr W8 (Or.inl (List.mem_of_getElem? (i := 0) rfl))
  have Z14 : n0 ≤ h8.size := Nat.le_trans Z0 (Keep.of_wr W8).1
  obtain ⟨T15, h15, X15, e15, W15, st15⟩ := putF X8 hx hZ hown (host := "") (Or.inl (hw _ (List.mem_of_getElem? (i := 16) rfl))) Via.refl e8 f11 f9 (Or.inr ⟨(hw _ (List.mem_of_getElem? (i := 17) rfl)), rfl, hnm⟩) (hw _ (List.mem_of_getElem? (i := 1) rfl)) (ty := .double) (by decide) rfl rfl (g := (mkF m 11 #[.val (.ref a4), .val (.double d5), .second, .val (.double d6), .second] [(.double d6), (.ref a4)])) rfl rfl (hb hby d1_11)
  have f16 : Exa Z h15 a4 "com/example/cinderbench/cinderbench/core/geo/Rings$Nearest" := f9.wr W15
  have f17 : Fld Z h15 a4 "com/example/cinderbench/cinderbench/core/geo/Rings$Nearest" "share" "D" (.double d5) := f10.other W15 (Or.inr (slot_ne (Or.inr (hw _ (List.mem_of_getElem? (i := 15) rfl))) (Or.inr (hw _ (List.mem_of_getElem? (i := 17) rfl))) (by decide) (t := .double) (t' := .double) (by decide) (by decide)))
  have f18 : Fld Z h15 a4 "com/example/cinderbench/cinderbench/core/geo/Rings$Nearest" "metres" "D" (.double d6) := f11.same W15
  have N19 := Fr.snoc X15 N12 g1
  have K20 : Keep h0 h15 [a4] := K13.wr W15 (Or.inl (List.mem_of_getElem? (i := 0) rfl))
  have Z21 : n0 ≤ h15.size := Nat.le_trans Z14 (Keep.of_wr W15).1
  obtain ⟨fs, hr, hrun, hended, hW, hsame⟩ := X15.leave (v := none) (fun _ => rfl)
  refine ⟨_, _, pre0 _ ?_, hrun, hended, _, _, rfl, ?_, ⟨_, rfl⟩, hW, hsame.mono (by decide) (by decide)⟩
  · refine XS.aloadN X0.here hx rfl (hb hby d1_0) rfl rfl ?_
    show Steps p.tables e below (s₁.setTop (mkF m 1 #[.val (.ref a4), .val (.double d5), .second, .val (.double d6), .second] [(.ref a4)])) _
    refine st7.trans ?_
    show Steps p.tables e below (T7.setTop (mkF m 4 #[.val (.ref a4), .val (.double d5), .second, .val (.double d6), .second] [])) _
    refine XS.aloadN X7.here hx rfl (hb hby d1_4) rfl rfl ?_
    show Steps p.tables e below (T7.setTop (mkF m 5 #[.val (.ref a4), .val (.double d5), .second, .val (.double d6), .second] [(.ref a4)])) _
    refine XS.dloadN X7.here hx rfl (hb hby d1_5) rfl ?_
    show Steps p.tables e below (T7.setTop (mkF m 6 #[.val (.ref a4), .val (.double d5), .second, .val (.double d6), .second] [(.double d5), (.ref a4)])) _
    refine st8 _ ?_
    show Steps p.tables e below (T8.setTop (mkF m 9 #[.val (.ref a4), .val (.double d5), .second, .val (.double d6), .second] [])) _
    refine XS.aloadN X8.here hx rfl (hb hby d1_9) rfl rfl ?_
    show Steps p.tables e below (T8.setTop (mkF m 10 #[.val (.ref a4), .val (.double d5), .second, .val (.double d6), .second] [(.ref a4)])) _
    refine XS.dloadN X8.here hx rfl (hb hby d1_10) rfl ?_
    show Steps p.tables e below (T8.setTop (mkF m 11 #[.val (.ref a4), .val (.double d5), .second, .val (.double d6), .second] [(.double d6), (.ref a4)])) _
    refine st15 _ ?_
    show Steps p.tables e below (T15.setTop (mkF m 14 #[.val (.ref a4), .val (.double d5), .second, .val (.double d6), .second] [])) _
    exact X15.returnOut hx Bd.returns (hb hby d1_14) hr
  · show Q1 Z a4 d5 d6 h0 n0 _ T15.heap _
    rw [e15]
    exact ⟨rfl, N19, K20, f16, f17, f18⟩
def f4 (a22 : Addr) (a23 : Addr) (z24 : UInt64) (z26 : UInt64) (z37 : UInt64) (z39 : UInt64) : Addr := (if (cmpValue (FP.dcmp z24 z26) .g) < (0 : Int32) then a23 else (if (cmpValue (FP.dcmp z24 z26) .l) = (0 : Int32) then (if (cmpValue (FP.dcmp z37 z39) .g) < (0 : Int32) then a23 else a22) else a22))
theorem d4_0 : decode prog_53_method_2_code 0 = .ok (.aload_n 1, 1) := by decide +kernel
theorem d4_1 : decode prog_53_method_2_code 1 = .ok (.getfield 13, 3) := by decide +kernel
theorem d4_4 : decode prog_53_method_2_code 4 = .ok (.aload_n 0, 1) := by decide +kernel
theorem d4_5 : decode prog_53_method_2_code 5 = .ok (.getfield 13, 3) := by decide +kernel
theorem d4_8 : decode prog_53_method_2_code 8 = .ok (.dcmp .g, 1) := by decide +kernel
theorem d4_9 : decode prog_53_method_2_code 9 = .ok (.ifCond .lt 27, 3) := by decide +kernel
theorem d4_12 : decode prog_53_method_2_code 12 = .ok (.aload_n 1, 1) := by decide +kernel
theorem d4_13 : decode prog_53_method_2_code 13 = .ok (.getfield 13, 3) := by decide +kernel
theorem d4_16 : decode prog_53_method_2_code 16 = .ok (.aload_n 0, 1) := by decide +kernel
theorem d4_17 : decode prog_53_method_2_code 17 = .ok (.getfield 13, 3) := by decide +kernel
theorem d4_20 : decode prog_53_method_2_code 20 = .ok (.dcmp .l, 1) := by decide +kernel
theorem d4_21 : decode prog_53_method_2_code 21 = .ok (.ifCond .ne 19, 3) := by decide +kernel
theorem d4_24 : decode prog_53_method_2_code 24 = .ok (.aload_n 1, 1) := by decide +kernel
theorem d4_25 : decode prog_53_method_2_code 25 = .ok (.getfield 7, 3) := by decide +kernel
theorem d4_28 : decode prog_53_method_2_code 28 = .ok (.aload_n 0, 1) := by decide +kernel
theorem d4_29 : decode prog_53_method_2_code 29 = .ok (.getfield 7, 3) := by decide +kernel
theorem d4_32 : decode prog_53_method_2_code 32 = .ok (.dcmp .g, 1) := by decide +kernel
theorem d4_33 : decode prog_53_method_2_code 33 = .ok (.ifCond .ge 7, 3) := by decide +kernel
theorem d4_36 : decode prog_53_method_2_code 36 = .ok (.aload_n 1, 1) := by decide +kernel
theorem d4_37 : decode prog_53_method_2_code 37 = .ok (.goto 4, 3) := by decide +kernel
theorem d4_40 : decode prog_53_method_2_code 40 = .ok (.aload_n 0, 1) := by decide +kernel
theorem d4_41 : decode prog_53_method_2_code 41 = .ok (.areturn, 1) := by decide +kernel
theorem ef_4 (m : MethodId) (x0 : Addr) (x1 : Addr) : entryFrame m #[(.ref x0), (.ref x1)] 2 = mkF m 0 #[.val (.ref x0), .val (.ref x1)] [] := by first | (simp [entryFrame, mkF, argsToLocals, Value.category]; done) | rfl
def Q4 (Z : State) (a22 : Addr) (a23 : Addr) (z24 : UInt64) (z26 : UInt64) (z37 : UInt64) (z39 : UInt64) (h0 : Heap) (n0 : Nat) (v : Option Value) (h : Heap) (L : List Loc) : Prop := v = some (.ref (f4 a22 a23 z24 z26 z37 z39)) ∧ Fr n0 L ∧ h = h0
set_option maxRecDepth 65536 in
set_option maxHeartbeats 40000000 in
theorem rm4 (l : Launch) (Z : State) (a0 : Array Value) (hw : ∀ d ∈ tables_1, d.before a0 Z = true) (ws : List Jvm.Cond) (a22 : Addr) (a23 : Addr) (z24 : UInt64) (z26 : UInt64) (z37 : UInt64) (z39 : UInt64) (h0 : Heap) (n0 : Nat) (Z0 : n0 ≤ h0.size) (F_metres_a23 : Fld Z h0 a23 "com/example/cinderbench/cinderbench/core/geo/Rings$Nearest" "metres" "D" (.double z24)) (F_metres_a22 : Fld Z h0 a22 "com/example/cinderbench/cinderbench/core/geo/Rings$Nearest" "metres" "D" (.double z26)) (F_share_a23 : Fld Z h0 a23 "com/example/cinderbench/cinderbench/core/geo/Rings$Nearest" "share" "D" (.double z37)) (F_share_a22 : Fld Z h0 a22 "com/example/cinderbench/cinderbench/core/geo/Rings$Nearest" "share" "D" (.double z39)) :
    MetFree l (⟨"com/example/cinderbench/cinderbench/core/geo/Rings$Nearest", "orNearer", "(Lcom/example/cinderbench/cinderbench/core/geo/Rings$Nearest;)Lcom/example/cinderbench/cinderbench/core/geo/Rings$Nearest;"⟩ : MethodName) (head1 (Jvm.Cond.code (⟨"com/example/cinderbench/cinderbench/core/geo/Rings$Nearest", "orNearer", "(Lcom/example/cinderbench/cinderbench/core/geo/Rings$Nearest;)Lcom/example/cinderbench/cinderbench/core/geo/Rings$Nearest;"⟩ : MethodName) prog_53_method_2_code 2 (some (.object "com/example/cinderbench/cinderbench/core/geo/Rings$Nearest")) :: ws) ({ frames := 0, cells := 0, slots := 0, locals := 0 } : Room)) (fun a U => a = #[(.ref a22), (.ref a23)] ∧ Z.Warmed39 U.vm ∧ U.heap = h0) (fun _ _ _ _ _ => True) (fun _ U o U' => ∃ v L, o = .returned v ∧ Q4 Z a22 a23 z24 z26 z37 z39 h0 n0 v U'.heap L ∧ FrameEnd U o U' L ({ frames := 0, cells := 0, slots := 0, locals := 0 } : Room).cells ({ frames := 0, cells := 0, slots := 0, locals := 0 } : Room).slots) := by
  refine MetFree.of_bodySF (plainFor_of_name pn_1) hisR ?_
  intro p e s m args below meth c s₁ Bd hml0 hP hK
  obtain ⟨rfl, hZ, hh⟩ := hP
  have hx := Bd.exec
  have hby := Bd.bytes
  have hml : c.maxLocals = 2 := hml0
  have hown : s.vm.findClass "com/example/cinderbench/cinderbench/core/geo/Rings$Nearest" = some m.cls := findClass_of_methodNamed Bd.named
  have hnm := (name_of_methodNamed Bd.named Bd.method).1
  have X0 : Stand p l e ({ frames := 0, cells := 0, slots := 0, locals := 0 } : Room) s m #[(.ref a22), (.ref a23)] below meth c s₁ [] 0 0 := Stand.of_body Bd
  have e0 : s₁.heap = h0 := by rw [← hh, Bd.state]; rfl
  have N0 := Fr.nil n0
  have pre0 : ∀ t, Steps p.tables e below (s₁.setTop (mkF m 0 #[.val (.ref a22), .val (.ref a23)] [])) t → Steps p.tables e below (s₁.setTop (entryFrame m #[(.ref a22), (.ref a23)] 2)) t := fun t k => castTop (ef_4 m a22 a23) k
  obtain ⟨T48, X48, e48, st48⟩ := getF X0 hx hZ hown (host := "") (Or.inl (hw _ (List.mem_of_getElem? (i := 16) rfl))) Via.refl e0 F_metres_a23 (g := (mkF m 1 #[.val (.ref a22), .val (.ref a23)] [(.ref a23)])) rfl rfl (hb hby d4_1)
  obtain ⟨T49, X49, e49, st49⟩ := getF X48 hx hZ hown (host := "") (Or.inl (hw _ (List.mem_of_getElem? (i := 16) rfl))) Via.refl e48 F_metres_a22 (g := (mkF m 5 #[.val (.ref a22), .val (.ref a23)] [(.ref a22), (.double z24)])) rfl rfl (hb hby d4_5)
  have S50 : ∀ t, Steps p.tables e below (T49.setTop (mkF m 9 #[.val (.ref a22), .val (.ref a23)] [(.int (cmpValue (FP.dcmp z24 z26) .g))])) t → Steps p.tables e below (s₁.setTop (entryFrame m #[(.ref a22), (.ref a23)] 2)) t := by
    intro t k
    refine pre0 t ?_
    refine XS.aloadN X0.here hx rfl (hb hby d4_0) rfl rfl ?_
    show Steps p.tables e below (s₁.setTop (mkF m 1 #[.val (.ref a22), .val (.ref a23)] [(.ref a23)])) _
    refine st48 _ ?_
    show Steps p.tables e below (T48.setTop (mkF m 4 #[.val (.ref a22), .val (.ref a23)] [(.double z24)])) _
    refine XS.aloadN X48.here hx rfl (hb hby d4_4) rfl rfl ?_
    show Steps p.tables e below (T48.setTop (mkF m 5 #[.val (.ref a22), .val (.ref a23)] [(.ref a22), (.double z24)])) _
    refine st49 _ ?_
    show Steps p.tables e below (T49.setTop (mkF m 8 #[.val (.ref a22), .val (.ref a23)] [(.double z26), (.double z24)])) _
    refine XS.dcmpS X49.here hx rfl (hb hby d4_8) rfl rfl ?_
    show Steps p.tables e below (T49.setTop (mkF m 9 #[.val (.ref a22), .val (.ref a23)] [(.int (cmpValue (FP.dcmp z24 z26) .g))])) _
    exact k
  obtain ⟨w51, hw51⟩ : ∃ z : Int32, z = (cmpValue (FP.dcmp z24 z26) .g) := ⟨_, rfl⟩
  rw [← hw51] at S50
  by_cases hc52 : w51 < (0 : Int32)
  · have S53 : ∀ t, Steps p.tables e below (T49.setTop (mkF m 41 #[.val (.ref a22), .val (.ref a23)] [(.ref a23)])) t → Steps p.tables e below (s₁.setTop (entryFrame m #[(.ref a22), (.ref a23)] 2)) t := by
      intro t k
      refine S50 t ?_
      refine XS.ifYes X49.here hx rfl (pc0 := 9) (pc' := 36) rfl (hb hby d4_9) rfl ((if0 _ _).trans (tlt hc52).1) (by decide) (by decide) ?_
      show Steps p.tables e below (T49.setTop (mkF m 36 #[.val (.ref a22), .val (.ref a23)] [])) _
      refine XS.aloadN X49.here hx rfl (hb hby d4_36) rfl rfl ?_
      show Steps p.tables e below (T49.setTop (mkF m 37 #[.val (.ref a22), .val (.ref a23)] [(.ref a23)])) _
      refine XS.goto X49.here hx rfl (pc0 := 37) (pc' := 41) rfl (hb hby d4_37) (by decide) (by decide) ?_
      show Steps p.tables e below (T49.setTop (mkF m 41 #[.val (.ref a22), .val (.ref a23)] [(.ref a23)])) _
      exact k
    have hf : f4 a22 a23 z24 z26 z37 z39 = a23 := by
      unfold f4
      subst hw51
      rw [if_pos hc52]
    obtain ⟨fs, hr, hrun, hended, hW, hsame⟩ := X49.leave (v := some (.ref a23)) (fun h => by rw [Bd.returns] at h; cases h)
    refine ⟨_, _, S53 _ ?_, hrun, hended, _, _, rfl, ?_, ⟨_, rfl⟩, hW, hsame.mono (by decide) (by decide)⟩
    · exact retOut X49 hx Bd.returns rfl (Or.inr (Or.inr (Or.inr (Or.inr ⟨rfl, rfl, rfl⟩)))) (hb hby d4_41) hr
    · show Q4 Z a22 a23 z24 z26 z37 z39 h0 n0 _ T49.heap _
      rw [e49]
      exact ⟨by rw [hf], N0, rfl⟩
  · obtain ⟨T54, X54, e54, st54⟩ := getF X49 hx hZ hown (host := "") (Or.inl (hw _ (List.mem_of_getElem? (i := 16) rfl))) Via.refl e49 F_metres_a23 (g := (mkF m 13 #[.val (.ref a22), .val (.ref a23)] [(.ref a23)])) rfl rfl (hb hby d4_13)
    obtain ⟨T55, X55, e55, st55⟩ := getF X54 hx hZ hown (host := "") (Or.inl (hw _ (List.mem_of_getElem? (i := 16) rfl))) Via.refl e54 F_metres_a22 (g := (mkF m 17 #[.val (.ref a22), .val (.ref a23)] [(.ref a22), (.double z24)])) rfl rfl (hb hby d4_17)
    have S56 : ∀ t, Steps p.tables e below (T55.setTop (mkF m 21 #[.val (.ref a22), .val (.ref a23)] [(.int (cmpValue (FP.dcmp z24 z26) .l))])) t → Steps p.tables e below (s₁.setTop (entryFrame m #[(.ref a22), (.ref a23)] 2)) t := by
      intro t k
      refine S50 t ?_
      refine XS.ifNo X49.here hx rfl (hb hby d4_9) rfl ((if0 _ _).trans (flt hc52).1) ?_
      show Steps p.tables e below (T49.setTop (mkF m 12 #[.val (.ref a22), .val (.ref a23)] [])) _
      refine XS.aloadN X49.here hx rfl (hb hby d4_12) rfl rfl ?_
      show Steps p.tables e below (T49.setTop (mkF m 13 #[.val (.ref a22), .val (.ref a23)] [(.ref a23)])) _
      refine st54 _ ?_
      show Steps p.tables e below (T54.setTop (mkF m 16 #[.val (.ref a22), .val (.ref a23)] [(.double z24)])) _
      refine XS.aloadN X54.here hx rfl (hb hby d4_16) rfl rfl ?_
      show Steps p.tables e below (T54.setTop (mkF m 17 #[.val (.ref a22), .val (.ref a23)] [(.ref a22), (.double z24)])) _
      refine st55 _ ?_
      show Steps p.tables e below (T55.setTop (mkF m 20 #[.val (.ref a22), .val (.ref a23)] [(.double z26), (.double z24)])) _
      refine XS.dcmpS X55.here hx rfl (hb hby d4_20) rfl rfl ?_
      show Steps p.tables e below (T55.setTop (mkF m 21 #[.val (.ref a22), .val (.ref a23)] [(.int (cmpValue (FP.dcmp z24 z26) .l))])) _
      exact k
    obtain ⟨w57, hw57⟩ : ∃ z : Int32, z = (cmpValue (FP.dcmp z24 z26) .l) := ⟨_, rfl⟩
    rw [← hw57] at S56
    by_cases hc58 : w57 = (0 : Int32)
    · obtain ⟨T59, X59, e59, st59⟩ := getF X55 hx hZ hown (host := "") (Or.inl (hw _ (List.mem_of_getElem? (i := 14) rfl))) Via.refl e55 F_share_a23 (g := (mkF m 25 #[.val (.ref a22), .val (.ref a23)] [(.ref a23)])) rfl rfl (hb hby d4_25)
      obtain ⟨T60, X60, e60, st60⟩ := getF X59 hx hZ hown (host := "") (Or.inl (hw _ (List.mem_of_getElem? (i := 14) rfl))) Via.refl e59 F_share_a22 (g := (mkF m 29 #[.val (.ref a22), .val (.ref a23)] [(.ref a22), (.double z37)])) rfl rfl (hb hby d4_29)
      have S61 : ∀ t, Steps p.tables e below (T60.setTop (mkF m 33 #[.val (.ref a22), .val (.ref a23)] [(.int (cmpValue (FP.dcmp z37 z39) .g))])) t → Steps p.tables e below (s₁.setTop (entryFrame m #[(.ref a22), (.ref a23)] 2)) t := by
        intro t k
        refine S56 t ?_
        refine XS.ifNo X55.here hx rfl (hb hby d4_21) rfl ((if0 _ _).trans (teq hc58).2) ?_
        show Steps p.tables e below (T55.setTop (mkF m 24 #[.val (.ref a22), .val (.ref a23)] [])) _
        refine XS.aloadN X55.here hx rfl (hb hby d4_24) rfl rfl ?_
        show Steps p.tables e below (T55.setTop (mkF m 25 #[.val (.ref a22), .val (.ref a23)] [(.ref a23)])) _
        refine st59 _ ?_
        show Steps p.tables e below (T59.setTop (mkF m 28 #[.val (.ref a22), .val (.ref a23)] [(.double z37)])) _
        refine XS.aloadN X59.here hx rfl (hb hby d4_28) rfl rfl ?_
        show Steps p.tables e below (T59.setTop (mkF m 29 #[.val (.ref a22), .val (.ref a23)] [(.ref a22), (.double z37)])) _
        refine st60 _ ?_
        show Steps p.tables e below (T60.setTop (mkF m 32 #[.val (.ref a22), .val (.ref a23)] [(.double z39), (.double z37)])) _
        refine XS.dcmpS X60.here hx rfl (hb hby d4_32) rfl rfl ?_
        show Steps p.tables e below (T60.setTop (mkF m 33 #[.val (.ref a22), .val (.ref a23)] [(.int (cmpValue (FP.dcmp z37 z39) .g))])) _
        exact k
      obtain ⟨w62, hw62⟩ : ∃ z : Int32, z = (cmpValue (FP.dcmp z37 z39) .g) := ⟨_, rfl⟩
      rw [← hw62] at S61
      by_cases hc64 : w62 < (0 : Int32)
      · have S65 : ∀ t, Steps p.tables e below (T60.setTop (mkF m 41 #[.val (.ref a22), .val (.ref a23)] [(.ref a23)])) t → Steps p.tables e below (s₁.setTop (entryFrame m #[(.ref a22), (.ref a23)] 2)) t := by
          intro t k
          refine S61 t ?_
          refine XS.ifNo X60.here hx rfl (hb hby d4_33) rfl ((if0 _ _).trans (tlt hc64).2.1) ?_
          show Steps p.tables e below (T60.setTop (mkF m 36 #[.val (.ref a22), .val (.ref a23)] [])) _
          refine XS.aloadN X60.here hx rfl (hb hby d4_36) rfl rfl ?_
          show Steps p.tables e below (T60.setTop (mkF m 37 #[.val (.ref a22), .val (.ref a23)] [(.ref a23)])) _
          refine XS.goto X60.here hx rfl (pc0 := 37) (pc' := 41) rfl (hb hby d4_37) (by decide) (by decide) ?_
          show Steps p.tables e below (T60.setTop (mkF m 41 #[.val (.ref a22), .val (.ref a23)] [(.ref a23)])) _
          exact k
        have hf : f4 a22 a23 z24 z26 z37 z39 = a23 := by
          unfold f4
          subst hw51 hw57 hw62
          rw [if_neg hc52, if_pos hc58, if_pos hc64]
        obtain ⟨fs, hr, hrun, hended, hW, hsame⟩ := X60.leave (v := some (.ref a23)) (fun h => by rw [Bd.returns] at h; cases h)
        refine ⟨_, _, S65 _ ?_, hrun, hended, _, _, rfl, ?_, ⟨_, rfl⟩, hW, hsame.mono (by decide) (by decide)⟩
        · exact retOut X60 hx Bd.returns rfl (Or.inr (Or.inr (Or.inr (Or.inr ⟨rfl, rfl, rfl⟩)))) (hb hby d4_41) hr
        · show Q4 Z a22 a23 z24 z26 z37 z39 h0 n0 _ T60.heap _
          rw [e60]
          exact ⟨by rw [hf], N0, rfl⟩
      · have S66 : ∀ t, Steps p.tables e below (T60.setTop (mkF m 41 #[.val (.ref a22), .val (.ref a23)] [(.ref a22)])) t → Steps p.tables e below (s₁.setTop (entryFrame m #[(.ref a22), (.ref a23)] 2)) t := by
          intro t k
          refine S61 t ?_
          refine XS.ifYes X60.here hx rfl (pc0 := 33) (pc' := 40) rfl (hb hby d4_33) rfl ((if0 _ _).trans (flt hc64).2.1) (by decide) (by decide) ?_
          show Steps p.tables e below (T60.setTop (mkF m 40 #[.val (.ref a22), .val (.ref a23)] [])) _
          refine XS.aloadN X60.here hx rfl (hb hby d4_40) rfl rfl ?_
          show Steps p.tables e below (T60.setTop (mkF m 41 #[.val (.ref a22), .val (.ref a23)] [(.ref a22)])) _
          exact k
        have hf : f4 a22 a23 z24 z26 z37 z39 = a22 := by
          unfold f4
          subst hw51 hw57 hw62
          rw [if_neg hc52, if_pos hc58, if_neg hc64]
        obtain ⟨fs, hr, hrun, hended, hW, hsame⟩ := X60.leave (v := some (.ref a22)) (fun h => by rw [Bd.returns] at h; cases h)
        refine ⟨_, _, S66 _ ?_, hrun, hended, _, _, rfl, ?_, ⟨_, rfl⟩, hW, hsame.mono (by decide) (by decide)⟩
        · exact retOut X60 hx Bd.returns rfl (Or.inr (Or.inr (Or.inr (Or.inr ⟨rfl, rfl, rfl⟩)))) (hb hby d4_41) hr
        · show Q4 Z a22 a23 z24 z26 z37 z39 h0 n0 _ T60.heap _
          rw [e60]
          exact ⟨by rw [hf], N0, rfl⟩
    · have S67 : ∀ t, Steps p.tables e below (T55.setTop (mkF m 41 #[.val (.ref a22), .val (.ref a23)] [(.ref a22)])) t → Steps p.tables e below (s₁.setTop (entryFrame m #[(.ref a22), (.ref a23)] 2)) t := by
        intro t k
        refine S56 t ?_
        refine XS.ifYes X55.here hx rfl (pc0 := 21) (pc' := 40) rfl (hb hby d4_21) rfl ((if0 _ _).trans (feq hc58).2) (by decide) (by decide) ?_
        show Steps p.tables e below (T55.setTop (mkF m 40 #[.val (.ref a22), .val (.ref a23)] [])) _
        refine XS.aloadN X55.here hx rfl (hb hby d4_40) rfl rfl ?_
        show Steps p.tables e below (T55.setTop (mkF m 41 #[.val (.ref a22), .val (.ref a23)] [(.ref a22)])) _
        exact k
      have hf : f4 a22 a23 z24 z26 z37 z39 = a22 := by
        unfold f4
        subst hw51 hw57
        rw [if_neg hc52, if_neg hc58]
      obtain ⟨fs, hr, hrun, hended, hW, hsame⟩ := X55.leave (v := some (.ref a22)) (fun h => by rw [Bd.returns] at h; cases h)
      refine ⟨_, _, S67 _ ?_, hrun, hended, _, _, rfl, ?_, ⟨_, rfl⟩, hW, hsame.mono (by decide) (by decide)⟩
      · exact retOut X55 hx Bd.returns rfl (Or.inr (Or.inr (Or.inr (Or.inr ⟨rfl, rfl, rfl⟩)))) (hb hby d4_41) hr
      · show Q4 Z a22 a23 z24 z26 z37 z39 h0 n0 _ T55.heap _
        rw [e55]
        exact ⟨by rw [hf], N0, rfl⟩
def f5 (p68 : Int32) (p69 : Int32) : Int64 := ((p68.toInt64 * (4294967296 : Int64)) + (p69.toInt64 - (-2147483648 : Int64)))
theorem d5_0 : decode method_2_code 0 = .ok (.iload_n 0, 1) := by decide +kernel
theorem d5_1 : decode method_2_code 1 = .ok (.i2l, 1) := by decide +kernel
theorem d5_2 : decode method_2_code 2 = .ok (.ldc2_w 7, 3) := by decide +kernel
theorem d5_5 : decode method_2_code 5 = .ok (.lmul, 1) := by decide +kernel
theorem d5_6 : decode method_2_code 6 = .ok (.iload_n 1, 1) := by decide +kernel
theorem d5_7 : decode method_2_code 7 = .ok (.i2l, 1) := by decide +kernel
theorem d5_8 : decode method_2_code 8 = .ok (.ldc2_w 11, 3) := by decide +kernel
theorem d5_11 : decode method_2_code 11 = .ok (.lsub, 1) := by decide +kernel
theorem d5_12 : decode method_2_code 12 = .ok (.ladd, 1) := by decide +kernel
theorem d5_13 : decode method_2_code 13 = .ok (.lreturn, 1) := by decide +kernel
theorem ef_5 (m : MethodId) (x0 : Int32) (x1 : Int32) : entryFrame m #[(.int x0), (.int x1)] 2 = mkF m 0 #[.val (.int x0), .val (.int x1)] [] := by first | (simp [entryFrame, mkF, argsToLocals, Value.category]; done) | rfl
theorem pn_2 : plainName "com/example/cinderbench/cinderbench/core/geo/NearestOrNearerPinLaw" = true := by first | (simp [plainName, overriddenIn]; done) | decide +kernel
def Q5 (Z : State) (p68 : Int32) (p69 : Int32) (h0 : Heap) (n0 : Nat) (v : Option Value) (h : Heap) (L : List Loc) : Prop := v = some (.long (f5 p68 p69)) ∧ Fr n0 L ∧ h = h0
set_option maxRecDepth 65536 in
set_option maxHeartbeats 40000000 in
theorem rm5 (l : Launch) (Z : State) (a0 : Array Value) (hw : ∀ d ∈ tables_1, d.before a0 Z = true) (ws : List Jvm.Cond) (p68 : Int32) (p69 : Int32) (h0 : Heap) (n0 : Nat) (Z0 : n0 ≤ h0.size)  :
    MetFree l (⟨"com/example/cinderbench/cinderbench/core/geo/NearestOrNearerPinLaw", "key", "(II)J"⟩ : MethodName) (head1 (Jvm.Cond.code (⟨"com/example/cinderbench/cinderbench/core/geo/NearestOrNearerPinLaw", "key", "(II)J"⟩ : MethodName) method_2_code 2 (some .long) :: ws) ({ frames := 0, cells := 0, slots := 0, locals := 0 } : Room)) (fun a U => a = #[(.int p68), (.int p69)] ∧ Z.Warmed39 U.vm ∧ U.heap = h0) (fun _ _ _ _ _ => True) (fun _ U o U' => ∃ v L, o = .returned v ∧ Q5 Z p68 p69 h0 n0 v U'.heap L ∧ FrameEnd U o U' L ({ frames := 0, cells := 0, slots := 0, locals := 0 } : Room).cells ({ frames := 0, cells := 0, slots := 0, locals := 0 } : Room).slots) := by
  refine MetFree.of_bodySF (plainFor_of_name pn_2) hisR ?_
  intro p e s m args below meth c s₁ Bd hml0 hP hK
  obtain ⟨rfl, hZ, hh⟩ := hP
  have hx := Bd.exec
  have hby := Bd.bytes
  have hml : c.maxLocals = 2 := hml0
  have hown : s.vm.findClass "com/example/cinderbench/cinderbench/core/geo/NearestOrNearerPinLaw" = some m.cls := findClass_of_methodNamed Bd.named
  have hnm := (name_of_methodNamed Bd.named Bd.method).1
  have X0 : Stand p l e ({ frames := 0, cells := 0, slots := 0, locals := 0 } : Room) s m #[(.int p68), (.int p69)] below meth c s₁ [] 0 0 := Stand.of_body Bd
  have e0 : s₁.heap = h0 := by rw [← hh, Bd.state]; rfl
  have N0 := Fr.nil n0
  have pre0 : ∀ t, Steps p.tables e below (s₁.setTop (mkF m 0 #[.val (.int p68), .val (.int p69)] [])) t → Steps p.tables e below (s₁.setTop (entryFrame m #[(.int p68), (.int p69)] 2)) t := fun t k => castTop (ef_5 m p68 p69) k
  have S72 : ∀ t, Steps p.tables e below (s₁.setTop (mkF m 13 #[.val (.int p68), .val (.int p69)] [(.long ((p68.toInt64 * (4294967296 : Int64)) + (p69.toInt64 - (-2147483648 : Int64))))])) t → Steps p.tables e below (s₁.setTop (entryFrame m #[(.int p68), (.int p69)] 2)) t := by
    intro t k
    refine pre0 t ?_
    refine XS.iloadN X0.here hx rfl (hb hby d5_0) rfl ?_
    show Steps p.tables e below (s₁.setTop (mkF m 1 #[.val (.int p68), .val (.int p69)] [(.int p68)])) _
    refine XS.i2l X0.here hx rfl (hb hby d5_1) rfl ?_
    show Steps p.tables e below (s₁.setTop (mkF m 2 #[.val (.int p68), .val (.int p69)] [(.long p68.toInt64)])) _
    refine X0.ldc2Long hx hown (mvT hZ (hw _ (List.mem_of_getElem? (i := 27) rfl))) (g := (mkF m 2 #[.val (.int p68), .val (.int p69)] [(.long p68.toInt64)])) rfl (hb hby d5_2) _ ?_
    show Steps p.tables e below (s₁.setTop (mkF m 5 #[.val (.int p68), .val (.int p69)] [(.long (4294967296 : Int64)), (.long p68.toInt64)])) _
    refine XS.lmul X0.here hx rfl (hb hby d5_5) rfl ?_
    show Steps p.tables e below (s₁.setTop (mkF m 6 #[.val (.int p68), .val (.int p69)] [(.long (p68.toInt64 * (4294967296 : Int64)))])) _
    refine XS.iloadN X0.here hx rfl (hb hby d5_6) rfl ?_
    show Steps p.tables e below (s₁.setTop (mkF m 7 #[.val (.int p68), .val (.int p69)] [(.int p69), (.long (p68.toInt64 * (4294967296 : Int64)))])) _
    refine XS.i2l X0.here hx rfl (hb hby d5_7) rfl ?_
    show Steps p.tables e below (s₁.setTop (mkF m 8 #[.val (.int p68), .val (.int p69)] [(.long p69.toInt64), (.long (p68.toInt64 * (4294967296 : Int64)))])) _
    refine X0.ldc2Long hx hown (mvT hZ (hw _ (List.mem_of_getElem? (i := 28) rfl))) (g := (mkF m 8 #[.val (.int p68), .val (.int p69)] [(.long p69.toInt64), (.long (p68.toInt64 * (4294967296 : Int64)))])) rfl (hb hby d5_8) _ ?_
    show Steps p.tables e below (s₁.setTop (mkF m 11 #[.val (.int p68), .val (.int p69)] [(.long (-2147483648 : Int64)), (.long p69.toInt64), (.long (p68.toInt64 * (4294967296 : Int64)))])) _
    refine XS.lsub X0.here hx rfl (hb hby d5_11) rfl ?_
    show Steps p.tables e below (s₁.setTop (mkF m 12 #[.val (.int p68), .val (.int p69)] [(.long (p69.toInt64 - (-2147483648 : Int64))), (.long (p68.toInt64 * (4294967296 : Int64)))])) _
    refine XS.ladd X0.here hx rfl (hb hby d5_12) rfl ?_
    show Steps p.tables e below (s₁.setTop (mkF m 13 #[.val (.int p68), .val (.int p69)] [(.long ((p68.toInt64 * (4294967296 : Int64)) + (p69.toInt64 - (-2147483648 : Int64))))])) _
    exact k
  obtain ⟨w73, hw73⟩ : ∃ z : Int64, z = ((p68.toInt64 * (4294967296 : Int64)) + (p69.toInt64 - (-2147483648 : Int64))) := ⟨_, rfl⟩
  rw [← hw73] at S72
  have hf : f5 p68 p69 = w73 := by
    unfold f5
    subst hw73
    rfl
  obtain ⟨fs, hr, hrun, hended, hW, hsame⟩ := X0.leave (v := some (.long w73)) (fun h => by rw [Bd.returns] at h; cases h)
  refine ⟨_, _, S72 _ ?_, hrun, hended, _, _, rfl, ?_, ⟨_, rfl⟩, hW, hsame.mono (by decide) (by decide)⟩
  · exact retOut X0 hx Bd.returns rfl (Or.inr (Or.inl ⟨rfl, rfl, _, rfl⟩)) (hb hby d5_13) hr
  · show Q5 Z p68 p69 h0 n0 _ s₁.heap _
    rw [e0]
    exact ⟨by rw [hf], N0, rfl⟩
theorem own_key (x y : Int32) : (f5 x y).toInt = x.toInt * 4294967296 + (y.toInt + 2147483648) := by
  unfold f5
  have A1 := x.toInt_lt
  have A2 := x.le_toInt
  have B1 := y.toInt_lt
  have B2 := y.le_toInt
  have h1 : (4294967296 : Int64).toInt = 4294967296 := by decide
  have h2 : (-2147483648 : Int64).toInt = -2147483648 := by decide
  have e1 : (x.toInt64 * (4294967296 : Int64)).toInt = x.toInt * 4294967296 := by
    rw [Jvm.Kit.i64_mul] <;> rw [h1, Int32.toInt_toInt64] <;> omega
  have e2 : (y.toInt64 - (-2147483648 : Int64)).toInt = y.toInt + 2147483648 := by
    rw [Jvm.Kit.i64_sub] <;> rw [h2, Int32.toInt_toInt64] <;> omega
  rw [Jvm.Kit.i64_add] <;> rw [e1, e2] <;> omega
theorem pd_1 : parseMethodDescriptor "(DD)V" = some ⟨[.double, .double], none⟩ := by decide +kernel
theorem pd_2 : parseMethodDescriptor "(Lcom/example/cinderbench/cinderbench/core/geo/Rings$Nearest;)Lcom/example/cinderbench/cinderbench/core/geo/Rings$Nearest;" = some ⟨[(.object "com/example/cinderbench/cinderbench/core/geo/Rings$Nearest")], some (.object "com/example/cinderbench/cinderbench/core/geo/Rings$Nearest")⟩ := by decide +kernel
theorem pd_3 : parseMethodDescriptor "(II)J" = some ⟨[.int, .int], some .long⟩ := by decide +kernel
set_option maxRecDepth 65536 in
theorem own_ref1 (m1 : Int32) (s1 : Int32) (m2 : Int32) (s2 : Int32) (fl : Int32) (o0 : Addr) (o1 : Addr) (v0 : Int32) (hv0 : v0 = (fl &&& (1 : Int32))) (v1 : Int32) (hv1 : v1 = (if v0 = (0 : Int32) then m2 else m1)) (v2 : Int32) (hv2 : v2 = (fl &&& (2 : Int32))) (v3 : Int32) (hv3 : v3 = (if v2 = (0 : Int32) then s2 else s1)) (v4 : Int32) (hv4 : v4 = (lcmpW (f5 v1 v3) (f5 m1 s1))) (v5 : Int32) (hv5 : v5 = (if v4 < (0 : Int32) then (1 : Int32) else (0 : Int32))) (hp0 : v5 = (0 : Int32)) : (f4 o0 o1 (FP.i2d v1) (FP.i2d m1) (FP.i2d v3) (FP.i2d s1)) = o0 := by
  have A1 := m1.toInt_lt
  have A2 := m1.le_toInt
  have B1 := v1.toInt_lt
  have B2 := v1.le_toInt
  have C1 := s1.toInt_lt
  have C2 := s1.le_toInt
  have D1 := v3.toInt_lt
  have D2 := v3.le_toInt
  have L := own_lc (f5 v1 v3) (f5 m1 s1)
  rw [own_key, own_key, ← hv4] at L
  have c1 := own_cmp_i v1 m1 .g
  have c2 := own_cmp_i v1 m1 .l
  have c3 := own_cmp_i v3 s1 .g
  
  have h5 : ¬ (v1.toInt * 4294967296 + (v3.toInt + 2147483648) < m1.toInt * 4294967296 + (s1.toInt + 2147483648)) := fun h => by
    rw [if_pos h] at L
    rw [hp0, L] at hv5
    exact absurd hv5 (by decide)
  unfold f4
  by_cases h1 : v1.toInt < m1.toInt
  · omega
  · rw [if_neg h1] at c1 c2
    by_cases h2 : v1.toInt = m1.toInt
    · rw [if_pos h2] at c1 c2
      rw [c1, c2, if_neg (by decide), if_pos (by decide), if_neg]
      rw [c3, if_neg (by omega)]
      by_cases h3 : v3.toInt = s1.toInt
      · rw [if_pos h3]; decide
      · rw [if_neg h3]; decide
    · rw [if_neg h2] at c1 c2
      rw [c1, c2, if_neg (by decide), if_neg (by decide)]
set_option maxRecDepth 65536 in
theorem own_ref2 (m1 : Int32) (s1 : Int32) (m2 : Int32) (s2 : Int32) (fl : Int32) (o0 : Addr) (o1 : Addr) (v0 : Int32) (hv0 : v0 = (fl &&& (1 : Int32))) (v1 : Int32) (hv1 : v1 = (if v0 = (0 : Int32) then m2 else m1)) (v2 : Int32) (hv2 : v2 = (fl &&& (2 : Int32))) (v3 : Int32) (hv3 : v3 = (if v2 = (0 : Int32) then s2 else s1)) (v4 : Int32) (hv4 : v4 = (lcmpW (f5 v1 v3) (f5 m1 s1))) (v5 : Int32) (hv5 : v5 = (if v4 < (0 : Int32) then (1 : Int32) else (0 : Int32))) (hp0 : ¬ (v5 = (0 : Int32))) : (f4 o0 o1 (FP.i2d v1) (FP.i2d m1) (FP.i2d v3) (FP.i2d s1)) = o1 := by
  have A1 := m1.toInt_lt
  have A2 := m1.le_toInt
  have B1 := v1.toInt_lt
  have B2 := v1.le_toInt
  have C1 := s1.toInt_lt
  have C2 := s1.le_toInt
  have D1 := v3.toInt_lt
  have D2 := v3.le_toInt
  have L := own_lc (f5 v1 v3) (f5 m1 s1)
  rw [own_key, own_key, ← hv4] at L
  have c1 := own_cmp_i v1 m1 .g
  have c2 := own_cmp_i v1 m1 .l
  have c3 := own_cmp_i v3 s1 .g
  
  have h5 : v1.toInt * 4294967296 + (v3.toInt + 2147483648) < m1.toInt * 4294967296 + (s1.toInt + 2147483648) := by
    by_cases h : v1.toInt * 4294967296 + (v3.toInt + 2147483648) < m1.toInt * 4294967296 + (s1.toInt + 2147483648)
    · exact h
    · exfalso
      rw [if_neg h] at L
      apply hp0
      rw [hv5, L]
      by_cases h' : v1.toInt * 4294967296 + (v3.toInt + 2147483648) = m1.toInt * 4294967296 + (s1.toInt + 2147483648)
      · rw [if_pos h']; decide
      · rw [if_neg h']; decide
  unfold f4
  by_cases h1 : v1.toInt < m1.toInt
  · rw [if_pos h1] at c1
    rw [c1, if_pos (by decide)]
  · rw [if_neg h1] at c1 c2
    have h2 : v1.toInt = m1.toInt := by omega
    rw [if_pos h2] at c1 c2
    rw [c1, c2, if_neg (by decide), if_pos (by decide), if_pos]
    rw [c3, if_pos (by omega)]; decide
theorem ef_0 (m : MethodId) (x0 : Int32) (x1 : Int32) (x2 : Int32) (x3 : Int32) (x4 : Int32) : entryFrame m #[(.int x0), (.int x1), (.int x2), (.int x3), (.int x4)] maxLocals = mkF m 0 #[.val (.int x0), .val (.int x1), .val (.int x2), .val (.int x3), .val (.int x4), .unset, .unset, .unset, .unset, .unset, .unset] [] := by first | (simp [entryFrame, mkF, argsToLocals, Value.category, maxLocals]; done) | rfl
def Q0 (Z : State) (m1 : Int32) (s1 : Int32) (m2 : Int32) (s2 : Int32) (fl : Int32) (h0 : Heap) (n0 : Nat) (v : Option Value) (h : Heap) (L : List Loc) : Prop := v = some (.int 1) ∧ Fr n0 L
set_option maxRecDepth 65536 in
set_option maxHeartbeats 40000000 in
theorem rm0 (l : Launch) (Z : State) (a0 : Array Value) (hw : ∀ d ∈ tables_1, d.before a0 Z = true) (ws : List Jvm.Cond) (m1 : Int32) (s1 : Int32) (m2 : Int32) (s2 : Int32) (fl : Int32) (h0 : Heap) (n0 : Nat) (Z0 : n0 ≤ h0.size)  :
    MetFree l x (head1 (Jvm.Cond.code x code maxLocals ret :: ws) room_1) (fun a U => a = #[(.int m1), (.int s1), (.int m2), (.int s2), (.int fl)] ∧ Z.Warmed39 U.vm ∧ U.heap = h0) (fun _ _ _ _ _ => True) (fun _ U o U' => ∃ v L, o = .returned v ∧ Q0 Z m1 s1 m2 s2 fl h0 n0 v U'.heap L ∧ FrameEnd U o U' L room_1.cells room_1.slots) := by
  refine MetFree.of_bodySF (plainFor_of_name pn_2) hisR ?_
  intro p e s m args below meth c s₁ Bd hml0 hP hK
  obtain ⟨rfl, hZ, hh⟩ := hP
  have hx := Bd.exec
  have hby := Bd.bytes
  have hml : c.maxLocals = 11 := hml0
  have hown : s.vm.findClass "com/example/cinderbench/cinderbench/core/geo/NearestOrNearerPinLaw" = some m.cls := findClass_of_methodNamed Bd.named
  have hnm := (name_of_methodNamed Bd.named Bd.method).1
  have X0 : Stand p l e room_1 s m #[(.int m1), (.int s1), (.int m2), (.int s2), (.int fl)] below meth c s₁ [] 0 0 := Stand.of_body Bd
  have e0 : s₁.heap = h0 := by rw [← hh, Bd.state]; rfl
  have N0 := Fr.nil n0
  have pre0 : ∀ t, Steps p.tables e below (s₁.setTop (mkF m 0 #[.val (.int m1), .val (.int s1), .val (.int m2), .val (.int s2), .val (.int fl), .unset, .unset, .unset, .unset, .unset, .unset] [])) t → Steps p.tables e below (s₁.setTop (entryFrame m #[(.int m1), (.int s1), (.int m2), (.int s2), (.int fl)] maxLocals)) t := fun t k => castTop (ef_0 m m1 s1 m2 s2 fl) k
  have S74 : ∀ t, Steps p.tables e below (s₁.setTop (mkF m 4 #[.val (.int m1), .val (.int s1), .val (.int m2), .val (.int s2), .val (.int fl), .unset, .unset, .unset, .unset, .unset, .unset] [(.int (fl &&& (1 : Int32)))])) t → Steps p.tables e below (s₁.setTop (entryFrame m #[(.int m1), (.int s1), (.int m2), (.int s2), (.int fl)] maxLocals)) t := by
    intro t k
    refine pre0 t ?_
    refine XS.iload X0.here hx rfl (hb hby at_0) rfl ?_
    show Steps p.tables e below (s₁.setTop (mkF m 2 #[.val (.int m1), .val (.int s1), .val (.int m2), .val (.int s2), .val (.int fl), .unset, .unset, .unset, .unset, .unset, .unset] [(.int fl)])) _
    refine XS.iconst X0.here hx rfl (hb hby at_2) ?_
    show Steps p.tables e below (s₁.setTop (mkF m 3 #[.val (.int m1), .val (.int s1), .val (.int m2), .val (.int s2), .val (.int fl), .unset, .unset, .unset, .unset, .unset, .unset] [(.int (1 : Int32)), (.int fl)])) _
    refine XS.iand X0.here hx rfl (hb hby at_3) rfl ?_
    show Steps p.tables e below (s₁.setTop (mkF m 4 #[.val (.int m1), .val (.int s1), .val (.int m2), .val (.int s2), .val (.int fl), .unset, .unset, .unset, .unset, .unset, .unset] [(.int (fl &&& (1 : Int32)))])) _
    exact k
  obtain ⟨w75, hw75⟩ : ∃ z : Int32, z = (fl &&& (1 : Int32)) := ⟨_, rfl⟩
  rw [← hw75] at S74
  have S77 : ∀ t, Steps p.tables e below (s₁.setTop (mkF m 12 #[.val (.int m1), .val (.int s1), .val (.int m2), .val (.int s2), .val (.int fl), .unset, .unset, .unset, .unset, .unset, .unset] [(.int (if w75 = (0 : Int32) then m2 else m1))])) t → Steps p.tables e below (s₁.setTop (entryFrame m #[(.int m1), (.int s1), (.int m2), (.int s2), (.int fl)] maxLocals)) t := by
    intro t k
    refine S74 t ?_
    by_cases hc76 : w75 = (0 : Int32)
    · rw [if_pos hc76] at k
      refine XS.ifYes X0.here hx rfl (pc0 := 4) (pc' := 11) rfl (hb hby at_4) rfl ((if0 _ _).trans (teq hc76).1) (by decide) (by decide) ?_
      show Steps p.tables e below (s₁.setTop (mkF m 11 #[.val (.int m1), .val (.int s1), .val (.int m2), .val (.int s2), .val (.int fl), .unset, .unset, .unset, .unset, .unset, .unset] [])) _
      refine XS.iloadN X0.here hx rfl (hb hby at_11) rfl ?_
      show Steps p.tables e below (s₁.setTop (mkF m 12 #[.val (.int m1), .val (.int s1), .val (.int m2), .val (.int s2), .val (.int fl), .unset, .unset, .unset, .unset, .unset, .unset] [(.int m2)])) _
      exact k
    · rw [if_neg hc76] at k
      refine XS.ifNo X0.here hx rfl (hb hby at_4) rfl ((if0 _ _).trans (feq hc76).1) ?_
      show Steps p.tables e below (s₁.setTop (mkF m 7 #[.val (.int m1), .val (.int s1), .val (.int m2), .val (.int s2), .val (.int fl), .unset, .unset, .unset, .unset, .unset, .unset] [])) _
      refine XS.iloadN X0.here hx rfl (hb hby at_7) rfl ?_
      show Steps p.tables e below (s₁.setTop (mkF m 8 #[.val (.int m1), .val (.int s1), .val (.int m2), .val (.int s2), .val (.int fl), .unset, .unset, .unset, .unset, .unset, .unset] [(.int m1)])) _
      refine XS.goto X0.here hx rfl (pc0 := 8) (pc' := 12) rfl (hb hby at_8) (by decide) (by decide) ?_
      show Steps p.tables e below (s₁.setTop (mkF m 12 #[.val (.int m1), .val (.int s1), .val (.int m2), .val (.int s2), .val (.int fl), .unset, .unset, .unset, .unset, .unset, .unset] [(.int m1)])) _
      exact k
  obtain ⟨w78, hw78⟩ : ∃ z : Int32, z = (if w75 = (0 : Int32) then m2 else m1) := ⟨_, rfl⟩
  rw [← hw78] at S77
  have S79 : ∀ t, Steps p.tables e below (s₁.setTop (mkF m 18 #[.val (.int m1), .val (.int s1), .val (.int m2), .val (.int s2), .val (.int fl), .val (.int w78), .unset, .unset, .unset, .unset, .unset] [(.int (fl &&& (2 : Int32)))])) t → Steps p.tables e below (s₁.setTop (entryFrame m #[(.int m1), (.int s1), (.int m2), (.int s2), (.int fl)] maxLocals)) t := by
    intro t k
    refine S77 t ?_
    refine XS.istore X0.here hx rfl (hb hby at_12) rfl (l' := #[.val (.int m1), .val (.int s1), .val (.int m2), .val (.int s2), .val (.int fl), .val (.int w78), .unset, .unset, .unset, .unset, .unset]) rfl ?_
    show Steps p.tables e below (s₁.setTop (mkF m 14 #[.val (.int m1), .val (.int s1), .val (.int m2), .val (.int s2), .val (.int fl), .val (.int w78), .unset, .unset, .unset, .unset, .unset] [])) _
    refine XS.iload X0.here hx rfl (hb hby at_14) rfl ?_
    show Steps p.tables e below (s₁.setTop (mkF m 16 #[.val (.int m1), .val (.int s1), .val (.int m2), .val (.int s2), .val (.int fl), .val (.int w78), .unset, .unset, .unset, .unset, .unset] [(.int fl)])) _
    refine XS.iconst X0.here hx rfl (hb hby at_16) ?_
    show Steps p.tables e below (s₁.setTop (mkF m 17 #[.val (.int m1), .val (.int s1), .val (.int m2), .val (.int s2), .val (.int fl), .val (.int w78), .unset, .unset, .unset, .unset, .unset] [(.int (2 : Int32)), (.int fl)])) _
    refine XS.iand X0.here hx rfl (hb hby at_17) rfl ?_
    show Steps p.tables e below (s₁.setTop (mkF m 18 #[.val (.int m1), .val (.int s1), .val (.int m2), .val (.int s2), .val (.int fl), .val (.int w78), .unset, .unset, .unset, .unset, .unset] [(.int (fl &&& (2 : Int32)))])) _
    exact k
  obtain ⟨w80, hw80⟩ : ∃ z : Int32, z = (fl &&& (2 : Int32)) := ⟨_, rfl⟩
  rw [← hw80] at S79
  have S82 : ∀ t, Steps p.tables e below (s₁.setTop (mkF m 26 #[.val (.int m1), .val (.int s1), .val (.int m2), .val (.int s2), .val (.int fl), .val (.int w78), .unset, .unset, .unset, .unset, .unset] [(.int (if w80 = (0 : Int32) then s2 else s1))])) t → Steps p.tables e below (s₁.setTop (entryFrame m #[(.int m1), (.int s1), (.int m2), (.int s2), (.int fl)] maxLocals)) t := by
    intro t k
    refine S79 t ?_
    by_cases hc81 : w80 = (0 : Int32)
    · rw [if_pos hc81] at k
      refine XS.ifYes X0.here hx rfl (pc0 := 18) (pc' := 25) rfl (hb hby at_18) rfl ((if0 _ _).trans (teq hc81).1) (by decide) (by decide) ?_
      show Steps p.tables e below (s₁.setTop (mkF m 25 #[.val (.int m1), .val (.int s1), .val (.int m2), .val (.int s2), .val (.int fl), .val (.int w78), .unset, .unset, .unset, .unset, .unset] [])) _
      refine XS.iloadN X0.here hx rfl (hb hby at_25) rfl ?_
      show Steps p.tables e below (s₁.setTop (mkF m 26 #[.val (.int m1), .val (.int s1), .val (.int m2), .val (.int s2), .val (.int fl), .val (.int w78), .unset, .unset, .unset, .unset, .unset] [(.int s2)])) _
      exact k
    · rw [if_neg hc81] at k
      refine XS.ifNo X0.here hx rfl (hb hby at_18) rfl ((if0 _ _).trans (feq hc81).1) ?_
      show Steps p.tables e below (s₁.setTop (mkF m 21 #[.val (.int m1), .val (.int s1), .val (.int m2), .val (.int s2), .val (.int fl), .val (.int w78), .unset, .unset, .unset, .unset, .unset] [])) _
      refine XS.iloadN X0.here hx rfl (hb hby at_21) rfl ?_
      show Steps p.tables e below (s₁.setTop (mkF m 22 #[.val (.int m1), .val (.int s1), .val (.int m2), .val (.int s2), .val (.int fl), .val (.int w78), .unset, .unset, .unset, .unset, .unset] [(.int s1)])) _
      refine XS.goto X0.here hx rfl (pc0 := 22) (pc' := 26) rfl (hb hby at_22) (by decide) (by decide) ?_
      show Steps p.tables e below (s₁.setTop (mkF m 26 #[.val (.int m1), .val (.int s1), .val (.int m2), .val (.int s2), .val (.int fl), .val (.int w78), .unset, .unset, .unset, .unset, .unset] [(.int s1)])) _
      exact k
  obtain ⟨w83, hw83⟩ : ∃ z : Int32, z = (if w80 = (0 : Int32) then s2 else s1) := ⟨_, rfl⟩
  rw [← hw83] at S82
  obtain ⟨T84, h84, X84, e84, E84, A84, D84, -, st84⟩ := newO X0 hx hZ hown (hw _ (List.mem_of_getElem? (i := 0) rfl)) (hw _ (List.mem_of_getElem? (i := 1) rfl)) (hw _ (List.mem_of_getElem? (i := 2) rfl)) e0 (g := (mkF m 28 #[.val (.int m1), .val (.int s1), .val (.int m2), .val (.int s2), .val (.int fl), .val (.int w78), .val (.int w83), .unset, .unset, .unset, .unset] [])) rfl (hb hby at_28) (by decide) (by decide)
  obtain ⟨b84, g84⟩ : ∃ z, z = h0.size := ⟨_, rfl⟩
  rw [← g84] at A84 D84 st84
  have gg84 : n0 ≤ b84 := Nat.le_trans Z0 (Nat.le_of_eq g84.symm)
  have sz84 : h0.size ≤ b84 := Nat.le_trans (Keep.refl h0 []).1 (Nat.le_of_eq g84.symm)
  have K85 : Keep h0 h84 [] := (Keep.refl h0 []).ext E84
  have Z86 : n0 ≤ h84.size := Nat.le_trans Z0 E84.1
  have f87 : Fld Z h84 b84 "com/example/cinderbench/cinderbench/core/geo/Rings$Nearest" "share" "D" (.double (0 : UInt64)) := D84 (Or.inr (hw _ (List.mem_of_getElem? (i := 15) rfl))) (ty := .double) (by decide)
  have f88 : Fld Z h84 b84 "com/example/cinderbench/cinderbench/core/geo/Rings$Nearest" "metres" "D" (.double (0 : UInt64)) := D84 (Or.inr (hw _ (List.mem_of_getElem? (i := 17) rfl))) (ty := .double) (by decide)
  obtain ⟨_, _, ⟨T89, L89, k89, n89⟩, -, X89, ⟨Lc89, hQ89, l89, y89, z89⟩, st89⟩ := X84.specialBack hx (y := (⟨"com/example/cinderbench/cinderbench/core/geo/Rings$Nearest", "<init>", "(DD)V"⟩ : MethodName)) rfl hown (mvT hZ (hw _ (List.mem_of_getElem? (i := 3) rfl))) (mvT hZ (hw _ (List.mem_of_getElem? (i := 4) rfl))) (mvT hZ (hw _ (List.mem_of_getElem? (i := 5) rfl))) (by decide) (backOf (W := 1) (rm1 l Z a0 hw [] b84 (FP.i2d s1) (FP.i2d m1) h84 n0 Z86 A84 f87 f88 gg84) hZ (hw _ (List.mem_of_getElem? (i := 5) rfl)) (hw _ (List.mem_of_getElem? (i := 2) rfl)) (by decide) (by decide)) (g := (mkF m 36 #[.val (.int m1), .val (.int s1), .val (.int m2), .val (.int s2), .val (.int fl), .val (.int w78), .val (.int w83), .unset, .unset, .unset, .unset] [(.double (FP.i2d m1)), (.double (FP.i2d s1)), (.ref b84), (.ref b84)])) rfl (by rw [hml]; rfl) (Steps.refl _) (a := b84) (argsL := [(.double (FP.i2d s1)), (.double (FP.i2d m1))]) (rest := [(.ref b84)]) (lenOf pd_1 rfl) rfl (by show 2 * 0 + _ ≤ _; exact Nat.le_of_eq rfl) (hb hby at_36) (fun _ _ => ⟨rfl, e84, (by decide : 1 + 0 ≤ _), (by decide : 2 + 0 ≤ _)⟩)
  dsimp only [Pt.U, Pt.locs, Pt.cells, Pt.slots] at X89 l89 y89 z89 st89 hQ89
  subst l89 y89 z89
  obtain ⟨rfl, N89q, K89, Eq89, fq89_0, fq89_1⟩ := hQ89
  have N89 := Fr.app N0 N89q
  have K90 : Keep h0 T89.heap [] := K85.trans K89 (allS (Or.inr sz84) all0)
  have Z91 : n0 ≤ T89.heap.size := Nat.le_trans Z86 K89.1
  obtain ⟨T92, h92, X92, e92, E92, A92, D92, -, st92⟩ := newO X89 hx hZ hown (hw _ (List.mem_of_getElem? (i := 0) rfl)) (hw _ (List.mem_of_getElem? (i := 1) rfl)) (hw _ (List.mem_of_getElem? (i := 2) rfl)) rfl (g := (mkF m 41 #[.val (.int m1), .val (.int s1), .val (.int m2), .val (.int s2), .val (.int fl), .val (.int w78), .val (.int w83), .val (.ref b84), .unset, .unset, .unset] [])) rfl (hb hby at_41) (by decide) (by decide)
  obtain ⟨b92, g92⟩ : ∃ z, z = T89.heap.size := ⟨_, rfl⟩
  rw [← g92] at A92 D92 st92
  have ne93 : b84 ≠ b92 := Nat.ne_of_lt (Nat.lt_of_lt_of_le Eq89.lt (Nat.le_of_eq g92.symm))
  have gg92 : n0 ≤ b92 := Nat.le_trans Z91 (Nat.le_of_eq g92.symm)
  have sz92 : h0.size ≤ b92 := Nat.le_trans K90.1 (Nat.le_of_eq g92.symm)
  have f94 : Exa Z h92 b84 "com/example/cinderbench/cinderbench/core/geo/Rings$Nearest" := Eq89.ext E92
  have f95 : Fld Z h92 b84 "com/example/cinderbench/cinderbench/core/geo/Rings$Nearest" "share" "D" (.double (FP.i2d s1)) := fq89_0.ext E92
  have f96 : Fld Z h92 b84 "com/example/cinderbench/cinderbench/core/geo/Rings$Nearest" "metres" "D" (.double (FP.i2d m1)) := fq89_1.ext E92
  have K97 : Keep h0 h92 [] := K90.ext E92
  have Z98 : n0 ≤ h92.size := Nat.le_trans Z91 E92.1
  have f99 : Fld Z h92 b92 "com/example/cinderbench/cinderbench/core/geo/Rings$Nearest" "share" "D" (.double (0 : UInt64)) := D92 (Or.inr (hw _ (List.mem_of_getElem? (i := 15) rfl))) (ty := .double) (by decide)
  have f100 : Fld Z h92 b92 "com/example/cinderbench/cinderbench/core/geo/Rings$Nearest" "metres" "D" (.double (0 : UInt64)) := D92 (Or.inr (hw _ (List.mem_of_getElem? (i := 17) rfl))) (ty := .double) (by decide)
  obtain ⟨_, _, ⟨T101, L101, k101, n101⟩, -, X101, ⟨Lc101, hQ101, l101, y101, z101⟩, st101⟩ := X92.specialBack hx (y := (⟨"com/example/cinderbench/cinderbench/core/geo/Rings$Nearest", "<init>", "(DD)V"⟩ : MethodName)) rfl hown (mvT hZ (hw _ (List.mem_of_getElem? (i := 3) rfl))) (mvT hZ (hw _ (List.mem_of_getElem? (i := 4) rfl))) (mvT hZ (hw _ (List.mem_of_getElem? (i := 5) rfl))) (by decide) (backOf (W := 1) (rm1 l Z a0 hw [] b92 (FP.i2d w83) (FP.i2d w78) h92 n0 Z98 A92 f99 f100 gg92) hZ (hw _ (List.mem_of_getElem? (i := 5) rfl)) (hw _ (List.mem_of_getElem? (i := 2) rfl)) (by decide) (by decide)) (g := (mkF m 51 #[.val (.int m1), .val (.int s1), .val (.int m2), .val (.int s2), .val (.int fl), .val (.int w78), .val (.int w83), .val (.ref b84), .unset, .unset, .unset] [(.double (FP.i2d w78)), (.double (FP.i2d w83)), (.ref b92), (.ref b92)])) rfl (by rw [hml]; rfl) (Steps.refl _) (a := b92) (argsL := [(.double (FP.i2d w83)), (.double (FP.i2d w78))]) (rest := [(.ref b92)]) (lenOf pd_1 rfl) rfl (by show 2 * 0 + _ ≤ _; exact Nat.le_of_eq rfl) (hb hby at_51) (fun _ _ => ⟨rfl, e92, (by decide : 2 + 0 ≤ _), (by decide : 4 + 0 ≤ _)⟩)
  dsimp only [Pt.U, Pt.locs, Pt.cells, Pt.slots] at X101 l101 y101 z101 st101 hQ101
  subst l101 y101 z101
  obtain ⟨rfl, N101q, K101, Eq101, fq101_0, fq101_1⟩ := hQ101
  have N101 := Fr.app N89 N101q
  have f102 : Exa Z T101.heap b84 "com/example/cinderbench/cinderbench/core/geo/Rings$Nearest" := f94.keep K101
  have f103 : Fld Z T101.heap b84 "com/example/cinderbench/cinderbench/core/geo/Rings$Nearest" "share" "D" (.double (FP.i2d s1)) := f95.keep K101 (ninS ne93 nin0)
  have f104 : Fld Z T101.heap b84 "com/example/cinderbench/cinderbench/core/geo/Rings$Nearest" "metres" "D" (.double (FP.i2d m1)) := f96.keep K101 (ninS ne93 nin0)
  have K105 : Keep h0 T101.heap [] := K97.trans K101 (allS (Or.inr sz92) all0)
  have Z106 : n0 ≤ T101.heap.size := Nat.le_trans Z98 K101.1
  obtain ⟨cq107, kq107, q107a, q107b, q107c⟩ := isOf hZ rfl f102
  obtain ⟨_, _, ⟨T107, L107, k107, n107⟩, -, X107, ⟨Lc107, hQ107, l107, y107, z107⟩, st107⟩ := X101.virtualBack hx (y := (⟨"com/example/cinderbench/cinderbench/core/geo/Rings$Nearest", "orNearer", "(Lcom/example/cinderbench/cinderbench/core/geo/Rings$Nearest;)Lcom/example/cinderbench/cinderbench/core/geo/Rings$Nearest;"⟩ : MethodName)) (z := (⟨"com/example/cinderbench/cinderbench/core/geo/Rings$Nearest", "orNearer", "(Lcom/example/cinderbench/cinderbench/core/geo/Rings$Nearest;)Lcom/example/cinderbench/cinderbench/core/geo/Rings$Nearest;"⟩ : MethodName)) hown (mvT hZ (hw _ (List.mem_of_getElem? (i := 18) rfl))) (mvT hZ (hw _ (List.mem_of_getElem? (i := 19) rfl))) (notFace_of_selects (args := #[]) (mvT hZ (hw _ (List.mem_of_getElem? (i := 21) rfl)))) (mvT hZ (hw _ (List.mem_of_getElem? (i := 21) rfl))) (mvT hZ (hw _ (List.mem_of_getElem? (i := 20) rfl))) (by decide) (backOf (W := 0) (rm4 l Z a0 hw [] b84 b92 (FP.i2d w78) (FP.i2d m1) (FP.i2d w83) (FP.i2d s1) T101.heap n0 Z106 fq101_1 f104 fq101_0 f103) hZ (hw _ (List.mem_of_getElem? (i := 22) rfl)) (hw _ (List.mem_of_getElem? (i := 2) rfl)) (by decide) (by decide)) q107a q107c (g := (mkF m 60 #[.val (.int m1), .val (.int s1), .val (.int m2), .val (.int s2), .val (.int fl), .val (.int w78), .val (.int w83), .val (.ref b84), .val (.ref b92), .unset, .unset] [(.ref b92), (.ref b84)])) rfl (by rw [hml]; rfl) (Steps.refl _) (argsL := [(.ref b92)]) (rest := []) (lenOf pd_2 rfl) rfl (by show 2 * 0 + _ ≤ _; exact Nat.le_of_eq rfl) (hb hby at_60) (fun _ _ => ⟨rfl, rfl, (by decide : 2 + 0 ≤ _), (by decide : 4 + 0 ≤ _)⟩)
  dsimp only [Pt.U, Pt.locs, Pt.cells, Pt.slots] at X107 l107 y107 z107 st107 hQ107
  subst l107 y107 z107
  obtain ⟨rfl, N107q, e107⟩ := hQ107
  have N107 := Fr.app N101 N107q
  obtain ⟨_, _, ⟨T108, L108, k108, n108⟩, -, X108, ⟨Lc108, hQ108, l108, y108, z108⟩, st108⟩ := Jvm.LawKit.callS X107 hx (y := (⟨"com/example/cinderbench/cinderbench/core/geo/NearestOrNearerPinLaw", "key", "(II)J"⟩ : MethodName)) hown (mvT hZ (hw _ (List.mem_of_getElem? (i := 23) rfl))) (mvT hZ (hw _ (List.mem_of_getElem? (i := 24) rfl))) (mvT hZ (hw _ (List.mem_of_getElem? (i := 25) rfl))) (mvT hZ (hw _ (List.mem_of_getElem? (i := 26) rfl))) (by decide) (backOf (W := 0) (rm5 l Z a0 hw [] w78 w83 T101.heap n0 Z106) hZ (hw _ (List.mem_of_getElem? (i := 26) rfl)) (hw _ (List.mem_of_getElem? (i := 25) rfl)) (by decide) (by decide)) (g := (mkF m 69 #[.val (.int m1), .val (.int s1), .val (.int m2), .val (.int s2), .val (.int fl), .val (.int w78), .val (.int w83), .val (.ref b84), .val (.ref b92), .val (.ref (f4 b84 b92 (FP.i2d w78) (FP.i2d m1) (FP.i2d w83) (FP.i2d s1))), .unset] [(.int w83), (.int w78)])) rfl (by rw [hml]; rfl) (argsL := [(.int w78), (.int w83)]) (rest := []) (lenOf pd_3 rfl) rfl (by show 2 * 0 + _ ≤ _; exact Nat.le_of_eq rfl) (hb hby at_69) (fun _ _ => ⟨rfl, e107, (by decide : 2 + 0 ≤ _), (by decide : 4 + 0 ≤ _)⟩)
  dsimp only [Pt.U, Pt.locs, Pt.cells, Pt.slots] at X108 l108 y108 z108 st108 hQ108
  subst l108 y108 z108
  obtain ⟨rfl, N108q, e108⟩ := hQ108
  have N108 := Fr.app N107 N108q
  obtain ⟨_, _, ⟨T109, L109, k109, n109⟩, -, X109, ⟨Lc109, hQ109, l109, y109, z109⟩, st109⟩ := Jvm.LawKit.callS X108 hx (y := (⟨"com/example/cinderbench/cinderbench/core/geo/NearestOrNearerPinLaw", "key", "(II)J"⟩ : MethodName)) hown (mvT hZ (hw _ (List.mem_of_getElem? (i := 23) rfl))) (mvT hZ (hw _ (List.mem_of_getElem? (i := 24) rfl))) (mvT hZ (hw _ (List.mem_of_getElem? (i := 25) rfl))) (mvT hZ (hw _ (List.mem_of_getElem? (i := 26) rfl))) (by decide) (backOf (W := 2) (rm5 l Z a0 hw [] m1 s1 T101.heap n0 Z106) hZ (hw _ (List.mem_of_getElem? (i := 26) rfl)) (hw _ (List.mem_of_getElem? (i := 25) rfl)) (by decide) (by decide)) (g := (mkF m 74 #[.val (.int m1), .val (.int s1), .val (.int m2), .val (.int s2), .val (.int fl), .val (.int w78), .val (.int w83), .val (.ref b84), .val (.ref b92), .val (.ref (f4 b84 b92 (FP.i2d w78) (FP.i2d m1) (FP.i2d w83) (FP.i2d s1))), .unset] [(.int s1), (.int m1), (.long (f5 w78 w83))])) rfl (by rw [hml]; rfl) (argsL := [(.int m1), (.int s1)]) (rest := [(.long (f5 w78 w83))]) (lenOf pd_3 rfl) rfl (by show 2 * 0 + _ ≤ _; exact Nat.le_of_eq rfl) (hb hby at_74) (fun _ _ => ⟨rfl, e108, (by decide : 2 + 0 ≤ _), (by decide : 4 + 0 ≤ _)⟩)
  dsimp only [Pt.U, Pt.locs, Pt.cells, Pt.slots] at X109 l109 y109 z109 st109 hQ109
  subst l109 y109 z109
  obtain ⟨rfl, N109q, e109⟩ := hQ109
  have N109 := Fr.app N108 N109q
  have S110 : ∀ t, Steps p.tables e below (T109.setTop (mkF m 78 #[.val (.int m1), .val (.int s1), .val (.int m2), .val (.int s2), .val (.int fl), .val (.int w78), .val (.int w83), .val (.ref b84), .val (.ref b92), .val (.ref (f4 b84 b92 (FP.i2d w78) (FP.i2d m1) (FP.i2d w83) (FP.i2d s1))), .unset] [(.int (lcmpW (f5 w78 w83) (f5 m1 s1)))])) t → Steps p.tables e below (s₁.setTop (entryFrame m #[(.int m1), (.int s1), (.int m2), (.int s2), (.int fl)] maxLocals)) t := by
    intro t k
    refine S82 t ?_
    refine XS.istore X0.here hx rfl (hb hby at_26) rfl (l' := #[.val (.int m1), .val (.int s1), .val (.int m2), .val (.int s2), .val (.int fl), .val (.int w78), .val (.int w83), .unset, .unset, .unset, .unset]) rfl ?_
    show Steps p.tables e below (s₁.setTop (mkF m 28 #[.val (.int m1), .val (.int s1), .val (.int m2), .val (.int s2), .val (.int fl), .val (.int w78), .val (.int w83), .unset, .unset, .unset, .unset] [])) _
    refine st84 _ ?_
    show Steps p.tables e below (T84.setTop (mkF m 31 #[.val (.int m1), .val (.int s1), .val (.int m2), .val (.int s2), .val (.int fl), .val (.int w78), .val (.int w83), .unset, .unset, .unset, .unset] [(.ref b84)])) _
    refine XS.dup X84.here hx rfl (hb hby at_31) rfl rfl ?_
    show Steps p.tables e below (T84.setTop (mkF m 32 #[.val (.int m1), .val (.int s1), .val (.int m2), .val (.int s2), .val (.int fl), .val (.int w78), .val (.int w83), .unset, .unset, .unset, .unset] [(.ref b84), (.ref b84)])) _
    refine XS.iloadN X84.here hx rfl (hb hby at_32) rfl ?_
    show Steps p.tables e below (T84.setTop (mkF m 33 #[.val (.int m1), .val (.int s1), .val (.int m2), .val (.int s2), .val (.int fl), .val (.int w78), .val (.int w83), .unset, .unset, .unset, .unset] [(.int s1), (.ref b84), (.ref b84)])) _
    refine XS.i2dS X84.here hx rfl (hb hby at_33) rfl rfl ?_
    show Steps p.tables e below (T84.setTop (mkF m 34 #[.val (.int m1), .val (.int s1), .val (.int m2), .val (.int s2), .val (.int fl), .val (.int w78), .val (.int w83), .unset, .unset, .unset, .unset] [(.double (FP.i2d s1)), (.ref b84), (.ref b84)])) _
    refine XS.iloadN X84.here hx rfl (hb hby at_34) rfl ?_
    show Steps p.tables e below (T84.setTop (mkF m 35 #[.val (.int m1), .val (.int s1), .val (.int m2), .val (.int s2), .val (.int fl), .val (.int w78), .val (.int w83), .unset, .unset, .unset, .unset] [(.int m1), (.double (FP.i2d s1)), (.ref b84), (.ref b84)])) _
    refine XS.i2dS X84.here hx rfl (hb hby at_35) rfl rfl ?_
    show Steps p.tables e below (T84.setTop (mkF m 36 #[.val (.int m1), .val (.int s1), .val (.int m2), .val (.int s2), .val (.int fl), .val (.int w78), .val (.int w83), .unset, .unset, .unset, .unset] [(.double (FP.i2d m1)), (.double (FP.i2d s1)), (.ref b84), (.ref b84)])) _
    refine st89.trans ?_
    show Steps p.tables e below (T89.setTop (mkF m 39 #[.val (.int m1), .val (.int s1), .val (.int m2), .val (.int s2), .val (.int fl), .val (.int w78), .val (.int w83), .unset, .unset, .unset, .unset] [(.ref b84)])) _
    refine XS.astore X89.here hx rfl (hb hby at_39) rfl rfl (l' := #[.val (.int m1), .val (.int s1), .val (.int m2), .val (.int s2), .val (.int fl), .val (.int w78), .val (.int w83), .val (.ref b84), .unset, .unset, .unset]) rfl ?_
    show Steps p.tables e below (T89.setTop (mkF m 41 #[.val (.int m1), .val (.int s1), .val (.int m2), .val (.int s2), .val (.int fl), .val (.int w78), .val (.int w83), .val (.ref b84), .unset, .unset, .unset] [])) _
    refine st92 _ ?_
    show Steps p.tables e below (T92.setTop (mkF m 44 #[.val (.int m1), .val (.int s1), .val (.int m2), .val (.int s2), .val (.int fl), .val (.int w78), .val (.int w83), .val (.ref b84), .unset, .unset, .unset] [(.ref b92)])) _
    refine XS.dup X92.here hx rfl (hb hby at_44) rfl rfl ?_
    show Steps p.tables e below (T92.setTop (mkF m 45 #[.val (.int m1), .val (.int s1), .val (.int m2), .val (.int s2), .val (.int fl), .val (.int w78), .val (.int w83), .val (.ref b84), .unset, .unset, .unset] [(.ref b92), (.ref b92)])) _
    refine XS.iload X92.here hx rfl (hb hby at_45) rfl ?_
    show Steps p.tables e below (T92.setTop (mkF m 47 #[.val (.int m1), .val (.int s1), .val (.int m2), .val (.int s2), .val (.int fl), .val (.int w78), .val (.int w83), .val (.ref b84), .unset, .unset, .unset] [(.int w83), (.ref b92), (.ref b92)])) _
    refine XS.i2dS X92.here hx rfl (hb hby at_47) rfl rfl ?_
    show Steps p.tables e below (T92.setTop (mkF m 48 #[.val (.int m1), .val (.int s1), .val (.int m2), .val (.int s2), .val (.int fl), .val (.int w78), .val (.int w83), .val (.ref b84), .unset, .unset, .unset] [(.double (FP.i2d w83)), (.ref b92), (.ref b92)])) _
    refine XS.iload X92.here hx rfl (hb hby at_48) rfl ?_
    show Steps p.tables e below (T92.setTop (mkF m 50 #[.val (.int m1), .val (.int s1), .val (.int m2), .val (.int s2), .val (.int fl), .val (.int w78), .val (.int w83), .val (.ref b84), .unset, .unset, .unset] [(.int w78), (.double (FP.i2d w83)), (.ref b92), (.ref b92)])) _
    refine XS.i2dS X92.here hx rfl (hb hby at_50) rfl rfl ?_
    show Steps p.tables e below (T92.setTop (mkF m 51 #[.val (.int m1), .val (.int s1), .val (.int m2), .val (.int s2), .val (.int fl), .val (.int w78), .val (.int w83), .val (.ref b84), .unset, .unset, .unset] [(.double (FP.i2d w78)), (.double (FP.i2d w83)), (.ref b92), (.ref b92)])) _
    refine st101.trans ?_
    show Steps p.tables e below (T101.setTop (mkF m 54 #[.val (.int m1), .val (.int s1), .val (.int m2), .val (.int s2), .val (.int fl), .val (.int w78), .val (.int w83), .val (.ref b84), .unset, .unset, .unset] [(.ref b92)])) _
    refine XS.astore X101.here hx rfl (hb hby at_54) rfl rfl (l' := #[.val (.int m1), .val (.int s1), .val (.int m2), .val (.int s2), .val (.int fl), .val (.int w78), .val (.int w83), .val (.ref b84), .val (.ref b92), .unset, .unset]) rfl ?_
    show Steps p.tables e below (T101.setTop (mkF m 56 #[.val (.int m1), .val (.int s1), .val (.int m2), .val (.int s2), .val (.int fl), .val (.int w78), .val (.int w83), .val (.ref b84), .val (.ref b92), .unset, .unset] [])) _
    refine XS.aload X101.here hx rfl (hb hby at_56) rfl rfl ?_
    show Steps p.tables e below (T101.setTop (mkF m 58 #[.val (.int m1), .val (.int s1), .val (.int m2), .val (.int s2), .val (.int fl), .val (.int w78), .val (.int w83), .val (.ref b84), .val (.ref b92), .unset, .unset] [(.ref b84)])) _
    refine XS.aload X101.here hx rfl (hb hby at_58) rfl rfl ?_
    show Steps p.tables e below (T101.setTop (mkF m 60 #[.val (.int m1), .val (.int s1), .val (.int m2), .val (.int s2), .val (.int fl), .val (.int w78), .val (.int w83), .val (.ref b84), .val (.ref b92), .unset, .unset] [(.ref b92), (.ref b84)])) _
    refine st107.trans ?_
    show Steps p.tables e below (T107.setTop (mkF m 63 #[.val (.int m1), .val (.int s1), .val (.int m2), .val (.int s2), .val (.int fl), .val (.int w78), .val (.int w83), .val (.ref b84), .val (.ref b92), .unset, .unset] [(.ref (f4 b84 b92 (FP.i2d w78) (FP.i2d m1) (FP.i2d w83) (FP.i2d s1)))])) _
    refine XS.astore X107.here hx rfl (hb hby at_63) rfl rfl (l' := #[.val (.int m1), .val (.int s1), .val (.int m2), .val (.int s2), .val (.int fl), .val (.int w78), .val (.int w83), .val (.ref b84), .val (.ref b92), .val (.ref (f4 b84 b92 (FP.i2d w78) (FP.i2d m1) (FP.i2d w83) (FP.i2d s1))), .unset]) rfl ?_
    show Steps p.tables e below (T107.setTop (mkF m 65 #[.val (.int m1), .val (.int s1), .val (.int m2), .val (.int s2), .val (.int fl), .val (.int w78), .val (.int w83), .val (.ref b84), .val (.ref b92), .val (.ref (f4 b84 b92 (FP.i2d w78) (FP.i2d m1) (FP.i2d w83) (FP.i2d s1))), .unset] [])) _
    refine XS.iload X107.here hx rfl (hb hby at_65) rfl ?_
    show Steps p.tables e below (T107.setTop (mkF m 67 #[.val (.int m1), .val (.int s1), .val (.int m2), .val (.int s2), .val (.int fl), .val (.int w78), .val (.int w83), .val (.ref b84), .val (.ref b92), .val (.ref (f4 b84 b92 (FP.i2d w78) (FP.i2d m1) (FP.i2d w83) (FP.i2d s1))), .unset] [(.int w78)])) _
    refine XS.iload X107.here hx rfl (hb hby at_67) rfl ?_
    show Steps p.tables e below (T107.setTop (mkF m 69 #[.val (.int m1), .val (.int s1), .val (.int m2), .val (.int s2), .val (.int fl), .val (.int w78), .val (.int w83), .val (.ref b84), .val (.ref b92), .val (.ref (f4 b84 b92 (FP.i2d w78) (FP.i2d m1) (FP.i2d w83) (FP.i2d s1))), .unset] [(.int w83), (.int w78)])) _
    refine st108 _ ?_
    show Steps p.tables e below (T108.setTop (mkF m 72 #[.val (.int m1), .val (.int s1), .val (.int m2), .val (.int s2), .val (.int fl), .val (.int w78), .val (.int w83), .val (.ref b84), .val (.ref b92), .val (.ref (f4 b84 b92 (FP.i2d w78) (FP.i2d m1) (FP.i2d w83) (FP.i2d s1))), .unset] [(.long (f5 w78 w83))])) _
    refine XS.iloadN X108.here hx rfl (hb hby at_72) rfl ?_
    show Steps p.tables e below (T108.setTop (mkF m 73 #[.val (.int m1), .val (.int s1), .val (.int m2), .val (.int s2), .val (.int fl), .val (.int w78), .val (.int w83), .val (.ref b84), .val (.ref b92), .val (.ref (f4 b84 b92 (FP.i2d w78) (FP.i2d m1) (FP.i2d w83) (FP.i2d s1))), .unset] [(.int m1), (.long (f5 w78 w83))])) _
    refine XS.iloadN X108.here hx rfl (hb hby at_73) rfl ?_
    show Steps p.tables e below (T108.setTop (mkF m 74 #[.val (.int m1), .val (.int s1), .val (.int m2), .val (.int s2), .val (.int fl), .val (.int w78), .val (.int w83), .val (.ref b84), .val (.ref b92), .val (.ref (f4 b84 b92 (FP.i2d w78) (FP.i2d m1) (FP.i2d w83) (FP.i2d s1))), .unset] [(.int s1), (.int m1), (.long (f5 w78 w83))])) _
    refine st109 _ ?_
    show Steps p.tables e below (T109.setTop (mkF m 77 #[.val (.int m1), .val (.int s1), .val (.int m2), .val (.int s2), .val (.int fl), .val (.int w78), .val (.int w83), .val (.ref b84), .val (.ref b92), .val (.ref (f4 b84 b92 (FP.i2d w78) (FP.i2d m1) (FP.i2d w83) (FP.i2d s1))), .unset] [(.long (f5 m1 s1)), (.long (f5 w78 w83))])) _
    refine XS.lcmp X109.here hx rfl (hb hby at_77) rfl ?_
    show Steps p.tables e below (T109.setTop (mkF m 78 #[.val (.int m1), .val (.int s1), .val (.int m2), .val (.int s2), .val (.int fl), .val (.int w78), .val (.int w83), .val (.ref b84), .val (.ref b92), .val (.ref (f4 b84 b92 (FP.i2d w78) (FP.i2d m1) (FP.i2d w83) (FP.i2d s1))), .unset] [(.int (lcmpW (f5 w78 w83) (f5 m1 s1)))])) _
    exact k
  obtain ⟨w111, hw111⟩ : ∃ z : Int32, z = (lcmpW (f5 w78 w83) (f5 m1 s1)) := ⟨_, rfl⟩
  rw [← hw111] at S110
  have S113 : ∀ t, Steps p.tables e below (T109.setTop (mkF m 86 #[.val (.int m1), .val (.int s1), .val (.int m2), .val (.int s2), .val (.int fl), .val (.int w78), .val (.int w83), .val (.ref b84), .val (.ref b92), .val (.ref (f4 b84 b92 (FP.i2d w78) (FP.i2d m1) (FP.i2d w83) (FP.i2d s1))), .unset] [(.int (if w111 < (0 : Int32) then (1 : Int32) else (0 : Int32)))])) t → Steps p.tables e below (s₁.setTop (entryFrame m #[(.int m1), (.int s1), (.int m2), (.int s2), (.int fl)] maxLocals)) t := by
    intro t k
    refine S110 t ?_
    by_cases hc112 : w111 < (0 : Int32)
    · rw [if_pos hc112] at k
      refine XS.ifNo X109.here hx rfl (hb hby at_78) rfl ((if0 _ _).trans (tlt hc112).2.1) ?_
      show Steps p.tables e below (T109.setTop (mkF m 81 #[.val (.int m1), .val (.int s1), .val (.int m2), .val (.int s2), .val (.int fl), .val (.int w78), .val (.int w83), .val (.ref b84), .val (.ref b92), .val (.ref (f4 b84 b92 (FP.i2d w78) (FP.i2d m1) (FP.i2d w83) (FP.i2d s1))), .unset] [])) _
      refine XS.iconst X109.here hx rfl (hb hby at_81) ?_
      show Steps p.tables e below (T109.setTop (mkF m 82 #[.val (.int m1), .val (.int s1), .val (.int m2), .val (.int s2), .val (.int fl), .val (.int w78), .val (.int w83), .val (.ref b84), .val (.ref b92), .val (.ref (f4 b84 b92 (FP.i2d w78) (FP.i2d m1) (FP.i2d w83) (FP.i2d s1))), .unset] [(.int (1 : Int32))])) _
      refine XS.goto X109.here hx rfl (pc0 := 82) (pc' := 86) rfl (hb hby at_82) (by decide) (by decide) ?_
      show Steps p.tables e below (T109.setTop (mkF m 86 #[.val (.int m1), .val (.int s1), .val (.int m2), .val (.int s2), .val (.int fl), .val (.int w78), .val (.int w83), .val (.ref b84), .val (.ref b92), .val (.ref (f4 b84 b92 (FP.i2d w78) (FP.i2d m1) (FP.i2d w83) (FP.i2d s1))), .unset] [(.int (1 : Int32))])) _
      exact k
    · rw [if_neg hc112] at k
      refine XS.ifYes X109.here hx rfl (pc0 := 78) (pc' := 85) rfl (hb hby at_78) rfl ((if0 _ _).trans (flt hc112).2.1) (by decide) (by decide) ?_
      show Steps p.tables e below (T109.setTop (mkF m 85 #[.val (.int m1), .val (.int s1), .val (.int m2), .val (.int s2), .val (.int fl), .val (.int w78), .val (.int w83), .val (.ref b84), .val (.ref b92), .val (.ref (f4 b84 b92 (FP.i2d w78) (FP.i2d m1) (FP.i2d w83) (FP.i2d s1))), .unset] [])) _
      refine XS.iconst X109.here hx rfl (hb hby at_85) ?_
      show Steps p.tables e below (T109.setTop (mkF m 86 #[.val (.int m1), .val (.int s1), .val (.int m2), .val (.int s2), .val (.int fl), .val (.int w78), .val (.int w83), .val (.ref b84), .val (.ref b92), .val (.ref (f4 b84 b92 (FP.i2d w78) (FP.i2d m1) (FP.i2d w83) (FP.i2d s1))), .unset] [(.int (0 : Int32))])) _
      exact k
  obtain ⟨w114, hw114⟩ : ∃ z : Int32, z = (if w111 < (0 : Int32) then (1 : Int32) else (0 : Int32)) := ⟨_, rfl⟩
  rw [← hw114] at S113
  have S115 : ∀ t, Steps p.tables e below (T109.setTop (mkF m 88 #[.val (.int m1), .val (.int s1), .val (.int m2), .val (.int s2), .val (.int fl), .val (.int w78), .val (.int w83), .val (.ref b84), .val (.ref b92), .val (.ref (f4 b84 b92 (FP.i2d w78) (FP.i2d m1) (FP.i2d w83) (FP.i2d s1))), .val (.int w114)] [])) t → Steps p.tables e below (s₁.setTop (entryFrame m #[(.int m1), (.int s1), (.int m2), (.int s2), (.int fl)] maxLocals)) t := by
    intro t k
    refine S113 t ?_
    refine XS.istore X109.here hx rfl (hb hby at_86) rfl (l' := #[.val (.int m1), .val (.int s1), .val (.int m2), .val (.int s2), .val (.int fl), .val (.int w78), .val (.int w83), .val (.ref b84), .val (.ref b92), .val (.ref (f4 b84 b92 (FP.i2d w78) (FP.i2d m1) (FP.i2d w83) (FP.i2d s1))), .val (.int w114)]) rfl ?_
    show Steps p.tables e below (T109.setTop (mkF m 88 #[.val (.int m1), .val (.int s1), .val (.int m2), .val (.int s2), .val (.int fl), .val (.int w78), .val (.int w83), .val (.ref b84), .val (.ref b92), .val (.ref (f4 b84 b92 (FP.i2d w78) (FP.i2d m1) (FP.i2d w83) (FP.i2d s1))), .val (.int w114)] [])) _
    exact k
  have S116 : ∀ t, Steps p.tables e below (T109.setTop (mkF m 90 #[.val (.int m1), .val (.int s1), .val (.int m2), .val (.int s2), .val (.int fl), .val (.int w78), .val (.int w83), .val (.ref b84), .val (.ref b92), .val (.ref (f4 b84 b92 (FP.i2d w78) (FP.i2d m1) (FP.i2d w83) (FP.i2d s1))), .val (.int w114)] [(.int w114)])) t → Steps p.tables e below (s₁.setTop (entryFrame m #[(.int m1), (.int s1), (.int m2), (.int s2), (.int fl)] maxLocals)) t := by
    intro t k
    refine S115 t ?_
    refine XS.iload X109.here hx rfl (hb hby at_88) rfl ?_
    show Steps p.tables e below (T109.setTop (mkF m 90 #[.val (.int m1), .val (.int s1), .val (.int m2), .val (.int s2), .val (.int fl), .val (.int w78), .val (.int w83), .val (.ref b84), .val (.ref b92), .val (.ref (f4 b84 b92 (FP.i2d w78) (FP.i2d m1) (FP.i2d w83) (FP.i2d s1))), .val (.int w114)] [(.int w114)])) _
    exact k
  by_cases hc117 : w114 = (0 : Int32)
  · have S118 : ∀ t, Steps p.tables e below (T109.setTop (mkF m 118 #[.val (.int m1), .val (.int s1), .val (.int m2), .val (.int s2), .val (.int fl), .val (.int w78), .val (.int w83), .val (.ref b84), .val (.ref b92), .val (.ref (f4 b84 b92 (FP.i2d w78) (FP.i2d m1) (FP.i2d w83) (FP.i2d s1))), .val (.int w114)] [(.int (1 : Int32))])) t → Steps p.tables e below (s₁.setTop (entryFrame m #[(.int m1), (.int s1), (.int m2), (.int s2), (.int fl)] maxLocals)) t := by
      intro t k
      refine S116 t ?_
      refine XS.ifYes X109.here hx rfl (pc0 := 90) (pc' := 106) rfl (hb hby at_90) rfl ((if0 _ _).trans (teq hc117).1) (by decide) (by decide) ?_
      show Steps p.tables e below (T109.setTop (mkF m 106 #[.val (.int m1), .val (.int s1), .val (.int m2), .val (.int s2), .val (.int fl), .val (.int w78), .val (.int w83), .val (.ref b84), .val (.ref b92), .val (.ref (f4 b84 b92 (FP.i2d w78) (FP.i2d m1) (FP.i2d w83) (FP.i2d s1))), .val (.int w114)] [])) _
      refine XS.aload X109.here hx rfl (hb hby at_106) rfl rfl ?_
      show Steps p.tables e below (T109.setTop (mkF m 108 #[.val (.int m1), .val (.int s1), .val (.int m2), .val (.int s2), .val (.int fl), .val (.int w78), .val (.int w83), .val (.ref b84), .val (.ref b92), .val (.ref (f4 b84 b92 (FP.i2d w78) (FP.i2d m1) (FP.i2d w83) (FP.i2d s1))), .val (.int w114)] [(.ref (f4 b84 b92 (FP.i2d w78) (FP.i2d m1) (FP.i2d w83) (FP.i2d s1)))])) _
      refine XS.aload X109.here hx rfl (hb hby at_108) rfl rfl ?_
      show Steps p.tables e below (T109.setTop (mkF m 110 #[.val (.int m1), .val (.int s1), .val (.int m2), .val (.int s2), .val (.int fl), .val (.int w78), .val (.int w83), .val (.ref b84), .val (.ref b92), .val (.ref (f4 b84 b92 (FP.i2d w78) (FP.i2d m1) (FP.i2d w83) (FP.i2d s1))), .val (.int w114)] [(.ref b84), (.ref (f4 b84 b92 (FP.i2d w78) (FP.i2d m1) (FP.i2d w83) (FP.i2d s1)))])) _
      refine Jvm.RoadKit.acmp (g := (mkF m 110 #[.val (.int m1), .val (.int s1), .val (.int m2), .val (.int s2), .val (.int fl), .val (.int w78), .val (.int w83), .val (.ref b84), .val (.ref b92), .val (.ref (f4 b84 b92 (FP.i2d w78) (FP.i2d m1) (FP.i2d w83) (FP.i2d s1))), .val (.int w114)] [(.ref b84), (.ref (f4 b84 b92 (FP.i2d w78) (FP.i2d m1) (FP.i2d w83) (FP.i2d s1)))])) X109 hx rfl rfl rfl (pc0 := 110) (pc' := 113) (same := true) rfl (hb hby at_110) rfl (decide_eq_true (congrArg Value.ref (own_ref1 m1 s1 m2 s2 fl b84 b92 w75 hw75 w78 hw78 w80 hw80 w83 hw83 w111 hw111 w114 hw114 hc117))) (by decide) (by decide) ?_
      show Steps p.tables e below (T109.setTop (mkF m 113 #[.val (.int m1), .val (.int s1), .val (.int m2), .val (.int s2), .val (.int fl), .val (.int w78), .val (.int w83), .val (.ref b84), .val (.ref b92), .val (.ref (f4 b84 b92 (FP.i2d w78) (FP.i2d m1) (FP.i2d w83) (FP.i2d s1))), .val (.int w114)] [])) _
      refine XS.iconst X109.here hx rfl (hb hby at_113) ?_
      show Steps p.tables e below (T109.setTop (mkF m 114 #[.val (.int m1), .val (.int s1), .val (.int m2), .val (.int s2), .val (.int fl), .val (.int w78), .val (.int w83), .val (.ref b84), .val (.ref b92), .val (.ref (f4 b84 b92 (FP.i2d w78) (FP.i2d m1) (FP.i2d w83) (FP.i2d s1))), .val (.int w114)] [(.int (1 : Int32))])) _
      refine XS.goto X109.here hx rfl (pc0 := 114) (pc' := 118) rfl (hb hby at_114) (by decide) (by decide) ?_
      show Steps p.tables e below (T109.setTop (mkF m 118 #[.val (.int m1), .val (.int s1), .val (.int m2), .val (.int s2), .val (.int fl), .val (.int w78), .val (.int w83), .val (.ref b84), .val (.ref b92), .val (.ref (f4 b84 b92 (FP.i2d w78) (FP.i2d m1) (FP.i2d w83) (FP.i2d s1))), .val (.int w114)] [(.int (1 : Int32))])) _
      exact k
    obtain ⟨fs, hr, hrun, hended, hW, hsame⟩ := X109.leave (v := some (.int (1 : Int32))) (fun h => by rw [Bd.returns] at h; cases h)
    refine ⟨_, _, S118 _ ?_, hrun, hended, _, _, rfl, ?_, ⟨_, rfl⟩, hW, hsame.mono (by decide) (by decide)⟩
    · exact retN X109 hx (t := .boolean) Bd.returns (by simp) (hb hby at_118) hr
    · show Q0 Z m1 s1 m2 s2 fl h0 n0 _ T109.heap _
      rw [e109]
      exact ⟨rfl, N109⟩
  · have S119 : ∀ t, Steps p.tables e below (T109.setTop (mkF m 105 #[.val (.int m1), .val (.int s1), .val (.int m2), .val (.int s2), .val (.int fl), .val (.int w78), .val (.int w83), .val (.ref b84), .val (.ref b92), .val (.ref (f4 b84 b92 (FP.i2d w78) (FP.i2d m1) (FP.i2d w83) (FP.i2d s1))), .val (.int w114)] [(.int (1 : Int32))])) t → Steps p.tables e below (s₁.setTop (entryFrame m #[(.int m1), (.int s1), (.int m2), (.int s2), (.int fl)] maxLocals)) t := by
      intro t k
      refine S116 t ?_
      refine XS.ifNo X109.here hx rfl (hb hby at_90) rfl ((if0 _ _).trans (feq hc117).1) ?_
      show Steps p.tables e below (T109.setTop (mkF m 93 #[.val (.int m1), .val (.int s1), .val (.int m2), .val (.int s2), .val (.int fl), .val (.int w78), .val (.int w83), .val (.ref b84), .val (.ref b92), .val (.ref (f4 b84 b92 (FP.i2d w78) (FP.i2d m1) (FP.i2d w83) (FP.i2d s1))), .val (.int w114)] [])) _
      refine XS.aload X109.here hx rfl (hb hby at_93) rfl rfl ?_
      show Steps p.tables e below (T109.setTop (mkF m 95 #[.val (.int m1), .val (.int s1), .val (.int m2), .val (.int s2), .val (.int fl), .val (.int w78), .val (.int w83), .val (.ref b84), .val (.ref b92), .val (.ref (f4 b84 b92 (FP.i2d w78) (FP.i2d m1) (FP.i2d w83) (FP.i2d s1))), .val (.int w114)] [(.ref (f4 b84 b92 (FP.i2d w78) (FP.i2d m1) (FP.i2d w83) (FP.i2d s1)))])) _
      refine XS.aload X109.here hx rfl (hb hby at_95) rfl rfl ?_
      show Steps p.tables e below (T109.setTop (mkF m 97 #[.val (.int m1), .val (.int s1), .val (.int m2), .val (.int s2), .val (.int fl), .val (.int w78), .val (.int w83), .val (.ref b84), .val (.ref b92), .val (.ref (f4 b84 b92 (FP.i2d w78) (FP.i2d m1) (FP.i2d w83) (FP.i2d s1))), .val (.int w114)] [(.ref b92), (.ref (f4 b84 b92 (FP.i2d w78) (FP.i2d m1) (FP.i2d w83) (FP.i2d s1)))])) _
      refine Jvm.RoadKit.acmp (g := (mkF m 97 #[.val (.int m1), .val (.int s1), .val (.int m2), .val (.int s2), .val (.int fl), .val (.int w78), .val (.int w83), .val (.ref b84), .val (.ref b92), .val (.ref (f4 b84 b92 (FP.i2d w78) (FP.i2d m1) (FP.i2d w83) (FP.i2d s1))), .val (.int w114)] [(.ref b92), (.ref (f4 b84 b92 (FP.i2d w78) (FP.i2d m1) (FP.i2d w83) (FP.i2d s1)))])) X109 hx rfl rfl rfl (pc0 := 97) (pc' := 100) (same := true) rfl (hb hby at_97) rfl (decide_eq_true (congrArg Value.ref (own_ref2 m1 s1 m2 s2 fl b84 b92 w75 hw75 w78 hw78 w80 hw80 w83 hw83 w111 hw111 w114 hw114 hc117))) (by decide) (by decide) ?_
      show Steps p.tables e below (T109.setTop (mkF m 100 #[.val (.int m1), .val (.int s1), .val (.int m2), .val (.int s2), .val (.int fl), .val (.int w78), .val (.int w83), .val (.ref b84), .val (.ref b92), .val (.ref (f4 b84 b92 (FP.i2d w78) (FP.i2d m1) (FP.i2d w83) (FP.i2d s1))), .val (.int w114)] [])) _
      refine XS.iconst X109.here hx rfl (hb hby at_100) ?_
      show Steps p.tables e below (T109.setTop (mkF m 101 #[.val (.int m1), .val (.int s1), .val (.int m2), .val (.int s2), .val (.int fl), .val (.int w78), .val (.int w83), .val (.ref b84), .val (.ref b92), .val (.ref (f4 b84 b92 (FP.i2d w78) (FP.i2d m1) (FP.i2d w83) (FP.i2d s1))), .val (.int w114)] [(.int (1 : Int32))])) _
      refine XS.goto X109.here hx rfl (pc0 := 101) (pc' := 105) rfl (hb hby at_101) (by decide) (by decide) ?_
      show Steps p.tables e below (T109.setTop (mkF m 105 #[.val (.int m1), .val (.int s1), .val (.int m2), .val (.int s2), .val (.int fl), .val (.int w78), .val (.int w83), .val (.ref b84), .val (.ref b92), .val (.ref (f4 b84 b92 (FP.i2d w78) (FP.i2d m1) (FP.i2d w83) (FP.i2d s1))), .val (.int w114)] [(.int (1 : Int32))])) _
      exact k
    obtain ⟨fs, hr, hrun, hended, hW, hsame⟩ := X109.leave (v := some (.int (1 : Int32))) (fun h => by rw [Bd.returns] at h; cases h)
    refine ⟨_, _, S119 _ ?_, hrun, hended, _, _, rfl, ?_, ⟨_, rfl⟩, hW, hsame.mono (by decide) (by decide)⟩
    · exact retN X109 hx (t := .boolean) Bd.returns (by simp) (hb hby at_105) hr
    · show Q0 Z m1 s1 m2 s2 fl h0 n0 _ T109.heap _
      rw [e109]
      exact ⟨rfl, N109⟩
set_option maxRecDepth 65536 in
set_option maxHeartbeats 40000000 in
theorem comes_1 {Post : Tables → Env → Array Value → State → Outcome → State → Prop} (hpost : ∀ tb e args s v u, (limb_1_1.after args s (.returned v) u = true ∧ limb_1_2.after args s (.returned v) u = true ∧ True) → FrameEnd s (.returned v) u (Jvm.fieldLocs frame_1_writes args s ++ Jvm.arrayLocs frame_1_arrays args s ++ Jvm.staticLocs frame_1_statics s) 16 128 → Post tb e args s (.returned v) u) :
    ArmFor flags0 classFile x code maxLocals ret World_1 tables_1 room_1 Calls_1 rest_1 Pre_1 Post := by
  intro l hfl _ _ p e ha hc hk s m args below hf hA hF happ hP
  obtain ⟨hcalls, hrest, hpre⟩ := hP
  obtain ⟨-, -, -, hnamed, -, -, -, hat⟩ := (Spec.applies_iff hf).mp happ
  obtain ⟨hg, hn⟩ := and_e (Cond.before_iff.mp (show (Jvm.Cond.and given_1 narrow_1).before args s = true from hpre))
  obtain ⟨g1, g2⟩ := and_e hg
  obtain ⟨g3, g4⟩ := and_e g2
  obtain ⟨g5, g6⟩ := and_e g4
  obtain ⟨g7, g8⟩ := and_e g6
  obtain ⟨g9, g10⟩ := and_e g8
  obtain ⟨w0, w1, w2, w3, w4, rfl⟩ : ∃ w0 w1 w2 w3 w4 : Value, args = #[w0, w1, w2, w3, w4] := by
    have hs : args.size = 5 := by simpa [Cond.value, given_1] using g1
    obtain ⟨L⟩ := args
    match L, hs with
    | [w0, w1, w2, w3, w4], _ => exact ⟨w0, w1, w2, w3, w4, rfl⟩
  have hw := fun d (hd : d ∈ tables_1) => atoms_spec (ws := Jvm.Cond.code x code maxLocals ret :: tables_1) hat d (List.mem_cons_of_mem _ hd)
  have hfit : Fit s := fun {y c} hc i hi => by
    obtain ⟨ha, rfl⟩ := Array.getElem?_eq_some_iff.mp hc
    have q := List.all_eq_true.mp ((Array.all_eq_true_iff_forall_mem.mp hF) _ (Array.getElem_mem ha)) i (List.mem_range.mpr hi)
    simpa [Array.getElem?_eq_getElem hi] using q
  obtain ⟨i0, ei0⟩ := is_v g3
  obtain rfl : w0 = (.int i0) := Option.some.inj ei0
  obtain ⟨i1, ei1⟩ := is_v g5
  obtain rfl : w1 = (.int i1) := Option.some.inj ei1
  obtain ⟨i2, ei2⟩ := is_v g7
  obtain rfl : w2 = (.int i2) := Option.some.inj ei2
  obtain ⟨i3, ei3⟩ := is_v g9
  obtain rfl : w3 = (.int i3) := Option.some.inj ei3
  obtain ⟨i4, ei4⟩ := is_v g10
  obtain rfl : w4 = (.int i4) := Option.some.inj ei4
  obtain ⟨n, o, h1, h2, h3, _, L, rfl, ⟨rfl, N⟩, hq⟩ := rm0 l s _ hw tables_1 i0 i1 i2 i3 i4  s.heap s.heap.size (Nat.le_refl _)  p e ha hc hk s m _ below hf ((Spec.applies_iff_loose hf).mp happ).1 ⟨rfl, State.Warmed39.refl s, rfl⟩ trivial
  refine ⟨n, _, h1, h2, h3, hpost _ _ _ _ _ _ ⟨Cond.after_iff.mpr rfl, Cond.after_iff.mpr (eq_i res_at (Term.int_eval (1)) rfl), trivial⟩ ⟨hq.1, hq.2.1, (hq.2.2.sift fun y hy => Or.inr (N y hy)).mono (by decide) (by decide)⟩⟩
theorem main_1_1 : Claimed_1_1 := comes_1 fun _ _ _ _ _ _ h hF => ⟨h.1, hF⟩
theorem main_1_2 : Claimed_1_2 := comes_1 fun _ _ _ _ _ _ h hF => ⟨h.2.1, hF⟩
end Jvm.Pilot.@@N@@
namespace Jvm.Pilot.@@N@@
open Jvm Jvm.ClassFile Sem Op Lib Jvm.Free Jvm.Stand Jvm.Pilot.@@N@@.Jvm.D
/-! MADE BY PROGRAM (witnessworld.py) out of the Statement's table words and the real class files: 10 classes; the members and pool entries that the words name. The judged class is class 1, her method 2. -/
namespace start1
open Jvm.ClassFile
def u (s : String) : CpInfo := .utf8 (stringToUtf16 s)
/-- a pool by its gaps: so many unusable entries, then the entry; so many at the end -/
def gap : Nat → List CpInfo → List CpInfo
  | 0, r => r
  | n + 1, r => .unusable :: gap n r
def poolList (es : List (Nat × CpInfo)) (last : Nat) : List CpInfo := es.foldr (fun e r => gap e.1 (e.2 :: r)) (gap last [])
def pool (es : List (Nat × CpInfo)) (last : Nat) : Array CpInfo := ⟨poolList es last⟩
def fileOf (pool : Array CpInfo) (this : Nat) (attrs : Array Attribute := #[]) (ms : Array MethodInfo := #[]) (fl : Nat := 33) (sup : Nat := 0) (ifs : Array Nat := #[]) (fds : Array FieldInfo := #[]) : ClassFile where
  minorVersion := 0
  majorVersion := 65
  constantPool := pool
  accessFlags := fl
  thisClass := this
  superClass := sup
  interfaces := ifs
  fields := fds
  methods := ms
  attributes := attrs
def plain (name : String) (sup : Option ClassId) : Class where
  name := name
  kind := .ordinary
  loader := none
  accessFlags := 33
  super := sup
  interfaces := #[]
  cf := none
  fields := #[]
  methods := #[]
  instanceTypes := #[]
  staticTypes := #[]
  resolved := #[]
  callSites := []
  init := .initialized
  statics := none
  mirror := none

def pool0 : Array CpInfo := pool [(5, u "<init>"), (0, u "()V"), (1, .class_ 10), (1, u "java/lang/Object")] 113

def k0c0 : Code := { maxStack := 0, maxLocals := 1, code := object_method_1_code, exceptionTable := #[], attributes := #[] }
def k0m0 : Method := { name := "<init>", desc := "()V", sig := { parameters := [], returnType := none }, accessFlags := 1, code := some k0c0 }
/-- java/lang/Object -/
def k0 : Class := { plain "java/lang/Object" none with
  accessFlags := 33
  interfaces := #[]
  cf := some (fileOf pool0 8 #[] #[{ accessFlags := 1, nameIndex := 5, descriptorIndex := 6, attributes := #[] }] 33 0 #[] #[])
  fields := #[]
  methods := #[k0m0]
  instanceTypes := #[]
  staticTypes := #[]
  resolved := Array.replicate 124 none
  statics := none }

def pool1 : Array CpInfo := pool [(2, .class_ 4), (1, u "java/lang/Object"), (0, u "<init>"), (0, u "()V"), (0, .long 4294967296), (3, .long 18446744071562067968), (1, .class_ 14), (0, u "com/example/cinderbench/cinderbench/core/geo/Rings$Nearest"), (0, .methodref 13 16), (0, .nameAndType 5 17), (0, u "(DD)V"), (0, .methodref 13 19), (0, .nameAndType 20 21), (0, u "orNearer"), (0, u "(Lcom/example/cinderbench/cinderbench/core/geo/Rings$Nearest;)Lcom/example/cinderbench/cinderbench/core/geo/Rings$Nearest;"), (0, .methodref 23 24), (0, .class_ 25), (0, .nameAndType 26 27), (0, u "com/example/cinderbench/cinderbench/core/geo/NearestOrNearerPinLaw"), (0, u "key"), (0, u "(II)J"), (2, u "law"), (0, u "(IIIII)Z")] 7

def k1m0 : Method := { name := "<init>", desc := "()V", sig := { parameters := [], returnType := none }, accessFlags := 2, code := none }
def k1c1 : Code := { maxStack := 6, maxLocals := 2, code := method_2_code, exceptionTable := #[], attributes := #[] }
def k1m1 : Method := { name := "key", desc := "(II)J", sig := { parameters := [.int, .int], returnType := some .long }, accessFlags := 10, code := some k1c1 }
def k1c2 : Code := { maxStack := 6, maxLocals := 11, code := code, exceptionTable := #[], attributes := #[] }
def k1m2 : Method := { name := "law", desc := "(IIIII)Z", sig := { parameters := [.int, .int, .int, .int, .int], returnType := some .boolean }, accessFlags := 9, code := some k1c2 }
/-- com/example/cinderbench/cinderbench/core/geo/NearestOrNearerPinLaw -/
def k1 : Class := { plain "com/example/cinderbench/cinderbench/core/geo/NearestOrNearerPinLaw" (some 0) with
  accessFlags := 49
  interfaces := #[]
  cf := some (fileOf pool1 23 #[] #[{ accessFlags := 2, nameIndex := 5, descriptorIndex := 6, attributes := #[] }, { accessFlags := 10, nameIndex := 26, descriptorIndex := 27, attributes := #[] }, { accessFlags := 9, nameIndex := 30, descriptorIndex := 31, attributes := #[] }] 49 2 #[] #[])
  fields := #[]
  methods := #[k1m0, k1m1, k1m2]
  instanceTypes := #[]
  staticTypes := #[]
  resolved := Array.replicate 39 none
  statics := none }

def pool2 : Array CpInfo := pool [(1, .methodref 2 3), (0, .class_ 4), (0, .nameAndType 5 6), (0, u "java/lang/Object"), (0, u "<init>"), (0, u "()V"), (0, .class_ 8), (0, u "java/lang/Record")] 13

def k2c0 : Code := { maxStack := 1, maxLocals := 1, code := jdk_30_method_1_code, exceptionTable := #[], attributes := #[] }
def k2m0 : Method := { name := "<init>", desc := "()V", sig := { parameters := [], returnType := none }, accessFlags := 4, code := some k2c0 }
/-- java/lang/Record -/
def k2 : Class := { plain "java/lang/Record" (some 0) with
  accessFlags := 1057
  interfaces := #[]
  cf := some (fileOf pool2 7 #[] #[{ accessFlags := 4, nameIndex := 5, descriptorIndex := 6, attributes := #[] }] 1057 2 #[] #[])
  fields := #[]
  methods := #[k2m0]
  instanceTypes := #[]
  staticTypes := #[]
  resolved := Array.replicate 22 none
  statics := none }

def pool3 : Array CpInfo := pool [(1, .methodref 2 3), (0, .class_ 4), (0, .nameAndType 5 6), (0, u "java/lang/Record"), (0, u "<init>"), (0, u "()V"), (0, .fieldref 8 9), (0, .class_ 10), (0, .nameAndType 11 12), (0, u "com/example/cinderbench/cinderbench/core/geo/Rings$Nearest"), (0, u "share"), (0, u "D"), (0, .fieldref 8 14), (0, .nameAndType 15 12), (0, u "metres"), (12, u "(DD)V"), (3, u "orNearer"), (0, u "(Lcom/example/cinderbench/cinderbench/core/geo/Rings$Nearest;)Lcom/example/cinderbench/cinderbench/core/geo/Rings$Nearest;"), (8, .class_ 43), (0, u "com/example/cinderbench/cinderbench/core/geo/Rings")] 20

def k3c0 : Code := { maxStack := 3, maxLocals := 5, code := prog_53_method_1_code, exceptionTable := #[], attributes := #[] }
def k3m0 : Method := { name := "<init>", desc := "(DD)V", sig := { parameters := [.double, .double], returnType := none }, accessFlags := 1, code := some k3c0 }
def k3c1 : Code := { maxStack := 4, maxLocals := 2, code := prog_53_method_2_code, exceptionTable := #[], attributes := #[] }
def k3m1 : Method := { name := "orNearer", desc := "(Lcom/example/cinderbench/cinderbench/core/geo/Rings$Nearest;)Lcom/example/cinderbench/cinderbench/core/geo/Rings$Nearest;", sig := { parameters := [(.object "com/example/cinderbench/cinderbench/core/geo/Rings$Nearest")], returnType := some (.object "com/example/cinderbench/cinderbench/core/geo/Rings$Nearest") }, accessFlags := 0, code := some k3c1 }
/-- com/example/cinderbench/cinderbench/core/geo/Rings$Nearest -/
def k3 : Class := { plain "com/example/cinderbench/cinderbench/core/geo/Rings$Nearest" (some 2) with
  accessFlags := 49
  interfaces := #[]
  cf := some (fileOf pool3 8 #[.nestHost 42] #[{ accessFlags := 1, nameIndex := 5, descriptorIndex := 28, attributes := #[] }, { accessFlags := 0, nameIndex := 32, descriptorIndex := 33, attributes := #[] }] 49 2 #[] #[{ accessFlags := 18, nameIndex := 11, descriptorIndex := 12, attributes := #[] }, { accessFlags := 18, nameIndex := 15, descriptorIndex := 12, attributes := #[] }])
  fields := #[{ name := "share", type := .double, accessFlags := 18, slot := 0, constantValue := 0 }, { name := "metres", type := .double, accessFlags := 18, slot := 1, constantValue := 0 }]
  methods := #[k3m0, k3m1]
  instanceTypes := #[.double, .double]
  staticTypes := #[]
  resolved := Array.replicate 64 none
  statics := none }

def pool4 : Array CpInfo := pool [(1, u "java/lang/Cloneable"), (0, .class_ 1), (0, u "java/lang/Object"), (0, .class_ 3)] 3

/-- java/lang/Cloneable -/
def k4 : Class := { plain "java/lang/Cloneable" (some 0) with
  accessFlags := 1537
  interfaces := #[]
  cf := some (fileOf pool4 2 #[] #[] 1537 4 #[] #[])
  fields := #[]
  methods := #[]
  instanceTypes := #[]
  staticTypes := #[]
  resolved := Array.replicate 8 none
  statics := none }

def pool5 : Array CpInfo := pool [(1, u "java/io/Serializable"), (0, .class_ 1), (0, u "java/lang/Object"), (0, .class_ 3)] 3

/-- java/io/Serializable -/
def k5 : Class := { plain "java/io/Serializable" (some 0) with
  accessFlags := 1537
  interfaces := #[]
  cf := some (fileOf pool5 2 #[] #[] 1537 4 #[] #[])
  fields := #[]
  methods := #[]
  instanceTypes := #[]
  staticTypes := #[]
  resolved := Array.replicate 8 none
  statics := none }

/-- the primitive byte -/
def k6 : Class := { plain "byte" none with kind := .primitive 'B', accessFlags := 0x411 }
/-- [B -/
def k7 : Class := { plain "[B" (some 0) with kind := .array 6 .byte, interfaces := #[4, 5], accessFlags := 1041 }

/-- the primitive int -/
def k8 : Class := { plain "int" none with kind := .primitive 'I', accessFlags := 0x411 }
/-- [I -/
def k9 : Class := { plain "[I" (some 0) with kind := .array 8 .int, interfaces := #[4, 5], accessFlags := 1041 }

def heap : Heap := #[]
def classes : Array Class := #[k0, k1, k2, k3, k4, k5, k6, k7, k8, k9]
def interned : List (Array UInt16 × Addr) := []
def slotsUsed : Nat := 0
def theMethod : MethodId := ⟨1, 2⟩
def args0 : Array Value := #[.int 5, .int 6, .int 3, .int 2, .int 0]
def aboutOver (below : List Frame) : State where
  vm := { classes := classes, interned := interned.toArray }
  heap := heap
  slotsUsed := slotsUsed
  threads := #[{ frames := .invoking theMethod args0 :: below }]
def below0 : List Frame := [.native { method := ⟨0, 0⟩, args := #[] }]
def about1 : State := aboutOver below0
def p0 : Program := .bare "" "" ""
def e0 : Env := launch0.env 0 0 0
theorem w_frames : about1.frames = Frame.invoking theMethod args0 :: below0 := rfl
set_option maxRecDepth 65536 in
theorem w_args : argsFit about1.vm theMethod args0 = true := by decide +kernel
set_option maxRecDepth 65536 in
theorem w_heap : heapFits about1 = true := by decide +kernel
set_option maxRecDepth 65536 in
theorem w_runnable : about1.curStatus? = some .runnable := by decide +kernel
set_option maxRecDepth 65536 in
theorem w_alone : about1.alone = true := by decide +kernel
set_option maxRecDepth 65536 in
theorem w_named : about1.methodNamed? x = some theMethod := by decide +kernel
set_option maxRecDepth 65536 in
theorem w_hears : about1.hears theMethod below0 = true := by decide +kernel
set_option maxRecDepth 65536 in
theorem w_ripe : about1.ripe theMethod args0 below0 = true := by decide +kernel
theorem w_running : about1.status = .running := rfl
set_option maxRecDepth 65536 in
theorem w_room : about1.hasRoom e0.platform room_1 = true :=
  launch0.hasRoom_least _ room_1 (by decide +kernel) (by decide +kernel) (by decide +kernel) (by decide +kernel) (by decide +kernel) (by decide +kernel)
theorem allAtoms_all (ts : List Jvm.Cond) (a : Array Jvm.Value) (st : Jvm.State) : (allAtoms ts).before a st = ts.all (fun c => c.before a st) := by
  induction ts with
  | nil => rfl
  | cons c t ih =>
    show (Jvm.Cond.and c (allAtoms t)).before a st = _
    rw [Jvm.Cond.before_and, ih, List.all_cons]
def words1 : List Jvm.Cond := Jvm.Cond.code x code maxLocals ret :: tables_1
/-- a 'code' word, met by the world's own term for the bytes: nothing is compared byte by byte -/
theorem code_word {y : MethodName} {bytes : ByteArray} {mx : Nat} {rt : Option FieldType} {a : Array Value} {s : State} {m : MethodId} {meth : Method} {c : Code} (h1 : s.methodNamed? y = some m) (h2 : s.vm.method? m = some meth) (h3 : meth.code = some c) (h4 : c.code = bytes)
    (h5 : (c.maxLocals == mx && c.exceptionTable.isEmpty && decide (c.maxStack ≤ mostOperands) && decide (meth.sig.returnType = rt) && !meth.locks && decide (parseMethodDescriptor y.desc = some meth.sig)) = true) : (Jvm.Cond.code y bytes mx rt).before a s = true := by
  simp only [Bool.and_eq_true, beq_iff_eq, Bool.not_eq_true', decide_eq_true_eq] at h5
  obtain ⟨⟨⟨⟨⟨g1, g2⟩, g3⟩, g4⟩, g5⟩, g6⟩ := h5
  simp [Cond.before, Cond.holds, Cond.value, h1, h2, h3, h4, g1, g2, g3, g4, g5, g6]
def isCode : Jvm.Cond → Bool
  | .code _ _ _ _ => true
  | _ => false
theorem all_split {L : List Jvm.Cond} {P : Jvm.Cond → Bool} (h1 : L.all (fun c => isCode c || P c) = true) (h2 : ∀ c ∈ L.filter isCode, P c = true) : L.all P = true := by
  refine List.all_eq_true.mpr fun c hc => ?_
  have h := List.all_eq_true.mp h1 c hc
  rcases Bool.eq_false_or_eq_true (isCode c) with hi | hi
  · exact h2 c (List.mem_filter.mpr ⟨hc, hi⟩)
  · simpa [hi] using h
set_option maxRecDepth 65536 in
theorem w_c0 : (Jvm.Cond.code x code maxLocals ret).before args0 about1 = true := code_word (m := ⟨1, 2⟩) (meth := k1m2) (c := k1c2) (by decide +kernel) rfl rfl rfl (by decide +kernel)
set_option maxRecDepth 65536 in
theorem w_c1 : (Jvm.Cond.code ({ cls := "com/example/cinderbench/cinderbench/core/geo/Rings$Nearest", name := "<init>", desc := "(DD)V" } : Jvm.MethodName) prog_53_method_1_code (5 : Nat) (Option.none : Option Jvm.ClassFile.FieldType)).before args0 about1 = true := code_word (m := ⟨3, 0⟩) (meth := k3m0) (c := k3c0) (by decide +kernel) rfl rfl rfl (by decide +kernel)
set_option maxRecDepth 65536 in
theorem w_c2 : (Jvm.Cond.code ({ cls := "java/lang/Record", name := "<init>", desc := "()V" } : Jvm.MethodName) jdk_30_method_1_code (1 : Nat) (Option.none : Option Jvm.ClassFile.FieldType)).before args0 about1 = true := code_word (m := ⟨2, 0⟩) (meth := k2m0) (c := k2c0) (by decide +kernel) rfl rfl rfl (by decide +kernel)
set_option maxRecDepth 65536 in
theorem w_c3 : (Jvm.Cond.code ({ cls := "java/lang/Object", name := "<init>", desc := "()V" } : Jvm.MethodName) object_method_1_code (1 : Nat) (Option.none : Option Jvm.ClassFile.FieldType)).before args0 about1 = true := code_word (m := ⟨0, 0⟩) (meth := k0m0) (c := k0c0) (by decide +kernel) rfl rfl rfl (by decide +kernel)
set_option maxRecDepth 65536 in
theorem w_c4 : (Jvm.Cond.code ({ cls := "com/example/cinderbench/cinderbench/core/geo/Rings$Nearest", name := "orNearer", desc := "(Lcom/example/cinderbench/cinderbench/core/geo/Rings$Nearest;)Lcom/example/cinderbench/cinderbench/core/geo/Rings$Nearest;" } : Jvm.MethodName) prog_53_method_2_code (2 : Nat) (Option.some (Jvm.ClassFile.FieldType.object "com/example/cinderbench/cinderbench/core/geo/Rings$Nearest"))).before args0 about1 = true := code_word (m := ⟨3, 1⟩) (meth := k3m1) (c := k3c1) (by decide +kernel) rfl rfl rfl (by decide +kernel)
set_option maxRecDepth 65536 in
theorem w_c5 : (Jvm.Cond.code ({ cls := "com/example/cinderbench/cinderbench/core/geo/NearestOrNearerPinLaw", name := "key", desc := "(II)J" } : Jvm.MethodName) method_2_code (2 : Nat) (Option.some Jvm.ClassFile.FieldType.long)).before args0 about1 = true := code_word (m := ⟨1, 1⟩) (meth := k1m1) (c := k1c1) (by decide +kernel) rfl rfl rfl (by decide +kernel)
def codes1 : List Jvm.Cond := [Jvm.Cond.code x code maxLocals ret, Jvm.Cond.code ({ cls := "com/example/cinderbench/cinderbench/core/geo/Rings$Nearest", name := "<init>", desc := "(DD)V" } : Jvm.MethodName) prog_53_method_1_code (5 : Nat) (Option.none : Option Jvm.ClassFile.FieldType), Jvm.Cond.code ({ cls := "java/lang/Record", name := "<init>", desc := "()V" } : Jvm.MethodName) jdk_30_method_1_code (1 : Nat) (Option.none : Option Jvm.ClassFile.FieldType), Jvm.Cond.code ({ cls := "java/lang/Object", name := "<init>", desc := "()V" } : Jvm.MethodName) object_method_1_code (1 : Nat) (Option.none : Option Jvm.ClassFile.FieldType), Jvm.Cond.code ({ cls := "com/example/cinderbench/cinderbench/core/geo/Rings$Nearest", name := "orNearer", desc := "(Lcom/example/cinderbench/cinderbench/core/geo/Rings$Nearest;)Lcom/example/cinderbench/cinderbench/core/geo/Rings$Nearest;" } : Jvm.MethodName) prog_53_method_2_code (2 : Nat) (Option.some (Jvm.ClassFile.FieldType.object "com/example/cinderbench/cinderbench/core/geo/Rings$Nearest")), Jvm.Cond.code ({ cls := "com/example/cinderbench/cinderbench/core/geo/NearestOrNearerPinLaw", name := "key", desc := "(II)J" } : Jvm.MethodName) method_2_code (2 : Nat) (Option.some Jvm.ClassFile.FieldType.long)]
set_option maxRecDepth 65536 in
theorem codes_eq : words1.filter isCode = codes1 := rfl
theorem w_codes : ∀ c ∈ words1.filter isCode, c.before args0 about1 = true := by
  rw [codes_eq]
  intro c hc
  simp only [codes1, List.mem_cons, List.not_mem_nil, or_false] at hc
  rcases hc with rfl | rfl | rfl | rfl | rfl | rfl
  · exact w_c0
  · exact w_c1
  · exact w_c2
  · exact w_c3
  · exact w_c4
  · exact w_c5
set_option maxRecDepth 65536 in
theorem w_t1 : (words1.take 24).all (fun c => isCode c || c.before args0 about1) = true := by decide +kernel
set_option maxRecDepth 65536 in
theorem w_t2 : (words1.drop 24).all (fun c => isCode c || c.before args0 about1) = true := by decide +kernel
theorem w_tables : (allAtoms (Jvm.Cond.code x code maxLocals ret :: tables_1)).before args0 about1 = true := by
  rw [allAtoms_all]
  show words1.all (fun c => c.before args0 about1) = true
  refine all_split ?_ w_codes
  rw [← List.take_append_drop 24 words1, List.all_append, w_t1, w_t2]
  rfl
set_option maxRecDepth 65536 in
theorem w_case : (Jvm.Cond.and given_1 narrow_1).before args0 about1 = true := by decide +kernel
theorem w_applies : (headSpec (Jvm.Cond.code x code maxLocals ret :: tables_1) room_1).applies x e0.platform about1 = true :=
  (Spec.applies_iff w_frames).mpr ⟨w_running, w_runnable, w_alone, w_named, w_hears, w_ripe, w_room, w_tables⟩
theorem atStart : AtStart classFile x code maxLocals ret World_1 tables_1 room_1 Calls_1 rest_1 Pre_1 launch0 p0 e0 about1 theMethod args0 below0 :=
  ⟨lists_1, trivial, launch0.admits_env _ _ _, launch0.least_env, fairChoices_fair.cas, fairChoices_fair.clock, w_frames, w_args, w_heap, w_applies, trivial, trivial, w_case⟩
end start1
theorem witness_1 : WitnessClaimed_1 := ⟨start1.p0, start1.e0, start1.about1, start1.theMethod, start1.args0, start1.below0, start1.atStart⟩
end Jvm.Pilot.@@N@@
