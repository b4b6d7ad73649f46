import JvmDerived
import JvmDerived.Pilot.@@N@@Statement
import JvmDerived.Pilot.@@N@@Code
set_option linter.unusedVariables false
set_option linter.unusedSimpArgs false
@@BLOCK:NumsL.lean.txt@@
namespace Jvm.Pilot.@@N@@
open Jvm Jvm.ClassFile Sem Op Lib Jvm.Free Jvm.Stand Jvm.LawKit Jvm.RoadKit Bundle Jvm.Pilot.@@N@@.Jvm.D
theorem own_nb {z : Int32} (h : z = 0 ∨ z = 1) : nar .boolean z = z := by rcases h with rfl | rfl <;> decide
/-! doubles as whole numbers of 2^-1074: own_zv; the rounding of a quotient of whole numbers: own_rr -/
section FloatKit
open Jvm.FP.Core
def own_zv (a : UInt64) : Int := zval b64 (val64 a)
def own_rr (A B : Nat) : Nat := zmag b64 (roundRatio b64 false A B 0)
def own_Rep (V : Nat) : Prop := ∃ d, Jvm.FP.Core.fits b64 d ∧ d ≠ .nan ∧ zmag b64 d = V
theorem own_zmag_s (s : Bool) (A B : Nat) (e : Int) : zmag b64 (roundRatio b64 s A B e) = zmag b64 (roundRatio b64 false A B e) := by
  cases s
  · rfl
  · rw [show (true : Bool) = !false from rfl, ← negate_roundRatio]
    cases roundRatio b64 false A B e <;> rfl
theorem own_zv_round {s : Bool} {A B : Nat} {a : UInt64} (h : val64 a = roundRatio b64 s A B 0) : own_zv a = signed s (own_rr A B) := by
  unfold own_zv zval
  rw [h, sgn_roundRatio, own_zmag_s]; rfl
theorem own_units0 (A : Nat) : inUnits A 0 b64.qmin = A * one64 := by
  unfold inUnits
  rw [Int.zero_sub, pow_qmin64]
theorem own_rr_zero (B : Nat) : own_rr 0 B = 0 := by
  unfold own_rr roundRatio
  rw [if_pos rfl]; simp [zmag, inUnits]
theorem own_rr_rep (A : Nat) {B : Nat} (hB : 0 < B) : own_Rep (own_rr A B) := ⟨_, roundRatio_fits good_b64 false A hB 0, roundRatio_ne_nan _ _ _ _ _, rfl⟩
theorem own_rr_le {A B V : Nat} (hB : 0 < B) (hV : own_Rep V) (h : A * one64 ≤ V * B) : own_rr A B ≤ V := by
  obtain ⟨d, h1, h2, rfl⟩ := hV
  refine zmag_roundRatio_le good_b64 hB h1 h2 (e0 := b64.qmin) (Int.le_refl _) (by decide) ?_
  rw [own_units0, Int.sub_self, Int.toNat_zero, Nat.pow_zero, Nat.mul_one]
  exact h
theorem own_rr_ge {A B V : Nat} (hB : 0 < B) (hV : own_Rep V) (h : V * B ≤ A * one64) : V ≤ own_rr A B := by
  obtain ⟨d, h1, h2, rfl⟩ := hV
  refine zmag_roundRatio_ge good_b64 hB h1 (e0 := b64.qmin) (Int.le_refl _) (by decide) ?_
  rw [own_units0, Int.sub_self, Int.toNat_zero, Nat.pow_zero, Nat.mul_one]
  exact h
theorem own_rr_exact {A B V : Nat} (hB : 0 < B) (hV : own_Rep V) (h : A * one64 = V * B) : own_rr A B = V :=
  Nat.le_antisymm (own_rr_le hB hV (Nat.le_of_eq h)) (own_rr_ge hB hV (Nat.le_of_eq h.symm))
theorem own_rr_congr {A B A' B' : Nat} (hB : 0 < B) (hB' : 0 < B') (h : A * B' = A' * B) : own_rr A B = own_rr A' B' := by
  unfold own_rr
  rw [roundRatio_congr (e' := 0) hB hB' (by simpa using h)]
/-- what is finite -/
theorem own_fin_round {s : Bool} {A B : Nat} {a : UInt64} (h : val64 a = roundRatio b64 s A B 0) (hlt : own_rr A B < b64.tails * 2 ^ (b64.exps - 2)) : DFin a := by
  rcases roundRatio_cases b64 s A B 0 with ⟨c, q, e⟩ | e
  · exact ⟨s, c, q, by rw [h, e]⟩
  · exfalso
    rw [own_rr, ← own_zmag_s s, e] at hlt
    exact Nat.lt_irrefl _ hlt
/-- m * 2^k is a double -/
theorem own_rep_pow {m k : Nat} (hm : m < 2 ^ 53) (hk : k ≤ 2045) : own_Rep (m * 2 ^ k) := by
  have hq1 : b64.qmin ≤ (k : Int) - 1074 := by rw [qmin_b64]; omega
  have hq2 : (k : Int) - 1074 ≤ b64.qmax := by rw [show b64.qmax = 971 by decide]; omega
  obtain ⟨c', q', h1, h2⟩ := round_exact good_b64 false (c := m) (q := (k : Int) - 1074) (by exact hm) hq1 hq2
  refine ⟨_, round_fits good_b64 (.fin false m ((k : Int) - 1074)), by rw [h1]; exact Datum.noConfusion, ?_⟩
  rw [h1]
  show inUnits c' q' b64.qmin = _
  rw [h2]
  unfold inUnits
  rw [qmin_b64, show ((k : Int) - 1074 - -1074).toNat = k by omega]
theorem own_rep_zero : own_Rep 0 := by
  have := own_rep_pow (m := 0) (k := 0) (by decide) (by decide)
  simpa using this
/-- rounding keeps the order -/
theorem own_rr_mono {A B A' B' : Nat} (hB : 0 < B) (hB' : 0 < B') (h : A * B' ≤ A' * B) : own_rr A B ≤ own_rr A' B' := by
  rcases roundRatio_cases b64 false A' B' 0 with ⟨c', q', e'⟩ | e'
  · rcases roundRatio_cases b64 false A B 0 with ⟨c, q, e⟩ | e
    · refine Nat.le_of_not_lt fun hlt => ?_
      have f1 : Jvm.FP.Core.fits b64 (.fin false c q) := e ▸ roundRatio_fits good_b64 false A hB 0
      have f2 : Jvm.FP.Core.fits b64 (.fin false c' q') := e' ▸ roundRatio_fits good_b64 false A' hB' 0
      have d1 := roundRatio_nearest good_b64 hB e f2.1 f2.2.1 (e0 := b64.qmin) (Int.le_refl _) (by decide)
      have d2 := roundRatio_nearest good_b64 hB' e' f1.1 f1.2.1 (e0 := b64.qmin) (Int.le_refl _) (by decide)
      unfold distance at d1 d2
      have x1 : own_rr A B = inUnits c q b64.qmin := by unfold own_rr; rw [e]; rfl
      have x2 : own_rr A' B' = inUnits c' q' b64.qmin := by unfold own_rr; rw [e']; rfl
      rw [x1, x2] at hlt
      rw [own_units0] at d1 d2
      generalize inUnits c q b64.qmin = X at *
      generalize inUnits c' q' b64.qmin = Y at *
      have hU := one64_pos
      generalize hP : A * one64 = P at *
      generalize hP' : A' * one64 = P' at *
      have hPP : P * B' ≤ P' * B := by
        rw [← hP, ← hP', Nat.mul_right_comm, Nat.mul_right_comm A']; exact Nat.mul_le_mul_right _ h
      rw [← Int.natCast_mul, ← Int.natCast_mul] at d1 d2
      have hXB : Y * B + B ≤ X * B := by rw [← Nat.succ_mul]; exact Nat.mul_le_mul_right _ hlt
      have hXB' : Y * B' + B' ≤ X * B' := by rw [← Nat.succ_mul]; exact Nat.mul_le_mul_right _ hlt
      have g1 : X * B + Y * B ≤ 2 * P := by
        generalize X * B = xb at *; generalize Y * B = yb at *; omega
      have g2 : 2 * P' ≤ X * B' + Y * B' := by
        generalize X * B' = xb at *; generalize Y * B' = yb at *; omega
      have g3 : (X * B + Y * B) * B' ≤ 2 * P * B' := Nat.mul_le_mul_right _ g1
      have g4 : 2 * P' * B ≤ (X * B' + Y * B') * B := Nat.mul_le_mul_right _ g2
      have g5 : (X * B + Y * B) * B' = (X * B' + Y * B') * B := by
        rw [Nat.add_mul, Nat.add_mul, Nat.mul_right_comm X, Nat.mul_right_comm Y]
      have g6 : P * B' = P' * B := by
        rw [Nat.mul_assoc] at g3 g4
        rw [g5] at g3
        generalize P * B' = u at *; generalize P' * B = w at *; omega
      have g7 : A * B' = A' * B := by
        rw [← hP, ← hP', Nat.mul_right_comm, Nat.mul_right_comm A'] at g6
        exact Nat.eq_of_mul_eq_mul_right hU g6
      have g8 := own_rr_congr hB hB' g7
      rw [x1, x2] at g8
      omega
    · exfalso
      have i1 := (roundRatio_inf good_b64 (s := false) (A := A) (B := B) (e := 0) (e0 := -1075) hB (by decide) (by decide)).mp e
      have i2 : ¬ _ := fun z => by
        have := (roundRatio_inf good_b64 (s := false) (A := A') (B := B') (e := 0) (e0 := -1075) hB' (by decide) (by decide)).mpr z
        rw [this] at e'; cases e'
      apply i2
      generalize (2 ^ (b64.p + 1) - 1) * 2 ^ (b64.qmax - 1 - -1075).toNat = M at *
      have hU : ∀ z, inUnits z 0 (-1075) = z * 2 ^ (0 - (-1075 : Int)).toNat := fun z => rfl
      rw [hU] at i1 ⊢
      have hW := Nat.two_pow_pos (0 - (-1075 : Int)).toNat
      generalize 2 ^ (0 - (-1075 : Int)).toNat = W at *
      have j1 : M * B * B' ≤ A * W * B' := Nat.mul_le_mul_right _ i1
      have j2 : A * W * B' ≤ A' * W * B := by
        rw [Nat.mul_right_comm, Nat.mul_right_comm A']; exact Nat.mul_le_mul_right _ h
      have j3 : M * B' * B ≤ A' * W * B := by rw [Nat.mul_right_comm]; exact Nat.le_trans j1 j2
      exact Nat.le_of_mul_le_mul_right j3 hB
  · have f1 := roundRatio_fits good_b64 false A hB 0
    unfold own_rr
    rw [e']
    exact zmag_le_top good_b64 f1
/-- the relative error -/
theorem own_rr_err {A B : Nat} (hB : 0 < B) (hn : 2 ^ 52 * B ≤ A * one64) (hlt : own_rr A B < b64.tails * 2 ^ (b64.exps - 2)) :
    2 ^ 53 * (own_rr A B * B) ≤ 2 ^ 53 * (A * one64) + A * one64 ∧ 2 ^ 53 * (A * one64) ≤ 2 ^ 53 * (own_rr A B * B) + A * one64 := by
  have hA : 0 < A := by
    rcases Nat.eq_zero_or_pos A with rfl | h
    · rw [Nat.zero_mul] at hn; have := Nat.mul_pos (show 0 < 2 ^ 52 by decide) hB; omega
    · exact h
  rcases roundRatio_cases b64 false A B 0 with ⟨c, q, e⟩ | e
  · have x1 : own_rr A B = inUnits c q b64.qmin := by unfold own_rr; rw [e]; rfl
    have e1 := e
    unfold roundRatio at e1
    rw [if_neg (by omega)] at e1
    unfold roundAt at e1
    have hq := quantum_ge b64 A B 0
    have hnb := quantum_not_below (f := b64) hA hB 0
    have hle := nearest_units_le (f := b64) hA hB 0
    generalize hr : quantum b64 A B 0 = r at *
    obtain ⟨-, s2⟩ := settle_value good_b64 hle e1 (e0 := b64.qmin) hq
    obtain ⟨n1, n2, -⟩ := nearest_spec (unitsNum A 0 r) (unitsDen B 0 r) (unitsDen_pos hB 0 r)
    generalize nearest (unitsNum A 0 r) (unitsDen B 0 r) = m at *
    rw [x1, s2]
    -- the ratio in units of 2^r is at least 2^52
    obtain ⟨k, hk⟩ : ∃ k : Nat, r = (k : Int) - 1074 := ⟨(r + 1074).toNat, by rw [qmin_b64] at hq; omega⟩
    have hm : inUnits m r b64.qmin = m * 2 ^ k := by
      unfold inUnits; rw [qmin_b64, hk, show ((k : Int) - 1074 - -1074).toNat = k by omega]
    rw [hm]
    -- A' * 2^k * g = A * one64 * g and B' * 2^k .. : scale both
    have hsc : ∃ G : Nat, 0 < G ∧ unitsNum A 0 r * 2 ^ k = A * one64 * G ∧ unitsDen B 0 r = B * G := by
      by_cases hk2 : 1074 ≤ k
      · refine ⟨2 ^ (k - 1074), Nat.two_pow_pos _, ?_, ?_⟩
        · unfold unitsNum one64
          rw [hk, show (0 - ((k : Int) - 1074)).toNat = 0 by omega, Nat.pow_zero, Nat.mul_one, Nat.mul_assoc, ← Nat.pow_add, show 1074 + (k - 1074) = k by omega]
        · unfold unitsDen
          rw [hk, show ((k : Int) - 1074 - 0).toNat = k - 1074 by omega]
      · refine ⟨1, by decide, ?_, ?_⟩
        · unfold unitsNum one64
          rw [hk, show (0 - ((k : Int) - 1074)).toNat = 1074 - k by omega, Nat.mul_one, Nat.mul_assoc, ← Nat.pow_add, show 1074 - k + k = 1074 by omega]
        · unfold unitsDen
          rw [hk, show ((k : Int) - 1074 - 0).toNat = 0 by omega, Nat.pow_zero]
    obtain ⟨G, hG, s3, s4⟩ := hsc
    have hbig : 2 ^ 52 * unitsDen B 0 r ≤ unitsNum A 0 r := by
      rcases hnb with h0 | h0
      · have hk0 : k = 0 := by rw [qmin_b64] at h0; omega
        rw [hk0, Nat.pow_zero, Nat.mul_one] at s3
        rw [s3, s4, ← Nat.mul_assoc]
        exact Nat.mul_le_mul_right _ hn
      · rw [show (b64.p : Int) - 1 = ((52 : Nat) : Int) by decide, ← units_below] at h0
        omega
    rw [s4] at n1 n2 hbig
    generalize unitsNum A 0 r = A' at *
    have hK := Nat.two_pow_pos k
    generalize 2 ^ k = K at *
    generalize A * one64 = P at *
    -- n1 : 2A' ≤ (2m+1)(B G), n2 : 2 m (B G) ≤ 2 A' + B G, hbig : 2^52 (B G) ≤ A', s3 : A' K = P G
    have t1 : 2 * (A' * K) ≤ 2 * (m * K * (B * G)) + B * G * K := by
      have := Nat.mul_le_mul_right K n1
      calc 2 * (A' * K) = 2 * A' * K := by ((try generalize Jvm.FP.Core.one64 = own_U); ac_rfl)
        _ ≤ (2 * m + 1) * (B * G) * K := this
        _ = 2 * (m * K * (B * G)) + B * G * K := by rw [Nat.add_mul, Nat.add_mul, Nat.one_mul]; ((try generalize Jvm.FP.Core.one64 = own_U); ac_rfl)
    have t2 : 2 * (m * K * (B * G)) ≤ 2 * (A' * K) + B * G * K := by
      have := Nat.mul_le_mul_right K n2
      calc 2 * (m * K * (B * G)) = 2 * m * (B * G) * K := by ((try generalize Jvm.FP.Core.one64 = own_U); ac_rfl)
        _ ≤ (2 * A' + B * G) * K := this
        _ = 2 * (A' * K) + B * G * K := by rw [Nat.add_mul]; ((try generalize Jvm.FP.Core.one64 = own_U); ac_rfl)
    have t3 : 2 ^ 52 * (B * G * K) ≤ A' * K := by
      have := Nat.mul_le_mul_right K hbig
      rw [Nat.mul_assoc] at this; exact this
    rw [s3] at t1 t2 t3
    have t4 : m * K * (B * G) = (m * K * B) * G := by ((try generalize Jvm.FP.Core.one64 = own_U); ac_rfl)
    have t5 : B * G * K = B * K * G := by ((try generalize Jvm.FP.Core.one64 = own_U); ac_rfl)
    rw [t4, t5] at t1 t2
    rw [t5] at t3
    have u1 : 2 * P ≤ 2 * (m * K * B) + B * K := by
      refine Nat.le_of_mul_le_mul_right (c := G) ?_ hG
      rw [Nat.add_mul, Nat.mul_assoc, Nat.mul_assoc 2]; exact t1
    have u2 : 2 * (m * K * B) ≤ 2 * P + B * K := by
      refine Nat.le_of_mul_le_mul_right (c := G) ?_ hG
      rw [Nat.add_mul, Nat.mul_assoc, Nat.mul_assoc 2]; exact t2
    have u3 : 2 ^ 52 * (B * K) ≤ P := by
      refine Nat.le_of_mul_le_mul_right (c := G) ?_ hG
      rw [Nat.mul_assoc]; exact t3
    generalize m * K * B = x at *
    generalize B * K = y at *
    constructor <;> omega
  · exfalso
    rw [own_rr, e] at hlt
    exact Nat.lt_irrefl _ hlt
/-! comparisons -/
theorem own_cmp {a b : UInt64} (ha : val64 a ≠ .nan) (hb : val64 b ≠ .nan) (o : CmpOp) : cmpValue (Jvm.FP.dcmp a b) o = if own_zv a < own_zv b then -1 else if own_zv a = own_zv b then 0 else 1 := by
  have h := dcmp_zval ha hb
  unfold own_zv
  show cmpValue (dcmp a b) o = _
  rw [h, compare_ite]
  by_cases h1 : zval b64 (val64 a) < zval b64 (val64 b)
  · rw [if_pos h1, if_pos h1]; rfl
  · rw [if_neg h1, if_neg h1]
    by_cases h2 : zval b64 (val64 a) = zval b64 (val64 b)
    · rw [if_pos h2, if_pos h2]; rfl
    · rw [if_neg h2, if_neg h2]; rfl
theorem own_fin_ne {a : UInt64} (h : DFin a) : val64 a ≠ .nan := h.ne_nan
theorem own_fin_nn {a : UInt64} (h : DFin a) : Jvm.Free.Fl.NoNaN64 a := Jvm.Free.Fl.val64_no.mpr h.ne_nan
/-! whole numbers -/
theorem own_i2d (x : Int32) : own_zv (Jvm.FP.i2d x) = x.toInt * (one64 : Int) := DInt_zval (i2d_int x)
theorem own_i2d_fin (x : Int32) : DFin (Jvm.FP.i2d x) := Jvm.FP.Core.i2d_fin x
theorem own_l2d {x : Int64} (h : x.toInt.natAbs ≤ 2 ^ 53) : own_zv (Jvm.FP.l2d x) = x.toInt * (one64 : Int) := DInt_zval (l2d_int h)
theorem own_l2d_fin (x : Int64) : DFin (Jvm.FP.l2d x) := Jvm.FP.Core.l2d_fin x
/-! the sign -/
theorem own_sgn {a : UInt64} (h : own_zv a ≠ 0) : sgn (val64 a) = decide (own_zv a < 0) := by
  unfold own_zv zval at *
  have hz : 0 < zmag b64 (val64 a) := Nat.pos_of_ne_zero fun q => h (by rw [q, signed_zero])
  rw [signed_lt_zero _ hz]
theorem own_natAbs (a : UInt64) : (own_zv a).natAbs = zmag b64 (val64 a) := natAbs_signed _ _
/-! division -/
theorem own_div {a b : UInt64} (ha : DFin a) (hb : DFin b) (hz : own_zv b ≠ 0) :
    val64 (Jvm.FP.ddiv a b) = roundRatio b64 (sgn (val64 a) != sgn (val64 b)) (own_zv a).natAbs (own_zv b).natAbs 0 := by
  rw [own_natAbs, own_natAbs]
  have hzb : zmag b64 (val64 b) ≠ 0 := fun q => hz (by unfold own_zv zval; rw [q, signed_zero])
  show val64 (ddiv a b) = _
  rw [val64_ddiv]
  have fa := val64_fits a
  have fb := val64_fits b
  obtain ⟨s, c, q, e1⟩ := ha
  obtain ⟨t, d, r, e2⟩ := hb
  rw [e1] at fa ⊢
  rw [e2] at fb hzb ⊢
  have hd : d ≠ 0 := fun w => hzb (by subst w; show 0 * _ = 0; exact Nat.zero_mul _)
  show (if d = 0 then _ else roundRatio b64 (s != t) c d (q - r)) = roundRatio b64 (s != t) (inUnits c q b64.qmin) (inUnits d r b64.qmin) 0
  rw [if_neg hd]
  have hq := fa.2.1
  have hr := fb.2.1
  rw [qmin_b64] at hq hr
  refine roundRatio_congr (Nat.pos_of_ne_zero hd) ?_ ?_
  · exact Nat.mul_pos (Nat.pos_of_ne_zero hd) (Nat.two_pow_pos _)
  · unfold inUnits
    rw [qmin_b64]
    obtain ⟨u, hu⟩ : ∃ u : Nat, q = (u : Int) - 1074 := ⟨(q + 1074).toNat, by omega⟩
    obtain ⟨w, hw⟩ : ∃ w : Nat, r = (w : Int) - 1074 := ⟨(r + 1074).toNat, by omega⟩
    subst hu hw
    rw [show ((u : Int) - 1074 - -1074).toNat = u by omega, show ((w : Int) - 1074 - -1074).toNat = w by omega]
    rw [show ((u : Int) - 1074 - ((w : Int) - 1074) - 0).toNat = u - w by omega, show (0 - ((u : Int) - 1074 - ((w : Int) - 1074))).toNat = w - u by omega]
    have : w + (u - w) = u + (w - u) := by omega
    calc c * (d * 2 ^ w) * 2 ^ (u - w) = c * d * 2 ^ (w + (u - w)) := by rw [Nat.pow_add]; ((try generalize Jvm.FP.Core.one64 = own_U); ac_rfl)
      _ = c * 2 ^ u * d * 2 ^ (w - u) := by rw [this, Nat.pow_add]; ((try generalize Jvm.FP.Core.one64 = own_U); ac_rfl)
theorem own_signed_abs (z : Int) : signed (decide (z < 0)) z.natAbs = z := by
  unfold signed
  by_cases h : z < 0 <;> simp [h] <;> omega
theorem own_zv_div_pos {a b : UInt64} (ha : DFin a) (hb : DFin b) (h0 : 0 ≤ own_zv a) (hz : 0 < own_zv b) : own_zv (Jvm.FP.ddiv a b) = (own_rr (own_zv a).natAbs (own_zv b).natAbs : Int) := by
  rw [own_zv_round (own_div ha hb (by omega))]
  by_cases h : own_zv a = 0
  · rw [h]; show signed _ (own_rr 0 _) = _
    rw [show (0 : Int).natAbs = 0 from rfl, own_rr_zero, signed_zero]; rfl
  · rw [own_sgn h, own_sgn (by omega), decide_eq_false (by omega), decide_eq_false (by omega)]; rfl
theorem own_zv_div_neg {a b : UInt64} (ha : DFin a) (hb : DFin b) (h0 : own_zv a ≤ 0) (hz : 0 < own_zv b) : own_zv (Jvm.FP.ddiv a b) = -(own_rr (own_zv a).natAbs (own_zv b).natAbs : Int) := by
  rw [own_zv_round (own_div ha hb (by omega))]
  by_cases h : own_zv a = 0
  · rw [h]; show signed _ (own_rr 0 _) = _
    rw [show (0 : Int).natAbs = 0 from rfl, own_rr_zero, signed_zero]; rfl
  · rw [own_sgn h, own_sgn (by omega), decide_eq_true (by omega), decide_eq_false (by omega)]; rfl
/-- a quotient of two whole numbers -/
theorem own_rr_int (i j : Nat) (hj : 0 < j) : own_rr (i * one64) (j * one64) = own_rr i j :=
  own_rr_congr (Nat.mul_pos hj one64_pos) hj (by ((try generalize Jvm.FP.Core.one64 = own_U); ac_rfl))
theorem own_natAbs_one (i : Int) : (i * (one64 : Int)).natAbs = i.natAbs * one64 := by rw [Int.natAbs_mul]; rfl
theorem own_top {V : Nat} (h : V ≤ 2 ^ 1023 * one64) : V < b64.tails * 2 ^ (b64.exps - 2) := by
  refine Nat.lt_of_le_of_lt h ?_
  decide +kernel
/-! the sign turned -/
theorem own_dneg_bits (a : UInt64) : a.toNat = (Jvm.FP.dneg a).toNat + 2 ^ 63 ∨ (Jvm.FP.dneg a).toNat = a.toNat + 2 ^ 63 := by
  have h := a.toNat_lt
  have e : (Jvm.FP.dneg a).toNat = a.toNat ^^^ 2 ^ 63 := by
    show (a ^^^ 0x8000000000000000).toNat = _
    rw [UInt64.toNat_xor]; rfl
  rw [e]
  by_cases hb : 2 ^ 63 ≤ a.toNat
  · left
    have : a.toNat ^^^ 2 ^ 63 = a.toNat - 2 ^ 63 := by
      apply Nat.eq_of_testBit_eq; intro i
      obtain ⟨k, hk⟩ : ∃ k, a.toNat = 2 ^ 63 + k := ⟨a.toNat - 2 ^ 63, by omega⟩
      have hk2 : k < 2 ^ 63 := by omega
      rw [hk, Nat.add_sub_cancel_left, Nat.testBit_xor, Nat.testBit_two_pow]
      by_cases hi : 63 = i
      · subst hi
        rw [Nat.testBit_two_pow_add_eq, Nat.testBit_lt_two_pow hk2]; rfl
      · by_cases hi2 : i < 63
        · rw [Nat.testBit_two_pow_add_gt hi2]; simp [hi]
        · have : 63 < i := by omega
          rw [Nat.testBit_lt_two_pow (Nat.lt_of_lt_of_le (show 2 ^ 63 + k < 2 ^ 64 by omega) (Nat.pow_le_pow_right (by decide) this)), Nat.testBit_lt_two_pow (Nat.lt_of_lt_of_le hk2 (Nat.pow_le_pow_right (by decide) (Nat.le_of_lt this)))]
          simp [hi]
    omega
  · right
    have : a.toNat ^^^ 2 ^ 63 = a.toNat + 2 ^ 63 := by
      apply Nat.eq_of_testBit_eq; intro i
      have hk2 : a.toNat < 2 ^ 63 := by omega
      rw [Nat.testBit_xor, Nat.testBit_two_pow, Nat.add_comm]
      by_cases hi : 63 = i
      · subst hi
        rw [Nat.testBit_two_pow_add_eq, Nat.testBit_lt_two_pow hk2]; rfl
      · by_cases hi2 : i < 63
        · rw [Nat.testBit_two_pow_add_gt hi2]; simp [hi]
        · have : 63 < i := by omega
          rw [Nat.testBit_lt_two_pow (Nat.lt_of_lt_of_le (show 2 ^ 63 + a.toNat < 2 ^ 64 by omega) (Nat.pow_le_pow_right (by decide) this)), Nat.testBit_lt_two_pow (Nat.lt_of_lt_of_le hk2 (Nat.pow_le_pow_right (by decide) (Nat.le_of_lt this)))]
          simp [hi]
    omega
theorem own_dneg_val (a : UInt64) : val64 (Jvm.FP.dneg a) = negate (val64 a) := val64_neg_bits (own_dneg_bits a)
theorem own_dneg (a : UInt64) : own_zv (Jvm.FP.dneg a) = -own_zv a := by unfold own_zv; rw [own_dneg_val, zval_negate]
theorem own_dneg_fin {a : UInt64} (h : DFin a) : DFin (Jvm.FP.dneg a) := by
  obtain ⟨s, c, q, e⟩ := h
  exact ⟨!s, c, q, by rw [own_dneg_val, e]; rfl⟩
/-! product -/
theorem own_mul {a b : UInt64} (ha : DFin a) (hb : DFin b) :
    val64 (Jvm.FP.dmul a b) = roundRatio b64 (sgn (val64 a) != sgn (val64 b)) ((own_zv a).natAbs * (own_zv b).natAbs) (one64 * one64) 0 := by
  rw [own_natAbs, own_natAbs]
  show val64 (dmul a b) = _
  rw [val64_dmul]
  have fa := val64_fits a
  have fb := val64_fits b
  obtain ⟨s, c, q, e1⟩ := ha
  obtain ⟨t, d, r, e2⟩ := hb
  rw [e1] at fa ⊢
  rw [e2] at fb ⊢
  show roundRatio b64 (s != t) (c * d) 1 (q + r) = roundRatio b64 (s != t) (inUnits c q b64.qmin * inUnits d r b64.qmin) (one64 * one64) 0
  have hq := fa.2.1
  have hr := fb.2.1
  rw [qmin_b64] at hq hr
  refine roundRatio_congr (by decide) (Nat.mul_pos one64_pos one64_pos) ?_
  unfold inUnits one64
  rw [qmin_b64]
  obtain ⟨u, hu⟩ : ∃ u : Nat, q = (u : Int) - 1074 := ⟨(q + 1074).toNat, by omega⟩
  obtain ⟨w, hw⟩ : ∃ w : Nat, r = (w : Int) - 1074 := ⟨(r + 1074).toNat, by omega⟩
  subst hu hw
  rw [show ((u : Int) - 1074 - -1074).toNat = u by omega, show ((w : Int) - 1074 - -1074).toNat = w by omega]
  rw [show ((u : Int) - 1074 + ((w : Int) - 1074) - 0).toNat = u + w - 2148 by omega, show (0 - ((u : Int) - 1074 + ((w : Int) - 1074))).toNat = 2148 - (u + w) by omega]
  generalize hx : u + w - 2148 = x
  generalize hy : 2148 - (u + w) = y
  have h5 : 1074 + (1074 + x) = u + (w + y) := by omega
  calc c * d * (2 ^ 1074 * 2 ^ 1074) * 2 ^ x = c * d * 2 ^ (1074 + (1074 + x)) := by rw [Nat.pow_add, Nat.pow_add]; generalize 2 ^ 1074 = own_W; ac_rfl
    _ = c * 2 ^ u * (d * 2 ^ w) * 1 * 2 ^ y := by rw [h5, Nat.pow_add, Nat.pow_add, Nat.mul_one]; ((try generalize Jvm.FP.Core.one64 = own_U); ac_rfl)
theorem own_zv_mul_pos {a b : UInt64} (ha : DFin a) (hb : DFin b) (h0 : 0 ≤ own_zv a) (h1 : 0 ≤ own_zv b) : own_zv (Jvm.FP.dmul a b) = (own_rr ((own_zv a).natAbs * (own_zv b).natAbs) (one64 * one64) : Int) := by
  rw [own_zv_round (own_mul ha hb)]
  by_cases h : own_zv a = 0
  · rw [h]; show signed _ (own_rr (0 * _) _) = (own_rr (0 * _) _ : Int)
    rw [Nat.zero_mul, own_rr_zero, signed_zero]; rfl
  · by_cases h' : own_zv b = 0
    · rw [h']; show signed _ (own_rr (_ * 0) _) = (own_rr (_ * 0) _ : Int)
      rw [Nat.mul_zero, own_rr_zero, signed_zero]; rfl
    · rw [own_sgn h, own_sgn h', decide_eq_false (by omega), decide_eq_false (by omega)]; rfl
/-! sum -/
theorem own_add {a b : UInt64} (ha : DFin a) (hb : DFin b) : ∃ sg, val64 (Jvm.FP.dadd a b) = roundRatio b64 sg (own_zv a + own_zv b).natAbs one64 0 ∧ signed sg (own_zv a + own_zv b).natAbs = own_zv a + own_zv b := by
  show ∃ sg, val64 (dadd a b) = _ ∧ _
  rw [val64_dadd]
  have fa := val64_fits a
  have fb := val64_fits b
  obtain ⟨s, c, q, e1⟩ := ha
  obtain ⟨t, d, r, e2⟩ := hb
  unfold own_zv
  rw [e1] at fa ⊢
  rw [e2] at fb ⊢
  obtain ⟨sg, n, e, h1, h2, h3⟩ := sum_units fa fb
  rw [h1, ← h3, natAbs_signed]
  refine ⟨sg, ?_, rfl⟩
  show roundRatio b64 sg n 1 e = _
  refine roundRatio_congr (by decide) one64_pos ?_
  unfold inUnits one64
  rw [qmin_b64] at h2 ⊢
  obtain ⟨u, hu⟩ : ∃ u : Nat, e = (u : Int) - 1074 := ⟨(e + 1074).toNat, by omega⟩
  subst hu
  rw [show ((u : Int) - 1074 - -1074).toNat = u by omega, show ((u : Int) - 1074 - 0).toNat = u - 1074 by omega, show (0 - ((u : Int) - 1074)).toNat = 1074 - u by omega]
  have h5 : 1074 + (u - 1074) = u + (1074 - u) := by omega
  calc n * 2 ^ 1074 * 2 ^ (u - 1074) = n * 2 ^ (1074 + (u - 1074)) := by rw [Nat.pow_add 2 1074 (u - 1074), Nat.mul_assoc]
    _ = n * 2 ^ u * 1 * 2 ^ (1074 - u) := by rw [h5, Nat.pow_add, Nat.mul_one]; ((try generalize Jvm.FP.Core.one64 = own_U); ac_rfl)
theorem own_zv_add_pos {a b : UInt64} (ha : DFin a) (hb : DFin b) (h0 : 0 ≤ own_zv a + own_zv b) : own_zv (Jvm.FP.dadd a b) = (own_rr (own_zv a + own_zv b).natAbs one64 : Int) := by
  obtain ⟨sg, h1, h2⟩ := own_add ha hb
  rw [own_zv_round h1]
  generalize own_zv a + own_zv b = z at *
  by_cases h : z = 0
  · subst h; show signed sg (own_rr 0 _) = (own_rr 0 _ : Int)
    rw [own_rr_zero, signed_zero]; rfl
  · have : sg = false := by
      cases sg
      · rfl
      · exfalso; simp [signed] at h2; omega
    subst this; rfl
theorem own_add_exact {a b : UInt64} (ha : DFin a) (hb : DFin b) (hr : own_Rep (own_zv a + own_zv b).natAbs) : own_zv (Jvm.FP.dadd a b) = own_zv a + own_zv b := by
  obtain ⟨sg, h1, h2⟩ := own_add ha hb
  rw [own_zv_round h1, own_rr_exact one64_pos hr rfl, h2]
theorem own_add_fin {a b : UInt64} (ha : DFin a) (hb : DFin b) (hr : own_Rep (own_zv a + own_zv b).natAbs) (hlt : (own_zv a + own_zv b).natAbs ≤ 2 ^ 1023 * one64) : DFin (Jvm.FP.dadd a b) := by
  obtain ⟨sg, h1, h2⟩ := own_add ha hb
  exact own_fin_round h1 (by rw [own_rr_exact one64_pos hr rfl]; exact own_top hlt)
theorem own_sub_eq {a b : UInt64} (hb : DFin b) : Jvm.FP.dsub a b = Jvm.FP.dadd a (Jvm.FP.dneg b) := by
  show dsub a b = dadd a (Jvm.FP.dneg b)
  rw [dsub_eq]
  congr 1
  refine (val64_inj ?_ ?_)
  · rw [val64_dneg]; exact negate_ne_nan hb.ne_nan
  · rw [val64_dneg, own_dneg_val]
theorem own_cmp_int {i j : Int} {a b : UInt64} (ha : DInt i a) (hb : DInt j b) (o : CmpOp) : cmpValue (Jvm.FP.dcmp a b) o = if i < j then -1 else if i = j then 0 else 1 := by
  show cmpValue (dcmp a b) o = _
  rw [dcmp_int ha hb, compare_ite]
  by_cases h1 : i < j
  · rw [if_pos h1, if_pos h1]; rfl
  · rw [if_neg h1, if_neg h1]
    by_cases h2 : i = j
    · rw [if_pos h2, if_pos h2]; rfl
    · rw [if_neg h2, if_neg h2]; rfl
theorem own_cmp_i (x y : Int32) (o : CmpOp) : cmpValue (Jvm.FP.dcmp (Jvm.FP.i2d x) (Jvm.FP.i2d y)) o = if x.toInt < y.toInt then -1 else if x.toInt = y.toInt then 0 else 1 := own_cmp_int (i2d_int x) (i2d_int y) o
theorem own_dneg_int {i : Int} {a : UInt64} (h : DInt i a) : DInt (-i) (Jvm.FP.dneg a) := by
  unfold DInt; rw [own_dneg_val]; exact whole_negate h
end FloatKit
theorem own_lc (x y : Int64) : lcmpW x y = if x.toInt < y.toInt then -1 else if x.toInt = y.toInt then 0 else 1 := by
  unfold lcmpW
  simp only [gt_iff_lt, Int64.lt_iff_toInt_lt, ← Int64.toInt_inj]
  by_cases h1 : x.toInt < y.toInt
  · rw [if_neg (by omega), if_neg (by omega), if_pos h1]
  · by_cases h2 : x.toInt = y.toInt
    · rw [if_neg (by omega), if_pos h2, if_neg h1, if_pos h2]
    · rw [if_pos (by omega), if_neg h1, if_neg h2]
theorem own_mod_bounds (x y : Int32) (hx : 0 ≤ x.toInt) (hy : 0 < y.toInt) : 0 ≤ (x % y).toInt ∧ (x % y).toInt < y.toInt := by
  rw [Int32.toInt_mod]; exact ⟨Int.tmod_nonneg _ hx, Int.tmod_lt_of_pos _ hy⟩
theorem own_m31 (x : Int32) : 0 ≤ (x &&& (2147483647 : Int32)).toInt := by
  rw [Jvm.Kit.i32_mask x (2147483647 : Int32) (k := 31) (by decide) (by decide)]; omega
theorem own_mask {x m : Int32} {k : Nat} (hk : k < 32) (hm : m.toBitVec.toNat = 2 ^ k - 1) : 0 ≤ (x &&& m).toInt ∧ (x &&& m).toInt < 2 ^ k := by
  rw [Jvm.Kit.i32_mask x m hk hm]
  have : (0 : Int) < 2 ^ k := Int.pow_pos (by decide)
  exact ⟨Int.emod_nonneg _ (by omega), Int.emod_lt_of_pos _ this⟩
theorem own_lc_pos (x y : Int64) : (0 : Int32) < lcmpW x y ↔ y.toInt < x.toInt := by
  rw [own_lc]
  by_cases h1 : x.toInt < y.toInt
  · rw [if_pos h1]; exact ⟨fun h => absurd h (by decide), fun h => by omega⟩
  · rw [if_neg h1]
    by_cases h2 : x.toInt = y.toInt
    · rw [if_pos h2]; exact ⟨fun h => absurd h (by decide), fun h => by omega⟩
    · rw [if_neg h2]; exact ⟨fun _ => by omega, fun _ => by decide⟩
theorem own_lc_neg (x y : Int64) : lcmpW x y < (0 : Int32) ↔ x.toInt < y.toInt := by
  rw [own_lc]
  by_cases h1 : x.toInt < y.toInt
  · rw [if_pos h1]; exact ⟨fun _ => h1, fun _ => by decide⟩
  · rw [if_neg h1]
    by_cases h2 : x.toInt = y.toInt
    · rw [if_pos h2]; exact ⟨fun h => absurd h (by decide), fun h => by omega⟩
    · rw [if_neg h2]; exact ⟨fun h => absurd h (by decide), fun h => by omega⟩
theorem own_lc_eq (x y : Int64) : lcmpW x y = (0 : Int32) ↔ x.toInt = y.toInt := by
  rw [own_lc]
  by_cases h1 : x.toInt < y.toInt
  · rw [if_pos h1]; exact ⟨fun h => absurd h (by decide), fun h => by omega⟩
  · rw [if_neg h1]
    by_cases h2 : x.toInt = y.toInt
    · rw [if_pos h2]; exact ⟨fun _ => h2, fun _ => rfl⟩
    · rw [if_neg h2]; exact ⟨fun h => absurd h (by decide), fun h => absurd h h2⟩

def f1 (z2 : UInt64) : UInt64 := z2
theorem d1_0 : decode prog_20_method_16_code 0 = .ok (.aload_n 0, 1) := by decide +kernel
theorem d1_1 : decode prog_20_method_16_code 1 = .ok (.getfield 7, 3) := by decide +kernel
theorem d1_4 : decode prog_20_method_16_code 4 = .ok (.dreturn, 1) := by decide +kernel
theorem ef_1 (m : MethodId) (x0 : Addr) : entryFrame m #[(.ref x0)] 1 = mkF m 0 #[.val (.ref x0)] [] := by first | (simp [entryFrame, mkF, argsToLocals, Value.category]; done) | rfl
theorem pn_0 : plainName "com/example/cinderbench/cinderbench/algorithms/Worth" = true := by first | (simp [plainName, overriddenIn]; done) | decide +kernel
def Q1 (Z : State) (a1 : Addr) (z2 : UInt64) (h0 : Heap) (n0 : Nat) (v : Option Value) (h : Heap) (L : List Loc) : Prop := v = some (.double (f1 z2)) ∧ Fr n0 L ∧ h = h0
set_option maxRecDepth 65536 in
set_option maxHeartbeats 40000000 in
theorem rm1 (l : Launch) (Z : State) (a0 : Array Value) (hw : ∀ d ∈ tables_1, d.before a0 Z = true) (ws : List Jvm.Cond) (a1 : Addr) (z2 : UInt64) (h0 : Heap) (n0 : Nat) (Z0 : n0 ≤ h0.size) (F_utility_a1 : Fld Z h0 a1 "com/example/cinderbench/cinderbench/algorithms/Worth" "utility" "D" (.double z2)) :
    MetFree l (⟨"com/example/cinderbench/cinderbench/algorithms/Worth", "utility", "()D"⟩ : MethodName) (head1 (Jvm.Cond.code (⟨"com/example/cinderbench/cinderbench/algorithms/Worth", "utility", "()D"⟩ : MethodName) prog_20_method_16_code 1 (some .double) :: ws) ({ frames := 0, cells := 0, slots := 0, locals := 0 } : Room)) (fun a U => a = #[(.ref a1)] ∧ Z.Warmed39 U.vm ∧ U.heap = h0) (fun _ _ _ _ _ => True) (fun _ U o U' => ∃ v L, o = .returned v ∧ Q1 Z a1 z2 h0 n0 v U'.heap L ∧ FrameEnd U o U' L ({ frames := 0, cells := 0, slots := 0, locals := 0 } : Room).cells ({ frames := 0, cells := 0, slots := 0, locals := 0 } : Room).slots) := by
  refine MetFree.of_bodySF (plainFor_of_name pn_0) hisR ?_
  intro p e s m args below meth c s₁ Bd hml0 hP hK
  obtain ⟨rfl, hZ, hh⟩ := hP
  have hx := Bd.exec
  have hby := Bd.bytes
  have hml : c.maxLocals = 1 := hml0
  have hown : s.vm.findClass "com/example/cinderbench/cinderbench/algorithms/Worth" = some m.cls := findClass_of_methodNamed Bd.named
  have hnm := (name_of_methodNamed Bd.named Bd.method).1
  have X0 : Stand p l e ({ frames := 0, cells := 0, slots := 0, locals := 0 } : Room) s m #[(.ref a1)] below meth c s₁ [] 0 0 := Stand.of_body Bd
  have e0 : s₁.heap = h0 := by rw [← hh, Bd.state]; rfl
  have N0 := Fr.nil n0
  have pre0 : ∀ t, Steps p.tables e below (s₁.setTop (mkF m 0 #[.val (.ref a1)] [])) t → Steps p.tables e below (s₁.setTop (entryFrame m #[(.ref a1)] 1)) t := fun t k => castTop (ef_1 m a1) k
  obtain ⟨T5, X5, e5, st5⟩ := getF X0 hx hZ hown (host := "") (Or.inl (hw _ (List.mem_of_getElem? (i := 8) rfl))) Via.refl e0 F_utility_a1 (g := (mkF m 1 #[.val (.ref a1)] [(.ref a1)])) rfl rfl (hb hby d1_1)
  have S6 : ∀ t, Steps p.tables e below (T5.setTop (mkF m 4 #[.val (.ref a1)] [(.double z2)])) t → Steps p.tables e below (s₁.setTop (entryFrame m #[(.ref a1)] 1)) t := by
    intro t k
    refine pre0 t ?_
    refine XS.aloadN X0.here hx rfl (hb hby d1_0) rfl rfl ?_
    show Steps p.tables e below (s₁.setTop (mkF m 1 #[.val (.ref a1)] [(.ref a1)])) _
    refine st5 _ ?_
    show Steps p.tables e below (T5.setTop (mkF m 4 #[.val (.ref a1)] [(.double z2)])) _
    exact k
  have hf : f1 z2 = z2 := by
    unfold f1
    rfl
  obtain ⟨fs, hr, hrun, hended, hW, hsame⟩ := X5.leave (v := some (.double z2)) (fun h => by rw [Bd.returns] at h; cases h)
  refine ⟨_, _, S6 _ ?_, hrun, hended, _, _, rfl, ?_, ⟨_, rfl⟩, hW, hsame.mono (by decide) (by decide)⟩
  · exact retOut X5 hx Bd.returns rfl (Or.inr (Or.inr (Or.inl ⟨rfl, rfl, _, rfl⟩))) (hb hby d1_4) hr
  · show Q1 Z a1 z2 h0 n0 _ T5.heap _
    rw [e5]
    exact ⟨by rw [hf], N0, rfl⟩
def f2 (p7 : Int32) (p8 : Int32) : UInt64 := (if p7 = (0 : Int32) then (if p8 = (0 : Int32) then (FP.i2d p7) else (FP.dneg (FP.i2d p7))) else (FP.i2d p7))
theorem d2_0 : decode method_3_code 0 = .ok (.iload_n 0, 1) := by decide +kernel
theorem d2_1 : decode method_3_code 1 = .ok (.ifCond .ne 13, 3) := by decide +kernel
theorem d2_4 : decode method_3_code 4 = .ok (.iload_n 1, 1) := by decide +kernel
theorem d2_5 : decode method_3_code 5 = .ok (.ifCond .eq 9, 3) := by decide +kernel
theorem d2_8 : decode method_3_code 8 = .ok (.iload_n 0, 1) := by decide +kernel
theorem d2_9 : decode method_3_code 9 = .ok (.i2d, 1) := by decide +kernel
theorem d2_10 : decode method_3_code 10 = .ok (.dneg, 1) := by decide +kernel
theorem d2_11 : decode method_3_code 11 = .ok (.goto 5, 3) := by decide +kernel
theorem d2_14 : decode method_3_code 14 = .ok (.iload_n 0, 1) := by decide +kernel
theorem d2_15 : decode method_3_code 15 = .ok (.i2d, 1) := by decide +kernel
theorem d2_16 : decode method_3_code 16 = .ok (.dreturn, 1) := by decide +kernel
theorem ef_2 (m : MethodId) (x0 : Int32) (x1 : Int32) : entryFrame m #[(.int x0), (.int x1)] 2 = mkF m 0 #[.val (.int x0), .val (.int x1)] [] := by first | (simp [entryFrame, mkF, argsToLocals, Value.category]; done) | rfl
theorem pn_1 : plainName "com/example/cinderbench/cinderbench/algorithms/WorthAbovePinLaw" = true := by first | (simp [plainName, overriddenIn]; done) | decide +kernel
def Q2 (Z : State) (p7 : Int32) (p8 : Int32) (h0 : Heap) (n0 : Nat) (v : Option Value) (h : Heap) (L : List Loc) : Prop := v = some (.double (f2 p7 p8)) ∧ Fr n0 L ∧ h = h0
set_option maxRecDepth 65536 in
set_option maxHeartbeats 40000000 in
theorem rm2 (l : Launch) (Z : State) (a0 : Array Value) (hw : ∀ d ∈ tables_1, d.before a0 Z = true) (ws : List Jvm.Cond) (p7 : Int32) (p8 : Int32) (h0 : Heap) (n0 : Nat) (Z0 : n0 ≤ h0.size)  :
    MetFree l (⟨"com/example/cinderbench/cinderbench/algorithms/WorthAbovePinLaw", "real", "(II)D"⟩ : MethodName) (head1 (Jvm.Cond.code (⟨"com/example/cinderbench/cinderbench/algorithms/WorthAbovePinLaw", "real", "(II)D"⟩ : MethodName) method_3_code 2 (some .double) :: ws) ({ frames := 0, cells := 0, slots := 0, locals := 0 } : Room)) (fun a U => a = #[(.int p7), (.int p8)] ∧ Z.Warmed39 U.vm ∧ U.heap = h0) (fun _ _ _ _ _ => True) (fun _ U o U' => ∃ v L, o = .returned v ∧ Q2 Z p7 p8 h0 n0 v U'.heap L ∧ FrameEnd U o U' L ({ frames := 0, cells := 0, slots := 0, locals := 0 } : Room).cells ({ frames := 0, cells := 0, slots := 0, locals := 0 } : Room).slots) := by
  refine MetFree.of_bodySF (plainFor_of_name pn_1) hisR ?_
  intro p e s m args below meth c s₁ Bd hml0 hP hK
  obtain ⟨rfl, hZ, hh⟩ := hP
  have hx := Bd.exec
  have hby := Bd.bytes
  have hml : c.maxLocals = 2 := hml0
  have hown : s.vm.findClass "com/example/cinderbench/cinderbench/algorithms/WorthAbovePinLaw" = some m.cls := findClass_of_methodNamed Bd.named
  have hnm := (name_of_methodNamed Bd.named Bd.method).1
  have X0 : Stand p l e ({ frames := 0, cells := 0, slots := 0, locals := 0 } : Room) s m #[(.int p7), (.int p8)] below meth c s₁ [] 0 0 := Stand.of_body Bd
  have e0 : s₁.heap = h0 := by rw [← hh, Bd.state]; rfl
  have N0 := Fr.nil n0
  have pre0 : ∀ t, Steps p.tables e below (s₁.setTop (mkF m 0 #[.val (.int p7), .val (.int p8)] [])) t → Steps p.tables e below (s₁.setTop (entryFrame m #[(.int p7), (.int p8)] 2)) t := fun t k => castTop (ef_2 m p7 p8) k
  have S14 : ∀ t, Steps p.tables e below (s₁.setTop (mkF m 1 #[.val (.int p7), .val (.int p8)] [(.int p7)])) t → Steps p.tables e below (s₁.setTop (entryFrame m #[(.int p7), (.int p8)] 2)) t := by
    intro t k
    refine pre0 t ?_
    refine XS.iloadN X0.here hx rfl (hb hby d2_0) rfl ?_
    show Steps p.tables e below (s₁.setTop (mkF m 1 #[.val (.int p7), .val (.int p8)] [(.int p7)])) _
    exact k
  have S17 : ∀ t, Steps p.tables e below (s₁.setTop (mkF m 16 #[.val (.int p7), .val (.int p8)] [(.double (if p7 = (0 : Int32) then (if p8 = (0 : Int32) then (FP.i2d p7) else (FP.dneg (FP.i2d p7))) else (FP.i2d p7)))])) t → Steps p.tables e below (s₁.setTop (entryFrame m #[(.int p7), (.int p8)] 2)) t := by
    intro t k
    refine S14 t ?_
    by_cases hc15 : p7 = (0 : Int32)
    · rw [if_pos hc15] at k
      refine XS.ifNo X0.here hx rfl (hb hby d2_1) rfl ((if0 _ _).trans (teq hc15).2) ?_
      show Steps p.tables e below (s₁.setTop (mkF m 4 #[.val (.int p7), .val (.int p8)] [])) _
      refine XS.iloadN X0.here hx rfl (hb hby d2_4) rfl ?_
      show Steps p.tables e below (s₁.setTop (mkF m 5 #[.val (.int p7), .val (.int p8)] [(.int p8)])) _
      by_cases hc16 : p8 = (0 : Int32)
      · rw [if_pos hc16] at k
        refine XS.ifYes X0.here hx rfl (pc0 := 5) (pc' := 14) rfl (hb hby d2_5) rfl ((if0 _ _).trans (teq hc16).1) (by decide) (by decide) ?_
        show Steps p.tables e below (s₁.setTop (mkF m 14 #[.val (.int p7), .val (.int p8)] [])) _
        refine XS.iloadN X0.here hx rfl (hb hby d2_14) rfl ?_
        show Steps p.tables e below (s₁.setTop (mkF m 15 #[.val (.int p7), .val (.int p8)] [(.int p7)])) _
        refine XS.i2dS X0.here hx rfl (hb hby d2_15) rfl rfl ?_
        show Steps p.tables e below (s₁.setTop (mkF m 16 #[.val (.int p7), .val (.int p8)] [(.double (FP.i2d p7))])) _
        exact k
      · rw [if_neg hc16] at k
        refine XS.ifNo X0.here hx rfl (hb hby d2_5) rfl ((if0 _ _).trans (feq hc16).1) ?_
        show Steps p.tables e below (s₁.setTop (mkF m 8 #[.val (.int p7), .val (.int p8)] [])) _
        refine XS.iloadN X0.here hx rfl (hb hby d2_8) rfl ?_
        show Steps p.tables e below (s₁.setTop (mkF m 9 #[.val (.int p7), .val (.int p8)] [(.int p7)])) _
        refine XS.i2dS X0.here hx rfl (hb hby d2_9) rfl rfl ?_
        show Steps p.tables e below (s₁.setTop (mkF m 10 #[.val (.int p7), .val (.int p8)] [(.double (FP.i2d p7))])) _
        refine XS.dnegS X0.here hx rfl (hb hby d2_10) rfl rfl ?_
        show Steps p.tables e below (s₁.setTop (mkF m 11 #[.val (.int p7), .val (.int p8)] [(.double (FP.dneg (FP.i2d p7)))])) _
        refine XS.goto X0.here hx rfl (pc0 := 11) (pc' := 16) rfl (hb hby d2_11) (by decide) (by decide) ?_
        show Steps p.tables e below (s₁.setTop (mkF m 16 #[.val (.int p7), .val (.int p8)] [(.double (FP.dneg (FP.i2d p7)))])) _
        exact k
    · rw [if_neg hc15] at k
      refine XS.ifYes X0.here hx rfl (pc0 := 1) (pc' := 14) rfl (hb hby d2_1) rfl ((if0 _ _).trans (feq hc15).2) (by decide) (by decide) ?_
      show Steps p.tables e below (s₁.setTop (mkF m 14 #[.val (.int p7), .val (.int p8)] [])) _
      refine XS.iloadN X0.here hx rfl (hb hby d2_14) rfl ?_
      show Steps p.tables e below (s₁.setTop (mkF m 15 #[.val (.int p7), .val (.int p8)] [(.int p7)])) _
      refine XS.i2dS X0.here hx rfl (hb hby d2_15) rfl rfl ?_
      show Steps p.tables e below (s₁.setTop (mkF m 16 #[.val (.int p7), .val (.int p8)] [(.double (FP.i2d p7))])) _
      exact k
  obtain ⟨w18, hw18⟩ : ∃ z : UInt64, z = (if p7 = (0 : Int32) then (if p8 = (0 : Int32) then (FP.i2d p7) else (FP.dneg (FP.i2d p7))) else (FP.i2d p7)) := ⟨_, rfl⟩
  rw [← hw18] at S17
  have hf : f2 p7 p8 = w18 := by
    unfold f2
    subst hw18
    rfl
  obtain ⟨fs, hr, hrun, hended, hW, hsame⟩ := X0.leave (v := some (.double w18)) (fun h => by rw [Bd.returns] at h; cases h)
  refine ⟨_, _, S17 _ ?_, hrun, hended, _, _, rfl, ?_, ⟨_, rfl⟩, hW, hsame.mono (by decide) (by decide)⟩
  · exact retOut X0 hx Bd.returns rfl (Or.inr (Or.inr (Or.inl ⟨rfl, rfl, _, rfl⟩))) (hb hby d2_16) hr
  · show Q2 Z p7 p8 h0 n0 _ s₁.heap _
    rw [e0]
    exact ⟨by rw [hf], N0, rfl⟩
def f3 (q19 : Int64) (q20 : Int64) : Int64 := (if (0 : Int32) < (lcmpW q19 q20) then q20 else q19)
theorem d3_0 : decode jdk_29_method_70_code 0 = .ok (.lload_n 0, 1) := by decide +kernel
theorem d3_1 : decode jdk_29_method_70_code 1 = .ok (.lload_n 2, 1) := by decide +kernel
theorem d3_2 : decode jdk_29_method_70_code 2 = .ok (.lcmp, 1) := by decide +kernel
theorem d3_3 : decode jdk_29_method_70_code 3 = .ok (.ifCond .gt 7, 3) := by decide +kernel
theorem d3_6 : decode jdk_29_method_70_code 6 = .ok (.lload_n 0, 1) := by decide +kernel
theorem d3_7 : decode jdk_29_method_70_code 7 = .ok (.goto 4, 3) := by decide +kernel
theorem d3_10 : decode jdk_29_method_70_code 10 = .ok (.lload_n 2, 1) := by decide +kernel
theorem d3_11 : decode jdk_29_method_70_code 11 = .ok (.lreturn, 1) := by decide +kernel
theorem ef_3 (m : MethodId) (x0 : Int64) (x1 : Int64) : entryFrame m #[(.long x0), (.long x1)] 4 = mkF m 0 #[.val (.long x0), .second, .val (.long x1), .second] [] := by first | (simp [entryFrame, mkF, argsToLocals, Value.category]; done) | rfl
def Q3 (Z : State) (q19 : Int64) (q20 : Int64) (h0 : Heap) (n0 : Nat) (v : Option Value) (h : Heap) (L : List Loc) : Prop := v = some (.long (f3 q19 q20)) ∧ Fr n0 L ∧ h = h0
set_option maxRecDepth 65536 in
set_option maxHeartbeats 40000000 in
theorem rm3 (l : Launch) (Z : State) (a0 : Array Value) (hw : ∀ d ∈ tables_1, d.before a0 Z = true) (ws : List Jvm.Cond) (q19 : Int64) (q20 : Int64) (h0 : Heap) (n0 : Nat) (Z0 : n0 ≤ h0.size)  :
    MetFree l (⟨"java/lang/Math", "min", "(JJ)J"⟩ : MethodName) (head1 (Jvm.Cond.code (⟨"java/lang/Math", "min", "(JJ)J"⟩ : MethodName) jdk_29_method_70_code 4 (some .long) :: ws) ({ frames := 0, cells := 0, slots := 0, locals := 0 } : Room)) (fun a U => a = #[(.long q19), (.long q20)] ∧ Z.Warmed39 U.vm ∧ U.heap = h0) (fun _ _ _ _ _ => True) (fun _ U o U' => ∃ v L, o = .returned v ∧ Q3 Z q19 q20 h0 n0 v U'.heap L ∧ FrameEnd U o U' L ({ frames := 0, cells := 0, slots := 0, locals := 0 } : Room).cells ({ frames := 0, cells := 0, slots := 0, locals := 0 } : Room).slots) := by
  refine MetFree.of_bodySF (Jvm.Free.JP.mathPlain rfl (by decide +kernel)) hisR ?_
  intro p e s m args below meth c s₁ Bd hml0 hP hK
  obtain ⟨rfl, hZ, hh⟩ := hP
  have hx := Bd.exec
  have hby := Bd.bytes
  have hml : c.maxLocals = 4 := hml0
  have hown : s.vm.findClass "java/lang/Math" = some m.cls := findClass_of_methodNamed Bd.named
  have hnm := (name_of_methodNamed Bd.named Bd.method).1
  have X0 : Stand p l e ({ frames := 0, cells := 0, slots := 0, locals := 0 } : Room) s m #[(.long q19), (.long q20)] below meth c s₁ [] 0 0 := Stand.of_body Bd
  have e0 : s₁.heap = h0 := by rw [← hh, Bd.state]; rfl
  have N0 := Fr.nil n0
  have pre0 : ∀ t, Steps p.tables e below (s₁.setTop (mkF m 0 #[.val (.long q19), .second, .val (.long q20), .second] [])) t → Steps p.tables e below (s₁.setTop (entryFrame m #[(.long q19), (.long q20)] 4)) t := fun t k => castTop (ef_3 m q19 q20) k
  have S26 : ∀ t, Steps p.tables e below (s₁.setTop (mkF m 3 #[.val (.long q19), .second, .val (.long q20), .second] [(.int (lcmpW q19 q20))])) t → Steps p.tables e below (s₁.setTop (entryFrame m #[(.long q19), (.long q20)] 4)) t := by
    intro t k
    refine pre0 t ?_
    refine XS.lloadN X0.here hx rfl (hb hby d3_0) rfl ?_
    show Steps p.tables e below (s₁.setTop (mkF m 1 #[.val (.long q19), .second, .val (.long q20), .second] [(.long q19)])) _
    refine XS.lloadN X0.here hx rfl (hb hby d3_1) rfl ?_
    show Steps p.tables e below (s₁.setTop (mkF m 2 #[.val (.long q19), .second, .val (.long q20), .second] [(.long q20), (.long q19)])) _
    refine XS.lcmp X0.here hx rfl (hb hby d3_2) rfl ?_
    show Steps p.tables e below (s₁.setTop (mkF m 3 #[.val (.long q19), .second, .val (.long q20), .second] [(.int (lcmpW q19 q20))])) _
    exact k
  obtain ⟨w27, hw27⟩ : ∃ z : Int32, z = (lcmpW q19 q20) := ⟨_, rfl⟩
  rw [← hw27] at S26
  have S29 : ∀ t, Steps p.tables e below (s₁.setTop (mkF m 11 #[.val (.long q19), .second, .val (.long q20), .second] [(.long (if (0 : Int32) < w27 then q20 else q19))])) t → Steps p.tables e below (s₁.setTop (entryFrame m #[(.long q19), (.long q20)] 4)) t := by
    intro t k
    refine S26 t ?_
    by_cases hc28 : (0 : Int32) < w27
    · rw [if_pos hc28] at k
      refine XS.ifYes X0.here hx rfl (pc0 := 3) (pc' := 10) rfl (hb hby d3_3) rfl ((if0 _ _).trans (tlt hc28).2.2.1) (by decide) (by decide) ?_
      show Steps p.tables e below (s₁.setTop (mkF m 10 #[.val (.long q19), .second, .val (.long q20), .second] [])) _
      refine XS.lloadN X0.here hx rfl (hb hby d3_10) rfl ?_
      show Steps p.tables e below (s₁.setTop (mkF m 11 #[.val (.long q19), .second, .val (.long q20), .second] [(.long q20)])) _
      exact k
    · rw [if_neg hc28] at k
      refine XS.ifNo X0.here hx rfl (hb hby d3_3) rfl ((if0 _ _).trans (flt hc28).2.2.1) ?_
      show Steps p.tables e below (s₁.setTop (mkF m 6 #[.val (.long q19), .second, .val (.long q20), .second] [])) _
      refine XS.lloadN X0.here hx rfl (hb hby d3_6) rfl ?_
      show Steps p.tables e below (s₁.setTop (mkF m 7 #[.val (.long q19), .second, .val (.long q20), .second] [(.long q19)])) _
      refine XS.goto X0.here hx rfl (pc0 := 7) (pc' := 11) rfl (hb hby d3_7) (by decide) (by decide) ?_
      show Steps p.tables e below (s₁.setTop (mkF m 11 #[.val (.long q19), .second, .val (.long q20), .second] [(.long q19)])) _
      exact k
  obtain ⟨w30, hw30⟩ : ∃ z : Int64, z = (if (0 : Int32) < w27 then q20 else q19) := ⟨_, rfl⟩
  rw [← hw30] at S29
  have hf : f3 q19 q20 = w30 := by
    unfold f3
    subst hw27 hw30
    rfl
  obtain ⟨fs, hr, hrun, hended, hW, hsame⟩ := X0.leave (v := some (.long w30)) (fun h => by rw [Bd.returns] at h; cases h)
  refine ⟨_, _, S29 _ ?_, hrun, hended, _, _, rfl, ?_, ⟨_, rfl⟩, hW, hsame.mono (by decide) (by decide)⟩
  · exact retOut X0 hx Bd.returns rfl (Or.inr (Or.inl ⟨rfl, rfl, _, rfl⟩)) (hb hby d3_11) hr
  · show Q3 Z q19 q20 h0 n0 _ s₁.heap _
    rw [e0]
    exact ⟨by rw [hf], N0, rfl⟩
def f4 (q31 : Int64) (q32 : Int64) : Int64 := (if (lcmpW q31 q32) < (0 : Int32) then q32 else q31)
theorem d4_0 : decode jdk_29_method_66_code 0 = .ok (.lload_n 0, 1) := by decide +kernel
theorem d4_1 : decode jdk_29_method_66_code 1 = .ok (.lload_n 2, 1) := by decide +kernel
theorem d4_2 : decode jdk_29_method_66_code 2 = .ok (.lcmp, 1) := by decide +kernel
theorem d4_3 : decode jdk_29_method_66_code 3 = .ok (.ifCond .lt 7, 3) := by decide +kernel
theorem d4_6 : decode jdk_29_method_66_code 6 = .ok (.lload_n 0, 1) := by decide +kernel
theorem d4_7 : decode jdk_29_method_66_code 7 = .ok (.goto 4, 3) := by decide +kernel
theorem d4_10 : decode jdk_29_method_66_code 10 = .ok (.lload_n 2, 1) := by decide +kernel
theorem d4_11 : decode jdk_29_method_66_code 11 = .ok (.lreturn, 1) := by decide +kernel
theorem ef_4 (m : MethodId) (x0 : Int64) (x1 : Int64) : entryFrame m #[(.long x0), (.long x1)] 4 = mkF m 0 #[.val (.long x0), .second, .val (.long x1), .second] [] := by first | (simp [entryFrame, mkF, argsToLocals, Value.category]; done) | rfl
def Q4 (Z : State) (q31 : Int64) (q32 : Int64) (h0 : Heap) (n0 : Nat) (v : Option Value) (h : Heap) (L : List Loc) : Prop := v = some (.long (f4 q31 q32)) ∧ Fr n0 L ∧ h = h0
set_option maxRecDepth 65536 in
set_option maxHeartbeats 40000000 in
theorem rm4 (l : Launch) (Z : State) (a0 : Array Value) (hw : ∀ d ∈ tables_1, d.before a0 Z = true) (ws : List Jvm.Cond) (q31 : Int64) (q32 : Int64) (h0 : Heap) (n0 : Nat) (Z0 : n0 ≤ h0.size)  :
    MetFree l (⟨"java/lang/Math", "max", "(JJ)J"⟩ : MethodName) (head1 (Jvm.Cond.code (⟨"java/lang/Math", "max", "(JJ)J"⟩ : MethodName) jdk_29_method_66_code 4 (some .long) :: ws) ({ frames := 0, cells := 0, slots := 0, locals := 0 } : Room)) (fun a U => a = #[(.long q31), (.long q32)] ∧ Z.Warmed39 U.vm ∧ U.heap = h0) (fun _ _ _ _ _ => True) (fun _ U o U' => ∃ v L, o = .returned v ∧ Q4 Z q31 q32 h0 n0 v U'.heap L ∧ FrameEnd U o U' L ({ frames := 0, cells := 0, slots := 0, locals := 0 } : Room).cells ({ frames := 0, cells := 0, slots := 0, locals := 0 } : Room).slots) := by
  refine MetFree.of_bodySF (Jvm.Free.JP.mathPlain rfl (by decide +kernel)) hisR ?_
  intro p e s m args below meth c s₁ Bd hml0 hP hK
  obtain ⟨rfl, hZ, hh⟩ := hP
  have hx := Bd.exec
  have hby := Bd.bytes
  have hml : c.maxLocals = 4 := hml0
  have hown : s.vm.findClass "java/lang/Math" = some m.cls := findClass_of_methodNamed Bd.named
  have hnm := (name_of_methodNamed Bd.named Bd.method).1
  have X0 : Stand p l e ({ frames := 0, cells := 0, slots := 0, locals := 0 } : Room) s m #[(.long q31), (.long q32)] below meth c s₁ [] 0 0 := Stand.of_body Bd
  have e0 : s₁.heap = h0 := by rw [← hh, Bd.state]; rfl
  have N0 := Fr.nil n0
  have pre0 : ∀ t, Steps p.tables e below (s₁.setTop (mkF m 0 #[.val (.long q31), .second, .val (.long q32), .second] [])) t → Steps p.tables e below (s₁.setTop (entryFrame m #[(.long q31), (.long q32)] 4)) t := fun t k => castTop (ef_4 m q31 q32) k
  have S38 : ∀ t, Steps p.tables e below (s₁.setTop (mkF m 3 #[.val (.long q31), .second, .val (.long q32), .second] [(.int (lcmpW q31 q32))])) t → Steps p.tables e below (s₁.setTop (entryFrame m #[(.long q31), (.long q32)] 4)) t := by
    intro t k
    refine pre0 t ?_
    refine XS.lloadN X0.here hx rfl (hb hby d4_0) rfl ?_
    show Steps p.tables e below (s₁.setTop (mkF m 1 #[.val (.long q31), .second, .val (.long q32), .second] [(.long q31)])) _
    refine XS.lloadN X0.here hx rfl (hb hby d4_1) rfl ?_
    show Steps p.tables e below (s₁.setTop (mkF m 2 #[.val (.long q31), .second, .val (.long q32), .second] [(.long q32), (.long q31)])) _
    refine XS.lcmp X0.here hx rfl (hb hby d4_2) rfl ?_
    show Steps p.tables e below (s₁.setTop (mkF m 3 #[.val (.long q31), .second, .val (.long q32), .second] [(.int (lcmpW q31 q32))])) _
    exact k
  obtain ⟨w39, hw39⟩ : ∃ z : Int32, z = (lcmpW q31 q32) := ⟨_, rfl⟩
  rw [← hw39] at S38
  have S41 : ∀ t, Steps p.tables e below (s₁.setTop (mkF m 11 #[.val (.long q31), .second, .val (.long q32), .second] [(.long (if w39 < (0 : Int32) then q32 else q31))])) t → Steps p.tables e below (s₁.setTop (entryFrame m #[(.long q31), (.long q32)] 4)) t := by
    intro t k
    refine S38 t ?_
    by_cases hc40 : w39 < (0 : Int32)
    · rw [if_pos hc40] at k
      refine XS.ifYes X0.here hx rfl (pc0 := 3) (pc' := 10) rfl (hb hby d4_3) rfl ((if0 _ _).trans (tlt hc40).1) (by decide) (by decide) ?_
      show Steps p.tables e below (s₁.setTop (mkF m 10 #[.val (.long q31), .second, .val (.long q32), .second] [])) _
      refine XS.lloadN X0.here hx rfl (hb hby d4_10) rfl ?_
      show Steps p.tables e below (s₁.setTop (mkF m 11 #[.val (.long q31), .second, .val (.long q32), .second] [(.long q32)])) _
      exact k
    · rw [if_neg hc40] at k
      refine XS.ifNo X0.here hx rfl (hb hby d4_3) rfl ((if0 _ _).trans (flt hc40).1) ?_
      show Steps p.tables e below (s₁.setTop (mkF m 6 #[.val (.long q31), .second, .val (.long q32), .second] [])) _
      refine XS.lloadN X0.here hx rfl (hb hby d4_6) rfl ?_
      show Steps p.tables e below (s₁.setTop (mkF m 7 #[.val (.long q31), .second, .val (.long q32), .second] [(.long q31)])) _
      refine XS.goto X0.here hx rfl (pc0 := 7) (pc' := 11) rfl (hb hby d4_7) (by decide) (by decide) ?_
      show Steps p.tables e below (s₁.setTop (mkF m 11 #[.val (.long q31), .second, .val (.long q32), .second] [(.long q31)])) _
      exact k
  obtain ⟨w42, hw42⟩ : ∃ z : Int64, z = (if w39 < (0 : Int32) then q32 else q31) := ⟨_, rfl⟩
  rw [← hw42] at S41
  have hf : f4 q31 q32 = w42 := by
    unfold f4
    subst hw39 hw42
    rfl
  obtain ⟨fs, hr, hrun, hended, hW, hsame⟩ := X0.leave (v := some (.long w42)) (fun h => by rw [Bd.returns] at h; cases h)
  refine ⟨_, _, S41 _ ?_, hrun, hended, _, _, rfl, ?_, ⟨_, rfl⟩, hW, hsame.mono (by decide) (by decide)⟩
  · exact retOut X0 hx Bd.returns rfl (Or.inr (Or.inl ⟨rfl, rfl, _, rfl⟩)) (hb hby d4_11) hr
  · show Q4 Z q31 q32 h0 n0 _ s₁.heap _
    rw [e0]
    exact ⟨by rw [hf], N0, rfl⟩
def f5 (d43 : UInt64) (d44 : UInt64) (d45 : UInt64) (d46 : UInt64) : Int32 := (if (0 : Int32) < (cmpValue (FP.dcmp d43 d45) .l) then (1 : Int32) else (if (cmpValue (FP.dcmp d43 d45) .l) = (0 : Int32) then (if (0 : Int32) < (cmpValue (FP.dcmp d44 d46) .l) then (1 : Int32) else (0 : Int32)) else (0 : Int32)))
theorem f5_b (d43 : UInt64) (d44 : UInt64) (d45 : UInt64) (d46 : UInt64) : f5 d43 d44 d45 d46 = 0 ∨ f5 d43 d44 d45 d46 = 1 := by unfold f5; (repeat' split) <;> decide
theorem d5_0 : decode prog_20_method_10_code 0 = .ok (.dload_n 0, 1) := by decide +kernel
theorem d5_1 : decode prog_20_method_10_code 1 = .ok (.dload 4, 2) := by decide +kernel
theorem d5_3 : decode prog_20_method_10_code 3 = .ok (.dcmp .l, 1) := by decide +kernel
theorem d5_4 : decode prog_20_method_10_code 4 = .ok (.ifCond .gt 17, 3) := by decide +kernel
theorem d5_7 : decode prog_20_method_10_code 7 = .ok (.dload_n 0, 1) := by decide +kernel
theorem d5_8 : decode prog_20_method_10_code 8 = .ok (.dload 4, 2) := by decide +kernel
theorem d5_10 : decode prog_20_method_10_code 10 = .ok (.dcmp .l, 1) := by decide +kernel
theorem d5_11 : decode prog_20_method_10_code 11 = .ok (.ifCond .ne 14, 3) := by decide +kernel
theorem d5_14 : decode prog_20_method_10_code 14 = .ok (.dload_n 2, 1) := by decide +kernel
theorem d5_15 : decode prog_20_method_10_code 15 = .ok (.dload 6, 2) := by decide +kernel
theorem d5_17 : decode prog_20_method_10_code 17 = .ok (.dcmp .l, 1) := by decide +kernel
theorem d5_18 : decode prog_20_method_10_code 18 = .ok (.ifCond .le 7, 3) := by decide +kernel
theorem d5_21 : decode prog_20_method_10_code 21 = .ok (.iconst 1, 1) := by decide +kernel
theorem d5_22 : decode prog_20_method_10_code 22 = .ok (.goto 4, 3) := by decide +kernel
theorem d5_25 : decode prog_20_method_10_code 25 = .ok (.iconst 0, 1) := by decide +kernel
theorem d5_26 : decode prog_20_method_10_code 26 = .ok (.ireturn, 1) := by decide +kernel
theorem ef_5 (m : MethodId) (x0 : UInt64) (x1 : UInt64) (x2 : UInt64) (x3 : UInt64) : entryFrame m #[(.double x0), (.double x1), (.double x2), (.double x3)] 8 = mkF m 0 #[.val (.double x0), .second, .val (.double x1), .second, .val (.double x2), .second, .val (.double x3), .second] [] := by first | (simp [entryFrame, mkF, argsToLocals, Value.category]; done) | rfl
def Q5 (Z : State) (d43 : UInt64) (d44 : UInt64) (d45 : UInt64) (d46 : UInt64) (h0 : Heap) (n0 : Nat) (v : Option Value) (h : Heap) (L : List Loc) : Prop := v = some (.int (f5 d43 d44 d45 d46)) ∧ Fr n0 L ∧ h = h0
set_option maxRecDepth 65536 in
set_option maxHeartbeats 40000000 in
theorem rm5 (l : Launch) (Z : State) (a0 : Array Value) (hw : ∀ d ∈ tables_1, d.before a0 Z = true) (ws : List Jvm.Cond) (d43 : UInt64) (d44 : UInt64) (d45 : UInt64) (d46 : UInt64) (h0 : Heap) (n0 : Nat) (Z0 : n0 ≤ h0.size)  :
    MetFree l (⟨"com/example/cinderbench/cinderbench/algorithms/Worth", "above", "(DDDD)Z"⟩ : MethodName) (head1 (Jvm.Cond.code (⟨"com/example/cinderbench/cinderbench/algorithms/Worth", "above", "(DDDD)Z"⟩ : MethodName) prog_20_method_10_code 8 (some .boolean) :: ws) ({ frames := 0, cells := 0, slots := 0, locals := 0 } : Room)) (fun a U => a = #[(.double d43), (.double d44), (.double d45), (.double d46)] ∧ Z.Warmed39 U.vm ∧ U.heap = h0) (fun _ _ _ _ _ => True) (fun _ U o U' => ∃ v L, o = .returned v ∧ Q5 Z d43 d44 d45 d46 h0 n0 v U'.heap L ∧ FrameEnd U o U' L ({ frames := 0, cells := 0, slots := 0, locals := 0 } : Room).cells ({ frames := 0, cells := 0, slots := 0, locals := 0 } : Room).slots) := by
  refine MetFree.of_bodySF (plainFor_of_name pn_0) hisR ?_
  intro p e s m args below meth c s₁ Bd hml0 hP hK
  obtain ⟨rfl, hZ, hh⟩ := hP
  have hx := Bd.exec
  have hby := Bd.bytes
  have hml : c.maxLocals = 8 := hml0
  have hown : s.vm.findClass "com/example/cinderbench/cinderbench/algorithms/Worth" = some m.cls := findClass_of_methodNamed Bd.named
  have hnm := (name_of_methodNamed Bd.named Bd.method).1
  have X0 : Stand p l e ({ frames := 0, cells := 0, slots := 0, locals := 0 } : Room) s m #[(.double d43), (.double d44), (.double d45), (.double d46)] below meth c s₁ [] 0 0 := Stand.of_body Bd
  have e0 : s₁.heap = h0 := by rw [← hh, Bd.state]; rfl
  have N0 := Fr.nil n0
  have pre0 : ∀ t, Steps p.tables e below (s₁.setTop (mkF m 0 #[.val (.double d43), .second, .val (.double d44), .second, .val (.double d45), .second, .val (.double d46), .second] [])) t → Steps p.tables e below (s₁.setTop (entryFrame m #[(.double d43), (.double d44), (.double d45), (.double d46)] 8)) t := fun t k => castTop (ef_5 m d43 d44 d45 d46) k
  have S54 : ∀ t, Steps p.tables e below (s₁.setTop (mkF m 4 #[.val (.double d43), .second, .val (.double d44), .second, .val (.double d45), .second, .val (.double d46), .second] [(.int (cmpValue (FP.dcmp d43 d45) .l))])) t → Steps p.tables e below (s₁.setTop (entryFrame m #[(.double d43), (.double d44), (.double d45), (.double d46)] 8)) t := by
    intro t k
    refine pre0 t ?_
    refine XS.dloadN X0.here hx rfl (hb hby d5_0) rfl ?_
    show Steps p.tables e below (s₁.setTop (mkF m 1 #[.val (.double d43), .second, .val (.double d44), .second, .val (.double d45), .second, .val (.double d46), .second] [(.double d43)])) _
    refine XS.dload X0.here hx rfl (hb hby d5_1) rfl ?_
    show Steps p.tables e below (s₁.setTop (mkF m 3 #[.val (.double d43), .second, .val (.double d44), .second, .val (.double d45), .second, .val (.double d46), .second] [(.double d45), (.double d43)])) _
    refine XS.dcmpS X0.here hx rfl (hb hby d5_3) rfl rfl ?_
    show Steps p.tables e below (s₁.setTop (mkF m 4 #[.val (.double d43), .second, .val (.double d44), .second, .val (.double d45), .second, .val (.double d46), .second] [(.int (cmpValue (FP.dcmp d43 d45) .l))])) _
    exact k
  obtain ⟨w55, hw55⟩ : ∃ z : Int32, z = (cmpValue (FP.dcmp d43 d45) .l) := ⟨_, rfl⟩
  rw [← hw55] at S54
  have S59 : ∀ t, Steps p.tables e below (s₁.setTop (mkF m 26 #[.val (.double d43), .second, .val (.double d44), .second, .val (.double d45), .second, .val (.double d46), .second] [(.int (if (0 : Int32) < w55 then (1 : Int32) else (if (cmpValue (FP.dcmp d43 d45) .l) = (0 : Int32) then (if (0 : Int32) < (cmpValue (FP.dcmp d44 d46) .l) then (1 : Int32) else (0 : Int32)) else (0 : Int32))))])) t → Steps p.tables e below (s₁.setTop (entryFrame m #[(.double d43), (.double d44), (.double d45), (.double d46)] 8)) t := by
    intro t k
    refine S54 t ?_
    by_cases hc56 : (0 : Int32) < w55
    · rw [if_pos hc56] at k
      refine XS.ifYes X0.here hx rfl (pc0 := 4) (pc' := 21) rfl (hb hby d5_4) rfl ((if0 _ _).trans (tlt hc56).2.2.1) (by decide) (by decide) ?_
      show Steps p.tables e below (s₁.setTop (mkF m 21 #[.val (.double d43), .second, .val (.double d44), .second, .val (.double d45), .second, .val (.double d46), .second] [])) _
      refine XS.iconst X0.here hx rfl (hb hby d5_21) ?_
      show Steps p.tables e below (s₁.setTop (mkF m 22 #[.val (.double d43), .second, .val (.double d44), .second, .val (.double d45), .second, .val (.double d46), .second] [(.int (1 : Int32))])) _
      refine XS.goto X0.here hx rfl (pc0 := 22) (pc' := 26) rfl (hb hby d5_22) (by decide) (by decide) ?_
      show Steps p.tables e below (s₁.setTop (mkF m 26 #[.val (.double d43), .second, .val (.double d44), .second, .val (.double d45), .second, .val (.double d46), .second] [(.int (1 : Int32))])) _
      exact k
    · rw [if_neg hc56] at k
      refine XS.ifNo X0.here hx rfl (hb hby d5_4) rfl ((if0 _ _).trans (flt hc56).2.2.1) ?_
      show Steps p.tables e below (s₁.setTop (mkF m 7 #[.val (.double d43), .second, .val (.double d44), .second, .val (.double d45), .second, .val (.double d46), .second] [])) _
      refine XS.dloadN X0.here hx rfl (hb hby d5_7) rfl ?_
      show Steps p.tables e below (s₁.setTop (mkF m 8 #[.val (.double d43), .second, .val (.double d44), .second, .val (.double d45), .second, .val (.double d46), .second] [(.double d43)])) _
      refine XS.dload X0.here hx rfl (hb hby d5_8) rfl ?_
      show Steps p.tables e below (s₁.setTop (mkF m 10 #[.val (.double d43), .second, .val (.double d44), .second, .val (.double d45), .second, .val (.double d46), .second] [(.double d45), (.double d43)])) _
      refine XS.dcmpS X0.here hx rfl (hb hby d5_10) rfl rfl ?_
      show Steps p.tables e below (s₁.setTop (mkF m 11 #[.val (.double d43), .second, .val (.double d44), .second, .val (.double d45), .second, .val (.double d46), .second] [(.int (cmpValue (FP.dcmp d43 d45) .l))])) _
      by_cases hc57 : (cmpValue (FP.dcmp d43 d45) .l) = (0 : Int32)
      · rw [if_pos hc57] at k
        refine XS.ifNo X0.here hx rfl (hb hby d5_11) rfl ((if0 _ _).trans (teq hc57).2) ?_
        show Steps p.tables e below (s₁.setTop (mkF m 14 #[.val (.double d43), .second, .val (.double d44), .second, .val (.double d45), .second, .val (.double d46), .second] [])) _
        refine XS.dloadN X0.here hx rfl (hb hby d5_14) rfl ?_
        show Steps p.tables e below (s₁.setTop (mkF m 15 #[.val (.double d43), .second, .val (.double d44), .second, .val (.double d45), .second, .val (.double d46), .second] [(.double d44)])) _
        refine XS.dload X0.here hx rfl (hb hby d5_15) rfl ?_
        show Steps p.tables e below (s₁.setTop (mkF m 17 #[.val (.double d43), .second, .val (.double d44), .second, .val (.double d45), .second, .val (.double d46), .second] [(.double d46), (.double d44)])) _
        refine XS.dcmpS X0.here hx rfl (hb hby d5_17) rfl rfl ?_
        show Steps p.tables e below (s₁.setTop (mkF m 18 #[.val (.double d43), .second, .val (.double d44), .second, .val (.double d45), .second, .val (.double d46), .second] [(.int (cmpValue (FP.dcmp d44 d46) .l))])) _
        by_cases hc58 : (0 : Int32) < (cmpValue (FP.dcmp d44 d46) .l)
        · rw [if_pos hc58] at k
          refine XS.ifNo X0.here hx rfl (hb hby d5_18) rfl ((if0 _ _).trans (tlt hc58).2.2.2) ?_
          show Steps p.tables e below (s₁.setTop (mkF m 21 #[.val (.double d43), .second, .val (.double d44), .second, .val (.double d45), .second, .val (.double d46), .second] [])) _
          refine XS.iconst X0.here hx rfl (hb hby d5_21) ?_
          show Steps p.tables e below (s₁.setTop (mkF m 22 #[.val (.double d43), .second, .val (.double d44), .second, .val (.double d45), .second, .val (.double d46), .second] [(.int (1 : Int32))])) _
          refine XS.goto X0.here hx rfl (pc0 := 22) (pc' := 26) rfl (hb hby d5_22) (by decide) (by decide) ?_
          show Steps p.tables e below (s₁.setTop (mkF m 26 #[.val (.double d43), .second, .val (.double d44), .second, .val (.double d45), .second, .val (.double d46), .second] [(.int (1 : Int32))])) _
          exact k
        · rw [if_neg hc58] at k
          refine XS.ifYes X0.here hx rfl (pc0 := 18) (pc' := 25) rfl (hb hby d5_18) rfl ((if0 _ _).trans (flt hc58).2.2.2) (by decide) (by decide) ?_
          show Steps p.tables e below (s₁.setTop (mkF m 25 #[.val (.double d43), .second, .val (.double d44), .second, .val (.double d45), .second, .val (.double d46), .second] [])) _
          refine XS.iconst X0.here hx rfl (hb hby d5_25) ?_
          show Steps p.tables e below (s₁.setTop (mkF m 26 #[.val (.double d43), .second, .val (.double d44), .second, .val (.double d45), .second, .val (.double d46), .second] [(.int (0 : Int32))])) _
          exact k
      · rw [if_neg hc57] at k
        refine XS.ifYes X0.here hx rfl (pc0 := 11) (pc' := 25) rfl (hb hby d5_11) rfl ((if0 _ _).trans (feq hc57).2) (by decide) (by decide) ?_
        show Steps p.tables e below (s₁.setTop (mkF m 25 #[.val (.double d43), .second, .val (.double d44), .second, .val (.double d45), .second, .val (.double d46), .second] [])) _
        refine XS.iconst X0.here hx rfl (hb hby d5_25) ?_
        show Steps p.tables e below (s₁.setTop (mkF m 26 #[.val (.double d43), .second, .val (.double d44), .second, .val (.double d45), .second, .val (.double d46), .second] [(.int (0 : Int32))])) _
        exact k
  obtain ⟨w60, hw60⟩ : ∃ z : Int32, z = (if (0 : Int32) < w55 then (1 : Int32) else (if (cmpValue (FP.dcmp d43 d45) .l) = (0 : Int32) then (if (0 : Int32) < (cmpValue (FP.dcmp d44 d46) .l) then (1 : Int32) else (0 : Int32)) else (0 : Int32))) := ⟨_, rfl⟩
  rw [← hw60] at S59
  have hf : f5 d43 d44 d45 d46 = w60 := by
    unfold f5
    subst hw55 hw60
    rfl
  have hnb : nar .boolean w60 = w60 := own_nb (by rw [← hf]; exact f5_b d43 d44 d45 d46)
  obtain ⟨fs, hr, hrun, hended, hW, hsame⟩ := X0.leave (v := some (.int (nar .boolean w60))) (fun h => by rw [Bd.returns] at h; cases h)
  refine ⟨_, _, S59 _ ?_, hrun, hended, _, _, rfl, ?_, ⟨_, rfl⟩, hW, hsame.mono (by decide) (by decide)⟩
  · exact retN X0 hx (t := .boolean) Bd.returns (by simp) (hb hby d5_26) hr
  · show Q5 Z d43 d44 d45 d46 h0 n0 _ s₁.heap _
    rw [e0]
    exact ⟨by rw [hnb, hf], N0, rfl⟩
theorem own_min (a b : Int64) : (f3 a b).toInt = if b.toInt < a.toInt then b.toInt else a.toInt := by
  unfold f3
  by_cases h : (0 : Int32) < lcmpW a b
  · rw [if_pos h, if_pos ((own_lc_pos a b).mp h)]
  · rw [if_neg h, if_neg (fun q => h ((own_lc_pos a b).mpr q))]
theorem own_max (a b : Int64) : (f4 a b).toInt = if a.toInt < b.toInt then b.toInt else a.toInt := by
  unfold f4
  by_cases h : lcmpW a b < (0 : Int32)
  · rw [if_pos h, if_pos ((own_lc_neg a b).mp h)]
  · rw [if_neg h, if_neg (fun q => h ((own_lc_neg a b).mpr q))]
/-- a double, and the long that stands for it -/
def own_side (d : UInt64) (r : Int) : Prop := (Jvm.FP.Core.DInt r d ∧ -2147483648 ≤ r ∧ r ≤ 2147483647) ∨ (d = (18442240474082181120 : UInt64) ∧ r = -2147483649) ∨ (d = (9218868437227405312 : UInt64) ∧ r = 2147483648)
theorem own_real (x b : Int32) : own_side (f2 x b) x.toInt := by
  have a1 := x.toInt_lt
  have a2 := x.le_toInt
  refine Or.inl ⟨?_, by omega, by omega⟩
  unfold f2
  by_cases h : x = (0 : Int32)
  · rw [if_pos h]
    by_cases h2 : b = (0 : Int32)
    · rw [if_pos h2]; exact Jvm.FP.Core.i2d_int x
    · rw [if_neg h2]
      have := own_dneg_int (Jvm.FP.Core.i2d_int x)
      rw [show x.toInt = 0 by rw [h]; rfl] at this ⊢
      exact this
  · rw [if_neg h]; exact Jvm.FP.Core.i2d_int x
theorem own_dfin {i : Int} {a : UInt64} (ha : Jvm.FP.Core.DInt i a) : Jvm.Free.Fl.Fin64 a := by
  refine Jvm.Free.Fl.fin64_core.mpr ?_
  unfold Jvm.FP.Core.DInt Jvm.FP.Core.Whole at ha
  cases e : Jvm.FP.Core.val64 a with
  | nan => rw [e] at ha; exact ha.elim
  | inf s => rw [e] at ha; exact ha.elim
  | fin s c q => exact ⟨s, c, q, e⟩
theorem own_cmps {d d' : UInt64} {r r' : Int} (h : own_side d r) (h' : own_side d' r') : cmpValue (FP.dcmp d d') .l = if r < r' then -1 else if r = r' then 0 else 1 := by
  rcases h with ⟨h, b1, b2⟩ | ⟨rfl, rfl⟩ | ⟨rfl, rfl⟩ <;> rcases h' with ⟨h', b1', b2'⟩ | ⟨rfl, rfl⟩ | ⟨rfl, rfl⟩
  · exact own_cmp_int h h' .l
  · rw [dcmp_ninf (own_dfin h) .l, if_neg (by omega), if_neg (by omega)]
  · rw [dcmp_pinf (own_dfin h) .l, if_pos (by omega)]
  · rw [dcmp_ninf' (own_dfin h') .l, if_pos (by omega)]
  · decide +kernel
  · decide +kernel
  · rw [dcmp_pinf' (own_dfin h') .l, if_neg (by omega), if_neg (by omega)]
  · decide +kernel
  · decide +kernel
theorem pd_0 : parseMethodDescriptor "()D" = some ⟨[], some .double⟩ := by decide +kernel
theorem pd_1 : parseMethodDescriptor "(II)D" = some ⟨[.int, .int], some .double⟩ := by decide +kernel
theorem pd_2 : parseMethodDescriptor "(JJ)J" = some ⟨[.long, .long], some .long⟩ := by decide +kernel
theorem pd_3 : parseMethodDescriptor "(DDDD)Z" = some ⟨[.double, .double, .double, .double], some .boolean⟩ := by decide +kernel
set_option maxRecDepth 65536 in
theorem own_law (u : Int32) (p0 : Int32) (ou : Int32) (op0 : Int32) (sel : Int32)  (v0 : Int32) (hv0 : v0 = (sel &&& (8 : Int32))) (v1 : Int32) (hv1 : v1 = (if v0 = (0 : Int32) then ou else u)) (v2 : Int32) (hv2 : v2 = (sel &&& (16 : Int32))) (v3 : Int32) (hv3 : v3 = (if v2 = (0 : Int32) then op0 else p0)) (v4 : UInt64) (hv4 : v4 = (f1 (18442240474082181120 : UInt64))) (v5 : UInt64) (hv5 : v5 = (FP.dneg v4)) (v6 : Int32) (hv6 : v6 = ((sel >>> ((5 : Int32) &&& 31)) &&& (3 : Int32))) (v7 : Int32) (hv7 : v7 = (v6 &&& (1 : Int32))) (v8 : Int32) (hv8 : v8 = (if v7 = (0 : Int32) then (0 : Int32) else (1 : Int32))) (v9 : Int32) (hv9 : v9 = (v6 &&& (2 : Int32))) (v10 : Int32) (hv10 : v10 = (if v9 = (0 : Int32) then (0 : Int32) else (1 : Int32))) (v11 : Int32) (hv11 : v11 = ((sel >>> ((7 : Int32) &&& 31)) &&& (1 : Int32))) (v12 : Int32) (hv12 : v12 = (if v11 = (0 : Int32) then (0 : Int32) else (1 : Int32))) (v13 : Int32) (hv13 : v13 = ((sel >>> ((8 : Int32) &&& 31)) &&& (1 : Int32))) (v14 : Int32) (hv14 : v14 = (if v13 = (0 : Int32) then (0 : Int32) else (1 : Int32))) (v15 : UInt64) (hv15 : v15 = (if v8 = (0 : Int32) then (f2 u ((sel >>> ((9 : Int32) &&& 31)) &&& (1 : Int32))) else (if v12 = (0 : Int32) then v4 else v5))) (v16 : UInt64) (hv16 : v16 = (if v10 = (0 : Int32) then (f2 v1 ((sel >>> ((10 : Int32) &&& 31)) &&& (1 : Int32))) else (if v14 = (0 : Int32) then v4 else v5))) (v17 : UInt64) (hv17 : v17 = (f2 p0 ((sel >>> ((11 : Int32) &&& 31)) &&& (1 : Int32)))) (v18 : UInt64) (hv18 : v18 = (f2 v3 ((sel >>> ((12 : Int32) &&& 31)) &&& (1 : Int32)))) (v19 : Int64) (hv19 : v19 = (if v8 = (0 : Int32) then u.toInt64 else (if v12 = (0 : Int32) then (-2147483649 : Int64) else (2147483648 : Int64)))) (v20 : Int64) (hv20 : v20 = (if v10 = (0 : Int32) then v1.toInt64 else (if v14 = (0 : Int32) then (-2147483649 : Int64) else (2147483648 : Int64)))) (v21 : Int64) (hv21 : v21 = (f4 (-1 : Int64) (f3 (1 : Int64) (v19 - v20)))) (v22 : Int64) (hv22 : v22 = (p0.toInt64 - v3.toInt64)) (v23 : Int32) (hv23 : v23 = (lcmpW ((v21 * (8589934592 : Int64)) + v22) (0 : Int64))) (v24 : Int32) (hv24 : v24 = (if (0 : Int32) < v23 then (1 : Int32) else (0 : Int32))) (v25 : Int32) (hv25 : v25 = (f5 v15 v17 v16 v18)) (v26 : Int32) (hv26 : v26 = (if v25 = v24 then (1 : Int32) else (0 : Int32)))  : v26 = (1 : Int32) := by
  have e4 : v4 = (18442240474082181120 : UInt64) := hv4
  have e5 : v5 = (9218868437227405312 : UInt64) := by rw [hv5, e4]; decide +kernel
  have sd : ∀ (c : Prop) [Decidable c] (d : Prop) [Decidable d] (x b : Int32) (w : UInt64) (r : Int64), w = (if c then (f2 x b) else (if d then v4 else v5)) → r = (if c then x.toInt64 else (if d then (-2147483649 : Int64) else (2147483648 : Int64))) → own_side w r.toInt := by
    intro c _ d _ x b w r h1 h2
    by_cases hc : c
    · rw [if_pos hc] at h1 h2
      rw [h1, h2, Int32.toInt_toInt64]; exact own_real x b
    · rw [if_neg hc] at h1 h2
      by_cases hd : d
      · rw [if_pos hd] at h1 h2
        rw [h1, h2, e4]; exact Or.inr (Or.inl ⟨rfl, by decide⟩)
      · rw [if_neg hd] at h1 h2
        rw [h1, h2, e5]; exact Or.inr (Or.inr ⟨rfl, by decide⟩)
  have s1 := sd _ _ _ _ _ _ hv15 hv19
  have s2 := sd _ _ _ _ _ _ hv16 hv20
  have s3 : own_side v17 p0.toInt := by rw [hv17]; exact own_real _ _
  have s4 : own_side v18 v3.toInt := by rw [hv18]; exact own_real _ _
  have c1 := own_cmps s1 s2
  have c2 := own_cmps s3 s4
  have bd : ∀ d r, own_side d r → -2147483649 ≤ r ∧ r ≤ 2147483648 := by
    intro d r h
    rcases h with ⟨-, b1, b2⟩ | ⟨-, rfl⟩ | ⟨-, rfl⟩ <;> omega
  have b1 := bd _ _ s1
  have b2 := bd _ _ s2
  have A1 := p0.toInt_lt
  have A2 := p0.le_toInt
  have B1 := v3.toInt_lt
  have B2 := v3.le_toInt
  have f1 : (v19 - v20).toInt = v19.toInt - v20.toInt := by rw [Jvm.Kit.i64_sub] <;> omega
  have f2 : v21.toInt = if v19.toInt < v20.toInt then -1 else if v19.toInt = v20.toInt then 0 else 1 := by
    have k1 : (1 : Int64).toInt = 1 := by decide
    have k2 : (-1 : Int64).toInt = -1 := by decide
    rw [hv21, own_max, own_min, f1, k1, k2]
    (repeat' split) <;> omega
  have f3' : v22.toInt = p0.toInt - v3.toInt := by rw [hv22, Jvm.Kit.i64_sub] <;> simp only [Int32.toInt_toInt64] <;> omega
  have k3 : (8589934592 : Int64).toInt = 8589934592 := by decide
  have f4' : (v21 * (8589934592 : Int64)).toInt = v21.toInt * 8589934592 := by
    have : -1 ≤ v21.toInt ∧ v21.toInt ≤ 1 := by rw [f2]; (repeat' split) <;> omega
    rw [Jvm.Kit.i64_mul] <;> rw [k3] <;> omega
  have f5' : (v21 * (8589934592 : Int64) + v22).toInt = v21.toInt * 8589934592 + (p0.toInt - v3.toInt) := by
    have : -1 ≤ v21.toInt ∧ v21.toInt ≤ 1 := by rw [f2]; (repeat' split) <;> omega
    rw [Jvm.Kit.i64_add] <;> rw [f4', f3'] <;> omega
  have k0 : (0 : Int64).toInt = 0 := by decide
  have e23 : (0 : Int32) < v23 ↔ 0 < v21.toInt * 8589934592 + (p0.toInt - v3.toInt) := by rw [hv23, own_lc_pos, f5', k0]
  rw [hv26, hv25, hv24]
  unfold f5
  rw [c1, c2]
  by_cases h1 : v19.toInt < v20.toInt
  · rw [if_pos h1] at f2 ⊢
    rw [if_neg (show ¬ (0 : Int32) < -1 by decide), if_neg (show ¬ ((-1 : Int32) = 0) by decide), if_neg (show ¬ (0 : Int32) < v23 from fun q => by have := e23.mp q; omega)]
    decide
  · rw [if_neg h1] at f2 ⊢
    by_cases h2 : v19.toInt = v20.toInt
    · rw [if_pos h2] at f2 ⊢
      rw [if_neg (show ¬ (0 : Int32) < 0 by decide), if_pos rfl]
      by_cases h3 : p0.toInt < v3.toInt
      · rw [if_pos h3, if_neg (show ¬ (0 : Int32) < -1 by decide), if_neg (show ¬ (0 : Int32) < v23 from fun q => by have := e23.mp q; omega)]
        decide
      · rw [if_neg h3]
        by_cases h4 : p0.toInt = v3.toInt
        · rw [if_pos h4, if_neg (show ¬ (0 : Int32) < 0 by decide), if_neg (show ¬ (0 : Int32) < v23 from fun q => by have := e23.mp q; omega)]
          decide
        · rw [if_neg h4, if_pos (show (0 : Int32) < 1 by decide), if_pos (e23.mpr (by omega))]
          decide
    · rw [if_neg h2] at f2 ⊢
      rw [if_pos (show (0 : Int32) < 1 by decide), if_pos (e23.mpr (by omega))]
      decide
theorem ef_0 (m : MethodId) (x0 : Int32) (x1 : Int32) (x2 : Int32) (x3 : Int32) (x4 : Int32) : entryFrame m #[(.int x0), (.int x1), (.int x2), (.int x3), (.int x4)] maxLocals = mkF m 0 #[.val (.int x0), .val (.int x1), .val (.int x2), .val (.int x3), .val (.int x4), .unset, .unset, .unset, .unset, .unset, .unset, .unset, .unset, .unset, .unset, .unset, .unset, .unset, .unset, .unset, .unset, .unset, .unset, .unset, .unset, .unset, .unset, .unset, .unset, .unset, .unset, .unset, .unset] [] := by first | (simp [entryFrame, mkF, argsToLocals, Value.category, maxLocals]; done) | rfl
def Q0 (Z : State) (u : Int32) (p0 : Int32) (ou : Int32) (op0 : Int32) (sel : Int32) (zL : Addr) (h0 : Heap) (n0 : Nat) (v : Option Value) (h : Heap) (L : List Loc) : Prop := v = some (.int 1) ∧ Fr n0 L
set_option maxRecDepth 65536 in
set_option maxHeartbeats 40000000 in
theorem rm0 (l : Launch) (Z : State) (a0 : Array Value) (hw : ∀ d ∈ tables_1, d.before a0 Z = true) (ws : List Jvm.Cond) (u : Int32) (p0 : Int32) (ou : Int32) (op0 : Int32) (sel : Int32) (zL : Addr) (h0 : Heap) (n0 : Nat) (Z0 : n0 ≤ h0.size) (S1 : Sta Z h0 "com/example/cinderbench/cinderbench/algorithms/Worth" "LOWEST" "Lcom/example/cinderbench/cinderbench/algorithms/Worth;" (.ref zL)) (E1 : Exa Z h0 zL "com/example/cinderbench/cinderbench/algorithms/Worth") (F1 : Fld Z h0 zL "com/example/cinderbench/cinderbench/algorithms/Worth" "utility" "D" (.double (18442240474082181120 : UInt64))) :
    MetFree l x (head1 (Jvm.Cond.code x code maxLocals ret :: ws) room_1) (fun a U => a = #[(.int u), (.int p0), (.int ou), (.int op0), (.int sel)] ∧ Z.Warmed39 U.vm ∧ U.heap = h0) (fun _ _ _ _ _ => True) (fun _ U o U' => ∃ v L, o = .returned v ∧ Q0 Z u p0 ou op0 sel zL h0 n0 v U'.heap L ∧ FrameEnd U o U' L room_1.cells room_1.slots) := by
  refine MetFree.of_bodySF (plainFor_of_name pn_1) hisR ?_
  intro p e s m args below meth c s₁ Bd hml0 hP hK
  obtain ⟨rfl, hZ, hh⟩ := hP
  have hx := Bd.exec
  have hby := Bd.bytes
  have hml : c.maxLocals = 33 := hml0
  have hown : s.vm.findClass "com/example/cinderbench/cinderbench/algorithms/WorthAbovePinLaw" = some m.cls := findClass_of_methodNamed Bd.named
  have hnm := (name_of_methodNamed Bd.named Bd.method).1
  have X0 : Stand p l e room_1 s m #[(.int u), (.int p0), (.int ou), (.int op0), (.int sel)] below meth c s₁ [] 0 0 := Stand.of_body Bd
  have e0 : s₁.heap = h0 := by rw [← hh, Bd.state]; rfl
  have N0 := Fr.nil n0
  have pre0 : ∀ t, Steps p.tables e below (s₁.setTop (mkF m 0 #[.val (.int u), .val (.int p0), .val (.int ou), .val (.int op0), .val (.int sel), .unset, .unset, .unset, .unset, .unset, .unset, .unset, .unset, .unset, .unset, .unset, .unset, .unset, .unset, .unset, .unset, .unset, .unset, .unset, .unset, .unset, .unset, .unset, .unset, .unset, .unset, .unset, .unset] [])) t → Steps p.tables e below (s₁.setTop (entryFrame m #[(.int u), (.int p0), (.int ou), (.int op0), (.int sel)] maxLocals)) t := fun t k => castTop (ef_0 m u p0 ou op0 sel) k
  have S61 : ∀ t, Steps p.tables e below (s₁.setTop (mkF m 5 #[.val (.int u), .val (.int p0), .val (.int ou), .val (.int op0), .val (.int sel), .unset, .unset, .unset, .unset, .unset, .unset, .unset, .unset, .unset, .unset, .unset, .unset, .unset, .unset, .unset, .unset, .unset, .unset, .unset, .unset, .unset, .unset, .unset, .unset, .unset, .unset, .unset, .unset] [(.int (sel &&& (8 : Int32)))])) t → Steps p.tables e below (s₁.setTop (entryFrame m #[(.int u), (.int p0), (.int ou), (.int op0), (.int sel)] maxLocals)) t := by
    intro t k
    refine pre0 t ?_
    refine XS.iload X0.here hx rfl (hb hby at_0) rfl ?_
    show Steps p.tables e below (s₁.setTop (mkF m 2 #[.val (.int u), .val (.int p0), .val (.int ou), .val (.int op0), .val (.int sel), .unset, .unset, .unset, .unset, .unset, .unset, .unset, .unset, .unset, .unset, .unset, .unset, .unset, .unset, .unset, .unset, .unset, .unset, .unset, .unset, .unset, .unset, .unset, .unset, .unset, .unset, .unset, .unset] [(.int sel)])) _
    refine XS.bipush X0.here hx rfl (hb hby at_2) ?_
    show Steps p.tables e below (s₁.setTop (mkF m 4 #[.val (.int u), .val (.int p0), .val (.int ou), .val (.int op0), .val (.int sel), .unset, .unset, .unset, .unset, .unset, .unset, .unset, .unset, .unset, .unset, .unset, .unset, .unset, .unset, .unset, .unset, .unset, .unset, .unset, .unset, .unset, .unset, .unset, .unset, .unset, .unset, .unset, .unset] [(.int (8 : Int32)), (.int sel)])) _
    refine XS.iand X0.here hx rfl (hb hby at_4) rfl ?_
    show Steps p.tables e below (s₁.setTop (mkF m 5 #[.val (.int u), .val (.int p0), .val (.int ou), .val (.int op0), .val (.int sel), .unset, .unset, .unset, .unset, .unset, .unset, .unset, .unset, .unset, .unset, .unset, .unset, .unset, .unset, .unset, .unset, .unset, .unset, .unset, .unset, .unset, .unset, .unset, .unset, .unset, .unset, .unset, .unset] [(.int (sel &&& (8 : Int32)))])) _
    exact k
  obtain ⟨w62, hw62⟩ : ∃ z : Int32, z = (sel &&& (8 : Int32)) := ⟨_, rfl⟩
  rw [← hw62] at S61
  have S64 : ∀ t, Steps p.tables e below (s₁.setTop (mkF m 13 #[.val (.int u), .val (.int p0), .val (.int ou), .val (.int op0), .val (.int sel), .unset, .unset, .unset, .unset, .unset, .unset, .unset, .unset, .unset, .unset, .unset, .unset, .unset, .unset, .unset, .unset, .unset, .unset, .unset, .unset, .unset, .unset, .unset, .unset, .unset, .unset, .unset, .unset] [(.int (if w62 = (0 : Int32) then ou else u))])) t → Steps p.tables e below (s₁.setTop (entryFrame m #[(.int u), (.int p0), (.int ou), (.int op0), (.int sel)] maxLocals)) t := by
    intro t k
    refine S61 t ?_
    by_cases hc63 : w62 = (0 : Int32)
    · rw [if_pos hc63] at k
      refine XS.ifYes X0.here hx rfl (pc0 := 5) (pc' := 12) rfl (hb hby at_5) rfl ((if0 _ _).trans (teq hc63).1) (by decide) (by decide) ?_
      show Steps p.tables e below (s₁.setTop (mkF m 12 #[.val (.int u), .val (.int p0), .val (.int ou), .val (.int op0), .val (.int sel), .unset, .unset, .unset, .unset, .unset, .unset, .unset, .unset, .unset, .unset, .unset, .unset, .unset, .unset, .unset, .unset, .unset, .unset, .unset, .unset, .unset, .unset, .unset, .unset, .unset, .unset, .unset, .unset] [])) _
      refine XS.iloadN X0.here hx rfl (hb hby at_12) rfl ?_
      show Steps p.tables e below (s₁.setTop (mkF m 13 #[.val (.int u), .val (.int p0), .val (.int ou), .val (.int op0), .val (.int sel), .unset, .unset, .unset, .unset, .unset, .unset, .unset, .unset, .unset, .unset, .unset, .unset, .unset, .unset, .unset, .unset, .unset, .unset, .unset, .unset, .unset, .unset, .unset, .unset, .unset, .unset, .unset, .unset] [(.int ou)])) _
      exact k
    · rw [if_neg hc63] at k
      refine XS.ifNo X0.here hx rfl (hb hby at_5) rfl ((if0 _ _).trans (feq hc63).1) ?_
      show Steps p.tables e below (s₁.setTop (mkF m 8 #[.val (.int u), .val (.int p0), .val (.int ou), .val (.int op0), .val (.int sel), .unset, .unset, .unset, .unset, .unset, .unset, .unset, .unset, .unset, .unset, .unset, .unset, .unset, .unset, .unset, .unset, .unset, .unset, .unset, .unset, .unset, .unset, .unset, .unset, .unset, .unset, .unset, .unset] [])) _
      refine XS.iloadN X0.here hx rfl (hb hby at_8) rfl ?_
      show Steps p.tables e below (s₁.setTop (mkF m 9 #[.val (.int u), .val (.int p0), .val (.int ou), .val (.int op0), .val (.int sel), .unset, .unset, .unset, .unset, .unset, .unset, .unset, .unset, .unset, .unset, .unset, .unset, .unset, .unset, .unset, .unset, .unset, .unset, .unset, .unset, .unset, .unset, .unset, .unset, .unset, .unset, .unset, .unset] [(.int u)])) _
      refine XS.goto X0.here hx rfl (pc0 := 9) (pc' := 13) rfl (hb hby at_9) (by decide) (by decide) ?_
      show Steps p.tables e below (s₁.setTop (mkF m 13 #[.val (.int u), .val (.int p0), .val (.int ou), .val (.int op0), .val (.int sel), .unset, .unset, .unset, .unset, .unset, .unset, .unset, .unset, .unset, .unset, .unset, .unset, .unset, .unset, .unset, .unset, .unset, .unset, .unset, .unset, .unset, .unset, .unset, .unset, .unset, .unset, .unset, .unset] [(.int u)])) _
      exact k
  obtain ⟨w65, hw65⟩ : ∃ z : Int32, z = (if w62 = (0 : Int32) then ou else u) := ⟨_, rfl⟩
  rw [← hw65] at S64
  have S66 : ∀ t, Steps p.tables e below (s₁.setTop (mkF m 20 #[.val (.int u), .val (.int p0), .val (.int ou), .val (.int op0), .val (.int sel), .val (.int w65), .unset, .unset, .unset, .unset, .unset, .unset, .unset, .unset, .unset, .unset, .unset, .unset, .unset, .unset, .unset, .unset, .unset, .unset, .unset, .unset, .unset, .unset, .unset, .unset, .unset, .unset, .unset] [(.int (sel &&& (16 : Int32)))])) t → Steps p.tables e below (s₁.setTop (entryFrame m #[(.int u), (.int p0), (.int ou), (.int op0), (.int sel)] maxLocals)) t := by
    intro t k
    refine S64 t ?_
    refine XS.istore X0.here hx rfl (hb hby at_13) rfl (l' := #[.val (.int u), .val (.int p0), .val (.int ou), .val (.int op0), .val (.int sel), .val (.int w65), .unset, .unset, .unset, .unset, .unset, .unset, .unset, .unset, .unset, .unset, .unset, .unset, .unset, .unset, .unset, .unset, .unset, .unset, .unset, .unset, .unset, .unset, .unset, .unset, .unset, .unset, .unset]) rfl ?_
    show Steps p.tables e below (s₁.setTop (mkF m 15 #[.val (.int u), .val (.int p0), .val (.int ou), .val (.int op0), .val (.int sel), .val (.int w65), .unset, .unset, .unset, .unset, .unset, .unset, .unset, .unset, .unset, .unset, .unset, .unset, .unset, .unset, .unset, .unset, .unset, .unset, .unset, .unset, .unset, .unset, .unset, .unset, .unset, .unset, .unset] [])) _
    refine XS.iload X0.here hx rfl (hb hby at_15) rfl ?_
    show Steps p.tables e below (s₁.setTop (mkF m 17 #[.val (.int u), .val (.int p0), .val (.int ou), .val (.int op0), .val (.int sel), .val (.int w65), .unset, .unset, .unset, .unset, .unset, .unset, .unset, .unset, .unset, .unset, .unset, .unset, .unset, .unset, .unset, .unset, .unset, .unset, .unset, .unset, .unset, .unset, .unset, .unset, .unset, .unset, .unset] [(.int sel)])) _
    refine XS.bipush X0.here hx rfl (hb hby at_17) ?_
    show Steps p.tables e below (s₁.setTop (mkF m 19 #[.val (.int u), .val (.int p0), .val (.int ou), .val (.int op0), .val (.int sel), .val (.int w65), .unset, .unset, .unset, .unset, .unset, .unset, .unset, .unset, .unset, .unset, .unset, .unset, .unset, .unset, .unset, .unset, .unset, .unset, .unset, .unset, .unset, .unset, .unset, .unset, .unset, .unset, .unset] [(.int (16 : Int32)), (.int sel)])) _
    refine XS.iand X0.here hx rfl (hb hby at_19) rfl ?_
    show Steps p.tables e below (s₁.setTop (mkF m 20 #[.val (.int u), .val (.int p0), .val (.int ou), .val (.int op0), .val (.int sel), .val (.int w65), .unset, .unset, .unset, .unset, .unset, .unset, .unset, .unset, .unset, .unset, .unset, .unset, .unset, .unset, .unset, .unset, .unset, .unset, .unset, .unset, .unset, .unset, .unset, .unset, .unset, .unset, .unset] [(.int (sel &&& (16 : Int32)))])) _
    exact k
  obtain ⟨w67, hw67⟩ : ∃ z : Int32, z = (sel &&& (16 : Int32)) := ⟨_, rfl⟩
  rw [← hw67] at S66
  have S69 : ∀ t, Steps p.tables e below (s₁.setTop (mkF m 28 #[.val (.int u), .val (.int p0), .val (.int ou), .val (.int op0), .val (.int sel), .val (.int w65), .unset, .unset, .unset, .unset, .unset, .unset, .unset, .unset, .unset, .unset, .unset, .unset, .unset, .unset, .unset, .unset, .unset, .unset, .unset, .unset, .unset, .unset, .unset, .unset, .unset, .unset, .unset] [(.int (if w67 = (0 : Int32) then op0 else p0))])) t → Steps p.tables e below (s₁.setTop (entryFrame m #[(.int u), (.int p0), (.int ou), (.int op0), (.int sel)] maxLocals)) t := by
    intro t k
    refine S66 t ?_
    by_cases hc68 : w67 = (0 : Int32)
    · rw [if_pos hc68] at k
      refine XS.ifYes X0.here hx rfl (pc0 := 20) (pc' := 27) rfl (hb hby at_20) rfl ((if0 _ _).trans (teq hc68).1) (by decide) (by decide) ?_
      show Steps p.tables e below (s₁.setTop (mkF m 27 #[.val (.int u), .val (.int p0), .val (.int ou), .val (.int op0), .val (.int sel), .val (.int w65), .unset, .unset, .unset, .unset, .unset, .unset, .unset, .unset, .unset, .unset, .unset, .unset, .unset, .unset, .unset, .unset, .unset, .unset, .unset, .unset, .unset, .unset, .unset, .unset, .unset, .unset, .unset] [])) _
      refine XS.iloadN X0.here hx rfl (hb hby at_27) rfl ?_
      show Steps p.tables e below (s₁.setTop (mkF m 28 #[.val (.int u), .val (.int p0), .val (.int ou), .val (.int op0), .val (.int sel), .val (.int w65), .unset, .unset, .unset, .unset, .unset, .unset, .unset, .unset, .unset, .unset, .unset, .unset, .unset, .unset, .unset, .unset, .unset, .unset, .unset, .unset, .unset, .unset, .unset, .unset, .unset, .unset, .unset] [(.int op0)])) _
      exact k
    · rw [if_neg hc68] at k
      refine XS.ifNo X0.here hx rfl (hb hby at_20) rfl ((if0 _ _).trans (feq hc68).1) ?_
      show Steps p.tables e below (s₁.setTop (mkF m 23 #[.val (.int u), .val (.int p0), .val (.int ou), .val (.int op0), .val (.int sel), .val (.int w65), .unset, .unset, .unset, .unset, .unset, .unset, .unset, .unset, .unset, .unset, .unset, .unset, .unset, .unset, .unset, .unset, .unset, .unset, .unset, .unset, .unset, .unset, .unset, .unset, .unset, .unset, .unset] [])) _
      refine XS.iloadN X0.here hx rfl (hb hby at_23) rfl ?_
      show Steps p.tables e below (s₁.setTop (mkF m 24 #[.val (.int u), .val (.int p0), .val (.int ou), .val (.int op0), .val (.int sel), .val (.int w65), .unset, .unset, .unset, .unset, .unset, .unset, .unset, .unset, .unset, .unset, .unset, .unset, .unset, .unset, .unset, .unset, .unset, .unset, .unset, .unset, .unset, .unset, .unset, .unset, .unset, .unset, .unset] [(.int p0)])) _
      refine XS.goto X0.here hx rfl (pc0 := 24) (pc' := 28) rfl (hb hby at_24) (by decide) (by decide) ?_
      show Steps p.tables e below (s₁.setTop (mkF m 28 #[.val (.int u), .val (.int p0), .val (.int ou), .val (.int op0), .val (.int sel), .val (.int w65), .unset, .unset, .unset, .unset, .unset, .unset, .unset, .unset, .unset, .unset, .unset, .unset, .unset, .unset, .unset, .unset, .unset, .unset, .unset, .unset, .unset, .unset, .unset, .unset, .unset, .unset, .unset] [(.int p0)])) _
      exact k
  obtain ⟨w70, hw70⟩ : ∃ z : Int32, z = (if w67 = (0 : Int32) then op0 else p0) := ⟨_, rfl⟩
  rw [← hw70] at S69
  obtain ⟨T71, X71, e71, st71⟩ := getS2 X0 hx hZ hown (host := "") (Or.inl (hw _ (List.mem_of_getElem? (i := 0) rfl))) Via.refl e0 S1 (g := (mkF m 30 #[.val (.int u), .val (.int p0), .val (.int ou), .val (.int op0), .val (.int sel), .val (.int w65), .val (.int w70), .unset, .unset, .unset, .unset, .unset, .unset, .unset, .unset, .unset, .unset, .unset, .unset, .unset, .unset, .unset, .unset, .unset, .unset, .unset, .unset, .unset, .unset, .unset, .unset, .unset, .unset] [])) rfl (hb hby at_30)
  obtain ⟨cq72, kq72, q72a, q72b, q72c⟩ := isOf hZ e71 E1
  obtain ⟨_, _, ⟨T72, L72, k72, n72⟩, -, X72, ⟨Lc72, hQ72, l72, y72, z72⟩, st72⟩ := X71.virtualBack hx (y := (⟨"com/example/cinderbench/cinderbench/algorithms/Worth", "utility", "()D"⟩ : MethodName)) (z := (⟨"com/example/cinderbench/cinderbench/algorithms/Worth", "utility", "()D"⟩ : MethodName)) hown (mvT hZ (hw _ (List.mem_of_getElem? (i := 3) rfl))) (mvT hZ (hw _ (List.mem_of_getElem? (i := 4) rfl))) (notFace_of_selects (args := #[]) (mvT hZ (hw _ (List.mem_of_getElem? (i := 6) rfl)))) (mvT hZ (hw _ (List.mem_of_getElem? (i := 6) rfl))) (mvT hZ (hw _ (List.mem_of_getElem? (i := 5) rfl))) (by decide) (backOf (W := 0) (rm1 l Z a0 hw [] zL (18442240474082181120 : UInt64) h0 n0 Z0 F1) hZ (hw _ (List.mem_of_getElem? (i := 7) rfl)) (hw _ (List.mem_of_getElem? (i := 1) rfl)) (by decide) (by decide)) q72a q72c (g := (mkF m 33 #[.val (.int u), .val (.int p0), .val (.int ou), .val (.int op0), .val (.int sel), .val (.int w65), .val (.int w70), .unset, .unset, .unset, .unset, .unset, .unset, .unset, .unset, .unset, .unset, .unset, .unset, .unset, .unset, .unset, .unset, .unset, .unset, .unset, .unset, .unset, .unset, .unset, .unset, .unset, .unset] [(.ref zL)])) rfl (by rw [hml]; rfl) (Steps.refl _) (argsL := []) (rest := []) (lenOf pd_0 rfl) rfl (by show 2 * 0 + _ ≤ _; exact Nat.le_of_eq rfl) (hb hby at_33) (fun _ _ => ⟨rfl, e71, (by decide : 0 + 0 ≤ _), (by decide : 0 + 0 ≤ _)⟩)
  dsimp only [Pt.U, Pt.locs, Pt.cells, Pt.slots] at X72 l72 y72 z72 st72 hQ72
  subst l72 y72 z72
  obtain ⟨rfl, N72q, e72⟩ := hQ72
  have N72 := Fr.app N0 N72q
  have S73 : ∀ t, Steps p.tables e below (T72.setTop (mkF m 55 #[.val (.int u), .val (.int p0), .val (.int ou), .val (.int op0), .val (.int sel), .val (.int w65), .val (.int w70), .val (.double (f1 (18442240474082181120 : UInt64))), .second, .val (.double (FP.dneg (f1 (18442240474082181120 : UInt64)))), .second, .val (.int ((sel >>> ((5 : Int32) &&& 31)) &&& (3 : Int32))), .unset, .unset, .unset, .unset, .unset, .unset, .unset, .unset, .unset, .unset, .unset, .unset, .unset, .unset, .unset, .unset, .unset, .unset, .unset, .unset, .unset] [(.int (((sel >>> ((5 : Int32) &&& 31)) &&& (3 : Int32)) &&& (1 : Int32)))])) t → Steps p.tables e below (s₁.setTop (entryFrame m #[(.int u), (.int p0), (.int ou), (.int op0), (.int sel)] maxLocals)) t := by
    intro t k
    refine S69 t ?_
    refine XS.istore X0.here hx rfl (hb hby at_28) rfl (l' := #[.val (.int u), .val (.int p0), .val (.int ou), .val (.int op0), .val (.int sel), .val (.int w65), .val (.int w70), .unset, .unset, .unset, .unset, .unset, .unset, .unset, .unset, .unset, .unset, .unset, .unset, .unset, .unset, .unset, .unset, .unset, .unset, .unset, .unset, .unset, .unset, .unset, .unset, .unset, .unset]) rfl ?_
    show Steps p.tables e below (s₁.setTop (mkF m 30 #[.val (.int u), .val (.int p0), .val (.int ou), .val (.int op0), .val (.int sel), .val (.int w65), .val (.int w70), .unset, .unset, .unset, .unset, .unset, .unset, .unset, .unset, .unset, .unset, .unset, .unset, .unset, .unset, .unset, .unset, .unset, .unset, .unset, .unset, .unset, .unset, .unset, .unset, .unset, .unset] [])) _
    refine st71 _ ?_
    show Steps p.tables e below (T71.setTop (mkF m 33 #[.val (.int u), .val (.int p0), .val (.int ou), .val (.int op0), .val (.int sel), .val (.int w65), .val (.int w70), .unset, .unset, .unset, .unset, .unset, .unset, .unset, .unset, .unset, .unset, .unset, .unset, .unset, .unset, .unset, .unset, .unset, .unset, .unset, .unset, .unset, .unset, .unset, .unset, .unset, .unset] [(.ref zL)])) _
    refine st72.trans ?_
    show Steps p.tables e below (T72.setTop (mkF m 36 #[.val (.int u), .val (.int p0), .val (.int ou), .val (.int op0), .val (.int sel), .val (.int w65), .val (.int w70), .unset, .unset, .unset, .unset, .unset, .unset, .unset, .unset, .unset, .unset, .unset, .unset, .unset, .unset, .unset, .unset, .unset, .unset, .unset, .unset, .unset, .unset, .unset, .unset, .unset, .unset] [(.double (f1 (18442240474082181120 : UInt64)))])) _
    refine XS.dstore X72.here hx rfl (hb hby at_36) rfl (l' := #[.val (.int u), .val (.int p0), .val (.int ou), .val (.int op0), .val (.int sel), .val (.int w65), .val (.int w70), .val (.double (f1 (18442240474082181120 : UInt64))), .second, .unset, .unset, .unset, .unset, .unset, .unset, .unset, .unset, .unset, .unset, .unset, .unset, .unset, .unset, .unset, .unset, .unset, .unset, .unset, .unset, .unset, .unset, .unset, .unset]) rfl ?_
    show Steps p.tables e below (T72.setTop (mkF m 38 #[.val (.int u), .val (.int p0), .val (.int ou), .val (.int op0), .val (.int sel), .val (.int w65), .val (.int w70), .val (.double (f1 (18442240474082181120 : UInt64))), .second, .unset, .unset, .unset, .unset, .unset, .unset, .unset, .unset, .unset, .unset, .unset, .unset, .unset, .unset, .unset, .unset, .unset, .unset, .unset, .unset, .unset, .unset, .unset, .unset] [])) _
    refine XS.dload X72.here hx rfl (hb hby at_38) rfl ?_
    show Steps p.tables e below (T72.setTop (mkF m 40 #[.val (.int u), .val (.int p0), .val (.int ou), .val (.int op0), .val (.int sel), .val (.int w65), .val (.int w70), .val (.double (f1 (18442240474082181120 : UInt64))), .second, .unset, .unset, .unset, .unset, .unset, .unset, .unset, .unset, .unset, .unset, .unset, .unset, .unset, .unset, .unset, .unset, .unset, .unset, .unset, .unset, .unset, .unset, .unset, .unset] [(.double (f1 (18442240474082181120 : UInt64)))])) _
    refine XS.dnegS X72.here hx rfl (hb hby at_40) rfl rfl ?_
    show Steps p.tables e below (T72.setTop (mkF m 41 #[.val (.int u), .val (.int p0), .val (.int ou), .val (.int op0), .val (.int sel), .val (.int w65), .val (.int w70), .val (.double (f1 (18442240474082181120 : UInt64))), .second, .unset, .unset, .unset, .unset, .unset, .unset, .unset, .unset, .unset, .unset, .unset, .unset, .unset, .unset, .unset, .unset, .unset, .unset, .unset, .unset, .unset, .unset, .unset, .unset] [(.double (FP.dneg (f1 (18442240474082181120 : UInt64))))])) _
    refine XS.dstore X72.here hx rfl (hb hby at_41) rfl (l' := #[.val (.int u), .val (.int p0), .val (.int ou), .val (.int op0), .val (.int sel), .val (.int w65), .val (.int w70), .val (.double (f1 (18442240474082181120 : UInt64))), .second, .val (.double (FP.dneg (f1 (18442240474082181120 : UInt64)))), .second, .unset, .unset, .unset, .unset, .unset, .unset, .unset, .unset, .unset, .unset, .unset, .unset, .unset, .unset, .unset, .unset, .unset, .unset, .unset, .unset, .unset, .unset]) rfl ?_
    show Steps p.tables e below (T72.setTop (mkF m 43 #[.val (.int u), .val (.int p0), .val (.int ou), .val (.int op0), .val (.int sel), .val (.int w65), .val (.int w70), .val (.double (f1 (18442240474082181120 : UInt64))), .second, .val (.double (FP.dneg (f1 (18442240474082181120 : UInt64)))), .second, .unset, .unset, .unset, .unset, .unset, .unset, .unset, .unset, .unset, .unset, .unset, .unset, .unset, .unset, .unset, .unset, .unset, .unset, .unset, .unset, .unset, .unset] [])) _
    refine XS.iload X72.here hx rfl (hb hby at_43) rfl ?_
    show Steps p.tables e below (T72.setTop (mkF m 45 #[.val (.int u), .val (.int p0), .val (.int ou), .val (.int op0), .val (.int sel), .val (.int w65), .val (.int w70), .val (.double (f1 (18442240474082181120 : UInt64))), .second, .val (.double (FP.dneg (f1 (18442240474082181120 : UInt64)))), .second, .unset, .unset, .unset, .unset, .unset, .unset, .unset, .unset, .unset, .unset, .unset, .unset, .unset, .unset, .unset, .unset, .unset, .unset, .unset, .unset, .unset, .unset] [(.int sel)])) _
    refine XS.iconst X72.here hx rfl (hb hby at_45) ?_
    show Steps p.tables e below (T72.setTop (mkF m 46 #[.val (.int u), .val (.int p0), .val (.int ou), .val (.int op0), .val (.int sel), .val (.int w65), .val (.int w70), .val (.double (f1 (18442240474082181120 : UInt64))), .second, .val (.double (FP.dneg (f1 (18442240474082181120 : UInt64)))), .second, .unset, .unset, .unset, .unset, .unset, .unset, .unset, .unset, .unset, .unset, .unset, .unset, .unset, .unset, .unset, .unset, .unset, .unset, .unset, .unset, .unset, .unset] [(.int (5 : Int32)), (.int sel)])) _
    refine XS.ishr X72.here hx rfl (hb hby at_46) rfl ?_
    show Steps p.tables e below (T72.setTop (mkF m 47 #[.val (.int u), .val (.int p0), .val (.int ou), .val (.int op0), .val (.int sel), .val (.int w65), .val (.int w70), .val (.double (f1 (18442240474082181120 : UInt64))), .second, .val (.double (FP.dneg (f1 (18442240474082181120 : UInt64)))), .second, .unset, .unset, .unset, .unset, .unset, .unset, .unset, .unset, .unset, .unset, .unset, .unset, .unset, .unset, .unset, .unset, .unset, .unset, .unset, .unset, .unset, .unset] [(.int (sel >>> ((5 : Int32) &&& 31)))])) _
    refine XS.iconst X72.here hx rfl (hb hby at_47) ?_
    show Steps p.tables e below (T72.setTop (mkF m 48 #[.val (.int u), .val (.int p0), .val (.int ou), .val (.int op0), .val (.int sel), .val (.int w65), .val (.int w70), .val (.double (f1 (18442240474082181120 : UInt64))), .second, .val (.double (FP.dneg (f1 (18442240474082181120 : UInt64)))), .second, .unset, .unset, .unset, .unset, .unset, .unset, .unset, .unset, .unset, .unset, .unset, .unset, .unset, .unset, .unset, .unset, .unset, .unset, .unset, .unset, .unset, .unset] [(.int (3 : Int32)), (.int (sel >>> ((5 : Int32) &&& 31)))])) _
    refine XS.iand X72.here hx rfl (hb hby at_48) rfl ?_
    show Steps p.tables e below (T72.setTop (mkF m 49 #[.val (.int u), .val (.int p0), .val (.int ou), .val (.int op0), .val (.int sel), .val (.int w65), .val (.int w70), .val (.double (f1 (18442240474082181120 : UInt64))), .second, .val (.double (FP.dneg (f1 (18442240474082181120 : UInt64)))), .second, .unset, .unset, .unset, .unset, .unset, .unset, .unset, .unset, .unset, .unset, .unset, .unset, .unset, .unset, .unset, .unset, .unset, .unset, .unset, .unset, .unset, .unset] [(.int ((sel >>> ((5 : Int32) &&& 31)) &&& (3 : Int32)))])) _
    refine XS.istore X72.here hx rfl (hb hby at_49) rfl (l' := #[.val (.int u), .val (.int p0), .val (.int ou), .val (.int op0), .val (.int sel), .val (.int w65), .val (.int w70), .val (.double (f1 (18442240474082181120 : UInt64))), .second, .val (.double (FP.dneg (f1 (18442240474082181120 : UInt64)))), .second, .val (.int ((sel >>> ((5 : Int32) &&& 31)) &&& (3 : Int32))), .unset, .unset, .unset, .unset, .unset, .unset, .unset, .unset, .unset, .unset, .unset, .unset, .unset, .unset, .unset, .unset, .unset, .unset, .unset, .unset, .unset]) rfl ?_
    show Steps p.tables e below (T72.setTop (mkF m 51 #[.val (.int u), .val (.int p0), .val (.int ou), .val (.int op0), .val (.int sel), .val (.int w65), .val (.int w70), .val (.double (f1 (18442240474082181120 : UInt64))), .second, .val (.double (FP.dneg (f1 (18442240474082181120 : UInt64)))), .second, .val (.int ((sel >>> ((5 : Int32) &&& 31)) &&& (3 : Int32))), .unset, .unset, .unset, .unset, .unset, .unset, .unset, .unset, .unset, .unset, .unset, .unset, .unset, .unset, .unset, .unset, .unset, .unset, .unset, .unset, .unset] [])) _
    refine XS.iload X72.here hx rfl (hb hby at_51) rfl ?_
    show Steps p.tables e below (T72.setTop (mkF m 53 #[.val (.int u), .val (.int p0), .val (.int ou), .val (.int op0), .val (.int sel), .val (.int w65), .val (.int w70), .val (.double (f1 (18442240474082181120 : UInt64))), .second, .val (.double (FP.dneg (f1 (18442240474082181120 : UInt64)))), .second, .val (.int ((sel >>> ((5 : Int32) &&& 31)) &&& (3 : Int32))), .unset, .unset, .unset, .unset, .unset, .unset, .unset, .unset, .unset, .unset, .unset, .unset, .unset, .unset, .unset, .unset, .unset, .unset, .unset, .unset, .unset] [(.int ((sel >>> ((5 : Int32) &&& 31)) &&& (3 : Int32)))])) _
    refine XS.iconst X72.here hx rfl (hb hby at_53) ?_
    show Steps p.tables e below (T72.setTop (mkF m 54 #[.val (.int u), .val (.int p0), .val (.int ou), .val (.int op0), .val (.int sel), .val (.int w65), .val (.int w70), .val (.double (f1 (18442240474082181120 : UInt64))), .second, .val (.double (FP.dneg (f1 (18442240474082181120 : UInt64)))), .second, .val (.int ((sel >>> ((5 : Int32) &&& 31)) &&& (3 : Int32))), .unset, .unset, .unset, .unset, .unset, .unset, .unset, .unset, .unset, .unset, .unset, .unset, .unset, .unset, .unset, .unset, .unset, .unset, .unset, .unset, .unset] [(.int (1 : Int32)), (.int ((sel >>> ((5 : Int32) &&& 31)) &&& (3 : Int32)))])) _
    refine XS.iand X72.here hx rfl (hb hby at_54) rfl ?_
    show Steps p.tables e below (T72.setTop (mkF m 55 #[.val (.int u), .val (.int p0), .val (.int ou), .val (.int op0), .val (.int sel), .val (.int w65), .val (.int w70), .val (.double (f1 (18442240474082181120 : UInt64))), .second, .val (.double (FP.dneg (f1 (18442240474082181120 : UInt64)))), .second, .val (.int ((sel >>> ((5 : Int32) &&& 31)) &&& (3 : Int32))), .unset, .unset, .unset, .unset, .unset, .unset, .unset, .unset, .unset, .unset, .unset, .unset, .unset, .unset, .unset, .unset, .unset, .unset, .unset, .unset, .unset] [(.int (((sel >>> ((5 : Int32) &&& 31)) &&& (3 : Int32)) &&& (1 : Int32)))])) _
    exact k
  obtain ⟨w74, hw74⟩ : ∃ z : UInt64, z = (f1 (18442240474082181120 : UInt64)) := ⟨_, rfl⟩
  rw [← hw74] at S73
  obtain ⟨w75, hw75⟩ : ∃ z : UInt64, z = (FP.dneg w74) := ⟨_, rfl⟩
  rw [← hw75] at S73
  obtain ⟨w76, hw76⟩ : ∃ z : Int32, z = ((sel >>> ((5 : Int32) &&& 31)) &&& (3 : Int32)) := ⟨_, rfl⟩
  rw [← hw76] at S73
  obtain ⟨w77, hw77⟩ : ∃ z : Int32, z = (w76 &&& (1 : Int32)) := ⟨_, rfl⟩
  rw [← hw77] at S73
  have S79 : ∀ t, Steps p.tables e below (T72.setTop (mkF m 63 #[.val (.int u), .val (.int p0), .val (.int ou), .val (.int op0), .val (.int sel), .val (.int w65), .val (.int w70), .val (.double w74), .second, .val (.double w75), .second, .val (.int w76), .unset, .unset, .unset, .unset, .unset, .unset, .unset, .unset, .unset, .unset, .unset, .unset, .unset, .unset, .unset, .unset, .unset, .unset, .unset, .unset, .unset] [(.int (if w77 = (0 : Int32) then (0 : Int32) else (1 : Int32)))])) t → Steps p.tables e below (s₁.setTop (entryFrame m #[(.int u), (.int p0), (.int ou), (.int op0), (.int sel)] maxLocals)) t := by
    intro t k
    refine S73 t ?_
    by_cases hc78 : w77 = (0 : Int32)
    · rw [if_pos hc78] at k
      refine XS.ifYes X72.here hx rfl (pc0 := 55) (pc' := 62) rfl (hb hby at_55) rfl ((if0 _ _).trans (teq hc78).1) (by decide) (by decide) ?_
      show Steps p.tables e below (T72.setTop (mkF m 62 #[.val (.int u), .val (.int p0), .val (.int ou), .val (.int op0), .val (.int sel), .val (.int w65), .val (.int w70), .val (.double w74), .second, .val (.double w75), .second, .val (.int w76), .unset, .unset, .unset, .unset, .unset, .unset, .unset, .unset, .unset, .unset, .unset, .unset, .unset, .unset, .unset, .unset, .unset, .unset, .unset, .unset, .unset] [])) _
      refine XS.iconst X72.here hx rfl (hb hby at_62) ?_
      show Steps p.tables e below (T72.setTop (mkF m 63 #[.val (.int u), .val (.int p0), .val (.int ou), .val (.int op0), .val (.int sel), .val (.int w65), .val (.int w70), .val (.double w74), .second, .val (.double w75), .second, .val (.int w76), .unset, .unset, .unset, .unset, .unset, .unset, .unset, .unset, .unset, .unset, .unset, .unset, .unset, .unset, .unset, .unset, .unset, .unset, .unset, .unset, .unset] [(.int (0 : Int32))])) _
      exact k
    · rw [if_neg hc78] at k
      refine XS.ifNo X72.here hx rfl (hb hby at_55) rfl ((if0 _ _).trans (feq hc78).1) ?_
      show Steps p.tables e below (T72.setTop (mkF m 58 #[.val (.int u), .val (.int p0), .val (.int ou), .val (.int op0), .val (.int sel), .val (.int w65), .val (.int w70), .val (.double w74), .second, .val (.double w75), .second, .val (.int w76), .unset, .unset, .unset, .unset, .unset, .unset, .unset, .unset, .unset, .unset, .unset, .unset, .unset, .unset, .unset, .unset, .unset, .unset, .unset, .unset, .unset] [])) _
      refine XS.iconst X72.here hx rfl (hb hby at_58) ?_
      show Steps p.tables e below (T72.setTop (mkF m 59 #[.val (.int u), .val (.int p0), .val (.int ou), .val (.int op0), .val (.int sel), .val (.int w65), .val (.int w70), .val (.double w74), .second, .val (.double w75), .second, .val (.int w76), .unset, .unset, .unset, .unset, .unset, .unset, .unset, .unset, .unset, .unset, .unset, .unset, .unset, .unset, .unset, .unset, .unset, .unset, .unset, .unset, .unset] [(.int (1 : Int32))])) _
      refine XS.goto X72.here hx rfl (pc0 := 59) (pc' := 63) rfl (hb hby at_59) (by decide) (by decide) ?_
      show Steps p.tables e below (T72.setTop (mkF m 63 #[.val (.int u), .val (.int p0), .val (.int ou), .val (.int op0), .val (.int sel), .val (.int w65), .val (.int w70), .val (.double w74), .second, .val (.double w75), .second, .val (.int w76), .unset, .unset, .unset, .unset, .unset, .unset, .unset, .unset, .unset, .unset, .unset, .unset, .unset, .unset, .unset, .unset, .unset, .unset, .unset, .unset, .unset] [(.int (1 : Int32))])) _
      exact k
  obtain ⟨w80, hw80⟩ : ∃ z : Int32, z = (if w77 = (0 : Int32) then (0 : Int32) else (1 : Int32)) := ⟨_, rfl⟩
  rw [← hw80] at S79
  have S81 : ∀ t, Steps p.tables e below (T72.setTop (mkF m 69 #[.val (.int u), .val (.int p0), .val (.int ou), .val (.int op0), .val (.int sel), .val (.int w65), .val (.int w70), .val (.double w74), .second, .val (.double w75), .second, .val (.int w76), .val (.int w80), .unset, .unset, .unset, .unset, .unset, .unset, .unset, .unset, .unset, .unset, .unset, .unset, .unset, .unset, .unset, .unset, .unset, .unset, .unset, .unset] [(.int (w76 &&& (2 : Int32)))])) t → Steps p.tables e below (s₁.setTop (entryFrame m #[(.int u), (.int p0), (.int ou), (.int op0), (.int sel)] maxLocals)) t := by
    intro t k
    refine S79 t ?_
    refine XS.istore X72.here hx rfl (hb hby at_63) rfl (l' := #[.val (.int u), .val (.int p0), .val (.int ou), .val (.int op0), .val (.int sel), .val (.int w65), .val (.int w70), .val (.double w74), .second, .val (.double w75), .second, .val (.int w76), .val (.int w80), .unset, .unset, .unset, .unset, .unset, .unset, .unset, .unset, .unset, .unset, .unset, .unset, .unset, .unset, .unset, .unset, .unset, .unset, .unset, .unset]) rfl ?_
    show Steps p.tables e below (T72.setTop (mkF m 65 #[.val (.int u), .val (.int p0), .val (.int ou), .val (.int op0), .val (.int sel), .val (.int w65), .val (.int w70), .val (.double w74), .second, .val (.double w75), .second, .val (.int w76), .val (.int w80), .unset, .unset, .unset, .unset, .unset, .unset, .unset, .unset, .unset, .unset, .unset, .unset, .unset, .unset, .unset, .unset, .unset, .unset, .unset, .unset] [])) _
    refine XS.iload X72.here hx rfl (hb hby at_65) rfl ?_
    show Steps p.tables e below (T72.setTop (mkF m 67 #[.val (.int u), .val (.int p0), .val (.int ou), .val (.int op0), .val (.int sel), .val (.int w65), .val (.int w70), .val (.double w74), .second, .val (.double w75), .second, .val (.int w76), .val (.int w80), .unset, .unset, .unset, .unset, .unset, .unset, .unset, .unset, .unset, .unset, .unset, .unset, .unset, .unset, .unset, .unset, .unset, .unset, .unset, .unset] [(.int w76)])) _
    refine XS.iconst X72.here hx rfl (hb hby at_67) ?_
    show Steps p.tables e below (T72.setTop (mkF m 68 #[.val (.int u), .val (.int p0), .val (.int ou), .val (.int op0), .val (.int sel), .val (.int w65), .val (.int w70), .val (.double w74), .second, .val (.double w75), .second, .val (.int w76), .val (.int w80), .unset, .unset, .unset, .unset, .unset, .unset, .unset, .unset, .unset, .unset, .unset, .unset, .unset, .unset, .unset, .unset, .unset, .unset, .unset, .unset] [(.int (2 : Int32)), (.int w76)])) _
    refine XS.iand X72.here hx rfl (hb hby at_68) rfl ?_
    show Steps p.tables e below (T72.setTop (mkF m 69 #[.val (.int u), .val (.int p0), .val (.int ou), .val (.int op0), .val (.int sel), .val (.int w65), .val (.int w70), .val (.double w74), .second, .val (.double w75), .second, .val (.int w76), .val (.int w80), .unset, .unset, .unset, .unset, .unset, .unset, .unset, .unset, .unset, .unset, .unset, .unset, .unset, .unset, .unset, .unset, .unset, .unset, .unset, .unset] [(.int (w76 &&& (2 : Int32)))])) _
    exact k
  obtain ⟨w82, hw82⟩ : ∃ z : Int32, z = (w76 &&& (2 : Int32)) := ⟨_, rfl⟩
  rw [← hw82] at S81
  have S84 : ∀ t, Steps p.tables e below (T72.setTop (mkF m 77 #[.val (.int u), .val (.int p0), .val (.int ou), .val (.int op0), .val (.int sel), .val (.int w65), .val (.int w70), .val (.double w74), .second, .val (.double w75), .second, .val (.int w76), .val (.int w80), .unset, .unset, .unset, .unset, .unset, .unset, .unset, .unset, .unset, .unset, .unset, .unset, .unset, .unset, .unset, .unset, .unset, .unset, .unset, .unset] [(.int (if w82 = (0 : Int32) then (0 : Int32) else (1 : Int32)))])) t → Steps p.tables e below (s₁.setTop (entryFrame m #[(.int u), (.int p0), (.int ou), (.int op0), (.int sel)] maxLocals)) t := by
    intro t k
    refine S81 t ?_
    by_cases hc83 : w82 = (0 : Int32)
    · rw [if_pos hc83] at k
      refine XS.ifYes X72.here hx rfl (pc0 := 69) (pc' := 76) rfl (hb hby at_69) rfl ((if0 _ _).trans (teq hc83).1) (by decide) (by decide) ?_
      show Steps p.tables e below (T72.setTop (mkF m 76 #[.val (.int u), .val (.int p0), .val (.int ou), .val (.int op0), .val (.int sel), .val (.int w65), .val (.int w70), .val (.double w74), .second, .val (.double w75), .second, .val (.int w76), .val (.int w80), .unset, .unset, .unset, .unset, .unset, .unset, .unset, .unset, .unset, .unset, .unset, .unset, .unset, .unset, .unset, .unset, .unset, .unset, .unset, .unset] [])) _
      refine XS.iconst X72.here hx rfl (hb hby at_76) ?_
      show Steps p.tables e below (T72.setTop (mkF m 77 #[.val (.int u), .val (.int p0), .val (.int ou), .val (.int op0), .val (.int sel), .val (.int w65), .val (.int w70), .val (.double w74), .second, .val (.double w75), .second, .val (.int w76), .val (.int w80), .unset, .unset, .unset, .unset, .unset, .unset, .unset, .unset, .unset, .unset, .unset, .unset, .unset, .unset, .unset, .unset, .unset, .unset, .unset, .unset] [(.int (0 : Int32))])) _
      exact k
    · rw [if_neg hc83] at k
      refine XS.ifNo X72.here hx rfl (hb hby at_69) rfl ((if0 _ _).trans (feq hc83).1) ?_
      show Steps p.tables e below (T72.setTop (mkF m 72 #[.val (.int u), .val (.int p0), .val (.int ou), .val (.int op0), .val (.int sel), .val (.int w65), .val (.int w70), .val (.double w74), .second, .val (.double w75), .second, .val (.int w76), .val (.int w80), .unset, .unset, .unset, .unset, .unset, .unset, .unset, .unset, .unset, .unset, .unset, .unset, .unset, .unset, .unset, .unset, .unset, .unset, .unset, .unset] [])) _
      refine XS.iconst X72.here hx rfl (hb hby at_72) ?_
      show Steps p.tables e below (T72.setTop (mkF m 73 #[.val (.int u), .val (.int p0), .val (.int ou), .val (.int op0), .val (.int sel), .val (.int w65), .val (.int w70), .val (.double w74), .second, .val (.double w75), .second, .val (.int w76), .val (.int w80), .unset, .unset, .unset, .unset, .unset, .unset, .unset, .unset, .unset, .unset, .unset, .unset, .unset, .unset, .unset, .unset, .unset, .unset, .unset, .unset] [(.int (1 : Int32))])) _
      refine XS.goto X72.here hx rfl (pc0 := 73) (pc' := 77) rfl (hb hby at_73) (by decide) (by decide) ?_
      show Steps p.tables e below (T72.setTop (mkF m 77 #[.val (.int u), .val (.int p0), .val (.int ou), .val (.int op0), .val (.int sel), .val (.int w65), .val (.int w70), .val (.double w74), .second, .val (.double w75), .second, .val (.int w76), .val (.int w80), .unset, .unset, .unset, .unset, .unset, .unset, .unset, .unset, .unset, .unset, .unset, .unset, .unset, .unset, .unset, .unset, .unset, .unset, .unset, .unset] [(.int (1 : Int32))])) _
      exact k
  obtain ⟨w85, hw85⟩ : ∃ z : Int32, z = (if w82 = (0 : Int32) then (0 : Int32) else (1 : Int32)) := ⟨_, rfl⟩
  rw [← hw85] at S84
  have S86 : ∀ t, Steps p.tables e below (T72.setTop (mkF m 86 #[.val (.int u), .val (.int p0), .val (.int ou), .val (.int op0), .val (.int sel), .val (.int w65), .val (.int w70), .val (.double w74), .second, .val (.double w75), .second, .val (.int w76), .val (.int w80), .val (.int w85), .unset, .unset, .unset, .unset, .unset, .unset, .unset, .unset, .unset, .unset, .unset, .unset, .unset, .unset, .unset, .unset, .unset, .unset, .unset] [(.int ((sel >>> ((7 : Int32) &&& 31)) &&& (1 : Int32)))])) t → Steps p.tables e below (s₁.setTop (entryFrame m #[(.int u), (.int p0), (.int ou), (.int op0), (.int sel)] maxLocals)) t := by
    intro t k
    refine S84 t ?_
    refine XS.istore X72.here hx rfl (hb hby at_77) rfl (l' := #[.val (.int u), .val (.int p0), .val (.int ou), .val (.int op0), .val (.int sel), .val (.int w65), .val (.int w70), .val (.double w74), .second, .val (.double w75), .second, .val (.int w76), .val (.int w80), .val (.int w85), .unset, .unset, .unset, .unset, .unset, .unset, .unset, .unset, .unset, .unset, .unset, .unset, .unset, .unset, .unset, .unset, .unset, .unset, .unset]) rfl ?_
    show Steps p.tables e below (T72.setTop (mkF m 79 #[.val (.int u), .val (.int p0), .val (.int ou), .val (.int op0), .val (.int sel), .val (.int w65), .val (.int w70), .val (.double w74), .second, .val (.double w75), .second, .val (.int w76), .val (.int w80), .val (.int w85), .unset, .unset, .unset, .unset, .unset, .unset, .unset, .unset, .unset, .unset, .unset, .unset, .unset, .unset, .unset, .unset, .unset, .unset, .unset] [])) _
    refine XS.iload X72.here hx rfl (hb hby at_79) rfl ?_
    show Steps p.tables e below (T72.setTop (mkF m 81 #[.val (.int u), .val (.int p0), .val (.int ou), .val (.int op0), .val (.int sel), .val (.int w65), .val (.int w70), .val (.double w74), .second, .val (.double w75), .second, .val (.int w76), .val (.int w80), .val (.int w85), .unset, .unset, .unset, .unset, .unset, .unset, .unset, .unset, .unset, .unset, .unset, .unset, .unset, .unset, .unset, .unset, .unset, .unset, .unset] [(.int sel)])) _
    refine XS.bipush X72.here hx rfl (hb hby at_81) ?_
    show Steps p.tables e below (T72.setTop (mkF m 83 #[.val (.int u), .val (.int p0), .val (.int ou), .val (.int op0), .val (.int sel), .val (.int w65), .val (.int w70), .val (.double w74), .second, .val (.double w75), .second, .val (.int w76), .val (.int w80), .val (.int w85), .unset, .unset, .unset, .unset, .unset, .unset, .unset, .unset, .unset, .unset, .unset, .unset, .unset, .unset, .unset, .unset, .unset, .unset, .unset] [(.int (7 : Int32)), (.int sel)])) _
    refine XS.ishr X72.here hx rfl (hb hby at_83) rfl ?_
    show Steps p.tables e below (T72.setTop (mkF m 84 #[.val (.int u), .val (.int p0), .val (.int ou), .val (.int op0), .val (.int sel), .val (.int w65), .val (.int w70), .val (.double w74), .second, .val (.double w75), .second, .val (.int w76), .val (.int w80), .val (.int w85), .unset, .unset, .unset, .unset, .unset, .unset, .unset, .unset, .unset, .unset, .unset, .unset, .unset, .unset, .unset, .unset, .unset, .unset, .unset] [(.int (sel >>> ((7 : Int32) &&& 31)))])) _
    refine XS.iconst X72.here hx rfl (hb hby at_84) ?_
    show Steps p.tables e below (T72.setTop (mkF m 85 #[.val (.int u), .val (.int p0), .val (.int ou), .val (.int op0), .val (.int sel), .val (.int w65), .val (.int w70), .val (.double w74), .second, .val (.double w75), .second, .val (.int w76), .val (.int w80), .val (.int w85), .unset, .unset, .unset, .unset, .unset, .unset, .unset, .unset, .unset, .unset, .unset, .unset, .unset, .unset, .unset, .unset, .unset, .unset, .unset] [(.int (1 : Int32)), (.int (sel >>> ((7 : Int32) &&& 31)))])) _
    refine XS.iand X72.here hx rfl (hb hby at_85) rfl ?_
    show Steps p.tables e below (T72.setTop (mkF m 86 #[.val (.int u), .val (.int p0), .val (.int ou), .val (.int op0), .val (.int sel), .val (.int w65), .val (.int w70), .val (.double w74), .second, .val (.double w75), .second, .val (.int w76), .val (.int w80), .val (.int w85), .unset, .unset, .unset, .unset, .unset, .unset, .unset, .unset, .unset, .unset, .unset, .unset, .unset, .unset, .unset, .unset, .unset, .unset, .unset] [(.int ((sel >>> ((7 : Int32) &&& 31)) &&& (1 : Int32)))])) _
    exact k
  obtain ⟨w87, hw87⟩ : ∃ z : Int32, z = ((sel >>> ((7 : Int32) &&& 31)) &&& (1 : Int32)) := ⟨_, rfl⟩
  rw [← hw87] at S86
  have S89 : ∀ t, Steps p.tables e below (T72.setTop (mkF m 94 #[.val (.int u), .val (.int p0), .val (.int ou), .val (.int op0), .val (.int sel), .val (.int w65), .val (.int w70), .val (.double w74), .second, .val (.double w75), .second, .val (.int w76), .val (.int w80), .val (.int w85), .unset, .unset, .unset, .unset, .unset, .unset, .unset, .unset, .unset, .unset, .unset, .unset, .unset, .unset, .unset, .unset, .unset, .unset, .unset] [(.int (if w87 = (0 : Int32) then (0 : Int32) else (1 : Int32)))])) t → Steps p.tables e below (s₁.setTop (entryFrame m #[(.int u), (.int p0), (.int ou), (.int op0), (.int sel)] maxLocals)) t := by
    intro t k
    refine S86 t ?_
    by_cases hc88 : w87 = (0 : Int32)
    · rw [if_pos hc88] at k
      refine XS.ifYes X72.here hx rfl (pc0 := 86) (pc' := 93) rfl (hb hby at_86) rfl ((if0 _ _).trans (teq hc88).1) (by decide) (by decide) ?_
      show Steps p.tables e below (T72.setTop (mkF m 93 #[.val (.int u), .val (.int p0), .val (.int ou), .val (.int op0), .val (.int sel), .val (.int w65), .val (.int w70), .val (.double w74), .second, .val (.double w75), .second, .val (.int w76), .val (.int w80), .val (.int w85), .unset, .unset, .unset, .unset, .unset, .unset, .unset, .unset, .unset, .unset, .unset, .unset, .unset, .unset, .unset, .unset, .unset, .unset, .unset] [])) _
      refine XS.iconst X72.here hx rfl (hb hby at_93) ?_
      show Steps p.tables e below (T72.setTop (mkF m 94 #[.val (.int u), .val (.int p0), .val (.int ou), .val (.int op0), .val (.int sel), .val (.int w65), .val (.int w70), .val (.double w74), .second, .val (.double w75), .second, .val (.int w76), .val (.int w80), .val (.int w85), .unset, .unset, .unset, .unset, .unset, .unset, .unset, .unset, .unset, .unset, .unset, .unset, .unset, .unset, .unset, .unset, .unset, .unset, .unset] [(.int (0 : Int32))])) _
      exact k
    · rw [if_neg hc88] at k
      refine XS.ifNo X72.here hx rfl (hb hby at_86) rfl ((if0 _ _).trans (feq hc88).1) ?_
      show Steps p.tables e below (T72.setTop (mkF m 89 #[.val (.int u), .val (.int p0), .val (.int ou), .val (.int op0), .val (.int sel), .val (.int w65), .val (.int w70), .val (.double w74), .second, .val (.double w75), .second, .val (.int w76), .val (.int w80), .val (.int w85), .unset, .unset, .unset, .unset, .unset, .unset, .unset, .unset, .unset, .unset, .unset, .unset, .unset, .unset, .unset, .unset, .unset, .unset, .unset] [])) _
      refine XS.iconst X72.here hx rfl (hb hby at_89) ?_
      show Steps p.tables e below (T72.setTop (mkF m 90 #[.val (.int u), .val (.int p0), .val (.int ou), .val (.int op0), .val (.int sel), .val (.int w65), .val (.int w70), .val (.double w74), .second, .val (.double w75), .second, .val (.int w76), .val (.int w80), .val (.int w85), .unset, .unset, .unset, .unset, .unset, .unset, .unset, .unset, .unset, .unset, .unset, .unset, .unset, .unset, .unset, .unset, .unset, .unset, .unset] [(.int (1 : Int32))])) _
      refine XS.goto X72.here hx rfl (pc0 := 90) (pc' := 94) rfl (hb hby at_90) (by decide) (by decide) ?_
      show Steps p.tables e below (T72.setTop (mkF m 94 #[.val (.int u), .val (.int p0), .val (.int ou), .val (.int op0), .val (.int sel), .val (.int w65), .val (.int w70), .val (.double w74), .second, .val (.double w75), .second, .val (.int w76), .val (.int w80), .val (.int w85), .unset, .unset, .unset, .unset, .unset, .unset, .unset, .unset, .unset, .unset, .unset, .unset, .unset, .unset, .unset, .unset, .unset, .unset, .unset] [(.int (1 : Int32))])) _
      exact k
  obtain ⟨w90, hw90⟩ : ∃ z : Int32, z = (if w87 = (0 : Int32) then (0 : Int32) else (1 : Int32)) := ⟨_, rfl⟩
  rw [← hw90] at S89
  have S91 : ∀ t, Steps p.tables e below (T72.setTop (mkF m 103 #[.val (.int u), .val (.int p0), .val (.int ou), .val (.int op0), .val (.int sel), .val (.int w65), .val (.int w70), .val (.double w74), .second, .val (.double w75), .second, .val (.int w76), .val (.int w80), .val (.int w85), .val (.int w90), .unset, .unset, .unset, .unset, .unset, .unset, .unset, .unset, .unset, .unset, .unset, .unset, .unset, .unset, .unset, .unset, .unset, .unset] [(.int ((sel >>> ((8 : Int32) &&& 31)) &&& (1 : Int32)))])) t → Steps p.tables e below (s₁.setTop (entryFrame m #[(.int u), (.int p0), (.int ou), (.int op0), (.int sel)] maxLocals)) t := by
    intro t k
    refine S89 t ?_
    refine XS.istore X72.here hx rfl (hb hby at_94) rfl (l' := #[.val (.int u), .val (.int p0), .val (.int ou), .val (.int op0), .val (.int sel), .val (.int w65), .val (.int w70), .val (.double w74), .second, .val (.double w75), .second, .val (.int w76), .val (.int w80), .val (.int w85), .val (.int w90), .unset, .unset, .unset, .unset, .unset, .unset, .unset, .unset, .unset, .unset, .unset, .unset, .unset, .unset, .unset, .unset, .unset, .unset]) rfl ?_
    show Steps p.tables e below (T72.setTop (mkF m 96 #[.val (.int u), .val (.int p0), .val (.int ou), .val (.int op0), .val (.int sel), .val (.int w65), .val (.int w70), .val (.double w74), .second, .val (.double w75), .second, .val (.int w76), .val (.int w80), .val (.int w85), .val (.int w90), .unset, .unset, .unset, .unset, .unset, .unset, .unset, .unset, .unset, .unset, .unset, .unset, .unset, .unset, .unset, .unset, .unset, .unset] [])) _
    refine XS.iload X72.here hx rfl (hb hby at_96) rfl ?_
    show Steps p.tables e below (T72.setTop (mkF m 98 #[.val (.int u), .val (.int p0), .val (.int ou), .val (.int op0), .val (.int sel), .val (.int w65), .val (.int w70), .val (.double w74), .second, .val (.double w75), .second, .val (.int w76), .val (.int w80), .val (.int w85), .val (.int w90), .unset, .unset, .unset, .unset, .unset, .unset, .unset, .unset, .unset, .unset, .unset, .unset, .unset, .unset, .unset, .unset, .unset, .unset] [(.int sel)])) _
    refine XS.bipush X72.here hx rfl (hb hby at_98) ?_
    show Steps p.tables e below (T72.setTop (mkF m 100 #[.val (.int u), .val (.int p0), .val (.int ou), .val (.int op0), .val (.int sel), .val (.int w65), .val (.int w70), .val (.double w74), .second, .val (.double w75), .second, .val (.int w76), .val (.int w80), .val (.int w85), .val (.int w90), .unset, .unset, .unset, .unset, .unset, .unset, .unset, .unset, .unset, .unset, .unset, .unset, .unset, .unset, .unset, .unset, .unset, .unset] [(.int (8 : Int32)), (.int sel)])) _
    refine XS.ishr X72.here hx rfl (hb hby at_100) rfl ?_
    show Steps p.tables e below (T72.setTop (mkF m 101 #[.val (.int u), .val (.int p0), .val (.int ou), .val (.int op0), .val (.int sel), .val (.int w65), .val (.int w70), .val (.double w74), .second, .val (.double w75), .second, .val (.int w76), .val (.int w80), .val (.int w85), .val (.int w90), .unset, .unset, .unset, .unset, .unset, .unset, .unset, .unset, .unset, .unset, .unset, .unset, .unset, .unset, .unset, .unset, .unset, .unset] [(.int (sel >>> ((8 : Int32) &&& 31)))])) _
    refine XS.iconst X72.here hx rfl (hb hby at_101) ?_
    show Steps p.tables e below (T72.setTop (mkF m 102 #[.val (.int u), .val (.int p0), .val (.int ou), .val (.int op0), .val (.int sel), .val (.int w65), .val (.int w70), .val (.double w74), .second, .val (.double w75), .second, .val (.int w76), .val (.int w80), .val (.int w85), .val (.int w90), .unset, .unset, .unset, .unset, .unset, .unset, .unset, .unset, .unset, .unset, .unset, .unset, .unset, .unset, .unset, .unset, .unset, .unset] [(.int (1 : Int32)), (.int (sel >>> ((8 : Int32) &&& 31)))])) _
    refine XS.iand X72.here hx rfl (hb hby at_102) rfl ?_
    show Steps p.tables e below (T72.setTop (mkF m 103 #[.val (.int u), .val (.int p0), .val (.int ou), .val (.int op0), .val (.int sel), .val (.int w65), .val (.int w70), .val (.double w74), .second, .val (.double w75), .second, .val (.int w76), .val (.int w80), .val (.int w85), .val (.int w90), .unset, .unset, .unset, .unset, .unset, .unset, .unset, .unset, .unset, .unset, .unset, .unset, .unset, .unset, .unset, .unset, .unset, .unset] [(.int ((sel >>> ((8 : Int32) &&& 31)) &&& (1 : Int32)))])) _
    exact k
  obtain ⟨w92, hw92⟩ : ∃ z : Int32, z = ((sel >>> ((8 : Int32) &&& 31)) &&& (1 : Int32)) := ⟨_, rfl⟩
  rw [← hw92] at S91
  have S94 : ∀ t, Steps p.tables e below (T72.setTop (mkF m 111 #[.val (.int u), .val (.int p0), .val (.int ou), .val (.int op0), .val (.int sel), .val (.int w65), .val (.int w70), .val (.double w74), .second, .val (.double w75), .second, .val (.int w76), .val (.int w80), .val (.int w85), .val (.int w90), .unset, .unset, .unset, .unset, .unset, .unset, .unset, .unset, .unset, .unset, .unset, .unset, .unset, .unset, .unset, .unset, .unset, .unset] [(.int (if w92 = (0 : Int32) then (0 : Int32) else (1 : Int32)))])) t → Steps p.tables e below (s₁.setTop (entryFrame m #[(.int u), (.int p0), (.int ou), (.int op0), (.int sel)] maxLocals)) t := by
    intro t k
    refine S91 t ?_
    by_cases hc93 : w92 = (0 : Int32)
    · rw [if_pos hc93] at k
      refine XS.ifYes X72.here hx rfl (pc0 := 103) (pc' := 110) rfl (hb hby at_103) rfl ((if0 _ _).trans (teq hc93).1) (by decide) (by decide) ?_
      show Steps p.tables e below (T72.setTop (mkF m 110 #[.val (.int u), .val (.int p0), .val (.int ou), .val (.int op0), .val (.int sel), .val (.int w65), .val (.int w70), .val (.double w74), .second, .val (.double w75), .second, .val (.int w76), .val (.int w80), .val (.int w85), .val (.int w90), .unset, .unset, .unset, .unset, .unset, .unset, .unset, .unset, .unset, .unset, .unset, .unset, .unset, .unset, .unset, .unset, .unset, .unset] [])) _
      refine XS.iconst X72.here hx rfl (hb hby at_110) ?_
      show Steps p.tables e below (T72.setTop (mkF m 111 #[.val (.int u), .val (.int p0), .val (.int ou), .val (.int op0), .val (.int sel), .val (.int w65), .val (.int w70), .val (.double w74), .second, .val (.double w75), .second, .val (.int w76), .val (.int w80), .val (.int w85), .val (.int w90), .unset, .unset, .unset, .unset, .unset, .unset, .unset, .unset, .unset, .unset, .unset, .unset, .unset, .unset, .unset, .unset, .unset, .unset] [(.int (0 : Int32))])) _
      exact k
    · rw [if_neg hc93] at k
      refine XS.ifNo X72.here hx rfl (hb hby at_103) rfl ((if0 _ _).trans (feq hc93).1) ?_
      show Steps p.tables e below (T72.setTop (mkF m 106 #[.val (.int u), .val (.int p0), .val (.int ou), .val (.int op0), .val (.int sel), .val (.int w65), .val (.int w70), .val (.double w74), .second, .val (.double w75), .second, .val (.int w76), .val (.int w80), .val (.int w85), .val (.int w90), .unset, .unset, .unset, .unset, .unset, .unset, .unset, .unset, .unset, .unset, .unset, .unset, .unset, .unset, .unset, .unset, .unset, .unset] [])) _
      refine XS.iconst X72.here hx rfl (hb hby at_106) ?_
      show Steps p.tables e below (T72.setTop (mkF m 107 #[.val (.int u), .val (.int p0), .val (.int ou), .val (.int op0), .val (.int sel), .val (.int w65), .val (.int w70), .val (.double w74), .second, .val (.double w75), .second, .val (.int w76), .val (.int w80), .val (.int w85), .val (.int w90), .unset, .unset, .unset, .unset, .unset, .unset, .unset, .unset, .unset, .unset, .unset, .unset, .unset, .unset, .unset, .unset, .unset, .unset] [(.int (1 : Int32))])) _
      refine XS.goto X72.here hx rfl (pc0 := 107) (pc' := 111) rfl (hb hby at_107) (by decide) (by decide) ?_
      show Steps p.tables e below (T72.setTop (mkF m 111 #[.val (.int u), .val (.int p0), .val (.int ou), .val (.int op0), .val (.int sel), .val (.int w65), .val (.int w70), .val (.double w74), .second, .val (.double w75), .second, .val (.int w76), .val (.int w80), .val (.int w85), .val (.int w90), .unset, .unset, .unset, .unset, .unset, .unset, .unset, .unset, .unset, .unset, .unset, .unset, .unset, .unset, .unset, .unset, .unset, .unset] [(.int (1 : Int32))])) _
      exact k
  obtain ⟨w95, hw95⟩ : ∃ z : Int32, z = (if w92 = (0 : Int32) then (0 : Int32) else (1 : Int32)) := ⟨_, rfl⟩
  rw [← hw95] at S94
  have S96 : ∀ t, Steps p.tables e below (T72.setTop (mkF m 115 #[.val (.int u), .val (.int p0), .val (.int ou), .val (.int op0), .val (.int sel), .val (.int w65), .val (.int w70), .val (.double w74), .second, .val (.double w75), .second, .val (.int w76), .val (.int w80), .val (.int w85), .val (.int w90), .val (.int w95), .unset, .unset, .unset, .unset, .unset, .unset, .unset, .unset, .unset, .unset, .unset, .unset, .unset, .unset, .unset, .unset, .unset] [(.int w80)])) t → Steps p.tables e below (s₁.setTop (entryFrame m #[(.int u), (.int p0), (.int ou), (.int op0), (.int sel)] maxLocals)) t := by
    intro t k
    refine S94 t ?_
    refine XS.istore X72.here hx rfl (hb hby at_111) rfl (l' := #[.val (.int u), .val (.int p0), .val (.int ou), .val (.int op0), .val (.int sel), .val (.int w65), .val (.int w70), .val (.double w74), .second, .val (.double w75), .second, .val (.int w76), .val (.int w80), .val (.int w85), .val (.int w90), .val (.int w95), .unset, .unset, .unset, .unset, .unset, .unset, .unset, .unset, .unset, .unset, .unset, .unset, .unset, .unset, .unset, .unset, .unset]) rfl ?_
    show Steps p.tables e below (T72.setTop (mkF m 113 #[.val (.int u), .val (.int p0), .val (.int ou), .val (.int op0), .val (.int sel), .val (.int w65), .val (.int w70), .val (.double w74), .second, .val (.double w75), .second, .val (.int w76), .val (.int w80), .val (.int w85), .val (.int w90), .val (.int w95), .unset, .unset, .unset, .unset, .unset, .unset, .unset, .unset, .unset, .unset, .unset, .unset, .unset, .unset, .unset, .unset, .unset] [])) _
    refine XS.iload X72.here hx rfl (hb hby at_113) rfl ?_
    show Steps p.tables e below (T72.setTop (mkF m 115 #[.val (.int u), .val (.int p0), .val (.int ou), .val (.int op0), .val (.int sel), .val (.int w65), .val (.int w70), .val (.double w74), .second, .val (.double w75), .second, .val (.int w76), .val (.int w80), .val (.int w85), .val (.int w90), .val (.int w95), .unset, .unset, .unset, .unset, .unset, .unset, .unset, .unset, .unset, .unset, .unset, .unset, .unset, .unset, .unset, .unset, .unset] [(.int w80)])) _
    exact k
  obtain ⟨T103, L103, X103, N103, e103, S103⟩ : ∃ (T' : State) (L' : List Loc), Stand p l e room_1 s m #[(.int u), (.int p0), (.int ou), (.int op0), (.int sel)] below meth c T' L' 0 0 ∧ Fr n0 L' ∧ T'.heap = h0 ∧ ∀ t, Steps p.tables e below (T'.setTop (mkF m 144 #[.val (.int u), .val (.int p0), .val (.int ou), .val (.int op0), .val (.int sel), .val (.int w65), .val (.int w70), .val (.double w74), .second, .val (.double w75), .second, .val (.int w76), .val (.int w80), .val (.int w85), .val (.int w90), .val (.int w95), .unset, .unset, .unset, .unset, .unset, .unset, .unset, .unset, .unset, .unset, .unset, .unset, .unset, .unset, .unset, .unset, .unset] [(.double (if w80 = (0 : Int32) then (f2 u ((sel >>> ((9 : Int32) &&& 31)) &&& (1 : Int32))) else (if w90 = (0 : Int32) then w74 else w75)))])) t → Steps p.tables e below (s₁.setTop (entryFrame m #[(.int u), (.int p0), (.int ou), (.int op0), (.int sel)] maxLocals)) t := by
    by_cases hc97 : w80 = (0 : Int32)
    · rw [if_pos hc97]
      obtain ⟨_, _, ⟨T98, L98, k98, n98⟩, -, X98, ⟨Lc98, hQ98, l98, y98, z98⟩, st98⟩ := Jvm.LawKit.callS X72 hx (y := (⟨"com/example/cinderbench/cinderbench/algorithms/WorthAbovePinLaw", "real", "(II)D"⟩ : MethodName)) hown (mvT hZ (hw _ (List.mem_of_getElem? (i := 10) rfl))) (mvT hZ (hw _ (List.mem_of_getElem? (i := 11) rfl))) (mvT hZ (hw _ (List.mem_of_getElem? (i := 12) rfl))) (mvT hZ (hw _ (List.mem_of_getElem? (i := 13) rfl))) (by decide) (backOf (W := 0) (rm2 l Z a0 hw [] u ((sel >>> ((9 : Int32) &&& 31)) &&& (1 : Int32)) h0 n0 Z0) hZ (hw _ (List.mem_of_getElem? (i := 13) rfl)) (hw _ (List.mem_of_getElem? (i := 12) rfl)) (by decide) (by decide)) (g := (mkF m 141 #[.val (.int u), .val (.int p0), .val (.int ou), .val (.int op0), .val (.int sel), .val (.int w65), .val (.int w70), .val (.double w74), .second, .val (.double w75), .second, .val (.int w76), .val (.int w80), .val (.int w85), .val (.int w90), .val (.int w95), .unset, .unset, .unset, .unset, .unset, .unset, .unset, .unset, .unset, .unset, .unset, .unset, .unset, .unset, .unset, .unset, .unset] [(.int ((sel >>> ((9 : Int32) &&& 31)) &&& (1 : Int32))), (.int u)])) rfl (by rw [hml]; rfl) (argsL := [(.int u), (.int ((sel >>> ((9 : Int32) &&& 31)) &&& (1 : Int32)))]) (rest := []) (lenOf pd_1 rfl) rfl (by show 2 * 0 + _ ≤ _; exact Nat.le_of_eq rfl) (hb hby at_141) (fun _ _ => ⟨rfl, e72, (by decide : 0 + 0 ≤ _), (by decide : 0 + 0 ≤ _)⟩)
      dsimp only [Pt.U, Pt.locs, Pt.cells, Pt.slots] at X98 l98 y98 z98 st98 hQ98
      subst l98 y98 z98
      obtain ⟨rfl, N98q, e98⟩ := hQ98
      have N98 := Fr.app N72 N98q
      have S99 : ∀ t, Steps p.tables e below (T98.setTop (mkF m 144 #[.val (.int u), .val (.int p0), .val (.int ou), .val (.int op0), .val (.int sel), .val (.int w65), .val (.int w70), .val (.double w74), .second, .val (.double w75), .second, .val (.int w76), .val (.int w80), .val (.int w85), .val (.int w90), .val (.int w95), .unset, .unset, .unset, .unset, .unset, .unset, .unset, .unset, .unset, .unset, .unset, .unset, .unset, .unset, .unset, .unset, .unset] [(.double (f2 u ((sel >>> ((9 : Int32) &&& 31)) &&& (1 : Int32))))])) t → Steps p.tables e below (s₁.setTop (entryFrame m #[(.int u), (.int p0), (.int ou), (.int op0), (.int sel)] maxLocals)) t := by
        intro t k
        refine S96 t ?_
        refine XS.ifYes X72.here hx rfl (pc0 := 115) (pc' := 133) rfl (hb hby at_115) rfl ((if0 _ _).trans (teq hc97).1) (by decide) (by decide) ?_
        show Steps p.tables e below (T72.setTop (mkF m 133 #[.val (.int u), .val (.int p0), .val (.int ou), .val (.int op0), .val (.int sel), .val (.int w65), .val (.int w70), .val (.double w74), .second, .val (.double w75), .second, .val (.int w76), .val (.int w80), .val (.int w85), .val (.int w90), .val (.int w95), .unset, .unset, .unset, .unset, .unset, .unset, .unset, .unset, .unset, .unset, .unset, .unset, .unset, .unset, .unset, .unset, .unset] [])) _
        refine XS.iloadN X72.here hx rfl (hb hby at_133) rfl ?_
        show Steps p.tables e below (T72.setTop (mkF m 134 #[.val (.int u), .val (.int p0), .val (.int ou), .val (.int op0), .val (.int sel), .val (.int w65), .val (.int w70), .val (.double w74), .second, .val (.double w75), .second, .val (.int w76), .val (.int w80), .val (.int w85), .val (.int w90), .val (.int w95), .unset, .unset, .unset, .unset, .unset, .unset, .unset, .unset, .unset, .unset, .unset, .unset, .unset, .unset, .unset, .unset, .unset] [(.int u)])) _
        refine XS.iload X72.here hx rfl (hb hby at_134) rfl ?_
        show Steps p.tables e below (T72.setTop (mkF m 136 #[.val (.int u), .val (.int p0), .val (.int ou), .val (.int op0), .val (.int sel), .val (.int w65), .val (.int w70), .val (.double w74), .second, .val (.double w75), .second, .val (.int w76), .val (.int w80), .val (.int w85), .val (.int w90), .val (.int w95), .unset, .unset, .unset, .unset, .unset, .unset, .unset, .unset, .unset, .unset, .unset, .unset, .unset, .unset, .unset, .unset, .unset] [(.int sel), (.int u)])) _
        refine XS.bipush X72.here hx rfl (hb hby at_136) ?_
        show Steps p.tables e below (T72.setTop (mkF m 138 #[.val (.int u), .val (.int p0), .val (.int ou), .val (.int op0), .val (.int sel), .val (.int w65), .val (.int w70), .val (.double w74), .second, .val (.double w75), .second, .val (.int w76), .val (.int w80), .val (.int w85), .val (.int w90), .val (.int w95), .unset, .unset, .unset, .unset, .unset, .unset, .unset, .unset, .unset, .unset, .unset, .unset, .unset, .unset, .unset, .unset, .unset] [(.int (9 : Int32)), (.int sel), (.int u)])) _
        refine XS.ishr X72.here hx rfl (hb hby at_138) rfl ?_
        show Steps p.tables e below (T72.setTop (mkF m 139 #[.val (.int u), .val (.int p0), .val (.int ou), .val (.int op0), .val (.int sel), .val (.int w65), .val (.int w70), .val (.double w74), .second, .val (.double w75), .second, .val (.int w76), .val (.int w80), .val (.int w85), .val (.int w90), .val (.int w95), .unset, .unset, .unset, .unset, .unset, .unset, .unset, .unset, .unset, .unset, .unset, .unset, .unset, .unset, .unset, .unset, .unset] [(.int (sel >>> ((9 : Int32) &&& 31))), (.int u)])) _
        refine XS.iconst X72.here hx rfl (hb hby at_139) ?_
        show Steps p.tables e below (T72.setTop (mkF m 140 #[.val (.int u), .val (.int p0), .val (.int ou), .val (.int op0), .val (.int sel), .val (.int w65), .val (.int w70), .val (.double w74), .second, .val (.double w75), .second, .val (.int w76), .val (.int w80), .val (.int w85), .val (.int w90), .val (.int w95), .unset, .unset, .unset, .unset, .unset, .unset, .unset, .unset, .unset, .unset, .unset, .unset, .unset, .unset, .unset, .unset, .unset] [(.int (1 : Int32)), (.int (sel >>> ((9 : Int32) &&& 31))), (.int u)])) _
        refine XS.iand X72.here hx rfl (hb hby at_140) rfl ?_
        show Steps p.tables e below (T72.setTop (mkF m 141 #[.val (.int u), .val (.int p0), .val (.int ou), .val (.int op0), .val (.int sel), .val (.int w65), .val (.int w70), .val (.double w74), .second, .val (.double w75), .second, .val (.int w76), .val (.int w80), .val (.int w85), .val (.int w90), .val (.int w95), .unset, .unset, .unset, .unset, .unset, .unset, .unset, .unset, .unset, .unset, .unset, .unset, .unset, .unset, .unset, .unset, .unset] [(.int ((sel >>> ((9 : Int32) &&& 31)) &&& (1 : Int32))), (.int u)])) _
        refine st98 _ ?_
        show Steps p.tables e below (T98.setTop (mkF m 144 #[.val (.int u), .val (.int p0), .val (.int ou), .val (.int op0), .val (.int sel), .val (.int w65), .val (.int w70), .val (.double w74), .second, .val (.double w75), .second, .val (.int w76), .val (.int w80), .val (.int w85), .val (.int w90), .val (.int w95), .unset, .unset, .unset, .unset, .unset, .unset, .unset, .unset, .unset, .unset, .unset, .unset, .unset, .unset, .unset, .unset, .unset] [(.double (f2 u ((sel >>> ((9 : Int32) &&& 31)) &&& (1 : Int32))))])) _
        exact k
      exact ⟨T98, _, X98, N98, e98, S99⟩
    · rw [if_neg hc97]
      have S100 : ∀ t, Steps p.tables e below (T72.setTop (mkF m 120 #[.val (.int u), .val (.int p0), .val (.int ou), .val (.int op0), .val (.int sel), .val (.int w65), .val (.int w70), .val (.double w74), .second, .val (.double w75), .second, .val (.int w76), .val (.int w80), .val (.int w85), .val (.int w90), .val (.int w95), .unset, .unset, .unset, .unset, .unset, .unset, .unset, .unset, .unset, .unset, .unset, .unset, .unset, .unset, .unset, .unset, .unset] [(.int w90)])) t → Steps p.tables e below (s₁.setTop (entryFrame m #[(.int u), (.int p0), (.int ou), (.int op0), (.int sel)] maxLocals)) t := by
        intro t k
        refine S96 t ?_
        refine XS.ifNo X72.here hx rfl (hb hby at_115) rfl ((if0 _ _).trans (feq hc97).1) ?_
        show Steps p.tables e below (T72.setTop (mkF m 118 #[.val (.int u), .val (.int p0), .val (.int ou), .val (.int op0), .val (.int sel), .val (.int w65), .val (.int w70), .val (.double w74), .second, .val (.double w75), .second, .val (.int w76), .val (.int w80), .val (.int w85), .val (.int w90), .val (.int w95), .unset, .unset, .unset, .unset, .unset, .unset, .unset, .unset, .unset, .unset, .unset, .unset, .unset, .unset, .unset, .unset, .unset] [])) _
        refine XS.iload X72.here hx rfl (hb hby at_118) rfl ?_
        show Steps p.tables e below (T72.setTop (mkF m 120 #[.val (.int u), .val (.int p0), .val (.int ou), .val (.int op0), .val (.int sel), .val (.int w65), .val (.int w70), .val (.double w74), .second, .val (.double w75), .second, .val (.int w76), .val (.int w80), .val (.int w85), .val (.int w90), .val (.int w95), .unset, .unset, .unset, .unset, .unset, .unset, .unset, .unset, .unset, .unset, .unset, .unset, .unset, .unset, .unset, .unset, .unset] [(.int w90)])) _
        exact k
      have S102 : ∀ t, Steps p.tables e below (T72.setTop (mkF m 144 #[.val (.int u), .val (.int p0), .val (.int ou), .val (.int op0), .val (.int sel), .val (.int w65), .val (.int w70), .val (.double w74), .second, .val (.double w75), .second, .val (.int w76), .val (.int w80), .val (.int w85), .val (.int w90), .val (.int w95), .unset, .unset, .unset, .unset, .unset, .unset, .unset, .unset, .unset, .unset, .unset, .unset, .unset, .unset, .unset, .unset, .unset] [(.double (if w90 = (0 : Int32) then w74 else w75))])) t → Steps p.tables e below (s₁.setTop (entryFrame m #[(.int u), (.int p0), (.int ou), (.int op0), (.int sel)] maxLocals)) t := by
        intro t k
        refine S100 t ?_
        by_cases hc101 : w90 = (0 : Int32)
        · rw [if_pos hc101] at k
          refine XS.ifYes X72.here hx rfl (pc0 := 120) (pc' := 128) rfl (hb hby at_120) rfl ((if0 _ _).trans (teq hc101).1) (by decide) (by decide) ?_
          show Steps p.tables e below (T72.setTop (mkF m 128 #[.val (.int u), .val (.int p0), .val (.int ou), .val (.int op0), .val (.int sel), .val (.int w65), .val (.int w70), .val (.double w74), .second, .val (.double w75), .second, .val (.int w76), .val (.int w80), .val (.int w85), .val (.int w90), .val (.int w95), .unset, .unset, .unset, .unset, .unset, .unset, .unset, .unset, .unset, .unset, .unset, .unset, .unset, .unset, .unset, .unset, .unset] [])) _
          refine XS.dload X72.here hx rfl (hb hby at_128) rfl ?_
          show Steps p.tables e below (T72.setTop (mkF m 130 #[.val (.int u), .val (.int p0), .val (.int ou), .val (.int op0), .val (.int sel), .val (.int w65), .val (.int w70), .val (.double w74), .second, .val (.double w75), .second, .val (.int w76), .val (.int w80), .val (.int w85), .val (.int w90), .val (.int w95), .unset, .unset, .unset, .unset, .unset, .unset, .unset, .unset, .unset, .unset, .unset, .unset, .unset, .unset, .unset, .unset, .unset] [(.double w74)])) _
          refine XS.goto X72.here hx rfl (pc0 := 130) (pc' := 144) rfl (hb hby at_130) (by decide) (by decide) ?_
          show Steps p.tables e below (T72.setTop (mkF m 144 #[.val (.int u), .val (.int p0), .val (.int ou), .val (.int op0), .val (.int sel), .val (.int w65), .val (.int w70), .val (.double w74), .second, .val (.double w75), .second, .val (.int w76), .val (.int w80), .val (.int w85), .val (.int w90), .val (.int w95), .unset, .unset, .unset, .unset, .unset, .unset, .unset, .unset, .unset, .unset, .unset, .unset, .unset, .unset, .unset, .unset, .unset] [(.double w74)])) _
          exact k
        · rw [if_neg hc101] at k
          refine XS.ifNo X72.here hx rfl (hb hby at_120) rfl ((if0 _ _).trans (feq hc101).1) ?_
          show Steps p.tables e below (T72.setTop (mkF m 123 #[.val (.int u), .val (.int p0), .val (.int ou), .val (.int op0), .val (.int sel), .val (.int w65), .val (.int w70), .val (.double w74), .second, .val (.double w75), .second, .val (.int w76), .val (.int w80), .val (.int w85), .val (.int w90), .val (.int w95), .unset, .unset, .unset, .unset, .unset, .unset, .unset, .unset, .unset, .unset, .unset, .unset, .unset, .unset, .unset, .unset, .unset] [])) _
          refine XS.dload X72.here hx rfl (hb hby at_123) rfl ?_
          show Steps p.tables e below (T72.setTop (mkF m 125 #[.val (.int u), .val (.int p0), .val (.int ou), .val (.int op0), .val (.int sel), .val (.int w65), .val (.int w70), .val (.double w74), .second, .val (.double w75), .second, .val (.int w76), .val (.int w80), .val (.int w85), .val (.int w90), .val (.int w95), .unset, .unset, .unset, .unset, .unset, .unset, .unset, .unset, .unset, .unset, .unset, .unset, .unset, .unset, .unset, .unset, .unset] [(.double w75)])) _
          refine XS.goto X72.here hx rfl (pc0 := 125) (pc' := 144) rfl (hb hby at_125) (by decide) (by decide) ?_
          show Steps p.tables e below (T72.setTop (mkF m 144 #[.val (.int u), .val (.int p0), .val (.int ou), .val (.int op0), .val (.int sel), .val (.int w65), .val (.int w70), .val (.double w74), .second, .val (.double w75), .second, .val (.int w76), .val (.int w80), .val (.int w85), .val (.int w90), .val (.int w95), .unset, .unset, .unset, .unset, .unset, .unset, .unset, .unset, .unset, .unset, .unset, .unset, .unset, .unset, .unset, .unset, .unset] [(.double w75)])) _
          exact k
      exact ⟨T72, _, X72, N72, e72, S102⟩
  obtain ⟨w104, hw104⟩ : ∃ z : UInt64, z = (if w80 = (0 : Int32) then (f2 u ((sel >>> ((9 : Int32) &&& 31)) &&& (1 : Int32))) else (if w90 = (0 : Int32) then w74 else w75)) := ⟨_, rfl⟩
  rw [← hw104] at S103
  have S105 : ∀ t, Steps p.tables e below (T103.setTop (mkF m 148 #[.val (.int u), .val (.int p0), .val (.int ou), .val (.int op0), .val (.int sel), .val (.int w65), .val (.int w70), .val (.double w74), .second, .val (.double w75), .second, .val (.int w76), .val (.int w80), .val (.int w85), .val (.int w90), .val (.int w95), .val (.double w104), .second, .unset, .unset, .unset, .unset, .unset, .unset, .unset, .unset, .unset, .unset, .unset, .unset, .unset, .unset, .unset] [(.int w85)])) t → Steps p.tables e below (s₁.setTop (entryFrame m #[(.int u), (.int p0), (.int ou), (.int op0), (.int sel)] maxLocals)) t := by
    intro t k
    refine S103 t ?_
    refine XS.dstore X103.here hx rfl (hb hby at_144) rfl (l' := #[.val (.int u), .val (.int p0), .val (.int ou), .val (.int op0), .val (.int sel), .val (.int w65), .val (.int w70), .val (.double w74), .second, .val (.double w75), .second, .val (.int w76), .val (.int w80), .val (.int w85), .val (.int w90), .val (.int w95), .val (.double w104), .second, .unset, .unset, .unset, .unset, .unset, .unset, .unset, .unset, .unset, .unset, .unset, .unset, .unset, .unset, .unset]) rfl ?_
    show Steps p.tables e below (T103.setTop (mkF m 146 #[.val (.int u), .val (.int p0), .val (.int ou), .val (.int op0), .val (.int sel), .val (.int w65), .val (.int w70), .val (.double w74), .second, .val (.double w75), .second, .val (.int w76), .val (.int w80), .val (.int w85), .val (.int w90), .val (.int w95), .val (.double w104), .second, .unset, .unset, .unset, .unset, .unset, .unset, .unset, .unset, .unset, .unset, .unset, .unset, .unset, .unset, .unset] [])) _
    refine XS.iload X103.here hx rfl (hb hby at_146) rfl ?_
    show Steps p.tables e below (T103.setTop (mkF m 148 #[.val (.int u), .val (.int p0), .val (.int ou), .val (.int op0), .val (.int sel), .val (.int w65), .val (.int w70), .val (.double w74), .second, .val (.double w75), .second, .val (.int w76), .val (.int w80), .val (.int w85), .val (.int w90), .val (.int w95), .val (.double w104), .second, .unset, .unset, .unset, .unset, .unset, .unset, .unset, .unset, .unset, .unset, .unset, .unset, .unset, .unset, .unset] [(.int w85)])) _
    exact k
  obtain ⟨T112, L112, X112, N112, e112, S112⟩ : ∃ (T' : State) (L' : List Loc), Stand p l e room_1 s m #[(.int u), (.int p0), (.int ou), (.int op0), (.int sel)] below meth c T' L' 0 0 ∧ Fr n0 L' ∧ T'.heap = h0 ∧ ∀ t, Steps p.tables e below (T'.setTop (mkF m 178 #[.val (.int u), .val (.int p0), .val (.int ou), .val (.int op0), .val (.int sel), .val (.int w65), .val (.int w70), .val (.double w74), .second, .val (.double w75), .second, .val (.int w76), .val (.int w80), .val (.int w85), .val (.int w90), .val (.int w95), .val (.double w104), .second, .unset, .unset, .unset, .unset, .unset, .unset, .unset, .unset, .unset, .unset, .unset, .unset, .unset, .unset, .unset] [(.double (if w85 = (0 : Int32) then (f2 w65 ((sel >>> ((10 : Int32) &&& 31)) &&& (1 : Int32))) else (if w95 = (0 : Int32) then w74 else w75)))])) t → Steps p.tables e below (s₁.setTop (entryFrame m #[(.int u), (.int p0), (.int ou), (.int op0), (.int sel)] maxLocals)) t := by
    by_cases hc106 : w85 = (0 : Int32)
    · rw [if_pos hc106]
      obtain ⟨_, _, ⟨T107, L107, k107, n107⟩, -, X107, ⟨Lc107, hQ107, l107, y107, z107⟩, st107⟩ := Jvm.LawKit.callS X103 hx (y := (⟨"com/example/cinderbench/cinderbench/algorithms/WorthAbovePinLaw", "real", "(II)D"⟩ : MethodName)) hown (mvT hZ (hw _ (List.mem_of_getElem? (i := 10) rfl))) (mvT hZ (hw _ (List.mem_of_getElem? (i := 11) rfl))) (mvT hZ (hw _ (List.mem_of_getElem? (i := 12) rfl))) (mvT hZ (hw _ (List.mem_of_getElem? (i := 13) rfl))) (by decide) (backOf (W := 0) (rm2 l Z a0 hw [] w65 ((sel >>> ((10 : Int32) &&& 31)) &&& (1 : Int32)) h0 n0 Z0) hZ (hw _ (List.mem_of_getElem? (i := 13) rfl)) (hw _ (List.mem_of_getElem? (i := 12) rfl)) (by decide) (by decide)) (g := (mkF m 175 #[.val (.int u), .val (.int p0), .val (.int ou), .val (.int op0), .val (.int sel), .val (.int w65), .val (.int w70), .val (.double w74), .second, .val (.double w75), .second, .val (.int w76), .val (.int w80), .val (.int w85), .val (.int w90), .val (.int w95), .val (.double w104), .second, .unset, .unset, .unset, .unset, .unset, .unset, .unset, .unset, .unset, .unset, .unset, .unset, .unset, .unset, .unset] [(.int ((sel >>> ((10 : Int32) &&& 31)) &&& (1 : Int32))), (.int w65)])) rfl (by rw [hml]; rfl) (argsL := [(.int w65), (.int ((sel >>> ((10 : Int32) &&& 31)) &&& (1 : Int32)))]) (rest := []) (lenOf pd_1 rfl) rfl (by show 2 * 0 + _ ≤ _; exact Nat.le_of_eq rfl) (hb hby at_175) (fun _ _ => ⟨rfl, e103, (by decide : 0 + 0 ≤ _), (by decide : 0 + 0 ≤ _)⟩)
      dsimp only [Pt.U, Pt.locs, Pt.cells, Pt.slots] at X107 l107 y107 z107 st107 hQ107
      subst l107 y107 z107
      obtain ⟨rfl, N107q, e107⟩ := hQ107
      have N107 := Fr.app N103 N107q
      have S108 : ∀ t, Steps p.tables e below (T107.setTop (mkF m 178 #[.val (.int u), .val (.int p0), .val (.int ou), .val (.int op0), .val (.int sel), .val (.int w65), .val (.int w70), .val (.double w74), .second, .val (.double w75), .second, .val (.int w76), .val (.int w80), .val (.int w85), .val (.int w90), .val (.int w95), .val (.double w104), .second, .unset, .unset, .unset, .unset, .unset, .unset, .unset, .unset, .unset, .unset, .unset, .unset, .unset, .unset, .unset] [(.double (f2 w65 ((sel >>> ((10 : Int32) &&& 31)) &&& (1 : Int32))))])) t → Steps p.tables e below (s₁.setTop (entryFrame m #[(.int u), (.int p0), (.int ou), (.int op0), (.int sel)] maxLocals)) t := by
        intro t k
        refine S105 t ?_
        refine XS.ifYes X103.here hx rfl (pc0 := 148) (pc' := 166) rfl (hb hby at_148) rfl ((if0 _ _).trans (teq hc106).1) (by decide) (by decide) ?_
        show Steps p.tables e below (T103.setTop (mkF m 166 #[.val (.int u), .val (.int p0), .val (.int ou), .val (.int op0), .val (.int sel), .val (.int w65), .val (.int w70), .val (.double w74), .second, .val (.double w75), .second, .val (.int w76), .val (.int w80), .val (.int w85), .val (.int w90), .val (.int w95), .val (.double w104), .second, .unset, .unset, .unset, .unset, .unset, .unset, .unset, .unset, .unset, .unset, .unset, .unset, .unset, .unset, .unset] [])) _
        refine XS.iload X103.here hx rfl (hb hby at_166) rfl ?_
        show Steps p.tables e below (T103.setTop (mkF m 168 #[.val (.int u), .val (.int p0), .val (.int ou), .val (.int op0), .val (.int sel), .val (.int w65), .val (.int w70), .val (.double w74), .second, .val (.double w75), .second, .val (.int w76), .val (.int w80), .val (.int w85), .val (.int w90), .val (.int w95), .val (.double w104), .second, .unset, .unset, .unset, .unset, .unset, .unset, .unset, .unset, .unset, .unset, .unset, .unset, .unset, .unset, .unset] [(.int w65)])) _
        refine XS.iload X103.here hx rfl (hb hby at_168) rfl ?_
        show Steps p.tables e below (T103.setTop (mkF m 170 #[.val (.int u), .val (.int p0), .val (.int ou), .val (.int op0), .val (.int sel), .val (.int w65), .val (.int w70), .val (.double w74), .second, .val (.double w75), .second, .val (.int w76), .val (.int w80), .val (.int w85), .val (.int w90), .val (.int w95), .val (.double w104), .second, .unset, .unset, .unset, .unset, .unset, .unset, .unset, .unset, .unset, .unset, .unset, .unset, .unset, .unset, .unset] [(.int sel), (.int w65)])) _
        refine XS.bipush X103.here hx rfl (hb hby at_170) ?_
        show Steps p.tables e below (T103.setTop (mkF m 172 #[.val (.int u), .val (.int p0), .val (.int ou), .val (.int op0), .val (.int sel), .val (.int w65), .val (.int w70), .val (.double w74), .second, .val (.double w75), .second, .val (.int w76), .val (.int w80), .val (.int w85), .val (.int w90), .val (.int w95), .val (.double w104), .second, .unset, .unset, .unset, .unset, .unset, .unset, .unset, .unset, .unset, .unset, .unset, .unset, .unset, .unset, .unset] [(.int (10 : Int32)), (.int sel), (.int w65)])) _
        refine XS.ishr X103.here hx rfl (hb hby at_172) rfl ?_
        show Steps p.tables e below (T103.setTop (mkF m 173 #[.val (.int u), .val (.int p0), .val (.int ou), .val (.int op0), .val (.int sel), .val (.int w65), .val (.int w70), .val (.double w74), .second, .val (.double w75), .second, .val (.int w76), .val (.int w80), .val (.int w85), .val (.int w90), .val (.int w95), .val (.double w104), .second, .unset, .unset, .unset, .unset, .unset, .unset, .unset, .unset, .unset, .unset, .unset, .unset, .unset, .unset, .unset] [(.int (sel >>> ((10 : Int32) &&& 31))), (.int w65)])) _
        refine XS.iconst X103.here hx rfl (hb hby at_173) ?_
        show Steps p.tables e below (T103.setTop (mkF m 174 #[.val (.int u), .val (.int p0), .val (.int ou), .val (.int op0), .val (.int sel), .val (.int w65), .val (.int w70), .val (.double w74), .second, .val (.double w75), .second, .val (.int w76), .val (.int w80), .val (.int w85), .val (.int w90), .val (.int w95), .val (.double w104), .second, .unset, .unset, .unset, .unset, .unset, .unset, .unset, .unset, .unset, .unset, .unset, .unset, .unset, .unset, .unset] [(.int (1 : Int32)), (.int (sel >>> ((10 : Int32) &&& 31))), (.int w65)])) _
        refine XS.iand X103.here hx rfl (hb hby at_174) rfl ?_
        show Steps p.tables e below (T103.setTop (mkF m 175 #[.val (.int u), .val (.int p0), .val (.int ou), .val (.int op0), .val (.int sel), .val (.int w65), .val (.int w70), .val (.double w74), .second, .val (.double w75), .second, .val (.int w76), .val (.int w80), .val (.int w85), .val (.int w90), .val (.int w95), .val (.double w104), .second, .unset, .unset, .unset, .unset, .unset, .unset, .unset, .unset, .unset, .unset, .unset, .unset, .unset, .unset, .unset] [(.int ((sel >>> ((10 : Int32) &&& 31)) &&& (1 : Int32))), (.int w65)])) _
        refine st107 _ ?_
        show Steps p.tables e below (T107.setTop (mkF m 178 #[.val (.int u), .val (.int p0), .val (.int ou), .val (.int op0), .val (.int sel), .val (.int w65), .val (.int w70), .val (.double w74), .second, .val (.double w75), .second, .val (.int w76), .val (.int w80), .val (.int w85), .val (.int w90), .val (.int w95), .val (.double w104), .second, .unset, .unset, .unset, .unset, .unset, .unset, .unset, .unset, .unset, .unset, .unset, .unset, .unset, .unset, .unset] [(.double (f2 w65 ((sel >>> ((10 : Int32) &&& 31)) &&& (1 : Int32))))])) _
        exact k
      exact ⟨T107, _, X107, N107, e107, S108⟩
    · rw [if_neg hc106]
      have S109 : ∀ t, Steps p.tables e below (T103.setTop (mkF m 153 #[.val (.int u), .val (.int p0), .val (.int ou), .val (.int op0), .val (.int sel), .val (.int w65), .val (.int w70), .val (.double w74), .second, .val (.double w75), .second, .val (.int w76), .val (.int w80), .val (.int w85), .val (.int w90), .val (.int w95), .val (.double w104), .second, .unset, .unset, .unset, .unset, .unset, .unset, .unset, .unset, .unset, .unset, .unset, .unset, .unset, .unset, .unset] [(.int w95)])) t → Steps p.tables e below (s₁.setTop (entryFrame m #[(.int u), (.int p0), (.int ou), (.int op0), (.int sel)] maxLocals)) t := by
        intro t k
        refine S105 t ?_
        refine XS.ifNo X103.here hx rfl (hb hby at_148) rfl ((if0 _ _).trans (feq hc106).1) ?_
        show Steps p.tables e below (T103.setTop (mkF m 151 #[.val (.int u), .val (.int p0), .val (.int ou), .val (.int op0), .val (.int sel), .val (.int w65), .val (.int w70), .val (.double w74), .second, .val (.double w75), .second, .val (.int w76), .val (.int w80), .val (.int w85), .val (.int w90), .val (.int w95), .val (.double w104), .second, .unset, .unset, .unset, .unset, .unset, .unset, .unset, .unset, .unset, .unset, .unset, .unset, .unset, .unset, .unset] [])) _
        refine XS.iload X103.here hx rfl (hb hby at_151) rfl ?_
        show Steps p.tables e below (T103.setTop (mkF m 153 #[.val (.int u), .val (.int p0), .val (.int ou), .val (.int op0), .val (.int sel), .val (.int w65), .val (.int w70), .val (.double w74), .second, .val (.double w75), .second, .val (.int w76), .val (.int w80), .val (.int w85), .val (.int w90), .val (.int w95), .val (.double w104), .second, .unset, .unset, .unset, .unset, .unset, .unset, .unset, .unset, .unset, .unset, .unset, .unset, .unset, .unset, .unset] [(.int w95)])) _
        exact k
      have S111 : ∀ t, Steps p.tables e below (T103.setTop (mkF m 178 #[.val (.int u), .val (.int p0), .val (.int ou), .val (.int op0), .val (.int sel), .val (.int w65), .val (.int w70), .val (.double w74), .second, .val (.double w75), .second, .val (.int w76), .val (.int w80), .val (.int w85), .val (.int w90), .val (.int w95), .val (.double w104), .second, .unset, .unset, .unset, .unset, .unset, .unset, .unset, .unset, .unset, .unset, .unset, .unset, .unset, .unset, .unset] [(.double (if w95 = (0 : Int32) then w74 else w75))])) t → Steps p.tables e below (s₁.setTop (entryFrame m #[(.int u), (.int p0), (.int ou), (.int op0), (.int sel)] maxLocals)) t := by
        intro t k
        refine S109 t ?_
        by_cases hc110 : w95 = (0 : Int32)
        · rw [if_pos hc110] at k
          refine XS.ifYes X103.here hx rfl (pc0 := 153) (pc' := 161) rfl (hb hby at_153) rfl ((if0 _ _).trans (teq hc110).1) (by decide) (by decide) ?_
          show Steps p.tables e below (T103.setTop (mkF m 161 #[.val (.int u), .val (.int p0), .val (.int ou), .val (.int op0), .val (.int sel), .val (.int w65), .val (.int w70), .val (.double w74), .second, .val (.double w75), .second, .val (.int w76), .val (.int w80), .val (.int w85), .val (.int w90), .val (.int w95), .val (.double w104), .second, .unset, .unset, .unset, .unset, .unset, .unset, .unset, .unset, .unset, .unset, .unset, .unset, .unset, .unset, .unset] [])) _
          refine XS.dload X103.here hx rfl (hb hby at_161) rfl ?_
          show Steps p.tables e below (T103.setTop (mkF m 163 #[.val (.int u), .val (.int p0), .val (.int ou), .val (.int op0), .val (.int sel), .val (.int w65), .val (.int w70), .val (.double w74), .second, .val (.double w75), .second, .val (.int w76), .val (.int w80), .val (.int w85), .val (.int w90), .val (.int w95), .val (.double w104), .second, .unset, .unset, .unset, .unset, .unset, .unset, .unset, .unset, .unset, .unset, .unset, .unset, .unset, .unset, .unset] [(.double w74)])) _
          refine XS.goto X103.here hx rfl (pc0 := 163) (pc' := 178) rfl (hb hby at_163) (by decide) (by decide) ?_
          show Steps p.tables e below (T103.setTop (mkF m 178 #[.val (.int u), .val (.int p0), .val (.int ou), .val (.int op0), .val (.int sel), .val (.int w65), .val (.int w70), .val (.double w74), .second, .val (.double w75), .second, .val (.int w76), .val (.int w80), .val (.int w85), .val (.int w90), .val (.int w95), .val (.double w104), .second, .unset, .unset, .unset, .unset, .unset, .unset, .unset, .unset, .unset, .unset, .unset, .unset, .unset, .unset, .unset] [(.double w74)])) _
          exact k
        · rw [if_neg hc110] at k
          refine XS.ifNo X103.here hx rfl (hb hby at_153) rfl ((if0 _ _).trans (feq hc110).1) ?_
          show Steps p.tables e below (T103.setTop (mkF m 156 #[.val (.int u), .val (.int p0), .val (.int ou), .val (.int op0), .val (.int sel), .val (.int w65), .val (.int w70), .val (.double w74), .second, .val (.double w75), .second, .val (.int w76), .val (.int w80), .val (.int w85), .val (.int w90), .val (.int w95), .val (.double w104), .second, .unset, .unset, .unset, .unset, .unset, .unset, .unset, .unset, .unset, .unset, .unset, .unset, .unset, .unset, .unset] [])) _
          refine XS.dload X103.here hx rfl (hb hby at_156) rfl ?_
          show Steps p.tables e below (T103.setTop (mkF m 158 #[.val (.int u), .val (.int p0), .val (.int ou), .val (.int op0), .val (.int sel), .val (.int w65), .val (.int w70), .val (.double w74), .second, .val (.double w75), .second, .val (.int w76), .val (.int w80), .val (.int w85), .val (.int w90), .val (.int w95), .val (.double w104), .second, .unset, .unset, .unset, .unset, .unset, .unset, .unset, .unset, .unset, .unset, .unset, .unset, .unset, .unset, .unset] [(.double w75)])) _
          refine XS.goto X103.here hx rfl (pc0 := 158) (pc' := 178) rfl (hb hby at_158) (by decide) (by decide) ?_
          show Steps p.tables e below (T103.setTop (mkF m 178 #[.val (.int u), .val (.int p0), .val (.int ou), .val (.int op0), .val (.int sel), .val (.int w65), .val (.int w70), .val (.double w74), .second, .val (.double w75), .second, .val (.int w76), .val (.int w80), .val (.int w85), .val (.int w90), .val (.int w95), .val (.double w104), .second, .unset, .unset, .unset, .unset, .unset, .unset, .unset, .unset, .unset, .unset, .unset, .unset, .unset, .unset, .unset] [(.double w75)])) _
          exact k
      exact ⟨T103, _, X103, N103, e103, S111⟩
  obtain ⟨w113, hw113⟩ : ∃ z : UInt64, z = (if w85 = (0 : Int32) then (f2 w65 ((sel >>> ((10 : Int32) &&& 31)) &&& (1 : Int32))) else (if w95 = (0 : Int32) then w74 else w75)) := ⟨_, rfl⟩
  rw [← hw113] at S112
  obtain ⟨_, _, ⟨T114, L114, k114, n114⟩, -, X114, ⟨Lc114, hQ114, l114, y114, z114⟩, st114⟩ := Jvm.LawKit.callS X112 hx (y := (⟨"com/example/cinderbench/cinderbench/algorithms/WorthAbovePinLaw", "real", "(II)D"⟩ : MethodName)) hown (mvT hZ (hw _ (List.mem_of_getElem? (i := 10) rfl))) (mvT hZ (hw _ (List.mem_of_getElem? (i := 11) rfl))) (mvT hZ (hw _ (List.mem_of_getElem? (i := 12) rfl))) (mvT hZ (hw _ (List.mem_of_getElem? (i := 13) rfl))) (by decide) (backOf (W := 0) (rm2 l Z a0 hw [] p0 ((sel >>> ((11 : Int32) &&& 31)) &&& (1 : Int32)) h0 n0 Z0) hZ (hw _ (List.mem_of_getElem? (i := 13) rfl)) (hw _ (List.mem_of_getElem? (i := 12) rfl)) (by decide) (by decide)) (g := (mkF m 188 #[.val (.int u), .val (.int p0), .val (.int ou), .val (.int op0), .val (.int sel), .val (.int w65), .val (.int w70), .val (.double w74), .second, .val (.double w75), .second, .val (.int w76), .val (.int w80), .val (.int w85), .val (.int w90), .val (.int w95), .val (.double w104), .second, .val (.double w113), .second, .unset, .unset, .unset, .unset, .unset, .unset, .unset, .unset, .unset, .unset, .unset, .unset, .unset] [(.int ((sel >>> ((11 : Int32) &&& 31)) &&& (1 : Int32))), (.int p0)])) rfl (by rw [hml]; rfl) (argsL := [(.int p0), (.int ((sel >>> ((11 : Int32) &&& 31)) &&& (1 : Int32)))]) (rest := []) (lenOf pd_1 rfl) rfl (by show 2 * 0 + _ ≤ _; exact Nat.le_of_eq rfl) (hb hby at_188) (fun _ _ => ⟨rfl, e112, (by decide : 0 + 0 ≤ _), (by decide : 0 + 0 ≤ _)⟩)
  dsimp only [Pt.U, Pt.locs, Pt.cells, Pt.slots] at X114 l114 y114 z114 st114 hQ114
  subst l114 y114 z114
  obtain ⟨rfl, N114q, e114⟩ := hQ114
  have N114 := Fr.app N112 N114q
  obtain ⟨_, _, ⟨T115, L115, k115, n115⟩, -, X115, ⟨Lc115, hQ115, l115, y115, z115⟩, st115⟩ := Jvm.LawKit.callS X114 hx (y := (⟨"com/example/cinderbench/cinderbench/algorithms/WorthAbovePinLaw", "real", "(II)D"⟩ : MethodName)) hown (mvT hZ (hw _ (List.mem_of_getElem? (i := 10) rfl))) (mvT hZ (hw _ (List.mem_of_getElem? (i := 11) rfl))) (mvT hZ (hw _ (List.mem_of_getElem? (i := 12) rfl))) (mvT hZ (hw _ (List.mem_of_getElem? (i := 13) rfl))) (by decide) (backOf (W := 0) (rm2 l Z a0 hw [] w70 ((sel >>> ((12 : Int32) &&& 31)) &&& (1 : Int32)) h0 n0 Z0) hZ (hw _ (List.mem_of_getElem? (i := 13) rfl)) (hw _ (List.mem_of_getElem? (i := 12) rfl)) (by decide) (by decide)) (g := (mkF m 202 #[.val (.int u), .val (.int p0), .val (.int ou), .val (.int op0), .val (.int sel), .val (.int w65), .val (.int w70), .val (.double w74), .second, .val (.double w75), .second, .val (.int w76), .val (.int w80), .val (.int w85), .val (.int w90), .val (.int w95), .val (.double w104), .second, .val (.double w113), .second, .val (.double (f2 p0 ((sel >>> ((11 : Int32) &&& 31)) &&& (1 : Int32)))), .second, .unset, .unset, .unset, .unset, .unset, .unset, .unset, .unset, .unset, .unset, .unset] [(.int ((sel >>> ((12 : Int32) &&& 31)) &&& (1 : Int32))), (.int w70)])) rfl (by rw [hml]; rfl) (argsL := [(.int w70), (.int ((sel >>> ((12 : Int32) &&& 31)) &&& (1 : Int32)))]) (rest := []) (lenOf pd_1 rfl) rfl (by show 2 * 0 + _ ≤ _; exact Nat.le_of_eq rfl) (hb hby at_202) (fun _ _ => ⟨rfl, e114, (by decide : 0 + 0 ≤ _), (by decide : 0 + 0 ≤ _)⟩)
  dsimp only [Pt.U, Pt.locs, Pt.cells, Pt.slots] at X115 l115 y115 z115 st115 hQ115
  subst l115 y115 z115
  obtain ⟨rfl, N115q, e115⟩ := hQ115
  have N115 := Fr.app N114 N115q
  have S116 : ∀ t, Steps p.tables e below (T115.setTop (mkF m 209 #[.val (.int u), .val (.int p0), .val (.int ou), .val (.int op0), .val (.int sel), .val (.int w65), .val (.int w70), .val (.double w74), .second, .val (.double w75), .second, .val (.int w76), .val (.int w80), .val (.int w85), .val (.int w90), .val (.int w95), .val (.double w104), .second, .val (.double w113), .second, .val (.double (f2 p0 ((sel >>> ((11 : Int32) &&& 31)) &&& (1 : Int32)))), .second, .val (.double (f2 w70 ((sel >>> ((12 : Int32) &&& 31)) &&& (1 : Int32)))), .second, .unset, .unset, .unset, .unset, .unset, .unset, .unset, .unset, .unset] [(.int w80)])) t → Steps p.tables e below (s₁.setTop (entryFrame m #[(.int u), (.int p0), (.int ou), (.int op0), (.int sel)] maxLocals)) t := by
    intro t k
    refine S112 t ?_
    refine XS.dstore X112.here hx rfl (hb hby at_178) rfl (l' := #[.val (.int u), .val (.int p0), .val (.int ou), .val (.int op0), .val (.int sel), .val (.int w65), .val (.int w70), .val (.double w74), .second, .val (.double w75), .second, .val (.int w76), .val (.int w80), .val (.int w85), .val (.int w90), .val (.int w95), .val (.double w104), .second, .val (.double w113), .second, .unset, .unset, .unset, .unset, .unset, .unset, .unset, .unset, .unset, .unset, .unset, .unset, .unset]) rfl ?_
    show Steps p.tables e below (T112.setTop (mkF m 180 #[.val (.int u), .val (.int p0), .val (.int ou), .val (.int op0), .val (.int sel), .val (.int w65), .val (.int w70), .val (.double w74), .second, .val (.double w75), .second, .val (.int w76), .val (.int w80), .val (.int w85), .val (.int w90), .val (.int w95), .val (.double w104), .second, .val (.double w113), .second, .unset, .unset, .unset, .unset, .unset, .unset, .unset, .unset, .unset, .unset, .unset, .unset, .unset] [])) _
    refine XS.iloadN X112.here hx rfl (hb hby at_180) rfl ?_
    show Steps p.tables e below (T112.setTop (mkF m 181 #[.val (.int u), .val (.int p0), .val (.int ou), .val (.int op0), .val (.int sel), .val (.int w65), .val (.int w70), .val (.double w74), .second, .val (.double w75), .second, .val (.int w76), .val (.int w80), .val (.int w85), .val (.int w90), .val (.int w95), .val (.double w104), .second, .val (.double w113), .second, .unset, .unset, .unset, .unset, .unset, .unset, .unset, .unset, .unset, .unset, .unset, .unset, .unset] [(.int p0)])) _
    refine XS.iload X112.here hx rfl (hb hby at_181) rfl ?_
    show Steps p.tables e below (T112.setTop (mkF m 183 #[.val (.int u), .val (.int p0), .val (.int ou), .val (.int op0), .val (.int sel), .val (.int w65), .val (.int w70), .val (.double w74), .second, .val (.double w75), .second, .val (.int w76), .val (.int w80), .val (.int w85), .val (.int w90), .val (.int w95), .val (.double w104), .second, .val (.double w113), .second, .unset, .unset, .unset, .unset, .unset, .unset, .unset, .unset, .unset, .unset, .unset, .unset, .unset] [(.int sel), (.int p0)])) _
    refine XS.bipush X112.here hx rfl (hb hby at_183) ?_
    show Steps p.tables e below (T112.setTop (mkF m 185 #[.val (.int u), .val (.int p0), .val (.int ou), .val (.int op0), .val (.int sel), .val (.int w65), .val (.int w70), .val (.double w74), .second, .val (.double w75), .second, .val (.int w76), .val (.int w80), .val (.int w85), .val (.int w90), .val (.int w95), .val (.double w104), .second, .val (.double w113), .second, .unset, .unset, .unset, .unset, .unset, .unset, .unset, .unset, .unset, .unset, .unset, .unset, .unset] [(.int (11 : Int32)), (.int sel), (.int p0)])) _
    refine XS.ishr X112.here hx rfl (hb hby at_185) rfl ?_
    show Steps p.tables e below (T112.setTop (mkF m 186 #[.val (.int u), .val (.int p0), .val (.int ou), .val (.int op0), .val (.int sel), .val (.int w65), .val (.int w70), .val (.double w74), .second, .val (.double w75), .second, .val (.int w76), .val (.int w80), .val (.int w85), .val (.int w90), .val (.int w95), .val (.double w104), .second, .val (.double w113), .second, .unset, .unset, .unset, .unset, .unset, .unset, .unset, .unset, .unset, .unset, .unset, .unset, .unset] [(.int (sel >>> ((11 : Int32) &&& 31))), (.int p0)])) _
    refine XS.iconst X112.here hx rfl (hb hby at_186) ?_
    show Steps p.tables e below (T112.setTop (mkF m 187 #[.val (.int u), .val (.int p0), .val (.int ou), .val (.int op0), .val (.int sel), .val (.int w65), .val (.int w70), .val (.double w74), .second, .val (.double w75), .second, .val (.int w76), .val (.int w80), .val (.int w85), .val (.int w90), .val (.int w95), .val (.double w104), .second, .val (.double w113), .second, .unset, .unset, .unset, .unset, .unset, .unset, .unset, .unset, .unset, .unset, .unset, .unset, .unset] [(.int (1 : Int32)), (.int (sel >>> ((11 : Int32) &&& 31))), (.int p0)])) _
    refine XS.iand X112.here hx rfl (hb hby at_187) rfl ?_
    show Steps p.tables e below (T112.setTop (mkF m 188 #[.val (.int u), .val (.int p0), .val (.int ou), .val (.int op0), .val (.int sel), .val (.int w65), .val (.int w70), .val (.double w74), .second, .val (.double w75), .second, .val (.int w76), .val (.int w80), .val (.int w85), .val (.int w90), .val (.int w95), .val (.double w104), .second, .val (.double w113), .second, .unset, .unset, .unset, .unset, .unset, .unset, .unset, .unset, .unset, .unset, .unset, .unset, .unset] [(.int ((sel >>> ((11 : Int32) &&& 31)) &&& (1 : Int32))), (.int p0)])) _
    refine st114 _ ?_
    show Steps p.tables e below (T114.setTop (mkF m 191 #[.val (.int u), .val (.int p0), .val (.int ou), .val (.int op0), .val (.int sel), .val (.int w65), .val (.int w70), .val (.double w74), .second, .val (.double w75), .second, .val (.int w76), .val (.int w80), .val (.int w85), .val (.int w90), .val (.int w95), .val (.double w104), .second, .val (.double w113), .second, .unset, .unset, .unset, .unset, .unset, .unset, .unset, .unset, .unset, .unset, .unset, .unset, .unset] [(.double (f2 p0 ((sel >>> ((11 : Int32) &&& 31)) &&& (1 : Int32))))])) _
    refine XS.dstore X114.here hx rfl (hb hby at_191) rfl (l' := #[.val (.int u), .val (.int p0), .val (.int ou), .val (.int op0), .val (.int sel), .val (.int w65), .val (.int w70), .val (.double w74), .second, .val (.double w75), .second, .val (.int w76), .val (.int w80), .val (.int w85), .val (.int w90), .val (.int w95), .val (.double w104), .second, .val (.double w113), .second, .val (.double (f2 p0 ((sel >>> ((11 : Int32) &&& 31)) &&& (1 : Int32)))), .second, .unset, .unset, .unset, .unset, .unset, .unset, .unset, .unset, .unset, .unset, .unset]) rfl ?_
    show Steps p.tables e below (T114.setTop (mkF m 193 #[.val (.int u), .val (.int p0), .val (.int ou), .val (.int op0), .val (.int sel), .val (.int w65), .val (.int w70), .val (.double w74), .second, .val (.double w75), .second, .val (.int w76), .val (.int w80), .val (.int w85), .val (.int w90), .val (.int w95), .val (.double w104), .second, .val (.double w113), .second, .val (.double (f2 p0 ((sel >>> ((11 : Int32) &&& 31)) &&& (1 : Int32)))), .second, .unset, .unset, .unset, .unset, .unset, .unset, .unset, .unset, .unset, .unset, .unset] [])) _
    refine XS.iload X114.here hx rfl (hb hby at_193) rfl ?_
    show Steps p.tables e below (T114.setTop (mkF m 195 #[.val (.int u), .val (.int p0), .val (.int ou), .val (.int op0), .val (.int sel), .val (.int w65), .val (.int w70), .val (.double w74), .second, .val (.double w75), .second, .val (.int w76), .val (.int w80), .val (.int w85), .val (.int w90), .val (.int w95), .val (.double w104), .second, .val (.double w113), .second, .val (.double (f2 p0 ((sel >>> ((11 : Int32) &&& 31)) &&& (1 : Int32)))), .second, .unset, .unset, .unset, .unset, .unset, .unset, .unset, .unset, .unset, .unset, .unset] [(.int w70)])) _
    refine XS.iload X114.here hx rfl (hb hby at_195) rfl ?_
    show Steps p.tables e below (T114.setTop (mkF m 197 #[.val (.int u), .val (.int p0), .val (.int ou), .val (.int op0), .val (.int sel), .val (.int w65), .val (.int w70), .val (.double w74), .second, .val (.double w75), .second, .val (.int w76), .val (.int w80), .val (.int w85), .val (.int w90), .val (.int w95), .val (.double w104), .second, .val (.double w113), .second, .val (.double (f2 p0 ((sel >>> ((11 : Int32) &&& 31)) &&& (1 : Int32)))), .second, .unset, .unset, .unset, .unset, .unset, .unset, .unset, .unset, .unset, .unset, .unset] [(.int sel), (.int w70)])) _
    refine XS.bipush X114.here hx rfl (hb hby at_197) ?_
    show Steps p.tables e below (T114.setTop (mkF m 199 #[.val (.int u), .val (.int p0), .val (.int ou), .val (.int op0), .val (.int sel), .val (.int w65), .val (.int w70), .val (.double w74), .second, .val (.double w75), .second, .val (.int w76), .val (.int w80), .val (.int w85), .val (.int w90), .val (.int w95), .val (.double w104), .second, .val (.double w113), .second, .val (.double (f2 p0 ((sel >>> ((11 : Int32) &&& 31)) &&& (1 : Int32)))), .second, .unset, .unset, .unset, .unset, .unset, .unset, .unset, .unset, .unset, .unset, .unset] [(.int (12 : Int32)), (.int sel), (.int w70)])) _
    refine XS.ishr X114.here hx rfl (hb hby at_199) rfl ?_
    show Steps p.tables e below (T114.setTop (mkF m 200 #[.val (.int u), .val (.int p0), .val (.int ou), .val (.int op0), .val (.int sel), .val (.int w65), .val (.int w70), .val (.double w74), .second, .val (.double w75), .second, .val (.int w76), .val (.int w80), .val (.int w85), .val (.int w90), .val (.int w95), .val (.double w104), .second, .val (.double w113), .second, .val (.double (f2 p0 ((sel >>> ((11 : Int32) &&& 31)) &&& (1 : Int32)))), .second, .unset, .unset, .unset, .unset, .unset, .unset, .unset, .unset, .unset, .unset, .unset] [(.int (sel >>> ((12 : Int32) &&& 31))), (.int w70)])) _
    refine XS.iconst X114.here hx rfl (hb hby at_200) ?_
    show Steps p.tables e below (T114.setTop (mkF m 201 #[.val (.int u), .val (.int p0), .val (.int ou), .val (.int op0), .val (.int sel), .val (.int w65), .val (.int w70), .val (.double w74), .second, .val (.double w75), .second, .val (.int w76), .val (.int w80), .val (.int w85), .val (.int w90), .val (.int w95), .val (.double w104), .second, .val (.double w113), .second, .val (.double (f2 p0 ((sel >>> ((11 : Int32) &&& 31)) &&& (1 : Int32)))), .second, .unset, .unset, .unset, .unset, .unset, .unset, .unset, .unset, .unset, .unset, .unset] [(.int (1 : Int32)), (.int (sel >>> ((12 : Int32) &&& 31))), (.int w70)])) _
    refine XS.iand X114.here hx rfl (hb hby at_201) rfl ?_
    show Steps p.tables e below (T114.setTop (mkF m 202 #[.val (.int u), .val (.int p0), .val (.int ou), .val (.int op0), .val (.int sel), .val (.int w65), .val (.int w70), .val (.double w74), .second, .val (.double w75), .second, .val (.int w76), .val (.int w80), .val (.int w85), .val (.int w90), .val (.int w95), .val (.double w104), .second, .val (.double w113), .second, .val (.double (f2 p0 ((sel >>> ((11 : Int32) &&& 31)) &&& (1 : Int32)))), .second, .unset, .unset, .unset, .unset, .unset, .unset, .unset, .unset, .unset, .unset, .unset] [(.int ((sel >>> ((12 : Int32) &&& 31)) &&& (1 : Int32))), (.int w70)])) _
    refine st115 _ ?_
    show Steps p.tables e below (T115.setTop (mkF m 205 #[.val (.int u), .val (.int p0), .val (.int ou), .val (.int op0), .val (.int sel), .val (.int w65), .val (.int w70), .val (.double w74), .second, .val (.double w75), .second, .val (.int w76), .val (.int w80), .val (.int w85), .val (.int w90), .val (.int w95), .val (.double w104), .second, .val (.double w113), .second, .val (.double (f2 p0 ((sel >>> ((11 : Int32) &&& 31)) &&& (1 : Int32)))), .second, .unset, .unset, .unset, .unset, .unset, .unset, .unset, .unset, .unset, .unset, .unset] [(.double (f2 w70 ((sel >>> ((12 : Int32) &&& 31)) &&& (1 : Int32))))])) _
    refine XS.dstore X115.here hx rfl (hb hby at_205) rfl (l' := #[.val (.int u), .val (.int p0), .val (.int ou), .val (.int op0), .val (.int sel), .val (.int w65), .val (.int w70), .val (.double w74), .second, .val (.double w75), .second, .val (.int w76), .val (.int w80), .val (.int w85), .val (.int w90), .val (.int w95), .val (.double w104), .second, .val (.double w113), .second, .val (.double (f2 p0 ((sel >>> ((11 : Int32) &&& 31)) &&& (1 : Int32)))), .second, .val (.double (f2 w70 ((sel >>> ((12 : Int32) &&& 31)) &&& (1 : Int32)))), .second, .unset, .unset, .unset, .unset, .unset, .unset, .unset, .unset, .unset]) rfl ?_
    show Steps p.tables e below (T115.setTop (mkF m 207 #[.val (.int u), .val (.int p0), .val (.int ou), .val (.int op0), .val (.int sel), .val (.int w65), .val (.int w70), .val (.double w74), .second, .val (.double w75), .second, .val (.int w76), .val (.int w80), .val (.int w85), .val (.int w90), .val (.int w95), .val (.double w104), .second, .val (.double w113), .second, .val (.double (f2 p0 ((sel >>> ((11 : Int32) &&& 31)) &&& (1 : Int32)))), .second, .val (.double (f2 w70 ((sel >>> ((12 : Int32) &&& 31)) &&& (1 : Int32)))), .second, .unset, .unset, .unset, .unset, .unset, .unset, .unset, .unset, .unset] [])) _
    refine XS.iload X115.here hx rfl (hb hby at_207) rfl ?_
    show Steps p.tables e below (T115.setTop (mkF m 209 #[.val (.int u), .val (.int p0), .val (.int ou), .val (.int op0), .val (.int sel), .val (.int w65), .val (.int w70), .val (.double w74), .second, .val (.double w75), .second, .val (.int w76), .val (.int w80), .val (.int w85), .val (.int w90), .val (.int w95), .val (.double w104), .second, .val (.double w113), .second, .val (.double (f2 p0 ((sel >>> ((11 : Int32) &&& 31)) &&& (1 : Int32)))), .second, .val (.double (f2 w70 ((sel >>> ((12 : Int32) &&& 31)) &&& (1 : Int32)))), .second, .unset, .unset, .unset, .unset, .unset, .unset, .unset, .unset, .unset] [(.int w80)])) _
    exact k
  obtain ⟨w117, hw117⟩ : ∃ z : UInt64, z = (f2 p0 ((sel >>> ((11 : Int32) &&& 31)) &&& (1 : Int32))) := ⟨_, rfl⟩
  rw [← hw117] at S116
  obtain ⟨w118, hw118⟩ : ∃ z : UInt64, z = (f2 w70 ((sel >>> ((12 : Int32) &&& 31)) &&& (1 : Int32))) := ⟨_, rfl⟩
  rw [← hw118] at S116
  have S121 : ∀ t, Steps p.tables e below (T115.setTop (mkF m 231 #[.val (.int u), .val (.int p0), .val (.int ou), .val (.int op0), .val (.int sel), .val (.int w65), .val (.int w70), .val (.double w74), .second, .val (.double w75), .second, .val (.int w76), .val (.int w80), .val (.int w85), .val (.int w90), .val (.int w95), .val (.double w104), .second, .val (.double w113), .second, .val (.double w117), .second, .val (.double w118), .second, .unset, .unset, .unset, .unset, .unset, .unset, .unset, .unset, .unset] [(.long (if w80 = (0 : Int32) then u.toInt64 else (if w90 = (0 : Int32) then (-2147483649 : Int64) else (2147483648 : Int64))))])) t → Steps p.tables e below (s₁.setTop (entryFrame m #[(.int u), (.int p0), (.int ou), (.int op0), (.int sel)] maxLocals)) t := by
    intro t k
    refine S116 t ?_
    by_cases hc119 : w80 = (0 : Int32)
    · rw [if_pos hc119] at k
      refine XS.ifYes X115.here hx rfl (pc0 := 209) (pc' := 229) rfl (hb hby at_209) rfl ((if0 _ _).trans (teq hc119).1) (by decide) (by decide) ?_
      show Steps p.tables e below (T115.setTop (mkF m 229 #[.val (.int u), .val (.int p0), .val (.int ou), .val (.int op0), .val (.int sel), .val (.int w65), .val (.int w70), .val (.double w74), .second, .val (.double w75), .second, .val (.int w76), .val (.int w80), .val (.int w85), .val (.int w90), .val (.int w95), .val (.double w104), .second, .val (.double w113), .second, .val (.double w117), .second, .val (.double w118), .second, .unset, .unset, .unset, .unset, .unset, .unset, .unset, .unset, .unset] [])) _
      refine XS.iloadN X115.here hx rfl (hb hby at_229) rfl ?_
      show Steps p.tables e below (T115.setTop (mkF m 230 #[.val (.int u), .val (.int p0), .val (.int ou), .val (.int op0), .val (.int sel), .val (.int w65), .val (.int w70), .val (.double w74), .second, .val (.double w75), .second, .val (.int w76), .val (.int w80), .val (.int w85), .val (.int w90), .val (.int w95), .val (.double w104), .second, .val (.double w113), .second, .val (.double w117), .second, .val (.double w118), .second, .unset, .unset, .unset, .unset, .unset, .unset, .unset, .unset, .unset] [(.int u)])) _
      refine XS.i2l X115.here hx rfl (hb hby at_230) rfl ?_
      show Steps p.tables e below (T115.setTop (mkF m 231 #[.val (.int u), .val (.int p0), .val (.int ou), .val (.int op0), .val (.int sel), .val (.int w65), .val (.int w70), .val (.double w74), .second, .val (.double w75), .second, .val (.int w76), .val (.int w80), .val (.int w85), .val (.int w90), .val (.int w95), .val (.double w104), .second, .val (.double w113), .second, .val (.double w117), .second, .val (.double w118), .second, .unset, .unset, .unset, .unset, .unset, .unset, .unset, .unset, .unset] [(.long u.toInt64)])) _
      exact k
    · rw [if_neg hc119] at k
      refine XS.ifNo X115.here hx rfl (hb hby at_209) rfl ((if0 _ _).trans (feq hc119).1) ?_
      show Steps p.tables e below (T115.setTop (mkF m 212 #[.val (.int u), .val (.int p0), .val (.int ou), .val (.int op0), .val (.int sel), .val (.int w65), .val (.int w70), .val (.double w74), .second, .val (.double w75), .second, .val (.int w76), .val (.int w80), .val (.int w85), .val (.int w90), .val (.int w95), .val (.double w104), .second, .val (.double w113), .second, .val (.double w117), .second, .val (.double w118), .second, .unset, .unset, .unset, .unset, .unset, .unset, .unset, .unset, .unset] [])) _
      refine XS.iload X115.here hx rfl (hb hby at_212) rfl ?_
      show Steps p.tables e below (T115.setTop (mkF m 214 #[.val (.int u), .val (.int p0), .val (.int ou), .val (.int op0), .val (.int sel), .val (.int w65), .val (.int w70), .val (.double w74), .second, .val (.double w75), .second, .val (.int w76), .val (.int w80), .val (.int w85), .val (.int w90), .val (.int w95), .val (.double w104), .second, .val (.double w113), .second, .val (.double w117), .second, .val (.double w118), .second, .unset, .unset, .unset, .unset, .unset, .unset, .unset, .unset, .unset] [(.int w90)])) _
      by_cases hc120 : w90 = (0 : Int32)
      · rw [if_pos hc120] at k
        refine XS.ifYes X115.here hx rfl (pc0 := 214) (pc' := 223) rfl (hb hby at_214) rfl ((if0 _ _).trans (teq hc120).1) (by decide) (by decide) ?_
        show Steps p.tables e below (T115.setTop (mkF m 223 #[.val (.int u), .val (.int p0), .val (.int ou), .val (.int op0), .val (.int sel), .val (.int w65), .val (.int w70), .val (.double w74), .second, .val (.double w75), .second, .val (.int w76), .val (.int w80), .val (.int w85), .val (.int w90), .val (.int w95), .val (.double w104), .second, .val (.double w113), .second, .val (.double w117), .second, .val (.double w118), .second, .unset, .unset, .unset, .unset, .unset, .unset, .unset, .unset, .unset] [])) _
        refine X115.ldc2Long hx hown (mvT hZ (hw _ (List.mem_of_getElem? (i := 26) rfl))) (g := (mkF m 223 #[.val (.int u), .val (.int p0), .val (.int ou), .val (.int op0), .val (.int sel), .val (.int w65), .val (.int w70), .val (.double w74), .second, .val (.double w75), .second, .val (.int w76), .val (.int w80), .val (.int w85), .val (.int w90), .val (.int w95), .val (.double w104), .second, .val (.double w113), .second, .val (.double w117), .second, .val (.double w118), .second, .unset, .unset, .unset, .unset, .unset, .unset, .unset, .unset, .unset] [])) rfl (hb hby at_223) _ ?_
        show Steps p.tables e below (T115.setTop (mkF m 226 #[.val (.int u), .val (.int p0), .val (.int ou), .val (.int op0), .val (.int sel), .val (.int w65), .val (.int w70), .val (.double w74), .second, .val (.double w75), .second, .val (.int w76), .val (.int w80), .val (.int w85), .val (.int w90), .val (.int w95), .val (.double w104), .second, .val (.double w113), .second, .val (.double w117), .second, .val (.double w118), .second, .unset, .unset, .unset, .unset, .unset, .unset, .unset, .unset, .unset] [(.long (-2147483649 : Int64))])) _
        refine XS.goto X115.here hx rfl (pc0 := 226) (pc' := 231) rfl (hb hby at_226) (by decide) (by decide) ?_
        show Steps p.tables e below (T115.setTop (mkF m 231 #[.val (.int u), .val (.int p0), .val (.int ou), .val (.int op0), .val (.int sel), .val (.int w65), .val (.int w70), .val (.double w74), .second, .val (.double w75), .second, .val (.int w76), .val (.int w80), .val (.int w85), .val (.int w90), .val (.int w95), .val (.double w104), .second, .val (.double w113), .second, .val (.double w117), .second, .val (.double w118), .second, .unset, .unset, .unset, .unset, .unset, .unset, .unset, .unset, .unset] [(.long (-2147483649 : Int64))])) _
        exact k
      · rw [if_neg hc120] at k
        refine XS.ifNo X115.here hx rfl (hb hby at_214) rfl ((if0 _ _).trans (feq hc120).1) ?_
        show Steps p.tables e below (T115.setTop (mkF m 217 #[.val (.int u), .val (.int p0), .val (.int ou), .val (.int op0), .val (.int sel), .val (.int w65), .val (.int w70), .val (.double w74), .second, .val (.double w75), .second, .val (.int w76), .val (.int w80), .val (.int w85), .val (.int w90), .val (.int w95), .val (.double w104), .second, .val (.double w113), .second, .val (.double w117), .second, .val (.double w118), .second, .unset, .unset, .unset, .unset, .unset, .unset, .unset, .unset, .unset] [])) _
        refine X115.ldc2Long hx hown (mvT hZ (hw _ (List.mem_of_getElem? (i := 27) rfl))) (g := (mkF m 217 #[.val (.int u), .val (.int p0), .val (.int ou), .val (.int op0), .val (.int sel), .val (.int w65), .val (.int w70), .val (.double w74), .second, .val (.double w75), .second, .val (.int w76), .val (.int w80), .val (.int w85), .val (.int w90), .val (.int w95), .val (.double w104), .second, .val (.double w113), .second, .val (.double w117), .second, .val (.double w118), .second, .unset, .unset, .unset, .unset, .unset, .unset, .unset, .unset, .unset] [])) rfl (hb hby at_217) _ ?_
        show Steps p.tables e below (T115.setTop (mkF m 220 #[.val (.int u), .val (.int p0), .val (.int ou), .val (.int op0), .val (.int sel), .val (.int w65), .val (.int w70), .val (.double w74), .second, .val (.double w75), .second, .val (.int w76), .val (.int w80), .val (.int w85), .val (.int w90), .val (.int w95), .val (.double w104), .second, .val (.double w113), .second, .val (.double w117), .second, .val (.double w118), .second, .unset, .unset, .unset, .unset, .unset, .unset, .unset, .unset, .unset] [(.long (2147483648 : Int64))])) _
        refine XS.goto X115.here hx rfl (pc0 := 220) (pc' := 231) rfl (hb hby at_220) (by decide) (by decide) ?_
        show Steps p.tables e below (T115.setTop (mkF m 231 #[.val (.int u), .val (.int p0), .val (.int ou), .val (.int op0), .val (.int sel), .val (.int w65), .val (.int w70), .val (.double w74), .second, .val (.double w75), .second, .val (.int w76), .val (.int w80), .val (.int w85), .val (.int w90), .val (.int w95), .val (.double w104), .second, .val (.double w113), .second, .val (.double w117), .second, .val (.double w118), .second, .unset, .unset, .unset, .unset, .unset, .unset, .unset, .unset, .unset] [(.long (2147483648 : Int64))])) _
        exact k
  obtain ⟨w122, hw122⟩ : ∃ z : Int64, z = (if w80 = (0 : Int32) then u.toInt64 else (if w90 = (0 : Int32) then (-2147483649 : Int64) else (2147483648 : Int64))) := ⟨_, rfl⟩
  rw [← hw122] at S121
  have S123 : ∀ t, Steps p.tables e below (T115.setTop (mkF m 235 #[.val (.int u), .val (.int p0), .val (.int ou), .val (.int op0), .val (.int sel), .val (.int w65), .val (.int w70), .val (.double w74), .second, .val (.double w75), .second, .val (.int w76), .val (.int w80), .val (.int w85), .val (.int w90), .val (.int w95), .val (.double w104), .second, .val (.double w113), .second, .val (.double w117), .second, .val (.double w118), .second, .val (.long w122), .second, .unset, .unset, .unset, .unset, .unset, .unset, .unset] [(.int w85)])) t → Steps p.tables e below (s₁.setTop (entryFrame m #[(.int u), (.int p0), (.int ou), (.int op0), (.int sel)] maxLocals)) t := by
    intro t k
    refine S121 t ?_
    refine XS.lstore X115.here hx rfl (hb hby at_231) rfl (l' := #[.val (.int u), .val (.int p0), .val (.int ou), .val (.int op0), .val (.int sel), .val (.int w65), .val (.int w70), .val (.double w74), .second, .val (.double w75), .second, .val (.int w76), .val (.int w80), .val (.int w85), .val (.int w90), .val (.int w95), .val (.double w104), .second, .val (.double w113), .second, .val (.double w117), .second, .val (.double w118), .second, .val (.long w122), .second, .unset, .unset, .unset, .unset, .unset, .unset, .unset]) rfl ?_
    show Steps p.tables e below (T115.setTop (mkF m 233 #[.val (.int u), .val (.int p0), .val (.int ou), .val (.int op0), .val (.int sel), .val (.int w65), .val (.int w70), .val (.double w74), .second, .val (.double w75), .second, .val (.int w76), .val (.int w80), .val (.int w85), .val (.int w90), .val (.int w95), .val (.double w104), .second, .val (.double w113), .second, .val (.double w117), .second, .val (.double w118), .second, .val (.long w122), .second, .unset, .unset, .unset, .unset, .unset, .unset, .unset] [])) _
    refine XS.iload X115.here hx rfl (hb hby at_233) rfl ?_
    show Steps p.tables e below (T115.setTop (mkF m 235 #[.val (.int u), .val (.int p0), .val (.int ou), .val (.int op0), .val (.int sel), .val (.int w65), .val (.int w70), .val (.double w74), .second, .val (.double w75), .second, .val (.int w76), .val (.int w80), .val (.int w85), .val (.int w90), .val (.int w95), .val (.double w104), .second, .val (.double w113), .second, .val (.double w117), .second, .val (.double w118), .second, .val (.long w122), .second, .unset, .unset, .unset, .unset, .unset, .unset, .unset] [(.int w85)])) _
    exact k
  have S126 : ∀ t, Steps p.tables e below (T115.setTop (mkF m 258 #[.val (.int u), .val (.int p0), .val (.int ou), .val (.int op0), .val (.int sel), .val (.int w65), .val (.int w70), .val (.double w74), .second, .val (.double w75), .second, .val (.int w76), .val (.int w80), .val (.int w85), .val (.int w90), .val (.int w95), .val (.double w104), .second, .val (.double w113), .second, .val (.double w117), .second, .val (.double w118), .second, .val (.long w122), .second, .unset, .unset, .unset, .unset, .unset, .unset, .unset] [(.long (if w85 = (0 : Int32) then w65.toInt64 else (if w95 = (0 : Int32) then (-2147483649 : Int64) else (2147483648 : Int64))))])) t → Steps p.tables e below (s₁.setTop (entryFrame m #[(.int u), (.int p0), (.int ou), (.int op0), (.int sel)] maxLocals)) t := by
    intro t k
    refine S123 t ?_
    by_cases hc124 : w85 = (0 : Int32)
    · rw [if_pos hc124] at k
      refine XS.ifYes X115.here hx rfl (pc0 := 235) (pc' := 255) rfl (hb hby at_235) rfl ((if0 _ _).trans (teq hc124).1) (by decide) (by decide) ?_
      show Steps p.tables e below (T115.setTop (mkF m 255 #[.val (.int u), .val (.int p0), .val (.int ou), .val (.int op0), .val (.int sel), .val (.int w65), .val (.int w70), .val (.double w74), .second, .val (.double w75), .second, .val (.int w76), .val (.int w80), .val (.int w85), .val (.int w90), .val (.int w95), .val (.double w104), .second, .val (.double w113), .second, .val (.double w117), .second, .val (.double w118), .second, .val (.long w122), .second, .unset, .unset, .unset, .unset, .unset, .unset, .unset] [])) _
      refine XS.iload X115.here hx rfl (hb hby at_255) rfl ?_
      show Steps p.tables e below (T115.setTop (mkF m 257 #[.val (.int u), .val (.int p0), .val (.int ou), .val (.int op0), .val (.int sel), .val (.int w65), .val (.int w70), .val (.double w74), .second, .val (.double w75), .second, .val (.int w76), .val (.int w80), .val (.int w85), .val (.int w90), .val (.int w95), .val (.double w104), .second, .val (.double w113), .second, .val (.double w117), .second, .val (.double w118), .second, .val (.long w122), .second, .unset, .unset, .unset, .unset, .unset, .unset, .unset] [(.int w65)])) _
      refine XS.i2l X115.here hx rfl (hb hby at_257) rfl ?_
      show Steps p.tables e below (T115.setTop (mkF m 258 #[.val (.int u), .val (.int p0), .val (.int ou), .val (.int op0), .val (.int sel), .val (.int w65), .val (.int w70), .val (.double w74), .second, .val (.double w75), .second, .val (.int w76), .val (.int w80), .val (.int w85), .val (.int w90), .val (.int w95), .val (.double w104), .second, .val (.double w113), .second, .val (.double w117), .second, .val (.double w118), .second, .val (.long w122), .second, .unset, .unset, .unset, .unset, .unset, .unset, .unset] [(.long w65.toInt64)])) _
      exact k
    · rw [if_neg hc124] at k
      refine XS.ifNo X115.here hx rfl (hb hby at_235) rfl ((if0 _ _).trans (feq hc124).1) ?_
      show Steps p.tables e below (T115.setTop (mkF m 238 #[.val (.int u), .val (.int p0), .val (.int ou), .val (.int op0), .val (.int sel), .val (.int w65), .val (.int w70), .val (.double w74), .second, .val (.double w75), .second, .val (.int w76), .val (.int w80), .val (.int w85), .val (.int w90), .val (.int w95), .val (.double w104), .second, .val (.double w113), .second, .val (.double w117), .second, .val (.double w118), .second, .val (.long w122), .second, .unset, .unset, .unset, .unset, .unset, .unset, .unset] [])) _
      refine XS.iload X115.here hx rfl (hb hby at_238) rfl ?_
      show Steps p.tables e below (T115.setTop (mkF m 240 #[.val (.int u), .val (.int p0), .val (.int ou), .val (.int op0), .val (.int sel), .val (.int w65), .val (.int w70), .val (.double w74), .second, .val (.double w75), .second, .val (.int w76), .val (.int w80), .val (.int w85), .val (.int w90), .val (.int w95), .val (.double w104), .second, .val (.double w113), .second, .val (.double w117), .second, .val (.double w118), .second, .val (.long w122), .second, .unset, .unset, .unset, .unset, .unset, .unset, .unset] [(.int w95)])) _
      by_cases hc125 : w95 = (0 : Int32)
      · rw [if_pos hc125] at k
        refine XS.ifYes X115.here hx rfl (pc0 := 240) (pc' := 249) rfl (hb hby at_240) rfl ((if0 _ _).trans (teq hc125).1) (by decide) (by decide) ?_
        show Steps p.tables e below (T115.setTop (mkF m 249 #[.val (.int u), .val (.int p0), .val (.int ou), .val (.int op0), .val (.int sel), .val (.int w65), .val (.int w70), .val (.double w74), .second, .val (.double w75), .second, .val (.int w76), .val (.int w80), .val (.int w85), .val (.int w90), .val (.int w95), .val (.double w104), .second, .val (.double w113), .second, .val (.double w117), .second, .val (.double w118), .second, .val (.long w122), .second, .unset, .unset, .unset, .unset, .unset, .unset, .unset] [])) _
        refine X115.ldc2Long hx hown (mvT hZ (hw _ (List.mem_of_getElem? (i := 26) rfl))) (g := (mkF m 249 #[.val (.int u), .val (.int p0), .val (.int ou), .val (.int op0), .val (.int sel), .val (.int w65), .val (.int w70), .val (.double w74), .second, .val (.double w75), .second, .val (.int w76), .val (.int w80), .val (.int w85), .val (.int w90), .val (.int w95), .val (.double w104), .second, .val (.double w113), .second, .val (.double w117), .second, .val (.double w118), .second, .val (.long w122), .second, .unset, .unset, .unset, .unset, .unset, .unset, .unset] [])) rfl (hb hby at_249) _ ?_
        show Steps p.tables e below (T115.setTop (mkF m 252 #[.val (.int u), .val (.int p0), .val (.int ou), .val (.int op0), .val (.int sel), .val (.int w65), .val (.int w70), .val (.double w74), .second, .val (.double w75), .second, .val (.int w76), .val (.int w80), .val (.int w85), .val (.int w90), .val (.int w95), .val (.double w104), .second, .val (.double w113), .second, .val (.double w117), .second, .val (.double w118), .second, .val (.long w122), .second, .unset, .unset, .unset, .unset, .unset, .unset, .unset] [(.long (-2147483649 : Int64))])) _
        refine XS.goto X115.here hx rfl (pc0 := 252) (pc' := 258) rfl (hb hby at_252) (by decide) (by decide) ?_
        show Steps p.tables e below (T115.setTop (mkF m 258 #[.val (.int u), .val (.int p0), .val (.int ou), .val (.int op0), .val (.int sel), .val (.int w65), .val (.int w70), .val (.double w74), .second, .val (.double w75), .second, .val (.int w76), .val (.int w80), .val (.int w85), .val (.int w90), .val (.int w95), .val (.double w104), .second, .val (.double w113), .second, .val (.double w117), .second, .val (.double w118), .second, .val (.long w122), .second, .unset, .unset, .unset, .unset, .unset, .unset, .unset] [(.long (-2147483649 : Int64))])) _
        exact k
      · rw [if_neg hc125] at k
        refine XS.ifNo X115.here hx rfl (hb hby at_240) rfl ((if0 _ _).trans (feq hc125).1) ?_
        show Steps p.tables e below (T115.setTop (mkF m 243 #[.val (.int u), .val (.int p0), .val (.int ou), .val (.int op0), .val (.int sel), .val (.int w65), .val (.int w70), .val (.double w74), .second, .val (.double w75), .second, .val (.int w76), .val (.int w80), .val (.int w85), .val (.int w90), .val (.int w95), .val (.double w104), .second, .val (.double w113), .second, .val (.double w117), .second, .val (.double w118), .second, .val (.long w122), .second, .unset, .unset, .unset, .unset, .unset, .unset, .unset] [])) _
        refine X115.ldc2Long hx hown (mvT hZ (hw _ (List.mem_of_getElem? (i := 27) rfl))) (g := (mkF m 243 #[.val (.int u), .val (.int p0), .val (.int ou), .val (.int op0), .val (.int sel), .val (.int w65), .val (.int w70), .val (.double w74), .second, .val (.double w75), .second, .val (.int w76), .val (.int w80), .val (.int w85), .val (.int w90), .val (.int w95), .val (.double w104), .second, .val (.double w113), .second, .val (.double w117), .second, .val (.double w118), .second, .val (.long w122), .second, .unset, .unset, .unset, .unset, .unset, .unset, .unset] [])) rfl (hb hby at_243) _ ?_
        show Steps p.tables e below (T115.setTop (mkF m 246 #[.val (.int u), .val (.int p0), .val (.int ou), .val (.int op0), .val (.int sel), .val (.int w65), .val (.int w70), .val (.double w74), .second, .val (.double w75), .second, .val (.int w76), .val (.int w80), .val (.int w85), .val (.int w90), .val (.int w95), .val (.double w104), .second, .val (.double w113), .second, .val (.double w117), .second, .val (.double w118), .second, .val (.long w122), .second, .unset, .unset, .unset, .unset, .unset, .unset, .unset] [(.long (2147483648 : Int64))])) _
        refine XS.goto X115.here hx rfl (pc0 := 246) (pc' := 258) rfl (hb hby at_246) (by decide) (by decide) ?_
        show Steps p.tables e below (T115.setTop (mkF m 258 #[.val (.int u), .val (.int p0), .val (.int ou), .val (.int op0), .val (.int sel), .val (.int w65), .val (.int w70), .val (.double w74), .second, .val (.double w75), .second, .val (.int w76), .val (.int w80), .val (.int w85), .val (.int w90), .val (.int w95), .val (.double w104), .second, .val (.double w113), .second, .val (.double w117), .second, .val (.double w118), .second, .val (.long w122), .second, .unset, .unset, .unset, .unset, .unset, .unset, .unset] [(.long (2147483648 : Int64))])) _
        exact k
  obtain ⟨w127, hw127⟩ : ∃ z : Int64, z = (if w85 = (0 : Int32) then w65.toInt64 else (if w95 = (0 : Int32) then (-2147483649 : Int64) else (2147483648 : Int64))) := ⟨_, rfl⟩
  rw [← hw127] at S126
  obtain ⟨_, _, ⟨T128, L128, k128, n128⟩, -, X128, ⟨Lc128, hQ128, l128, y128, z128⟩, st128⟩ := Jvm.LawKit.callS X115 hx (y := (⟨"java/lang/Math", "min", "(JJ)J"⟩ : MethodName)) hown (mvT hZ (hw _ (List.mem_of_getElem? (i := 15) rfl))) (mvT hZ (hw _ (List.mem_of_getElem? (i := 16) rfl))) (mvT hZ (hw _ (List.mem_of_getElem? (i := 17) rfl))) (mvT hZ (hw _ (List.mem_of_getElem? (i := 18) rfl))) (by decide) (backOf (W := 2) (rm3 l Z a0 hw [] (1 : Int64) (w122 - w127) h0 n0 Z0) hZ (hw _ (List.mem_of_getElem? (i := 18) rfl)) (hw _ (List.mem_of_getElem? (i := 17) rfl)) (by decide) (by decide)) (g := (mkF m 269 #[.val (.int u), .val (.int p0), .val (.int ou), .val (.int op0), .val (.int sel), .val (.int w65), .val (.int w70), .val (.double w74), .second, .val (.double w75), .second, .val (.int w76), .val (.int w80), .val (.int w85), .val (.int w90), .val (.int w95), .val (.double w104), .second, .val (.double w113), .second, .val (.double w117), .second, .val (.double w118), .second, .val (.long w122), .second, .val (.long w127), .second, .unset, .unset, .unset, .unset, .unset] [(.long (w122 - w127)), (.long (1 : Int64)), (.long (-1 : Int64))])) rfl (by rw [hml]; rfl) (argsL := [(.long (1 : Int64)), (.long (w122 - w127))]) (rest := [(.long (-1 : Int64))]) (lenOf pd_2 rfl) rfl (by show 2 * 0 + _ ≤ _; exact Nat.le_of_eq rfl) (hb hby at_269) (fun _ _ => ⟨rfl, e115, (by decide : 0 + 0 ≤ _), (by decide : 0 + 0 ≤ _)⟩)
  dsimp only [Pt.U, Pt.locs, Pt.cells, Pt.slots] at X128 l128 y128 z128 st128 hQ128
  subst l128 y128 z128
  obtain ⟨rfl, N128q, e128⟩ := hQ128
  have N128 := Fr.app N115 N128q
  obtain ⟨_, _, ⟨T129, L129, k129, n129⟩, -, X129, ⟨Lc129, hQ129, l129, y129, z129⟩, st129⟩ := Jvm.LawKit.callS X128 hx (y := (⟨"java/lang/Math", "max", "(JJ)J"⟩ : MethodName)) hown (mvT hZ (hw _ (List.mem_of_getElem? (i := 19) rfl))) (mvT hZ (hw _ (List.mem_of_getElem? (i := 20) rfl))) (mvT hZ (hw _ (List.mem_of_getElem? (i := 17) rfl))) (mvT hZ (hw _ (List.mem_of_getElem? (i := 21) rfl))) (by decide) (backOf (W := 0) (rm4 l Z a0 hw [] (-1 : Int64) (f3 (1 : Int64) (w122 - w127)) h0 n0 Z0) hZ (hw _ (List.mem_of_getElem? (i := 21) rfl)) (hw _ (List.mem_of_getElem? (i := 17) rfl)) (by decide) (by decide)) (g := (mkF m 272 #[.val (.int u), .val (.int p0), .val (.int ou), .val (.int op0), .val (.int sel), .val (.int w65), .val (.int w70), .val (.double w74), .second, .val (.double w75), .second, .val (.int w76), .val (.int w80), .val (.int w85), .val (.int w90), .val (.int w95), .val (.double w104), .second, .val (.double w113), .second, .val (.double w117), .second, .val (.double w118), .second, .val (.long w122), .second, .val (.long w127), .second, .unset, .unset, .unset, .unset, .unset] [(.long (f3 (1 : Int64) (w122 - w127))), (.long (-1 : Int64))])) rfl (by rw [hml]; rfl) (argsL := [(.long (-1 : Int64)), (.long (f3 (1 : Int64) (w122 - w127)))]) (rest := []) (lenOf pd_2 rfl) rfl (by show 2 * 0 + _ ≤ _; exact Nat.le_of_eq rfl) (hb hby at_272) (fun _ _ => ⟨rfl, e128, (by decide : 0 + 0 ≤ _), (by decide : 0 + 0 ≤ _)⟩)
  dsimp only [Pt.U, Pt.locs, Pt.cells, Pt.slots] at X129 l129 y129 z129 st129 hQ129
  subst l129 y129 z129
  obtain ⟨rfl, N129q, e129⟩ := hQ129
  have N129 := Fr.app N128 N129q
  have S130 : ∀ t, Steps p.tables e below (T129.setTop (mkF m 296 #[.val (.int u), .val (.int p0), .val (.int ou), .val (.int op0), .val (.int sel), .val (.int w65), .val (.int w70), .val (.double w74), .second, .val (.double w75), .second, .val (.int w76), .val (.int w80), .val (.int w85), .val (.int w90), .val (.int w95), .val (.double w104), .second, .val (.double w113), .second, .val (.double w117), .second, .val (.double w118), .second, .val (.long w122), .second, .val (.long w127), .second, .val (.long (f4 (-1 : Int64) (f3 (1 : Int64) (w122 - w127)))), .second, .val (.long (p0.toInt64 - w70.toInt64)), .second, .unset] [(.int (lcmpW (((f4 (-1 : Int64) (f3 (1 : Int64) (w122 - w127))) * (8589934592 : Int64)) + (p0.toInt64 - w70.toInt64)) (0 : Int64)))])) t → Steps p.tables e below (s₁.setTop (entryFrame m #[(.int u), (.int p0), (.int ou), (.int op0), (.int sel)] maxLocals)) t := by
    intro t k
    refine S126 t ?_
    refine XS.lstore X115.here hx rfl (hb hby at_258) rfl (l' := #[.val (.int u), .val (.int p0), .val (.int ou), .val (.int op0), .val (.int sel), .val (.int w65), .val (.int w70), .val (.double w74), .second, .val (.double w75), .second, .val (.int w76), .val (.int w80), .val (.int w85), .val (.int w90), .val (.int w95), .val (.double w104), .second, .val (.double w113), .second, .val (.double w117), .second, .val (.double w118), .second, .val (.long w122), .second, .val (.long w127), .second, .unset, .unset, .unset, .unset, .unset]) rfl ?_
    show Steps p.tables e below (T115.setTop (mkF m 260 #[.val (.int u), .val (.int p0), .val (.int ou), .val (.int op0), .val (.int sel), .val (.int w65), .val (.int w70), .val (.double w74), .second, .val (.double w75), .second, .val (.int w76), .val (.int w80), .val (.int w85), .val (.int w90), .val (.int w95), .val (.double w104), .second, .val (.double w113), .second, .val (.double w117), .second, .val (.double w118), .second, .val (.long w122), .second, .val (.long w127), .second, .unset, .unset, .unset, .unset, .unset] [])) _
    refine X115.ldc2Long hx hown (mvT hZ (hw _ (List.mem_of_getElem? (i := 14) rfl))) (g := (mkF m 260 #[.val (.int u), .val (.int p0), .val (.int ou), .val (.int op0), .val (.int sel), .val (.int w65), .val (.int w70), .val (.double w74), .second, .val (.double w75), .second, .val (.int w76), .val (.int w80), .val (.int w85), .val (.int w90), .val (.int w95), .val (.double w104), .second, .val (.double w113), .second, .val (.double w117), .second, .val (.double w118), .second, .val (.long w122), .second, .val (.long w127), .second, .unset, .unset, .unset, .unset, .unset] [])) rfl (hb hby at_260) _ ?_
    show Steps p.tables e below (T115.setTop (mkF m 263 #[.val (.int u), .val (.int p0), .val (.int ou), .val (.int op0), .val (.int sel), .val (.int w65), .val (.int w70), .val (.double w74), .second, .val (.double w75), .second, .val (.int w76), .val (.int w80), .val (.int w85), .val (.int w90), .val (.int w95), .val (.double w104), .second, .val (.double w113), .second, .val (.double w117), .second, .val (.double w118), .second, .val (.long w122), .second, .val (.long w127), .second, .unset, .unset, .unset, .unset, .unset] [(.long (-1 : Int64))])) _
    refine XS.lconst X115.here hx rfl (hb hby at_263) ?_
    show Steps p.tables e below (T115.setTop (mkF m 264 #[.val (.int u), .val (.int p0), .val (.int ou), .val (.int op0), .val (.int sel), .val (.int w65), .val (.int w70), .val (.double w74), .second, .val (.double w75), .second, .val (.int w76), .val (.int w80), .val (.int w85), .val (.int w90), .val (.int w95), .val (.double w104), .second, .val (.double w113), .second, .val (.double w117), .second, .val (.double w118), .second, .val (.long w122), .second, .val (.long w127), .second, .unset, .unset, .unset, .unset, .unset] [(.long (1 : Int64)), (.long (-1 : Int64))])) _
    refine XS.lload X115.here hx rfl (hb hby at_264) rfl ?_
    show Steps p.tables e below (T115.setTop (mkF m 266 #[.val (.int u), .val (.int p0), .val (.int ou), .val (.int op0), .val (.int sel), .val (.int w65), .val (.int w70), .val (.double w74), .second, .val (.double w75), .second, .val (.int w76), .val (.int w80), .val (.int w85), .val (.int w90), .val (.int w95), .val (.double w104), .second, .val (.double w113), .second, .val (.double w117), .second, .val (.double w118), .second, .val (.long w122), .second, .val (.long w127), .second, .unset, .unset, .unset, .unset, .unset] [(.long w122), (.long (1 : Int64)), (.long (-1 : Int64))])) _
    refine XS.lload X115.here hx rfl (hb hby at_266) rfl ?_
    show Steps p.tables e below (T115.setTop (mkF m 268 #[.val (.int u), .val (.int p0), .val (.int ou), .val (.int op0), .val (.int sel), .val (.int w65), .val (.int w70), .val (.double w74), .second, .val (.double w75), .second, .val (.int w76), .val (.int w80), .val (.int w85), .val (.int w90), .val (.int w95), .val (.double w104), .second, .val (.double w113), .second, .val (.double w117), .second, .val (.double w118), .second, .val (.long w122), .second, .val (.long w127), .second, .unset, .unset, .unset, .unset, .unset] [(.long w127), (.long w122), (.long (1 : Int64)), (.long (-1 : Int64))])) _
    refine XS.lsub X115.here hx rfl (hb hby at_268) rfl ?_
    show Steps p.tables e below (T115.setTop (mkF m 269 #[.val (.int u), .val (.int p0), .val (.int ou), .val (.int op0), .val (.int sel), .val (.int w65), .val (.int w70), .val (.double w74), .second, .val (.double w75), .second, .val (.int w76), .val (.int w80), .val (.int w85), .val (.int w90), .val (.int w95), .val (.double w104), .second, .val (.double w113), .second, .val (.double w117), .second, .val (.double w118), .second, .val (.long w122), .second, .val (.long w127), .second, .unset, .unset, .unset, .unset, .unset] [(.long (w122 - w127)), (.long (1 : Int64)), (.long (-1 : Int64))])) _
    refine st128 _ ?_
    show Steps p.tables e below (T128.setTop (mkF m 272 #[.val (.int u), .val (.int p0), .val (.int ou), .val (.int op0), .val (.int sel), .val (.int w65), .val (.int w70), .val (.double w74), .second, .val (.double w75), .second, .val (.int w76), .val (.int w80), .val (.int w85), .val (.int w90), .val (.int w95), .val (.double w104), .second, .val (.double w113), .second, .val (.double w117), .second, .val (.double w118), .second, .val (.long w122), .second, .val (.long w127), .second, .unset, .unset, .unset, .unset, .unset] [(.long (f3 (1 : Int64) (w122 - w127))), (.long (-1 : Int64))])) _
    refine st129 _ ?_
    show Steps p.tables e below (T129.setTop (mkF m 275 #[.val (.int u), .val (.int p0), .val (.int ou), .val (.int op0), .val (.int sel), .val (.int w65), .val (.int w70), .val (.double w74), .second, .val (.double w75), .second, .val (.int w76), .val (.int w80), .val (.int w85), .val (.int w90), .val (.int w95), .val (.double w104), .second, .val (.double w113), .second, .val (.double w117), .second, .val (.double w118), .second, .val (.long w122), .second, .val (.long w127), .second, .unset, .unset, .unset, .unset, .unset] [(.long (f4 (-1 : Int64) (f3 (1 : Int64) (w122 - w127))))])) _
    refine XS.lstore X129.here hx rfl (hb hby at_275) rfl (l' := #[.val (.int u), .val (.int p0), .val (.int ou), .val (.int op0), .val (.int sel), .val (.int w65), .val (.int w70), .val (.double w74), .second, .val (.double w75), .second, .val (.int w76), .val (.int w80), .val (.int w85), .val (.int w90), .val (.int w95), .val (.double w104), .second, .val (.double w113), .second, .val (.double w117), .second, .val (.double w118), .second, .val (.long w122), .second, .val (.long w127), .second, .val (.long (f4 (-1 : Int64) (f3 (1 : Int64) (w122 - w127)))), .second, .unset, .unset, .unset]) rfl ?_
    show Steps p.tables e below (T129.setTop (mkF m 277 #[.val (.int u), .val (.int p0), .val (.int ou), .val (.int op0), .val (.int sel), .val (.int w65), .val (.int w70), .val (.double w74), .second, .val (.double w75), .second, .val (.int w76), .val (.int w80), .val (.int w85), .val (.int w90), .val (.int w95), .val (.double w104), .second, .val (.double w113), .second, .val (.double w117), .second, .val (.double w118), .second, .val (.long w122), .second, .val (.long w127), .second, .val (.long (f4 (-1 : Int64) (f3 (1 : Int64) (w122 - w127)))), .second, .unset, .unset, .unset] [])) _
    refine XS.iloadN X129.here hx rfl (hb hby at_277) rfl ?_
    show Steps p.tables e below (T129.setTop (mkF m 278 #[.val (.int u), .val (.int p0), .val (.int ou), .val (.int op0), .val (.int sel), .val (.int w65), .val (.int w70), .val (.double w74), .second, .val (.double w75), .second, .val (.int w76), .val (.int w80), .val (.int w85), .val (.int w90), .val (.int w95), .val (.double w104), .second, .val (.double w113), .second, .val (.double w117), .second, .val (.double w118), .second, .val (.long w122), .second, .val (.long w127), .second, .val (.long (f4 (-1 : Int64) (f3 (1 : Int64) (w122 - w127)))), .second, .unset, .unset, .unset] [(.int p0)])) _
    refine XS.i2l X129.here hx rfl (hb hby at_278) rfl ?_
    show Steps p.tables e below (T129.setTop (mkF m 279 #[.val (.int u), .val (.int p0), .val (.int ou), .val (.int op0), .val (.int sel), .val (.int w65), .val (.int w70), .val (.double w74), .second, .val (.double w75), .second, .val (.int w76), .val (.int w80), .val (.int w85), .val (.int w90), .val (.int w95), .val (.double w104), .second, .val (.double w113), .second, .val (.double w117), .second, .val (.double w118), .second, .val (.long w122), .second, .val (.long w127), .second, .val (.long (f4 (-1 : Int64) (f3 (1 : Int64) (w122 - w127)))), .second, .unset, .unset, .unset] [(.long p0.toInt64)])) _
    refine XS.iload X129.here hx rfl (hb hby at_279) rfl ?_
    show Steps p.tables e below (T129.setTop (mkF m 281 #[.val (.int u), .val (.int p0), .val (.int ou), .val (.int op0), .val (.int sel), .val (.int w65), .val (.int w70), .val (.double w74), .second, .val (.double w75), .second, .val (.int w76), .val (.int w80), .val (.int w85), .val (.int w90), .val (.int w95), .val (.double w104), .second, .val (.double w113), .second, .val (.double w117), .second, .val (.double w118), .second, .val (.long w122), .second, .val (.long w127), .second, .val (.long (f4 (-1 : Int64) (f3 (1 : Int64) (w122 - w127)))), .second, .unset, .unset, .unset] [(.int w70), (.long p0.toInt64)])) _
    refine XS.i2l X129.here hx rfl (hb hby at_281) rfl ?_
    show Steps p.tables e below (T129.setTop (mkF m 282 #[.val (.int u), .val (.int p0), .val (.int ou), .val (.int op0), .val (.int sel), .val (.int w65), .val (.int w70), .val (.double w74), .second, .val (.double w75), .second, .val (.int w76), .val (.int w80), .val (.int w85), .val (.int w90), .val (.int w95), .val (.double w104), .second, .val (.double w113), .second, .val (.double w117), .second, .val (.double w118), .second, .val (.long w122), .second, .val (.long w127), .second, .val (.long (f4 (-1 : Int64) (f3 (1 : Int64) (w122 - w127)))), .second, .unset, .unset, .unset] [(.long w70.toInt64), (.long p0.toInt64)])) _
    refine XS.lsub X129.here hx rfl (hb hby at_282) rfl ?_
    show Steps p.tables e below (T129.setTop (mkF m 283 #[.val (.int u), .val (.int p0), .val (.int ou), .val (.int op0), .val (.int sel), .val (.int w65), .val (.int w70), .val (.double w74), .second, .val (.double w75), .second, .val (.int w76), .val (.int w80), .val (.int w85), .val (.int w90), .val (.int w95), .val (.double w104), .second, .val (.double w113), .second, .val (.double w117), .second, .val (.double w118), .second, .val (.long w122), .second, .val (.long w127), .second, .val (.long (f4 (-1 : Int64) (f3 (1 : Int64) (w122 - w127)))), .second, .unset, .unset, .unset] [(.long (p0.toInt64 - w70.toInt64))])) _
    refine XS.lstore X129.here hx rfl (hb hby at_283) rfl (l' := #[.val (.int u), .val (.int p0), .val (.int ou), .val (.int op0), .val (.int sel), .val (.int w65), .val (.int w70), .val (.double w74), .second, .val (.double w75), .second, .val (.int w76), .val (.int w80), .val (.int w85), .val (.int w90), .val (.int w95), .val (.double w104), .second, .val (.double w113), .second, .val (.double w117), .second, .val (.double w118), .second, .val (.long w122), .second, .val (.long w127), .second, .val (.long (f4 (-1 : Int64) (f3 (1 : Int64) (w122 - w127)))), .second, .val (.long (p0.toInt64 - w70.toInt64)), .second, .unset]) rfl ?_
    show Steps p.tables e below (T129.setTop (mkF m 285 #[.val (.int u), .val (.int p0), .val (.int ou), .val (.int op0), .val (.int sel), .val (.int w65), .val (.int w70), .val (.double w74), .second, .val (.double w75), .second, .val (.int w76), .val (.int w80), .val (.int w85), .val (.int w90), .val (.int w95), .val (.double w104), .second, .val (.double w113), .second, .val (.double w117), .second, .val (.double w118), .second, .val (.long w122), .second, .val (.long w127), .second, .val (.long (f4 (-1 : Int64) (f3 (1 : Int64) (w122 - w127)))), .second, .val (.long (p0.toInt64 - w70.toInt64)), .second, .unset] [])) _
    refine XS.lload X129.here hx rfl (hb hby at_285) rfl ?_
    show Steps p.tables e below (T129.setTop (mkF m 287 #[.val (.int u), .val (.int p0), .val (.int ou), .val (.int op0), .val (.int sel), .val (.int w65), .val (.int w70), .val (.double w74), .second, .val (.double w75), .second, .val (.int w76), .val (.int w80), .val (.int w85), .val (.int w90), .val (.int w95), .val (.double w104), .second, .val (.double w113), .second, .val (.double w117), .second, .val (.double w118), .second, .val (.long w122), .second, .val (.long w127), .second, .val (.long (f4 (-1 : Int64) (f3 (1 : Int64) (w122 - w127)))), .second, .val (.long (p0.toInt64 - w70.toInt64)), .second, .unset] [(.long (f4 (-1 : Int64) (f3 (1 : Int64) (w122 - w127))))])) _
    refine X129.ldc2Long hx hown (mvT hZ (hw _ (List.mem_of_getElem? (i := 22) rfl))) (g := (mkF m 287 #[.val (.int u), .val (.int p0), .val (.int ou), .val (.int op0), .val (.int sel), .val (.int w65), .val (.int w70), .val (.double w74), .second, .val (.double w75), .second, .val (.int w76), .val (.int w80), .val (.int w85), .val (.int w90), .val (.int w95), .val (.double w104), .second, .val (.double w113), .second, .val (.double w117), .second, .val (.double w118), .second, .val (.long w122), .second, .val (.long w127), .second, .val (.long (f4 (-1 : Int64) (f3 (1 : Int64) (w122 - w127)))), .second, .val (.long (p0.toInt64 - w70.toInt64)), .second, .unset] [(.long (f4 (-1 : Int64) (f3 (1 : Int64) (w122 - w127))))])) rfl (hb hby at_287) _ ?_
    show Steps p.tables e below (T129.setTop (mkF m 290 #[.val (.int u), .val (.int p0), .val (.int ou), .val (.int op0), .val (.int sel), .val (.int w65), .val (.int w70), .val (.double w74), .second, .val (.double w75), .second, .val (.int w76), .val (.int w80), .val (.int w85), .val (.int w90), .val (.int w95), .val (.double w104), .second, .val (.double w113), .second, .val (.double w117), .second, .val (.double w118), .second, .val (.long w122), .second, .val (.long w127), .second, .val (.long (f4 (-1 : Int64) (f3 (1 : Int64) (w122 - w127)))), .second, .val (.long (p0.toInt64 - w70.toInt64)), .second, .unset] [(.long (8589934592 : Int64)), (.long (f4 (-1 : Int64) (f3 (1 : Int64) (w122 - w127))))])) _
    refine XS.lmul X129.here hx rfl (hb hby at_290) rfl ?_
    show Steps p.tables e below (T129.setTop (mkF m 291 #[.val (.int u), .val (.int p0), .val (.int ou), .val (.int op0), .val (.int sel), .val (.int w65), .val (.int w70), .val (.double w74), .second, .val (.double w75), .second, .val (.int w76), .val (.int w80), .val (.int w85), .val (.int w90), .val (.int w95), .val (.double w104), .second, .val (.double w113), .second, .val (.double w117), .second, .val (.double w118), .second, .val (.long w122), .second, .val (.long w127), .second, .val (.long (f4 (-1 : Int64) (f3 (1 : Int64) (w122 - w127)))), .second, .val (.long (p0.toInt64 - w70.toInt64)), .second, .unset] [(.long ((f4 (-1 : Int64) (f3 (1 : Int64) (w122 - w127))) * (8589934592 : Int64)))])) _
    refine XS.lload X129.here hx rfl (hb hby at_291) rfl ?_
    show Steps p.tables e below (T129.setTop (mkF m 293 #[.val (.int u), .val (.int p0), .val (.int ou), .val (.int op0), .val (.int sel), .val (.int w65), .val (.int w70), .val (.double w74), .second, .val (.double w75), .second, .val (.int w76), .val (.int w80), .val (.int w85), .val (.int w90), .val (.int w95), .val (.double w104), .second, .val (.double w113), .second, .val (.double w117), .second, .val (.double w118), .second, .val (.long w122), .second, .val (.long w127), .second, .val (.long (f4 (-1 : Int64) (f3 (1 : Int64) (w122 - w127)))), .second, .val (.long (p0.toInt64 - w70.toInt64)), .second, .unset] [(.long (p0.toInt64 - w70.toInt64)), (.long ((f4 (-1 : Int64) (f3 (1 : Int64) (w122 - w127))) * (8589934592 : Int64)))])) _
    refine XS.ladd X129.here hx rfl (hb hby at_293) rfl ?_
    show Steps p.tables e below (T129.setTop (mkF m 294 #[.val (.int u), .val (.int p0), .val (.int ou), .val (.int op0), .val (.int sel), .val (.int w65), .val (.int w70), .val (.double w74), .second, .val (.double w75), .second, .val (.int w76), .val (.int w80), .val (.int w85), .val (.int w90), .val (.int w95), .val (.double w104), .second, .val (.double w113), .second, .val (.double w117), .second, .val (.double w118), .second, .val (.long w122), .second, .val (.long w127), .second, .val (.long (f4 (-1 : Int64) (f3 (1 : Int64) (w122 - w127)))), .second, .val (.long (p0.toInt64 - w70.toInt64)), .second, .unset] [(.long (((f4 (-1 : Int64) (f3 (1 : Int64) (w122 - w127))) * (8589934592 : Int64)) + (p0.toInt64 - w70.toInt64)))])) _
    refine XS.lconst X129.here hx rfl (hb hby at_294) ?_
    show Steps p.tables e below (T129.setTop (mkF m 295 #[.val (.int u), .val (.int p0), .val (.int ou), .val (.int op0), .val (.int sel), .val (.int w65), .val (.int w70), .val (.double w74), .second, .val (.double w75), .second, .val (.int w76), .val (.int w80), .val (.int w85), .val (.int w90), .val (.int w95), .val (.double w104), .second, .val (.double w113), .second, .val (.double w117), .second, .val (.double w118), .second, .val (.long w122), .second, .val (.long w127), .second, .val (.long (f4 (-1 : Int64) (f3 (1 : Int64) (w122 - w127)))), .second, .val (.long (p0.toInt64 - w70.toInt64)), .second, .unset] [(.long (0 : Int64)), (.long (((f4 (-1 : Int64) (f3 (1 : Int64) (w122 - w127))) * (8589934592 : Int64)) + (p0.toInt64 - w70.toInt64)))])) _
    refine XS.lcmp X129.here hx rfl (hb hby at_295) rfl ?_
    show Steps p.tables e below (T129.setTop (mkF m 296 #[.val (.int u), .val (.int p0), .val (.int ou), .val (.int op0), .val (.int sel), .val (.int w65), .val (.int w70), .val (.double w74), .second, .val (.double w75), .second, .val (.int w76), .val (.int w80), .val (.int w85), .val (.int w90), .val (.int w95), .val (.double w104), .second, .val (.double w113), .second, .val (.double w117), .second, .val (.double w118), .second, .val (.long w122), .second, .val (.long w127), .second, .val (.long (f4 (-1 : Int64) (f3 (1 : Int64) (w122 - w127)))), .second, .val (.long (p0.toInt64 - w70.toInt64)), .second, .unset] [(.int (lcmpW (((f4 (-1 : Int64) (f3 (1 : Int64) (w122 - w127))) * (8589934592 : Int64)) + (p0.toInt64 - w70.toInt64)) (0 : Int64)))])) _
    exact k
  obtain ⟨w131, hw131⟩ : ∃ z : Int64, z = (f4 (-1 : Int64) (f3 (1 : Int64) (w122 - w127))) := ⟨_, rfl⟩
  rw [← hw131] at S130
  obtain ⟨w132, hw132⟩ : ∃ z : Int64, z = (p0.toInt64 - w70.toInt64) := ⟨_, rfl⟩
  rw [← hw132] at S130
  obtain ⟨w133, hw133⟩ : ∃ z : Int32, z = (lcmpW ((w131 * (8589934592 : Int64)) + w132) (0 : Int64)) := ⟨_, rfl⟩
  rw [← hw133] at S130
  have S135 : ∀ t, Steps p.tables e below (T129.setTop (mkF m 304 #[.val (.int u), .val (.int p0), .val (.int ou), .val (.int op0), .val (.int sel), .val (.int w65), .val (.int w70), .val (.double w74), .second, .val (.double w75), .second, .val (.int w76), .val (.int w80), .val (.int w85), .val (.int w90), .val (.int w95), .val (.double w104), .second, .val (.double w113), .second, .val (.double w117), .second, .val (.double w118), .second, .val (.long w122), .second, .val (.long w127), .second, .val (.long w131), .second, .val (.long w132), .second, .unset] [(.int (if (0 : Int32) < w133 then (1 : Int32) else (0 : Int32)))])) t → Steps p.tables e below (s₁.setTop (entryFrame m #[(.int u), (.int p0), (.int ou), (.int op0), (.int sel)] maxLocals)) t := by
    intro t k
    refine S130 t ?_
    by_cases hc134 : (0 : Int32) < w133
    · rw [if_pos hc134] at k
      refine XS.ifNo X129.here hx rfl (hb hby at_296) rfl ((if0 _ _).trans (tlt hc134).2.2.2) ?_
      show Steps p.tables e below (T129.setTop (mkF m 299 #[.val (.int u), .val (.int p0), .val (.int ou), .val (.int op0), .val (.int sel), .val (.int w65), .val (.int w70), .val (.double w74), .second, .val (.double w75), .second, .val (.int w76), .val (.int w80), .val (.int w85), .val (.int w90), .val (.int w95), .val (.double w104), .second, .val (.double w113), .second, .val (.double w117), .second, .val (.double w118), .second, .val (.long w122), .second, .val (.long w127), .second, .val (.long w131), .second, .val (.long w132), .second, .unset] [])) _
      refine XS.iconst X129.here hx rfl (hb hby at_299) ?_
      show Steps p.tables e below (T129.setTop (mkF m 300 #[.val (.int u), .val (.int p0), .val (.int ou), .val (.int op0), .val (.int sel), .val (.int w65), .val (.int w70), .val (.double w74), .second, .val (.double w75), .second, .val (.int w76), .val (.int w80), .val (.int w85), .val (.int w90), .val (.int w95), .val (.double w104), .second, .val (.double w113), .second, .val (.double w117), .second, .val (.double w118), .second, .val (.long w122), .second, .val (.long w127), .second, .val (.long w131), .second, .val (.long w132), .second, .unset] [(.int (1 : Int32))])) _
      refine XS.goto X129.here hx rfl (pc0 := 300) (pc' := 304) rfl (hb hby at_300) (by decide) (by decide) ?_
      show Steps p.tables e below (T129.setTop (mkF m 304 #[.val (.int u), .val (.int p0), .val (.int ou), .val (.int op0), .val (.int sel), .val (.int w65), .val (.int w70), .val (.double w74), .second, .val (.double w75), .second, .val (.int w76), .val (.int w80), .val (.int w85), .val (.int w90), .val (.int w95), .val (.double w104), .second, .val (.double w113), .second, .val (.double w117), .second, .val (.double w118), .second, .val (.long w122), .second, .val (.long w127), .second, .val (.long w131), .second, .val (.long w132), .second, .unset] [(.int (1 : Int32))])) _
      exact k
    · rw [if_neg hc134] at k
      refine XS.ifYes X129.here hx rfl (pc0 := 296) (pc' := 303) rfl (hb hby at_296) rfl ((if0 _ _).trans (flt hc134).2.2.2) (by decide) (by decide) ?_
      show Steps p.tables e below (T129.setTop (mkF m 303 #[.val (.int u), .val (.int p0), .val (.int ou), .val (.int op0), .val (.int sel), .val (.int w65), .val (.int w70), .val (.double w74), .second, .val (.double w75), .second, .val (.int w76), .val (.int w80), .val (.int w85), .val (.int w90), .val (.int w95), .val (.double w104), .second, .val (.double w113), .second, .val (.double w117), .second, .val (.double w118), .second, .val (.long w122), .second, .val (.long w127), .second, .val (.long w131), .second, .val (.long w132), .second, .unset] [])) _
      refine XS.iconst X129.here hx rfl (hb hby at_303) ?_
      show Steps p.tables e below (T129.setTop (mkF m 304 #[.val (.int u), .val (.int p0), .val (.int ou), .val (.int op0), .val (.int sel), .val (.int w65), .val (.int w70), .val (.double w74), .second, .val (.double w75), .second, .val (.int w76), .val (.int w80), .val (.int w85), .val (.int w90), .val (.int w95), .val (.double w104), .second, .val (.double w113), .second, .val (.double w117), .second, .val (.double w118), .second, .val (.long w122), .second, .val (.long w127), .second, .val (.long w131), .second, .val (.long w132), .second, .unset] [(.int (0 : Int32))])) _
      exact k
  obtain ⟨w136, hw136⟩ : ∃ z : Int32, z = (if (0 : Int32) < w133 then (1 : Int32) else (0 : Int32)) := ⟨_, rfl⟩
  rw [← hw136] at S135
  obtain ⟨_, _, ⟨T137, L137, k137, n137⟩, -, X137, ⟨Lc137, hQ137, l137, y137, z137⟩, st137⟩ := Jvm.LawKit.callS X129 hx (y := (⟨"com/example/cinderbench/cinderbench/algorithms/Worth", "above", "(DDDD)Z"⟩ : MethodName)) hown (mvT hZ (hw _ (List.mem_of_getElem? (i := 23) rfl))) (mvT hZ (hw _ (List.mem_of_getElem? (i := 24) rfl))) (mvT hZ (hw _ (List.mem_of_getElem? (i := 1) rfl))) (mvT hZ (hw _ (List.mem_of_getElem? (i := 25) rfl))) (by decide) (backOf (W := 0) (rm5 l Z a0 hw [] w104 w117 w113 w118 h0 n0 Z0) hZ (hw _ (List.mem_of_getElem? (i := 25) rfl)) (hw _ (List.mem_of_getElem? (i := 1) rfl)) (by decide) (by decide)) (g := (mkF m 314 #[.val (.int u), .val (.int p0), .val (.int ou), .val (.int op0), .val (.int sel), .val (.int w65), .val (.int w70), .val (.double w74), .second, .val (.double w75), .second, .val (.int w76), .val (.int w80), .val (.int w85), .val (.int w90), .val (.int w95), .val (.double w104), .second, .val (.double w113), .second, .val (.double w117), .second, .val (.double w118), .second, .val (.long w122), .second, .val (.long w127), .second, .val (.long w131), .second, .val (.long w132), .second, .val (.int w136)] [(.double w118), (.double w113), (.double w117), (.double w104)])) rfl (by rw [hml]; rfl) (argsL := [(.double w104), (.double w117), (.double w113), (.double w118)]) (rest := []) (lenOf pd_3 rfl) rfl (by show 2 * 0 + _ ≤ _; exact Nat.le_of_eq rfl) (hb hby at_314) (fun _ _ => ⟨rfl, e129, (by decide : 0 + 0 ≤ _), (by decide : 0 + 0 ≤ _)⟩)
  dsimp only [Pt.U, Pt.locs, Pt.cells, Pt.slots] at X137 l137 y137 z137 st137 hQ137
  subst l137 y137 z137
  obtain ⟨rfl, N137q, e137⟩ := hQ137
  have N137 := Fr.app N129 N137q
  have S138 : ∀ t, Steps p.tables e below (T137.setTop (mkF m 319 #[.val (.int u), .val (.int p0), .val (.int ou), .val (.int op0), .val (.int sel), .val (.int w65), .val (.int w70), .val (.double w74), .second, .val (.double w75), .second, .val (.int w76), .val (.int w80), .val (.int w85), .val (.int w90), .val (.int w95), .val (.double w104), .second, .val (.double w113), .second, .val (.double w117), .second, .val (.double w118), .second, .val (.long w122), .second, .val (.long w127), .second, .val (.long w131), .second, .val (.long w132), .second, .val (.int w136)] [(.int w136), (.int (f5 w104 w117 w113 w118))])) t → Steps p.tables e below (s₁.setTop (entryFrame m #[(.int u), (.int p0), (.int ou), (.int op0), (.int sel)] maxLocals)) t := by
    intro t k
    refine S135 t ?_
    refine XS.istore X129.here hx rfl (hb hby at_304) rfl (l' := #[.val (.int u), .val (.int p0), .val (.int ou), .val (.int op0), .val (.int sel), .val (.int w65), .val (.int w70), .val (.double w74), .second, .val (.double w75), .second, .val (.int w76), .val (.int w80), .val (.int w85), .val (.int w90), .val (.int w95), .val (.double w104), .second, .val (.double w113), .second, .val (.double w117), .second, .val (.double w118), .second, .val (.long w122), .second, .val (.long w127), .second, .val (.long w131), .second, .val (.long w132), .second, .val (.int w136)]) rfl ?_
    show Steps p.tables e below (T129.setTop (mkF m 306 #[.val (.int u), .val (.int p0), .val (.int ou), .val (.int op0), .val (.int sel), .val (.int w65), .val (.int w70), .val (.double w74), .second, .val (.double w75), .second, .val (.int w76), .val (.int w80), .val (.int w85), .val (.int w90), .val (.int w95), .val (.double w104), .second, .val (.double w113), .second, .val (.double w117), .second, .val (.double w118), .second, .val (.long w122), .second, .val (.long w127), .second, .val (.long w131), .second, .val (.long w132), .second, .val (.int w136)] [])) _
    refine XS.dload X129.here hx rfl (hb hby at_306) rfl ?_
    show Steps p.tables e below (T129.setTop (mkF m 308 #[.val (.int u), .val (.int p0), .val (.int ou), .val (.int op0), .val (.int sel), .val (.int w65), .val (.int w70), .val (.double w74), .second, .val (.double w75), .second, .val (.int w76), .val (.int w80), .val (.int w85), .val (.int w90), .val (.int w95), .val (.double w104), .second, .val (.double w113), .second, .val (.double w117), .second, .val (.double w118), .second, .val (.long w122), .second, .val (.long w127), .second, .val (.long w131), .second, .val (.long w132), .second, .val (.int w136)] [(.double w104)])) _
    refine XS.dload X129.here hx rfl (hb hby at_308) rfl ?_
    show Steps p.tables e below (T129.setTop (mkF m 310 #[.val (.int u), .val (.int p0), .val (.int ou), .val (.int op0), .val (.int sel), .val (.int w65), .val (.int w70), .val (.double w74), .second, .val (.double w75), .second, .val (.int w76), .val (.int w80), .val (.int w85), .val (.int w90), .val (.int w95), .val (.double w104), .second, .val (.double w113), .second, .val (.double w117), .second, .val (.double w118), .second, .val (.long w122), .second, .val (.long w127), .second, .val (.long w131), .second, .val (.long w132), .second, .val (.int w136)] [(.double w117), (.double w104)])) _
    refine XS.dload X129.here hx rfl (hb hby at_310) rfl ?_
    show Steps p.tables e below (T129.setTop (mkF m 312 #[.val (.int u), .val (.int p0), .val (.int ou), .val (.int op0), .val (.int sel), .val (.int w65), .val (.int w70), .val (.double w74), .second, .val (.double w75), .second, .val (.int w76), .val (.int w80), .val (.int w85), .val (.int w90), .val (.int w95), .val (.double w104), .second, .val (.double w113), .second, .val (.double w117), .second, .val (.double w118), .second, .val (.long w122), .second, .val (.long w127), .second, .val (.long w131), .second, .val (.long w132), .second, .val (.int w136)] [(.double w113), (.double w117), (.double w104)])) _
    refine XS.dload X129.here hx rfl (hb hby at_312) rfl ?_
    show Steps p.tables e below (T129.setTop (mkF m 314 #[.val (.int u), .val (.int p0), .val (.int ou), .val (.int op0), .val (.int sel), .val (.int w65), .val (.int w70), .val (.double w74), .second, .val (.double w75), .second, .val (.int w76), .val (.int w80), .val (.int w85), .val (.int w90), .val (.int w95), .val (.double w104), .second, .val (.double w113), .second, .val (.double w117), .second, .val (.double w118), .second, .val (.long w122), .second, .val (.long w127), .second, .val (.long w131), .second, .val (.long w132), .second, .val (.int w136)] [(.double w118), (.double w113), (.double w117), (.double w104)])) _
    refine st137 _ ?_
    show Steps p.tables e below (T137.setTop (mkF m 317 #[.val (.int u), .val (.int p0), .val (.int ou), .val (.int op0), .val (.int sel), .val (.int w65), .val (.int w70), .val (.double w74), .second, .val (.double w75), .second, .val (.int w76), .val (.int w80), .val (.int w85), .val (.int w90), .val (.int w95), .val (.double w104), .second, .val (.double w113), .second, .val (.double w117), .second, .val (.double w118), .second, .val (.long w122), .second, .val (.long w127), .second, .val (.long w131), .second, .val (.long w132), .second, .val (.int w136)] [(.int (f5 w104 w117 w113 w118))])) _
    refine XS.iload X137.here hx rfl (hb hby at_317) rfl ?_
    show Steps p.tables e below (T137.setTop (mkF m 319 #[.val (.int u), .val (.int p0), .val (.int ou), .val (.int op0), .val (.int sel), .val (.int w65), .val (.int w70), .val (.double w74), .second, .val (.double w75), .second, .val (.int w76), .val (.int w80), .val (.int w85), .val (.int w90), .val (.int w95), .val (.double w104), .second, .val (.double w113), .second, .val (.double w117), .second, .val (.double w118), .second, .val (.long w122), .second, .val (.long w127), .second, .val (.long w131), .second, .val (.long w132), .second, .val (.int w136)] [(.int w136), (.int (f5 w104 w117 w113 w118))])) _
    exact k
  obtain ⟨w139, hw139⟩ : ∃ z : Int32, z = (f5 w104 w117 w113 w118) := ⟨_, rfl⟩
  rw [← hw139] at S138
  have S141 : ∀ t, Steps p.tables e below (T137.setTop (mkF m 327 #[.val (.int u), .val (.int p0), .val (.int ou), .val (.int op0), .val (.int sel), .val (.int w65), .val (.int w70), .val (.double w74), .second, .val (.double w75), .second, .val (.int w76), .val (.int w80), .val (.int w85), .val (.int w90), .val (.int w95), .val (.double w104), .second, .val (.double w113), .second, .val (.double w117), .second, .val (.double w118), .second, .val (.long w122), .second, .val (.long w127), .second, .val (.long w131), .second, .val (.long w132), .second, .val (.int w136)] [(.int (if w139 = w136 then (1 : Int32) else (0 : Int32)))])) t → Steps p.tables e below (s₁.setTop (entryFrame m #[(.int u), (.int p0), (.int ou), (.int op0), (.int sel)] maxLocals)) t := by
    intro t k
    refine S138 t ?_
    by_cases hc140 : w139 = w136
    · rw [if_pos hc140] at k
      refine XS.icmpNo X137.here hx rfl (hb hby at_319) rfl (teq hc140).2 ?_
      show Steps p.tables e below (T137.setTop (mkF m 322 #[.val (.int u), .val (.int p0), .val (.int ou), .val (.int op0), .val (.int sel), .val (.int w65), .val (.int w70), .val (.double w74), .second, .val (.double w75), .second, .val (.int w76), .val (.int w80), .val (.int w85), .val (.int w90), .val (.int w95), .val (.double w104), .second, .val (.double w113), .second, .val (.double w117), .second, .val (.double w118), .second, .val (.long w122), .second, .val (.long w127), .second, .val (.long w131), .second, .val (.long w132), .second, .val (.int w136)] [])) _
      refine XS.iconst X137.here hx rfl (hb hby at_322) ?_
      show Steps p.tables e below (T137.setTop (mkF m 323 #[.val (.int u), .val (.int p0), .val (.int ou), .val (.int op0), .val (.int sel), .val (.int w65), .val (.int w70), .val (.double w74), .second, .val (.double w75), .second, .val (.int w76), .val (.int w80), .val (.int w85), .val (.int w90), .val (.int w95), .val (.double w104), .second, .val (.double w113), .second, .val (.double w117), .second, .val (.double w118), .second, .val (.long w122), .second, .val (.long w127), .second, .val (.long w131), .second, .val (.long w132), .second, .val (.int w136)] [(.int (1 : Int32))])) _
      refine XS.goto X137.here hx rfl (pc0 := 323) (pc' := 327) rfl (hb hby at_323) (by decide) (by decide) ?_
      show Steps p.tables e below (T137.setTop (mkF m 327 #[.val (.int u), .val (.int p0), .val (.int ou), .val (.int op0), .val (.int sel), .val (.int w65), .val (.int w70), .val (.double w74), .second, .val (.double w75), .second, .val (.int w76), .val (.int w80), .val (.int w85), .val (.int w90), .val (.int w95), .val (.double w104), .second, .val (.double w113), .second, .val (.double w117), .second, .val (.double w118), .second, .val (.long w122), .second, .val (.long w127), .second, .val (.long w131), .second, .val (.long w132), .second, .val (.int w136)] [(.int (1 : Int32))])) _
      exact k
    · rw [if_neg hc140] at k
      refine XS.icmpYes X137.here hx rfl (pc0 := 319) (pc' := 326) rfl (hb hby at_319) rfl (feq hc140).2 (by decide) (by decide) ?_
      show Steps p.tables e below (T137.setTop (mkF m 326 #[.val (.int u), .val (.int p0), .val (.int ou), .val (.int op0), .val (.int sel), .val (.int w65), .val (.int w70), .val (.double w74), .second, .val (.double w75), .second, .val (.int w76), .val (.int w80), .val (.int w85), .val (.int w90), .val (.int w95), .val (.double w104), .second, .val (.double w113), .second, .val (.double w117), .second, .val (.double w118), .second, .val (.long w122), .second, .val (.long w127), .second, .val (.long w131), .second, .val (.long w132), .second, .val (.int w136)] [])) _
      refine XS.iconst X137.here hx rfl (hb hby at_326) ?_
      show Steps p.tables e below (T137.setTop (mkF m 327 #[.val (.int u), .val (.int p0), .val (.int ou), .val (.int op0), .val (.int sel), .val (.int w65), .val (.int w70), .val (.double w74), .second, .val (.double w75), .second, .val (.int w76), .val (.int w80), .val (.int w85), .val (.int w90), .val (.int w95), .val (.double w104), .second, .val (.double w113), .second, .val (.double w117), .second, .val (.double w118), .second, .val (.long w122), .second, .val (.long w127), .second, .val (.long w131), .second, .val (.long w132), .second, .val (.int w136)] [(.int (0 : Int32))])) _
      exact k
  obtain ⟨w142, hw142⟩ : ∃ z : Int32, z = (if w139 = w136 then (1 : Int32) else (0 : Int32)) := ⟨_, rfl⟩
  rw [← hw142] at S141
  have hres : w142 = (1 : Int32) := (own_law u p0 ou op0 sel w62 hw62 w65 hw65 w67 hw67 w70 hw70 w74 hw74 w75 hw75 w76 hw76 w77 hw77 w80 hw80 w82 hw82 w85 hw85 w87 hw87 w90 hw90 w92 hw92 w95 hw95 w104 hw104 w113 hw113 w117 hw117 w118 hw118 w122 hw122 w127 hw127 w131 hw131 w132 hw132 w133 hw133 w136 hw136 w139 hw139 w142 hw142)
  subst hres
  obtain ⟨fs, hr, hrun, hended, hW, hsame⟩ := X137.leave (v := some (.int (1 : Int32))) (fun h => by rw [Bd.returns] at h; cases h)
  refine ⟨_, _, S141 _ ?_, hrun, hended, _, _, rfl, ?_, ⟨_, rfl⟩, hW, hsame.mono (by decide) (by decide)⟩
  · exact retN X137 hx (t := .boolean) Bd.returns (by simp) (hb hby at_327) hr
  · show Q0 Z u p0 ou op0 sel zL h0 n0 _ T137.heap _
    rw [e137]
    exact ⟨rfl, N137⟩
set_option maxRecDepth 65536 in
set_option maxHeartbeats 40000000 in
theorem comes_1 {Post : Tables → Env → Array Value → State → Outcome → State → Prop} (hpost : ∀ tb e args s v u, (limb_1_1.after args s (.returned v) u = true ∧ limb_1_2.after args s (.returned v) u = true ∧ True) → FrameEnd s (.returned v) u (Jvm.fieldLocs frame_1_writes args s ++ Jvm.arrayLocs frame_1_arrays args s ++ Jvm.staticLocs frame_1_statics s) 0 0 → Post tb e args s (.returned v) u) :
    ArmFor flags0 classFile x code maxLocals ret World_1 tables_1 room_1 Calls_1 rest_1 Pre_1 Post := by
  intro l hfl _ _ p e ha hc hk s m args below hf hA hF happ hP
  obtain ⟨hcalls, hrest, hpre⟩ := hP
  obtain ⟨-, -, -, hnamed, -, -, -, hat⟩ := (Spec.applies_iff hf).mp happ
  obtain ⟨hg, hn⟩ := and_e (Cond.before_iff.mp (show (Jvm.Cond.and given_1 narrow_1).before args s = true from hpre))
  obtain ⟨g1, g2⟩ := and_e hg
  obtain ⟨g3, g4⟩ := and_e g2
  obtain ⟨g5, g6⟩ := and_e g4
  obtain ⟨g7, g8⟩ := and_e g6
  obtain ⟨g9, g10⟩ := and_e g8
  obtain ⟨w0, w1, w2, w3, w4, rfl⟩ : ∃ w0 w1 w2 w3 w4 : Value, args = #[w0, w1, w2, w3, w4] := by
    have hs : args.size = 5 := by simpa [Cond.value, given_1] using g1
    obtain ⟨L⟩ := args
    match L, hs with
    | [w0, w1, w2, w3, w4], _ => exact ⟨w0, w1, w2, w3, w4, rfl⟩
  have hw := fun d (hd : d ∈ tables_1) => atoms_spec (ws := Jvm.Cond.code x code maxLocals ret :: tables_1) hat d (List.mem_cons_of_mem _ hd)
  have hfit : Fit s := fun {y c} hc i hi => by
    obtain ⟨ha, rfl⟩ := Array.getElem?_eq_some_iff.mp hc
    have q := List.all_eq_true.mp ((Array.all_eq_true_iff_forall_mem.mp hF) _ (Array.getElem_mem ha)) i (List.mem_range.mpr hi)
    simpa [Array.getElem?_eq_getElem hi] using q
  obtain ⟨i0, ei0⟩ := is_v g3
  obtain rfl : w0 = (.int i0) := Option.some.inj ei0
  obtain ⟨i1, ei1⟩ := is_v g5
  obtain rfl : w1 = (.int i1) := Option.some.inj ei1
  obtain ⟨i2, ei2⟩ := is_v g7
  obtain rfl : w2 = (.int i2) := Option.some.inj ei2
  obtain ⟨i3, ei3⟩ := is_v g9
  obtain rfl : w3 = (.int i3) := Option.some.inj ei3
  obtain ⟨i4, ei4⟩ := is_v g10
  obtain rfl : w4 = (.int i4) := Option.some.inj ei4
  obtain ⟨hn1, hn2⟩ := and_e hn
  obtain ⟨zL, ezL⟩ := exa_v hn1
  have S1 := Sta.start ezL (Or.inr ⟨hw _ (List.mem_of_getElem? (i := 1) rfl), hw _ (List.mem_of_getElem? (i := 2) rfl)⟩)
  have E1 := Exa.start ezL hn1
  have F1 : Fld s s.heap zL "com/example/cinderbench/cinderbench/algorithms/Worth" "utility" "D" (.double (18442240474082181120 : UInt64)) := by
    refine Fld.start ?_
    obtain ⟨y, z, ey, ez, k1, k2⟩ := cmp_v (Or.inl hn2)
    rw [fld_at ezL] at ey
    have eb : (Jvm.Term.op1 Jvm.Unary.bitsD (Jvm.Term.long (-4503599627370496 : Int64))).eval #[.int i0, .int i1, .int i2, .int i3, .int i4] s none [] s = some (.double (18442240474082181120 : UInt64)) := rfl
    cases eb.symm.trans ez
    obtain ⟨w, rfl⟩ := k2
    have q := hn2
    simp only [Cond.value, fld_at ezL, ey, eb] at q
    have q2 : w = (18442240474082181120 : UInt64) := by simpa using q
    rw [ey, q2]
  obtain ⟨n, o, h1, h2, h3, _, L, rfl, ⟨rfl, N⟩, hq⟩ := rm0 l s _ hw tables_1 i0 i1 i2 i3 i4 zL s.heap s.heap.size (Nat.le_refl _) S1 E1 F1 p e ha hc hk s m _ below hf ((Spec.applies_iff_loose hf).mp happ).1 ⟨rfl, State.Warmed39.refl s, rfl⟩ trivial
  refine ⟨n, _, h1, h2, h3, hpost _ _ _ _ _ _ ⟨Cond.after_iff.mpr rfl, Cond.after_iff.mpr (eq_i res_at (Term.int_eval (1)) rfl), trivial⟩ ⟨hq.1, hq.2.1, (hq.2.2.sift fun y hy => Or.inr (N y hy)).mono (by decide) (by decide)⟩⟩
theorem main_1_1 : Claimed_1_1 := comes_1 fun _ _ _ _ _ _ h hF => ⟨h.1, hF⟩
theorem main_1_2 : Claimed_1_2 := comes_1 fun _ _ _ _ _ _ h hF => ⟨h.2.1, hF⟩
end Jvm.Pilot.@@N@@
namespace Jvm.Pilot.@@N@@
open Jvm Jvm.ClassFile Sem Op Lib Jvm.Free Jvm.Stand Jvm.Pilot.@@N@@.Jvm.D
/-! MADE BY PROGRAM (witnessworld.py) out of the Statement's table words and the real class files: 12 classes; the members and pool entries that the words name. The judged class is class 1, her method 1. -/
namespace start1
open Jvm.ClassFile
def u (s : String) : CpInfo := .utf8 (stringToUtf16 s)
/-- a pool by its gaps: so many unusable entries, then the entry; so many at the end -/
def gap : Nat → List CpInfo → List CpInfo
  | 0, r => r
  | n + 1, r => .unusable :: gap n r
def poolList (es : List (Nat × CpInfo)) (last : Nat) : List CpInfo := es.foldr (fun e r => gap e.1 (e.2 :: r)) (gap last [])
def pool (es : List (Nat × CpInfo)) (last : Nat) : Array CpInfo := ⟨poolList es last⟩
def fileOf (pool : Array CpInfo) (this : Nat) (attrs : Array Attribute := #[]) (ms : Array MethodInfo := #[]) (fl : Nat := 33) (sup : Nat := 0) (ifs : Array Nat := #[]) (fds : Array FieldInfo := #[]) : ClassFile where
  minorVersion := 0
  majorVersion := 65
  constantPool := pool
  accessFlags := fl
  thisClass := this
  superClass := sup
  interfaces := ifs
  fields := fds
  methods := ms
  attributes := attrs
def plain (name : String) (sup : Option ClassId) : Class where
  name := name
  kind := .ordinary
  loader := none
  accessFlags := 33
  super := sup
  interfaces := #[]
  cf := none
  fields := #[]
  methods := #[]
  instanceTypes := #[]
  staticTypes := #[]
  resolved := #[]
  callSites := []
  init := .initialized
  statics := none
  mirror := none

def pool0 : Array CpInfo := pool [(5, u "<init>"), (0, u "()V"), (1, .class_ 10), (1, u "java/lang/Object")] 113

def k0m0 : Method := { name := "<init>", desc := "()V", sig := { parameters := [], returnType := none }, accessFlags := 1, code := none }
/-- java/lang/Object -/
def k0 : Class := { plain "java/lang/Object" none with
  accessFlags := 33
  interfaces := #[]
  cf := some (fileOf pool0 8 #[] #[{ accessFlags := 1, nameIndex := 5, descriptorIndex := 6, attributes := #[] }] 33 0 #[] #[])
  fields := #[]
  methods := #[k0m0]
  instanceTypes := #[]
  staticTypes := #[]
  resolved := Array.replicate 124 none
  statics := none }

def pool1 : Array CpInfo := pool [(2, .class_ 4), (1, u "java/lang/Object"), (0, u "<init>"), (0, u "()V"), (0, .fieldref 8 9), (0, .class_ 10), (0, .nameAndType 11 12), (0, u "com/example/cinderbench/cinderbench/algorithms/Worth"), (0, u "LOWEST"), (0, u "Lcom/example/cinderbench/cinderbench/algorithms/Worth;"), (0, .methodref 8 14), (0, .nameAndType 15 16), (0, u "utility"), (0, u "()D"), (0, .methodref 18 19), (0, .class_ 20), (0, .nameAndType 21 22), (0, u "com/example/cinderbench/cinderbench/algorithms/WorthAbovePinLaw"), (0, u "real"), (0, u "(II)D"), (0, .long 2147483648), (1, .long 18446744071562067967), (1, .long 18446744073709551615), (1, .methodref 30 31), (0, .class_ 32), (0, .nameAndType 33 34), (0, u "java/lang/Math"), (0, u "min"), (0, u "(JJ)J"), (0, .methodref 30 36), (0, .nameAndType 37 34), (0, u "max"), (0, .long 8589934592), (1, .methodref 8 41), (0, .nameAndType 42 43), (0, u "above"), (0, u "(DDDD)Z"), (2, u "law"), (0, u "(IIIII)Z")] 3

def k1m0 : Method := { name := "<init>", desc := "()V", sig := { parameters := [], returnType := none }, accessFlags := 1, code := none }
def k1c1 : Code := { maxStack := 8, maxLocals := 33, code := code, exceptionTable := #[], attributes := #[] }
def k1m1 : Method := { name := "law", desc := "(IIIII)Z", sig := { parameters := [.int, .int, .int, .int, .int], returnType := some .boolean }, accessFlags := 9, code := some k1c1 }
def k1c2 : Code := { maxStack := 2, maxLocals := 2, code := method_3_code, exceptionTable := #[], attributes := #[] }
def k1m2 : Method := { name := "real", desc := "(II)D", sig := { parameters := [.int, .int], returnType := some .double }, accessFlags := 10, code := some k1c2 }
/-- com/example/cinderbench/cinderbench/algorithms/WorthAbovePinLaw -/
def k1 : Class := { plain "com/example/cinderbench/cinderbench/algorithms/WorthAbovePinLaw" (some 0) with
  accessFlags := 49
  interfaces := #[]
  cf := some (fileOf pool1 18 #[] #[{ accessFlags := 1, nameIndex := 5, descriptorIndex := 6, attributes := #[] }, { accessFlags := 9, nameIndex := 46, descriptorIndex := 47, attributes := #[] }, { accessFlags := 10, nameIndex := 21, descriptorIndex := 22, attributes := #[] }] 49 2 #[] #[])
  fields := #[]
  methods := #[k1m0, k1m1, k1m2]
  instanceTypes := #[]
  staticTypes := #[]
  resolved := Array.replicate 51 none
  statics := none }

def pool2 : Array CpInfo := pool [(2, .class_ 4), (1, u "java/lang/Object"), (0, u "<init>"), (0, u "()V"), (0, .class_ 8), (0, u "java/lang/Record")] 13

def k2m0 : Method := { name := "<init>", desc := "()V", sig := { parameters := [], returnType := none }, accessFlags := 4, code := none }
/-- java/lang/Record -/
def k2 : Class := { plain "java/lang/Record" (some 0) with
  accessFlags := 1057
  interfaces := #[]
  cf := some (fileOf pool2 7 #[] #[{ accessFlags := 4, nameIndex := 5, descriptorIndex := 6, attributes := #[] }] 1057 2 #[] #[])
  fields := #[]
  methods := #[k2m0]
  instanceTypes := #[]
  staticTypes := #[]
  resolved := Array.replicate 22 none
  statics := none }

def pool3 : Array CpInfo := pool [(1, .class_ 2), (0, u "java/lang/Comparable"), (0, .class_ 4), (0, u "java/lang/Object")] 7

/-- java/lang/Comparable -/
def k3 : Class := { plain "java/lang/Comparable" (some 0) with
  accessFlags := 1537
  interfaces := #[]
  cf := some (fileOf pool3 1 #[] #[] 1537 3 #[] #[])
  fields := #[]
  methods := #[]
  instanceTypes := #[]
  staticTypes := #[]
  resolved := Array.replicate 12 none
  statics := none }

def pool4 : Array CpInfo := pool [(2, .class_ 4), (1, u "java/lang/Record"), (2, .fieldref 8 9), (0, .class_ 10), (0, .nameAndType 11 12), (0, u "com/example/cinderbench/cinderbench/algorithms/Worth"), (0, u "utility"), (0, u "D"), (2, u "preference"), (5, u "above"), (0, u "(DDDD)Z"), (2, u "ZERO"), (0, u "Lcom/example/cinderbench/cinderbench/algorithms/Worth;"), (37, u "LOWEST"), (0, .class_ 66), (0, u "java/lang/Comparable"), (24, u "()D")] 25

def k4c0 : Code := { maxStack := 4, maxLocals := 8, code := prog_20_method_10_code, exceptionTable := #[], attributes := #[] }
def k4m0 : Method := { name := "above", desc := "(DDDD)Z", sig := { parameters := [.double, .double, .double, .double], returnType := some .boolean }, accessFlags := 8, code := some k4c0 }
def k4c1 : Code := { maxStack := 2, maxLocals := 1, code := prog_20_method_16_code, exceptionTable := #[], attributes := #[] }
def k4m1 : Method := { name := "utility", desc := "()D", sig := { parameters := [], returnType := some .double }, accessFlags := 1, code := some k4c1 }
/-- com/example/cinderbench/cinderbench/algorithms/Worth -/
def k4 : Class := { plain "com/example/cinderbench/cinderbench/algorithms/Worth" (some 2) with
  accessFlags := 48
  interfaces := #[3]
  cf := some (fileOf pool4 8 #[] #[{ accessFlags := 8, nameIndex := 21, descriptorIndex := 22, attributes := #[] }, { accessFlags := 1, nameIndex := 11, descriptorIndex := 91, attributes := #[] }] 48 2 #[65] #[{ accessFlags := 18, nameIndex := 11, descriptorIndex := 12, attributes := #[] }, { accessFlags := 18, nameIndex := 15, descriptorIndex := 12, attributes := #[] }, { accessFlags := 24, nameIndex := 25, descriptorIndex := 26, attributes := #[] }, { accessFlags := 24, nameIndex := 64, descriptorIndex := 26, attributes := #[] }])
  fields := #[{ name := "utility", type := .double, accessFlags := 18, slot := 0, constantValue := 0 }, { name := "preference", type := .double, accessFlags := 18, slot := 1, constantValue := 0 }, { name := "ZERO", type := (.object "com/example/cinderbench/cinderbench/algorithms/Worth"), accessFlags := 24, slot := 0, constantValue := 0 }, { name := "LOWEST", type := (.object "com/example/cinderbench/cinderbench/algorithms/Worth"), accessFlags := 24, slot := 1, constantValue := 0 }]
  methods := #[k4m0, k4m1]
  instanceTypes := #[.double, .double]
  staticTypes := #[(.object "com/example/cinderbench/cinderbench/algorithms/Worth"), (.object "com/example/cinderbench/cinderbench/algorithms/Worth")]
  resolved := Array.replicate 117 none
  statics := some 0 }

def pool5 : Array CpInfo := pool [(1, .class_ 2), (0, u "java/lang/Math"), (1, .class_ 6), (1, u "java/lang/Object"), (0, u "<init>"), (0, u "()V"), (89, .class_ 100), (1, u "java/lang/Math$RandomNumberGeneratorHolder"), (20, u "(JJ)J"), (50, u "negativeZeroFloatBits"), (0, u "J"), (2, u "negativeZeroDoubleBits"), (21, u "max"), (2, u "min"), (43, u "$assertionsDisabled"), (0, u "Z"), (91, u "twoToTheDoubleScaleDown"), (0, u "D"), (4, u "twoToTheDoubleScaleUp"), (9, u "E"), (3, u "PI"), (2, u "TAU"), (2, u "DEGREES_TO_RADIANS"), (0, u "RADIANS_TO_DEGREES")] 94

def k5m0 : Method := { name := "<init>", desc := "()V", sig := { parameters := [], returnType := none }, accessFlags := 2, code := none }
def k5c1 : Code := { maxStack := 4, maxLocals := 4, code := jdk_29_method_66_code, exceptionTable := #[], attributes := #[] }
def k5m1 : Method := { name := "max", desc := "(JJ)J", sig := { parameters := [.long, .long], returnType := some .long }, accessFlags := 9, code := some k5c1 }
def k5c2 : Code := { maxStack := 4, maxLocals := 4, code := jdk_29_method_70_code, exceptionTable := #[], attributes := #[] }
def k5m2 : Method := { name := "min", desc := "(JJ)J", sig := { parameters := [.long, .long], returnType := some .long }, accessFlags := 9, code := some k5c2 }
/-- java/lang/Math -/
def k5 : Class := { plain "java/lang/Math" (some 0) with
  accessFlags := 49
  interfaces := #[]
  cf := some (fileOf pool5 1 #[.nestMembers #[98]] #[{ accessFlags := 2, nameIndex := 7, descriptorIndex := 8, attributes := #[] }, { accessFlags := 9, nameIndex := 198, descriptorIndex := 121, attributes := #[] }, { accessFlags := 9, nameIndex := 201, descriptorIndex := 121, attributes := #[] }] 49 4 #[] #[{ accessFlags := 25, nameIndex := 354, descriptorIndex := 339, attributes := #[] }, { accessFlags := 25, nameIndex := 358, descriptorIndex := 339, attributes := #[] }, { accessFlags := 25, nameIndex := 361, descriptorIndex := 339, attributes := #[] }, { accessFlags := 26, nameIndex := 364, descriptorIndex := 339, attributes := #[] }, { accessFlags := 26, nameIndex := 365, descriptorIndex := 339, attributes := #[] }, { accessFlags := 26, nameIndex := 172, descriptorIndex := 173, attributes := #[] }, { accessFlags := 26, nameIndex := 176, descriptorIndex := 173, attributes := #[] }, { accessFlags := 8, nameIndex := 344, descriptorIndex := 339, attributes := #[] }, { accessFlags := 8, nameIndex := 338, descriptorIndex := 339, attributes := #[] }, { accessFlags := 4120, nameIndex := 245, descriptorIndex := 246, attributes := #[] }])
  fields := #[{ name := "E", type := .double, accessFlags := 25, slot := 0, constantValue := 0 }, { name := "PI", type := .double, accessFlags := 25, slot := 1, constantValue := 0 }, { name := "TAU", type := .double, accessFlags := 25, slot := 2, constantValue := 0 }, { name := "DEGREES_TO_RADIANS", type := .double, accessFlags := 26, slot := 3, constantValue := 0 }, { name := "RADIANS_TO_DEGREES", type := .double, accessFlags := 26, slot := 4, constantValue := 0 }, { name := "negativeZeroFloatBits", type := .long, accessFlags := 26, slot := 5, constantValue := 0 }, { name := "negativeZeroDoubleBits", type := .long, accessFlags := 26, slot := 6, constantValue := 0 }, { name := "twoToTheDoubleScaleUp", type := .double, accessFlags := 8, slot := 7, constantValue := 0 }, { name := "twoToTheDoubleScaleDown", type := .double, accessFlags := 8, slot := 8, constantValue := 0 }, { name := "$assertionsDisabled", type := .boolean, accessFlags := 4120, slot := 9, constantValue := 0 }]
  methods := #[k5m0, k5m1, k5m2]
  instanceTypes := #[]
  staticTypes := #[.double, .double, .double, .double, .double, .long, .long, .double, .double, .boolean]
  resolved := Array.replicate 460 none
  statics := none }

def pool6 : Array CpInfo := pool [(1, u "java/lang/Cloneable"), (0, .class_ 1), (0, u "java/lang/Object"), (0, .class_ 3)] 3

/-- java/lang/Cloneable -/
def k6 : Class := { plain "java/lang/Cloneable" (some 0) with
  accessFlags := 1537
  interfaces := #[]
  cf := some (fileOf pool6 2 #[] #[] 1537 4 #[] #[])
  fields := #[]
  methods := #[]
  instanceTypes := #[]
  staticTypes := #[]
  resolved := Array.replicate 8 none
  statics := none }

def pool7 : Array CpInfo := pool [(1, u "java/io/Serializable"), (0, .class_ 1), (0, u "java/lang/Object"), (0, .class_ 3)] 3

/-- java/io/Serializable -/
def k7 : Class := { plain "java/io/Serializable" (some 0) with
  accessFlags := 1537
  interfaces := #[]
  cf := some (fileOf pool7 2 #[] #[] 1537 4 #[] #[])
  fields := #[]
  methods := #[]
  instanceTypes := #[]
  staticTypes := #[]
  resolved := Array.replicate 8 none
  statics := none }

/-- the primitive byte -/
def k8 : Class := { plain "byte" none with kind := .primitive 'B', accessFlags := 0x411 }
/-- [B -/
def k9 : Class := { plain "[B" (some 0) with kind := .array 8 .byte, interfaces := #[6, 7], accessFlags := 1041 }

/-- the primitive int -/
def k10 : Class := { plain "int" none with kind := .primitive 'I', accessFlags := 0x411 }
/-- [I -/
def k11 : Class := { plain "[I" (some 0) with kind := .array 10 .int, interfaces := #[6, 7], accessFlags := 1041 }

def heap : Heap := #[{ cls := 4, slots := #[.null, .ref 1], vm := .statics 4 },
  { cls := 4, slots := #[.double 18442240474082181120, .double 0], vm := .none }]
def classes : Array Class := #[k0, k1, k2, k3, k4, k5, k6, k7, k8, k9, k10, k11]
def interned : List (Array UInt16 × Addr) := []
def slotsUsed : Nat := 4
def theMethod : MethodId := ⟨1, 1⟩
def args0 : Array Value := #[.int 5, .int 6, .int 3, .int 2, .int 0]
def aboutOver (below : List Frame) : State where
  vm := { classes := classes, interned := interned.toArray }
  heap := heap
  slotsUsed := slotsUsed
  threads := #[{ frames := .invoking theMethod args0 :: below }]
def below0 : List Frame := [.native { method := ⟨0, 0⟩, args := #[] }]
def about1 : State := aboutOver below0
def p0 : Program := .bare "" "" ""
def e0 : Env := launch0.env 0 0 0
theorem w_frames : about1.frames = Frame.invoking theMethod args0 :: below0 := rfl
set_option maxRecDepth 65536 in
theorem w_args : argsFit about1.vm theMethod args0 = true := by decide +kernel
set_option maxRecDepth 65536 in
theorem w_heap : heapFits about1 = true := by decide +kernel
set_option maxRecDepth 65536 in
theorem w_runnable : about1.curStatus? = some .runnable := by decide +kernel
set_option maxRecDepth 65536 in
theorem w_alone : about1.alone = true := by decide +kernel
set_option maxRecDepth 65536 in
theorem w_named : about1.methodNamed? x = some theMethod := by decide +kernel
set_option maxRecDepth 65536 in
theorem w_hears : about1.hears theMethod below0 = true := by decide +kernel
set_option maxRecDepth 65536 in
theorem w_ripe : about1.ripe theMethod args0 below0 = true := by decide +kernel
theorem w_running : about1.status = .running := rfl
set_option maxRecDepth 65536 in
theorem w_room : about1.hasRoom e0.platform room_1 = true :=
  launch0.hasRoom_least _ room_1 (by decide +kernel) (by decide +kernel) (by decide +kernel) (by decide +kernel) (by decide +kernel) (by decide +kernel)
theorem allAtoms_all (ts : List Jvm.Cond) (a : Array Jvm.Value) (st : Jvm.State) : (allAtoms ts).before a st = ts.all (fun c => c.before a st) := by
  induction ts with
  | nil => rfl
  | cons c t ih =>
    show (Jvm.Cond.and c (allAtoms t)).before a st = _
    rw [Jvm.Cond.before_and, ih, List.all_cons]
def words1 : List Jvm.Cond := Jvm.Cond.code x code maxLocals ret :: tables_1
/-- a 'code' word, met by the world's own term for the bytes: nothing is compared byte by byte -/
theorem code_word {y : MethodName} {bytes : ByteArray} {mx : Nat} {rt : Option FieldType} {a : Array Value} {s : State} {m : MethodId} {meth : Method} {c : Code} (h1 : s.methodNamed? y = some m) (h2 : s.vm.method? m = some meth) (h3 : meth.code = some c) (h4 : c.code = bytes)
    (h5 : (c.maxLocals == mx && c.exceptionTable.isEmpty && decide (c.maxStack ≤ mostOperands) && decide (meth.sig.returnType = rt) && !meth.locks && decide (parseMethodDescriptor y.desc = some meth.sig)) = true) : (Jvm.Cond.code y bytes mx rt).before a s = true := by
  simp only [Bool.and_eq_true, beq_iff_eq, Bool.not_eq_true', decide_eq_true_eq] at h5
  obtain ⟨⟨⟨⟨⟨g1, g2⟩, g3⟩, g4⟩, g5⟩, g6⟩ := h5
  simp [Cond.before, Cond.holds, Cond.value, h1, h2, h3, h4, g1, g2, g3, g4, g5, g6]
def isCode : Jvm.Cond → Bool
  | .code _ _ _ _ => true
  | _ => false
theorem all_split {L : List Jvm.Cond} {P : Jvm.Cond → Bool} (h1 : L.all (fun c => isCode c || P c) = true) (h2 : ∀ c ∈ L.filter isCode, P c = true) : L.all P = true := by
  refine List.all_eq_true.mpr fun c hc => ?_
  have h := List.all_eq_true.mp h1 c hc
  rcases Bool.eq_false_or_eq_true (isCode c) with hi | hi
  · exact h2 c (List.mem_filter.mpr ⟨hc, hi⟩)
  · simpa [hi] using h
set_option maxRecDepth 65536 in
theorem w_c0 : (Jvm.Cond.code x code maxLocals ret).before args0 about1 = true := code_word (m := ⟨1, 1⟩) (meth := k1m1) (c := k1c1) (by decide +kernel) rfl rfl rfl (by decide +kernel)
set_option maxRecDepth 65536 in
theorem w_c1 : (Jvm.Cond.code ({ cls := "com/example/cinderbench/cinderbench/algorithms/Worth", name := "utility", desc := "()D" } : Jvm.MethodName) prog_20_method_16_code (1 : Nat) (Option.some Jvm.ClassFile.FieldType.double)).before args0 about1 = true := code_word (m := ⟨4, 1⟩) (meth := k4m1) (c := k4c1) (by decide +kernel) rfl rfl rfl (by decide +kernel)
set_option maxRecDepth 65536 in
theorem w_c2 : (Jvm.Cond.code ({ cls := "com/example/cinderbench/cinderbench/algorithms/WorthAbovePinLaw", name := "real", desc := "(II)D" } : Jvm.MethodName) method_3_code (2 : Nat) (Option.some Jvm.ClassFile.FieldType.double)).before args0 about1 = true := code_word (m := ⟨1, 2⟩) (meth := k1m2) (c := k1c2) (by decide +kernel) rfl rfl rfl (by decide +kernel)
set_option maxRecDepth 65536 in
theorem w_c3 : (Jvm.Cond.code ({ cls := "java/lang/Math", name := "min", desc := "(JJ)J" } : Jvm.MethodName) jdk_29_method_70_code (4 : Nat) (Option.some Jvm.ClassFile.FieldType.long)).before args0 about1 = true := code_word (m := ⟨5, 2⟩) (meth := k5m2) (c := k5c2) (by decide +kernel) rfl rfl rfl (by decide +kernel)
set_option maxRecDepth 65536 in
theorem w_c4 : (Jvm.Cond.code ({ cls := "java/lang/Math", name := "max", desc := "(JJ)J" } : Jvm.MethodName) jdk_29_method_66_code (4 : Nat) (Option.some Jvm.ClassFile.FieldType.long)).before args0 about1 = true := code_word (m := ⟨5, 1⟩) (meth := k5m1) (c := k5c1) (by decide +kernel) rfl rfl rfl (by decide +kernel)
set_option maxRecDepth 65536 in
theorem w_c5 : (Jvm.Cond.code ({ cls := "com/example/cinderbench/cinderbench/algorithms/Worth", name := "above", desc := "(DDDD)Z" } : Jvm.MethodName) prog_20_method_10_code (8 : Nat) (Option.some Jvm.ClassFile.FieldType.boolean)).before args0 about1 = true := code_word (m := ⟨4, 0⟩) (meth := k4m0) (c := k4c0) (by decide +kernel) rfl rfl rfl (by decide +kernel)
def codes1 : List Jvm.Cond := [Jvm.Cond.code x code maxLocals ret, Jvm.Cond.code ({ cls := "com/example/cinderbench/cinderbench/algorithms/Worth", name := "utility", desc := "()D" } : Jvm.MethodName) prog_20_method_16_code (1 : Nat) (Option.some Jvm.ClassFile.FieldType.double), Jvm.Cond.code ({ cls := "com/example/cinderbench/cinderbench/algorithms/WorthAbovePinLaw", name := "real", desc := "(II)D" } : Jvm.MethodName) method_3_code (2 : Nat) (Option.some Jvm.ClassFile.FieldType.double), Jvm.Cond.code ({ cls := "java/lang/Math", name := "min", desc := "(JJ)J" } : Jvm.MethodName) jdk_29_method_70_code (4 : Nat) (Option.some Jvm.ClassFile.FieldType.long), Jvm.Cond.code ({ cls := "java/lang/Math", name := "max", desc := "(JJ)J" } : Jvm.MethodName) jdk_29_method_66_code (4 : Nat) (Option.some Jvm.ClassFile.FieldType.long), Jvm.Cond.code ({ cls := "com/example/cinderbench/cinderbench/algorithms/Worth", name := "above", desc := "(DDDD)Z" } : Jvm.MethodName) prog_20_method_10_code (8 : Nat) (Option.some Jvm.ClassFile.FieldType.boolean)]
set_option maxRecDepth 65536 in
theorem codes_eq : words1.filter isCode = codes1 := rfl
theorem w_codes : ∀ c ∈ words1.filter isCode, c.before args0 about1 = true := by
  rw [codes_eq]
  intro c hc
  simp only [codes1, List.mem_cons, List.not_mem_nil, or_false] at hc
  rcases hc with rfl | rfl | rfl | rfl | rfl | rfl
  · exact w_c0
  · exact w_c1
  · exact w_c2
  · exact w_c3
  · exact w_c4
  · exact w_c5
set_option maxRecDepth 65536 in
theorem w_t1 : (words1.take 24).all (fun c => isCode c || c.before args0 about1) = true := by decide +kernel
set_option maxRecDepth 65536 in
theorem w_t2 : (words1.drop 24).all (fun c => isCode c || c.before args0 about1) = true := by decide +kernel
theorem w_tables : (allAtoms (Jvm.Cond.code x code maxLocals ret :: tables_1)).before args0 about1 = true := by
  rw [allAtoms_all]
  show words1.all (fun c => c.before args0 about1) = true
  refine all_split ?_ w_codes
  rw [← List.take_append_drop 24 words1, List.all_append, w_t1, w_t2]
  rfl
set_option maxRecDepth 65536 in
theorem w_case : (Jvm.Cond.and given_1 narrow_1).before args0 about1 = true := by decide +kernel +kernel
theorem w_applies : (headSpec (Jvm.Cond.code x code maxLocals ret :: tables_1) room_1).applies x e0.platform about1 = true :=
  (Spec.applies_iff w_frames).mpr ⟨w_running, w_runnable, w_alone, w_named, w_hears, w_ripe, w_room, w_tables⟩
theorem atStart : AtStart classFile x code maxLocals ret World_1 tables_1 room_1 Calls_1 rest_1 Pre_1 launch0 p0 e0 about1 theMethod args0 below0 :=
  ⟨lists_1, trivial, launch0.admits_env _ _ _, launch0.least_env, fairChoices_fair.cas, fairChoices_fair.clock, w_frames, w_args, w_heap, w_applies, trivial, trivial, w_case⟩
end start1
theorem witness_1 : WitnessClaimed_1 := ⟨start1.p0, start1.e0, start1.about1, start1.theMethod, start1.args0, start1.below0, start1.atStart⟩
end Jvm.Pilot.@@N@@
