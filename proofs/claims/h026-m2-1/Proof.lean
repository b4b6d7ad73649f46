import JvmDerived
import JvmDerived.Pilot.@@N@@Statement
import JvmDerived.Pilot.@@N@@Code
set_option linter.unusedVariables false
set_option linter.unusedSimpArgs false
@@BLOCK:NumsL.lean.txt@@
@@BLOCK:HandJ.lean.txt@@
@@BLOCK:SymMore.lean.txt@@
namespace Jvm.Pilot.@@N@@
open Jvm Jvm.ClassFile Sem Op Lib Jvm.Free Jvm.Stand Jvm.LawKit Jvm.RoadKit Bundle Jvm.Pilot.@@N@@.Jvm.D
theorem own_nb {z : Int32} (h : z = 0 ∨ z = 1) : nar .boolean z = z := by rcases h with rfl | rfl <;> decide
theorem own_lc (x y : Int64) : lcmpW x y = if x.toInt < y.toInt then -1 else if x.toInt = y.toInt then 0 else 1 := by
  unfold lcmpW
  simp only [gt_iff_lt, Int64.lt_iff_toInt_lt, ← Int64.toInt_inj]
  by_cases h1 : x.toInt < y.toInt
  · rw [if_neg (by omega), if_neg (by omega), if_pos h1]
  · by_cases h2 : x.toInt = y.toInt
    · rw [if_neg (by omega), if_pos h2, if_neg h1, if_pos h2]
    · rw [if_pos (by omega), if_neg h1, if_neg h2]
theorem own_mod_bounds (x y : Int32) (hx : 0 ≤ x.toInt) (hy : 0 < y.toInt) : 0 ≤ (x % y).toInt ∧ (x % y).toInt < y.toInt := by
  rw [Int32.toInt_mod]; exact ⟨Int.tmod_nonneg _ hx, Int.tmod_lt_of_pos _ hy⟩
theorem own_m31 (x : Int32) : 0 ≤ (x &&& (2147483647 : Int32)).toInt := by
  rw [Jvm.Kit.i32_mask x (2147483647 : Int32) (k := 31) (by decide) (by decide)]; omega
theorem own_mask {x m : Int32} {k : Nat} (hk : k < 32) (hm : m.toBitVec.toNat = 2 ^ k - 1) : 0 ≤ (x &&& m).toInt ∧ (x &&& m).toInt < 2 ^ k := by
  rw [Jvm.Kit.i32_mask x m hk hm]
  have : (0 : Int) < 2 ^ k := Int.pow_pos (by decide)
  exact ⟨Int.emod_nonneg _ (by omega), Int.emod_lt_of_pos _ this⟩
theorem own_lc_pos (x y : Int64) : (0 : Int32) < lcmpW x y ↔ y.toInt < x.toInt := by
  rw [own_lc]
  by_cases h1 : x.toInt < y.toInt
  · rw [if_pos h1]; exact ⟨fun h => absurd h (by decide), fun h => by omega⟩
  · rw [if_neg h1]
    by_cases h2 : x.toInt = y.toInt
    · rw [if_pos h2]; exact ⟨fun h => absurd h (by decide), fun h => by omega⟩
    · rw [if_neg h2]; exact ⟨fun _ => by omega, fun _ => by decide⟩
theorem own_lc_neg (x y : Int64) : lcmpW x y < (0 : Int32) ↔ x.toInt < y.toInt := by
  rw [own_lc]
  by_cases h1 : x.toInt < y.toInt
  · rw [if_pos h1]; exact ⟨fun _ => h1, fun _ => by decide⟩
  · rw [if_neg h1]
    by_cases h2 : x.toInt = y.toInt
    · rw [if_pos h2]; exact ⟨fun h => absurd h (by decide), fun h => by omega⟩
    · rw [if_neg h2]; exact ⟨fun h => absurd h (by decide), fun h => by omega⟩
theorem own_lc_eq (x y : Int64) : lcmpW x y = (0 : Int32) ↔ x.toInt = y.toInt := by
  rw [own_lc]
  by_cases h1 : x.toInt < y.toInt
  · rw [if_pos h1]; exact ⟨fun h => absurd h (by decide), fun h => by omega⟩
  · rw [if_neg h1]
    by_cases h2 : x.toInt = y.toInt
    · rw [if_pos h2]; exact ⟨fun _ => h2, fun _ => rfl⟩
    · rw [if_neg h2]; exact ⟨fun h => absurd h (by decide), fun h => absurd h h2⟩

def own_L (r : Nat → Int64) : List Value := (List.range 96).map fun i => Value.long (r i)
def own_E (r : Nat → Int32) : List Value := (List.range 16).map fun i => Value.int (r i)
def own_up {A : Type} (r : Nat → A) (p : Nat) (c : A) : Nat → A := fun i => if i = p then c else r i
theorem own_up_ne {A : Type} (xs : Nat → A) {p i : Nat} (d : A) (h : i ≠ p) : own_up xs p d i = xs i := if_neg h
theorem own_up_eq {A : Type} (xs : Nat → A) (p : Nat) (d : A) : own_up xs p d p = d := if_pos rfl
theorem own_Lget (r : Nat → Int64) (i : Nat) (d : Value) : (own_L r).getD i d = if i < 96 then .long (r i) else d := by
  unfold own_L
  rw [List.getD_eq_getElem?_getD, List.getElem?_map]
  by_cases h : i < 96
  · rw [List.getElem?_range h, if_pos h]; rfl
  · rw [List.getElem?_eq_none (by rw [List.length_range]; omega), if_neg h]; rfl
theorem own_Eget (r : Nat → Int32) (i : Nat) (d : Value) : (own_E r).getD i d = if i < 16 then .int (r i) else d := by
  unfold own_E
  rw [List.getD_eq_getElem?_getD, List.getElem?_map]
  by_cases h : i < 16
  · rw [List.getElem?_range h, if_pos h]; rfl
  · rw [List.getElem?_eq_none (by rw [List.length_range]; omega), if_neg h]; rfl
theorem own_L0 (i : Nat) : (own_L (fun _ => 0)).getD i (.long (0 : Int64)) = ([] : List Value).getD i (.long (0 : Int64)) := by
  rw [own_Lget]; split <;> rfl
theorem own_E0 (i : Nat) : (own_E (fun _ => 0)).getD i (.int (0 : Int32)) = (List.replicate 16 (Value.int (0 : Int32))).getD i (.int (0 : Int32)) := by
  rw [own_Eget, List.getD_eq_getElem?_getD, List.getElem?_replicate]; split <;> rfl
theorem own_Ll (r : Nat → Int64) {p : Nat} (hp : p < 96) : p < (own_L r).length := by unfold own_L; rw [List.length_map, List.length_range]; exact hp
theorem own_El (r : Nat → Int32) {p : Nat} (hp : p < 16) : p < (own_E r).length := by unfold own_E; rw [List.length_map, List.length_range]; exact hp
theorem own_Lset (r : Nat → Int64) {p : Nat} (hp : p < 96) (c : Int64) (i : Nat) : (own_L (own_up r p c)).getD i (.long (0 : Int64)) = ((own_L r).set p (.long c)).getD i (.long (0 : Int64)) := by
  have e := own_Ll r hp
  rw [own_Lget, List.getD_eq_getElem?_getD, List.getElem?_set]
  by_cases h : p = i
  · subst h; rw [if_pos hp, if_pos rfl, if_pos e, own_up_eq]; rfl
  · rw [if_neg h]
    have := own_Lget r i (.long (0 : Int64))
    rw [List.getD_eq_getElem?_getD] at this
    rw [this, own_up_ne r c (fun q => h q.symm)]
theorem own_Eset (r : Nat → Int32) {p : Nat} (hp : p < 16) (c : Int32) (i : Nat) : (own_E (own_up r p c)).getD i (.int (0 : Int32)) = ((own_E r).set p (.int c)).getD i (.int (0 : Int32)) := by
  have e := own_El r hp
  rw [own_Eget, List.getD_eq_getElem?_getD, List.getElem?_set]
  by_cases h : p = i
  · subst h; rw [if_pos hp, if_pos rfl, if_pos e, own_up_eq]; rfl
  · rw [if_neg h]
    have := own_Eget r i (.int (0 : Int32))
    rw [List.getD_eq_getElem?_getD] at this
    rw [this, own_up_ne r c (fun q => h q.symm)]
def own_nx (i : Int32) : Int32 := (i + (1 : Int32)) &&& (((96 : Int32) / (3 : Int32)) - (1 : Int32))
theorem own_m (j : Int32) : 0 ≤ (j &&& (((96 : Int32) / (3 : Int32)) - (1 : Int32))).toInt ∧ (j &&& (((96 : Int32) / (3 : Int32)) - (1 : Int32))).toInt < 32 := by
  have m := own_mask (x := j) (m := (((96 : Int32) / (3 : Int32)) - (1 : Int32))) (k := 5) (by decide) (by decide); omega
theorem own_t3 {i : Int32} (h : 0 ≤ i.toInt ∧ i.toInt < 32) : ((3 : Int32) * i).toInt = 3 * i.toInt ∧ (((3 : Int32) * i) + (1 : Int32)).toInt = 3 * i.toInt + 1 ∧ (((3 : Int32) * i) + (2 : Int32)).toInt = 3 * i.toInt + 2 := by
  have c3 : (3 : Int32).toInt = 3 := by decide
  have c1 : (1 : Int32).toInt = 1 := by decide
  have c2 : (2 : Int32).toInt = 2 := by decide
  have e : ((3 : Int32) * i).toInt = 3 * i.toInt := by rw [Jvm.Kit.i32_mul] <;> rw [c3] <;> omega
  refine ⟨e, ?_, ?_⟩
  · rw [Jvm.Kit.i32_add] <;> rw [e, c1] <;> omega
  · rw [Jvm.Kit.i32_add] <;> rw [e, c2] <;> omega
theorem own_b0 {i : Int32} (h : 0 ≤ i.toInt ∧ i.toInt < 32) : ¬ (((3 : Int32) * i) < 0) ∧ ((3 : Int32) * i) < (96 : Int32) := by
  have e : (96 : Int32).toInt = 96 := by decide
  have t := own_t3 h
  rw [Int32.lt_iff_toInt_lt, Int32.lt_iff_toInt_lt, Int32.toInt_zero, e]; omega
theorem own_b1 {i : Int32} (h : 0 ≤ i.toInt ∧ i.toInt < 32) : ¬ ((((3 : Int32) * i) + (1 : Int32)) < 0) ∧ (((3 : Int32) * i) + (1 : Int32)) < (96 : Int32) := by
  have e : (96 : Int32).toInt = 96 := by decide
  have t := own_t3 h
  rw [Int32.lt_iff_toInt_lt, Int32.lt_iff_toInt_lt, Int32.toInt_zero, e]; omega
theorem own_b2 {i : Int32} (h : 0 ≤ i.toInt ∧ i.toInt < 32) : ¬ ((((3 : Int32) * i) + (2 : Int32)) < 0) ∧ (((3 : Int32) * i) + (2 : Int32)) < (96 : Int32) := by
  have e : (96 : Int32).toInt = 96 := by decide
  have t := own_t3 h
  rw [Int32.lt_iff_toInt_lt, Int32.lt_iff_toInt_lt, Int32.toInt_zero, e]; omega
theorem own_in0 (j : Int32) : ¬ (((3 : Int32) * (j &&& (((96 : Int32) / (3 : Int32)) - (1 : Int32)))) < 0) ∧ ((3 : Int32) * (j &&& (((96 : Int32) / (3 : Int32)) - (1 : Int32)))) < (96 : Int32) := own_b0 (own_m j)
theorem own_in1 (j : Int32) : ¬ ((((3 : Int32) * (j &&& (((96 : Int32) / (3 : Int32)) - (1 : Int32)))) + (1 : Int32)) < 0) ∧ (((3 : Int32) * (j &&& (((96 : Int32) / (3 : Int32)) - (1 : Int32)))) + (1 : Int32)) < (96 : Int32) := own_b1 (own_m j)
theorem own_in2 (j : Int32) : ¬ ((((3 : Int32) * (j &&& (((96 : Int32) / (3 : Int32)) - (1 : Int32)))) + (2 : Int32)) < 0) ∧ (((3 : Int32) * (j &&& (((96 : Int32) / (3 : Int32)) - (1 : Int32)))) + (2 : Int32)) < (96 : Int32) := own_b2 (own_m j)
theorem own_ix {j : Int32} (h : ¬ (j < 0) ∧ j < (96 : Int32)) : j.toNatClampNeg < 96 := by
  have e : (96 : Int32).toInt = 96 := by decide
  rw [Int32.lt_iff_toInt_lt, Int32.lt_iff_toInt_lt, Int32.toInt_zero, e] at h
  unfold Int32.toNatClampNeg; omega
theorem own_ixe {j : Int32} (h : ¬ (j < 0) ∧ j < (16 : Int32)) : j.toNatClampNeg < 16 := by
  have e : (16 : Int32).toInt = 16 := by decide
  rw [Int32.lt_iff_toInt_lt, Int32.lt_iff_toInt_lt, Int32.toInt_zero, e] at h
  unfold Int32.toNatClampNeg; omega
theorem own_rd (r : Nat → Int64) {j : Int32} (h : ¬ (j < 0) ∧ j < (96 : Int32)) : (own_L r).getD j.toNatClampNeg (.long (0 : Int64)) = .long (r j.toNatClampNeg) := by
  rw [own_Lget, if_pos (own_ix h)]
theorem own_rdE (r : Nat → Int32) {j : Int32} (h : ¬ (j < 0) ∧ j < (16 : Int32)) : (own_E r).getD j.toNatClampNeg (.int (0 : Int32)) = .int (r j.toNatClampNeg) := by
  rw [own_Eget, if_pos (own_ixe h)]
theorem own_ine {z : Int32} (h : 0 ≤ z.toInt ∧ z.toInt ≤ 3) : ¬ (z < 0) ∧ z < (16 : Int32) := by
  have e : (16 : Int32).toInt = 16 := by decide
  rw [Int32.lt_iff_toInt_lt, Int32.lt_iff_toInt_lt, Int32.toInt_zero, e]; omega
theorem own_full {z : Int32} (h : 0 ≤ z.toInt ∧ z.toInt ≤ 3) : ¬ (z = (16 : Int32)) := by
  intro w; rw [w] at h; exact absurd h.2 (by decide)
/-- no mass is a NaN -/
def own_M (x : Nat → Int64) : Prop := ∀ j, j % 3 = 2 → Jvm.Free.Fl.NoNaN64 (x j).toUInt64
theorem own_md {i : Int32} (h : 0 ≤ i.toInt ∧ i.toInt < 32) : (((3 : Int32) * i) + (2 : Int32)).toNatClampNeg % 3 = 2 := by
  have t := own_t3 h
  unfold Int32.toNatClampNeg; omega
theorem own_lb {b : Int64} (h : Jvm.Free.Fl.NoNaN64 b.toUInt64) : (b.toUInt64 &&& 0x7fffffffffffffff > 0x7ff0000000000000 && b.toUInt64 &&& 0x0008000000000000 == 0) = false := by
  have : ¬ (b.toUInt64 &&& 0x7fffffffffffffff > 0x7ff0000000000000) := by
    unfold Jvm.Free.Fl.NoNaN64 at h; exact fun q => absurd q (by simpa using h)
  simp [this]
theorem d1_0 : decode prog_63_method_1_code 0 = .ok (.aload_n 0, 1) := by decide +kernel
theorem d1_1 : decode prog_63_method_1_code 1 = .ok (.invokespecial 1, 3) := by decide +kernel
theorem d1_4 : decode prog_63_method_1_code 4 = .ok (.aload_n 0, 1) := by decide +kernel
theorem d1_5 : decode prog_63_method_1_code 5 = .ok (.bipush 96, 2) := by decide +kernel
theorem d1_7 : decode prog_63_method_1_code 7 = .ok (.newarray .long, 2) := by decide +kernel
theorem d1_9 : decode prog_63_method_1_code 9 = .ok (.putfield 9, 3) := by decide +kernel
theorem d1_12 : decode prog_63_method_1_code 12 = .ok (.aload_n 0, 1) := by decide +kernel
theorem d1_13 : decode prog_63_method_1_code 13 = .ok (.bipush 16, 2) := by decide +kernel
theorem d1_15 : decode prog_63_method_1_code 15 = .ok (.newarray .int, 2) := by decide +kernel
theorem d1_17 : decode prog_63_method_1_code 17 = .ok (.putfield 13, 3) := by decide +kernel
theorem d1_20 : decode prog_63_method_1_code 20 = .ok (.return_, 1) := by decide +kernel
theorem ef_1 (m : MethodId) (x0 : Addr) : entryFrame m #[(.ref x0)] 1 = mkF m 0 #[.val (.ref x0)] [] := by first | (simp [entryFrame, mkF, argsToLocals, Value.category]; done) | rfl
theorem pn_0 : plainName "com/example/ketproof/ketproof/MassTable" = true := by first | (simp [plainName, overriddenIn]; done) | decide +kernel
def Q1 (Z : State) (a1 : Addr) (h0 : Heap) (n0 : Nat) (v : Option Value) (h : Heap) (L : List Loc) : Prop := v = none ∧ Fr n0 L ∧ Keep h0 h [a1] ∧ Exa Z h a1 "com/example/ketproof/ketproof/MassTable" ∧ ∃ (b_slots : Addr) (b_entrySlots : Addr) (k_slots : ClassId) (k_entrySlots : ClassId), n0 ≤ b_slots ∧ n0 ≤ b_entrySlots ∧ h0.size ≤ b_slots ∧ h0.size ≤ b_entrySlots ∧ b_entrySlots ≠ b_slots ∧ Fld Z h a1 "com/example/ketproof/ketproof/MassTable" "slots" "[J" (.ref b_slots) ∧ Fld Z h a1 "com/example/ketproof/ketproof/MassTable" "entrySlots" "[I" (.ref b_entrySlots) ∧ Fld Z h a1 "com/example/ketproof/ketproof/MassTable" "size" "I" (.int (0 : Int32)) ∧ Fld Z h a1 "com/example/ketproof/ketproof/MassTable" "decimals" "[Ljava/math/BigDecimal;" .null ∧ Arv Z h b_slots k_slots .long (96 : Int32) (own_L (fun _ => (0 : Int64))) (.long (0 : Int64)) ∧ Arv Z h b_entrySlots k_entrySlots .int (16 : Int32) (own_E (fun _ => (0 : Int32))) (.int (0 : Int32))
set_option maxRecDepth 65536 in
set_option maxHeartbeats 40000000 in
theorem rm1 (l : Launch) (Z : State) (a0 : Array Value) (hw : ∀ d ∈ tables_1, d.before a0 Z = true) (ws : List Jvm.Cond) (a1 : Addr) (h0 : Heap) (n0 : Nat) (Z0 : n0 ≤ h0.size) (E1 : Exa Z h0 a1 "com/example/ketproof/ketproof/MassTable") (F_slots_a1 : Fld Z h0 a1 "com/example/ketproof/ketproof/MassTable" "slots" "[J" .null) (F_entrySlots_a1 : Fld Z h0 a1 "com/example/ketproof/ketproof/MassTable" "entrySlots" "[I" .null) (F_size_a1 : Fld Z h0 a1 "com/example/ketproof/ketproof/MassTable" "size" "I" (.int (0 : Int32))) (F_decimals_a1 : Fld Z h0 a1 "com/example/ketproof/ketproof/MassTable" "decimals" "[Ljava/math/BigDecimal;" .null) (g1 : n0 ≤ a1) :
    MetFree l (⟨"com/example/ketproof/ketproof/MassTable", "<init>", "()V"⟩ : MethodName) (head1 (Jvm.Cond.code (⟨"com/example/ketproof/ketproof/MassTable", "<init>", "()V"⟩ : MethodName) prog_63_method_1_code 1 none :: ws) ({ frames := 1, cells := 2, slots := 112, locals := 12 } : Room)) (fun a U => a = #[(.ref a1)] ∧ Z.Warmed39 U.vm ∧ U.heap = h0) (fun _ _ _ _ _ => True) (fun _ U o U' => ∃ v L, o = .returned v ∧ Q1 Z a1 h0 n0 v U'.heap L ∧ FrameEnd U o U' L ({ frames := 1, cells := 2, slots := 112, locals := 12 } : Room).cells ({ frames := 1, cells := 2, slots := 112, locals := 12 } : Room).slots) := by
  refine MetFree.of_bodySF (plainFor_of_name pn_0) hisR ?_
  intro p e s m args below meth c s₁ Bd hml0 hP hK
  obtain ⟨rfl, hZ, hh⟩ := hP
  have hx := Bd.exec
  have hby := Bd.bytes
  have hml : c.maxLocals = 1 := hml0
  have hown : s.vm.findClass "com/example/ketproof/ketproof/MassTable" = some m.cls := findClass_of_methodNamed Bd.named
  have hnm := (name_of_methodNamed Bd.named Bd.method).1
  have X0 : Stand p l e ({ frames := 1, cells := 2, slots := 112, locals := 12 } : Room) s m #[(.ref a1)] below meth c s₁ [] 0 0 := Stand.of_body Bd
  have e0 : s₁.heap = h0 := by rw [← hh, Bd.state]; rfl
  have N0 := Fr.nil n0
  have pre0 : ∀ t, Steps p.tables e below (s₁.setTop (mkF m 0 #[.val (.ref a1)] [])) t → Steps p.tables e below (s₁.setTop (entryFrame m #[(.ref a1)] 1)) t := fun t k => castTop (ef_1 m a1) k
  obtain ⟨T1, X1, e1, st1⟩ := initO X0 hx hZ hown (hw _ (List.mem_of_getElem? (i := 6) rfl)) (hw _ (List.mem_of_getElem? (i := 7) rfl)) (hw _ (List.mem_of_getElem? (i := 8) rfl)) e0 (g := (mkF m 1 #[.val (.ref a1)] [(.ref a1)])) rfl (by rw [hml]; rfl) rfl (hb hby d1_1) (by decide) (W := 0) (by show 2 * 0 + _ ≤ _; exact Nat.le_of_eq rfl) (by decide)
  obtain ⟨T2, h2, k2, X2, e2, E2, A2, st2⟩ := newP X1 hx hZ (hw _ (List.mem_of_getElem? (i := 9) rfl)) e1 (g := (mkF m 7 #[.val (.ref a1)] [(.int (96 : Int32)), (.ref a1)])) rfl (hb hby d1_7) rfl (by decide) (cap := 96) (by decide) (by decide) (by decide) (by decide)
  obtain ⟨b2, g2⟩ : ∃ z, z = h0.size := ⟨_, rfl⟩
  rw [← g2] at A2 st2
  have ne3 : a1 ≠ b2 := Nat.ne_of_lt (Nat.lt_of_lt_of_le E1.lt (Nat.le_of_eq g2.symm))
  have gg2 : n0 ≤ b2 := Nat.le_trans Z0 (Nat.le_of_eq g2.symm)
  have sz2 : h0.size ≤ b2 := Nat.le_trans (Keep.refl h0 [a1]).1 (Nat.le_of_eq g2.symm)
  have f4 : Exa Z h2 a1 "com/example/ketproof/ketproof/MassTable" := E1.ext E2
  have f5 : Fld Z h2 a1 "com/example/ketproof/ketproof/MassTable" "slots" "[J" .null := F_slots_a1.ext E2
  have f6 : Fld Z h2 a1 "com/example/ketproof/ketproof/MassTable" "entrySlots" "[I" .null := F_entrySlots_a1.ext E2
  have f7 : Fld Z h2 a1 "com/example/ketproof/ketproof/MassTable" "size" "I" (.int (0 : Int32)) := F_size_a1.ext E2
  have f8 : Fld Z h2 a1 "com/example/ketproof/ketproof/MassTable" "decimals" "[Ljava/math/BigDecimal;" .null := F_decimals_a1.ext E2
  have K9 : Keep h0 h2 [a1] := (Keep.refl h0 [a1]).ext E2
  have Z10 : n0 ≤ h2.size := Nat.le_trans Z0 E2.1
  have fa2 : Arv Z h2 b2 k2 .long (96 : Int32) [] (.long (0 : Int64)) := (Arv.new A2 (by decide))
  obtain ⟨T11, h11, X11, e11, W11, st11⟩ := putF X2 hx hZ hown (host := "") (Or.inl (hw _ (List.mem_of_getElem? (i := 10) rfl))) Via.refl e2 f5 f4 (Or.inl (hw _ (List.mem_of_getElem? (i := 11) rfl))) (hw _ (List.mem_of_getElem? (i := 1) rfl)) (ty := (.array .long)) (by decide) rfl rfl (g := (mkF m 9 #[.val (.ref a1)] [(.ref b2), (.ref a1)])) rfl rfl (hb hby d1_9)
  have f12 : Exa Z h11 a1 "com/example/ketproof/ketproof/MassTable" := f4.wr W11
  have f13 : Fld Z h11 a1 "com/example/ketproof/ketproof/MassTable" "slots" "[J" (.ref b2) := f5.same W11
  have f14 : Fld Z h11 a1 "com/example/ketproof/ketproof/MassTable" "entrySlots" "[I" .null := f6.other W11 (Or.inr (slot_ne (Or.inl (hw _ (List.mem_of_getElem? (i := 14) rfl))) (Or.inl (hw _ (List.mem_of_getElem? (i := 11) rfl))) (by decide) (t := (.array .int)) (t' := (.array .long)) (by decide) (by decide)))
  have f15 : Fld Z h11 a1 "com/example/ketproof/ketproof/MassTable" "size" "I" (.int (0 : Int32)) := f7.other W11 (Or.inr (slot_ne (Or.inl (hw _ (List.mem_of_getElem? (i := 21) rfl))) (Or.inl (hw _ (List.mem_of_getElem? (i := 11) rfl))) (by decide) (t := .int) (t' := (.array .long)) (by decide) (by decide)))
  have f16 : Fld Z h11 a1 "com/example/ketproof/ketproof/MassTable" "decimals" "[Ljava/math/BigDecimal;" .null := f8.other W11 (Or.inr (slot_ne (Or.inl (hw _ (List.mem_of_getElem? (i := 61) rfl))) (Or.inl (hw _ (List.mem_of_getElem? (i := 11) rfl))) (by decide) (t := (.array (.object "java/math/BigDecimal"))) (t' := (.array .long)) (by decide) (by decide)))
  have f17 : Arv Z h11 b2 k2 .long (96 : Int32) [] (.long (0 : Int64)) := fa2.other W11 (Ne.symm ne3)
  have N18 := Fr.snoc X11 N0 g1
  have K19 : Keep h0 h11 [a1] := K9.wr W11 (Or.inl (List.mem_of_getElem? (i := 0) rfl))
  have Z20 : n0 ≤ h11.size := Nat.le_trans Z10 (Keep.of_wr W11).1
  obtain ⟨T21, h21, k21, X21, e21, E21, A21, st21⟩ := newP X11 hx hZ (hw _ (List.mem_of_getElem? (i := 12) rfl)) e11 (g := (mkF m 15 #[.val (.ref a1)] [(.int (16 : Int32)), (.ref a1)])) rfl (hb hby d1_15) rfl (by decide) (cap := 16) (by decide) (by decide) (by decide) (by decide)
  obtain ⟨b21, g21⟩ : ∃ z, z = h11.size := ⟨_, rfl⟩
  rw [← g21] at A21 st21
  have ne22 : a1 ≠ b21 := Nat.ne_of_lt (Nat.lt_of_lt_of_le f12.lt (Nat.le_of_eq g21.symm))
  have ne23 : b2 ≠ b21 := Nat.ne_of_lt (Nat.lt_of_lt_of_le f17.lt (Nat.le_of_eq g21.symm))
  have gg21 : n0 ≤ b21 := Nat.le_trans Z20 (Nat.le_of_eq g21.symm)
  have sz21 : h0.size ≤ b21 := Nat.le_trans K19.1 (Nat.le_of_eq g21.symm)
  have f24 : Exa Z h21 a1 "com/example/ketproof/ketproof/MassTable" := f12.ext E21
  have f25 : Fld Z h21 a1 "com/example/ketproof/ketproof/MassTable" "slots" "[J" (.ref b2) := f13.ext E21
  have f26 : Fld Z h21 a1 "com/example/ketproof/ketproof/MassTable" "entrySlots" "[I" .null := f14.ext E21
  have f27 : Fld Z h21 a1 "com/example/ketproof/ketproof/MassTable" "size" "I" (.int (0 : Int32)) := f15.ext E21
  have f28 : Fld Z h21 a1 "com/example/ketproof/ketproof/MassTable" "decimals" "[Ljava/math/BigDecimal;" .null := f16.ext E21
  have f29 : Arv Z h21 b2 k2 .long (96 : Int32) [] (.long (0 : Int64)) := f17.ext E21
  have K30 : Keep h0 h21 [a1] := K19.ext E21
  have Z31 : n0 ≤ h21.size := Nat.le_trans Z20 E21.1
  have fa21 : Arv Z h21 b21 k21 .int (16 : Int32) [(.int (0 : Int32)), (.int (0 : Int32)), (.int (0 : Int32)), (.int (0 : Int32)), (.int (0 : Int32)), (.int (0 : Int32)), (.int (0 : Int32)), (.int (0 : Int32)), (.int (0 : Int32)), (.int (0 : Int32)), (.int (0 : Int32)), (.int (0 : Int32)), (.int (0 : Int32)), (.int (0 : Int32)), (.int (0 : Int32)), (.int (0 : Int32))] (.int (0 : Int32)) := (Arv.new A21 (by decide)).pad (pad_rep [] (.int (0 : Int32)) 16)
  obtain ⟨T32, h32, X32, e32, W32, st32⟩ := putF X21 hx hZ hown (host := "") (Or.inl (hw _ (List.mem_of_getElem? (i := 13) rfl))) Via.refl e21 f26 f24 (Or.inl (hw _ (List.mem_of_getElem? (i := 14) rfl))) (hw _ (List.mem_of_getElem? (i := 1) rfl)) (ty := (.array .int)) (by decide) rfl rfl (g := (mkF m 17 #[.val (.ref a1)] [(.ref b21), (.ref a1)])) rfl rfl (hb hby d1_17)
  have f33 : Exa Z h32 a1 "com/example/ketproof/ketproof/MassTable" := f24.wr W32
  have f34 : Fld Z h32 a1 "com/example/ketproof/ketproof/MassTable" "slots" "[J" (.ref b2) := f25.other W32 (Or.inr (slot_ne (Or.inl (hw _ (List.mem_of_getElem? (i := 11) rfl))) (Or.inl (hw _ (List.mem_of_getElem? (i := 14) rfl))) (by decide) (t := (.array .long)) (t' := (.array .int)) (by decide) (by decide)))
  have f35 : Fld Z h32 a1 "com/example/ketproof/ketproof/MassTable" "entrySlots" "[I" (.ref b21) := f26.same W32
  have f36 : Fld Z h32 a1 "com/example/ketproof/ketproof/MassTable" "size" "I" (.int (0 : Int32)) := f27.other W32 (Or.inr (slot_ne (Or.inl (hw _ (List.mem_of_getElem? (i := 21) rfl))) (Or.inl (hw _ (List.mem_of_getElem? (i := 14) rfl))) (by decide) (t := .int) (t' := (.array .int)) (by decide) (by decide)))
  have f37 : Fld Z h32 a1 "com/example/ketproof/ketproof/MassTable" "decimals" "[Ljava/math/BigDecimal;" .null := f28.other W32 (Or.inr (slot_ne (Or.inl (hw _ (List.mem_of_getElem? (i := 61) rfl))) (Or.inl (hw _ (List.mem_of_getElem? (i := 14) rfl))) (by decide) (t := (.array (.object "java/math/BigDecimal"))) (t' := (.array .int)) (by decide) (by decide)))
  have f38 : Arv Z h32 b2 k2 .long (96 : Int32) [] (.long (0 : Int64)) := f29.other W32 (Ne.symm ne3)
  have f39 : Arv Z h32 b21 k21 .int (16 : Int32) [(.int (0 : Int32)), (.int (0 : Int32)), (.int (0 : Int32)), (.int (0 : Int32)), (.int (0 : Int32)), (.int (0 : Int32)), (.int (0 : Int32)), (.int (0 : Int32)), (.int (0 : Int32)), (.int (0 : Int32)), (.int (0 : Int32)), (.int (0 : Int32)), (.int (0 : Int32)), (.int (0 : Int32)), (.int (0 : Int32)), (.int (0 : Int32))] (.int (0 : Int32)) := fa21.other W32 (Ne.symm ne22)
  have N40 := Fr.snoc X32 N18 g1
  have K41 : Keep h0 h32 [a1] := K30.wr W32 (Or.inl (List.mem_of_getElem? (i := 0) rfl))
  have Z42 : n0 ≤ h32.size := Nat.le_trans Z31 (Keep.of_wr W32).1
  obtain ⟨fs, hr, hrun, hended, hW, hsame⟩ := X32.leave (v := none) (fun _ => rfl)
  refine ⟨_, _, pre0 _ ?_, hrun, hended, _, _, rfl, ?_, ⟨_, rfl⟩, hW, hsame.mono (by decide) (by decide)⟩
  · refine XS.aloadN X0.here hx rfl (hb hby d1_0) rfl rfl ?_
    show Steps p.tables e below (s₁.setTop (mkF m 1 #[.val (.ref a1)] [(.ref a1)])) _
    refine st1 _ ?_
    show Steps p.tables e below (T1.setTop (mkF m 4 #[.val (.ref a1)] [])) _
    refine XS.aloadN X1.here hx rfl (hb hby d1_4) rfl rfl ?_
    show Steps p.tables e below (T1.setTop (mkF m 5 #[.val (.ref a1)] [(.ref a1)])) _
    refine XS.bipush X1.here hx rfl (hb hby d1_5) ?_
    show Steps p.tables e below (T1.setTop (mkF m 7 #[.val (.ref a1)] [(.int (96 : Int32)), (.ref a1)])) _
    refine st2 _ ?_
    show Steps p.tables e below (T2.setTop (mkF m 9 #[.val (.ref a1)] [(.ref b2), (.ref a1)])) _
    refine st11 _ ?_
    show Steps p.tables e below (T11.setTop (mkF m 12 #[.val (.ref a1)] [])) _
    refine XS.aloadN X11.here hx rfl (hb hby d1_12) rfl rfl ?_
    show Steps p.tables e below (T11.setTop (mkF m 13 #[.val (.ref a1)] [(.ref a1)])) _
    refine XS.bipush X11.here hx rfl (hb hby d1_13) ?_
    show Steps p.tables e below (T11.setTop (mkF m 15 #[.val (.ref a1)] [(.int (16 : Int32)), (.ref a1)])) _
    refine st21 _ ?_
    show Steps p.tables e below (T21.setTop (mkF m 17 #[.val (.ref a1)] [(.ref b21), (.ref a1)])) _
    refine st32 _ ?_
    show Steps p.tables e below (T32.setTop (mkF m 20 #[.val (.ref a1)] [])) _
    exact X32.returnOut hx Bd.returns (hb hby d1_20) hr
  · show Q1 Z a1 h0 n0 _ T32.heap _
    rw [e32]
    exact ⟨rfl, N40, K41, f33, b2, b21, k2, k21, gg2, gg21, sz2, sz21, (Ne.symm ne23), f34, f35, f36, f37, f38.pad own_L0, f39.pad own_E0⟩
def f6 (sx : Int32) (vb : Int64) : Int32 := ((((vb + (sx.toInt64 * (-7046029254386353131 : Int64))) * (-4658895280553007687 : Int64)) ^^^ ((((vb + (sx.toInt64 * (-7046029254386353131 : Int64))) * (-4658895280553007687 : Int64)).toUInt64 >>> ((31 : Int32) &&& 0x3f).toInt64.toUInt64).toInt64)) ^^^ ((((vb + (sx.toInt64 * (-7046029254386353131 : Int64))) * (-4658895280553007687 : Int64)).toUInt64 >>> ((47 : Int32) &&& 0x3f).toInt64.toUInt64).toInt64)).toInt32
theorem d6_0 : decode prog_63_method_14_code 0 = .ok (.lload_n 1, 1) := by decide +kernel
theorem d6_1 : decode prog_63_method_14_code 1 = .ok (.iload_n 0, 1) := by decide +kernel
theorem d6_2 : decode prog_63_method_14_code 2 = .ok (.i2l, 1) := by decide +kernel
theorem d6_3 : decode prog_63_method_14_code 3 = .ok (.ldc2_w 84, 3) := by decide +kernel
theorem d6_6 : decode prog_63_method_14_code 6 = .ok (.lmul, 1) := by decide +kernel
theorem d6_7 : decode prog_63_method_14_code 7 = .ok (.ladd, 1) := by decide +kernel
theorem d6_8 : decode prog_63_method_14_code 8 = .ok (.ldc2_w 86, 3) := by decide +kernel
theorem d6_11 : decode prog_63_method_14_code 11 = .ok (.lmul, 1) := by decide +kernel
theorem d6_12 : decode prog_63_method_14_code 12 = .ok (.lstore_n 3, 1) := by decide +kernel
theorem d6_13 : decode prog_63_method_14_code 13 = .ok (.lload_n 3, 1) := by decide +kernel
theorem d6_14 : decode prog_63_method_14_code 14 = .ok (.lload_n 3, 1) := by decide +kernel
theorem d6_15 : decode prog_63_method_14_code 15 = .ok (.bipush 31, 2) := by decide +kernel
theorem d6_17 : decode prog_63_method_14_code 17 = .ok (.lushr, 1) := by decide +kernel
theorem d6_18 : decode prog_63_method_14_code 18 = .ok (.lxor, 1) := by decide +kernel
theorem d6_19 : decode prog_63_method_14_code 19 = .ok (.lload_n 3, 1) := by decide +kernel
theorem d6_20 : decode prog_63_method_14_code 20 = .ok (.bipush 47, 2) := by decide +kernel
theorem d6_22 : decode prog_63_method_14_code 22 = .ok (.lushr, 1) := by decide +kernel
theorem d6_23 : decode prog_63_method_14_code 23 = .ok (.lxor, 1) := by decide +kernel
theorem d6_24 : decode prog_63_method_14_code 24 = .ok (.l2i, 1) := by decide +kernel
theorem d6_25 : decode prog_63_method_14_code 25 = .ok (.ireturn, 1) := by decide +kernel
theorem ef_6 (m : MethodId) (x0 : Int32) (x1 : Int64) : entryFrame m #[(.int x0), (.long x1)] 5 = mkF m 0 #[.val (.int x0), .val (.long x1), .second, .unset, .unset] [] := by first | (simp [entryFrame, mkF, argsToLocals, Value.category]; done) | rfl
def Q6 (Z : State) (sx : Int32) (vb : Int64) (h0 : Heap) (n0 : Nat) (v : Option Value) (h : Heap) (L : List Loc) : Prop := v = some (.int (f6 sx vb)) ∧ Fr n0 L ∧ h = h0
set_option maxRecDepth 65536 in
set_option maxHeartbeats 40000000 in
theorem rm6 (l : Launch) (Z : State) (a0 : Array Value) (hw : ∀ d ∈ tables_1, d.before a0 Z = true) (ws : List Jvm.Cond) (sx : Int32) (vb : Int64) (h0 : Heap) (n0 : Nat) (Z0 : n0 ≤ h0.size)  :
    MetFree l (⟨"com/example/ketproof/ketproof/MassTable", "hash", "(IJ)I"⟩ : MethodName) (head1 (Jvm.Cond.code (⟨"com/example/ketproof/ketproof/MassTable", "hash", "(IJ)I"⟩ : MethodName) prog_63_method_14_code 5 (some .int) :: ws) ({ frames := 0, cells := 0, slots := 0, locals := 0 } : Room)) (fun a U => a = #[(.int sx), (.long vb)] ∧ Z.Warmed39 U.vm ∧ U.heap = h0) (fun _ _ _ _ _ => True) (fun _ U o U' => ∃ v L, o = .returned v ∧ Q6 Z sx vb h0 n0 v U'.heap L ∧ FrameEnd U o U' L ({ frames := 0, cells := 0, slots := 0, locals := 0 } : Room).cells ({ frames := 0, cells := 0, slots := 0, locals := 0 } : Room).slots) := by
  refine MetFree.of_bodySF (plainFor_of_name pn_0) hisR ?_
  intro p e s m args below meth c s₁ Bd hml0 hP hK
  obtain ⟨rfl, hZ, hh⟩ := hP
  have hx := Bd.exec
  have hby := Bd.bytes
  have hml : c.maxLocals = 5 := hml0
  have hown : s.vm.findClass "com/example/ketproof/ketproof/MassTable" = some m.cls := findClass_of_methodNamed Bd.named
  have hnm := (name_of_methodNamed Bd.named Bd.method).1
  have X0 : Stand p l e ({ frames := 0, cells := 0, slots := 0, locals := 0 } : Room) s m #[(.int sx), (.long vb)] below meth c s₁ [] 0 0 := Stand.of_body Bd
  have e0 : s₁.heap = h0 := by rw [← hh, Bd.state]; rfl
  have N0 := Fr.nil n0
  have pre0 : ∀ t, Steps p.tables e below (s₁.setTop (mkF m 0 #[.val (.int sx), .val (.long vb), .second, .unset, .unset] [])) t → Steps p.tables e below (s₁.setTop (entryFrame m #[(.int sx), (.long vb)] 5)) t := fun t k => castTop (ef_6 m sx vb) k
  have S45 : ∀ t, Steps p.tables e below (s₁.setTop (mkF m 13 #[.val (.int sx), .val (.long vb), .second, .val (.long ((vb + (sx.toInt64 * (-7046029254386353131 : Int64))) * (-4658895280553007687 : Int64))), .second] [])) t → Steps p.tables e below (s₁.setTop (entryFrame m #[(.int sx), (.long vb)] 5)) t := by
    intro t k
    refine pre0 t ?_
    refine XS.lloadN X0.here hx rfl (hb hby d6_0) rfl ?_
    show Steps p.tables e below (s₁.setTop (mkF m 1 #[.val (.int sx), .val (.long vb), .second, .unset, .unset] [(.long vb)])) _
    refine XS.iloadN X0.here hx rfl (hb hby d6_1) rfl ?_
    show Steps p.tables e below (s₁.setTop (mkF m 2 #[.val (.int sx), .val (.long vb), .second, .unset, .unset] [(.int sx), (.long vb)])) _
    refine XS.i2l X0.here hx rfl (hb hby d6_2) rfl ?_
    show Steps p.tables e below (s₁.setTop (mkF m 3 #[.val (.int sx), .val (.long vb), .second, .unset, .unset] [(.long sx.toInt64), (.long vb)])) _
    refine X0.ldc2Long hx hown (mvT hZ (hw _ (List.mem_of_getElem? (i := 38) rfl))) (g := (mkF m 3 #[.val (.int sx), .val (.long vb), .second, .unset, .unset] [(.long sx.toInt64), (.long vb)])) rfl (hb hby d6_3) _ ?_
    show Steps p.tables e below (s₁.setTop (mkF m 6 #[.val (.int sx), .val (.long vb), .second, .unset, .unset] [(.long (-7046029254386353131 : Int64)), (.long sx.toInt64), (.long vb)])) _
    refine XS.lmul X0.here hx rfl (hb hby d6_6) rfl ?_
    show Steps p.tables e below (s₁.setTop (mkF m 7 #[.val (.int sx), .val (.long vb), .second, .unset, .unset] [(.long (sx.toInt64 * (-7046029254386353131 : Int64))), (.long vb)])) _
    refine XS.ladd X0.here hx rfl (hb hby d6_7) rfl ?_
    show Steps p.tables e below (s₁.setTop (mkF m 8 #[.val (.int sx), .val (.long vb), .second, .unset, .unset] [(.long (vb + (sx.toInt64 * (-7046029254386353131 : Int64))))])) _
    refine X0.ldc2Long hx hown (mvT hZ (hw _ (List.mem_of_getElem? (i := 39) rfl))) (g := (mkF m 8 #[.val (.int sx), .val (.long vb), .second, .unset, .unset] [(.long (vb + (sx.toInt64 * (-7046029254386353131 : Int64))))])) rfl (hb hby d6_8) _ ?_
    show Steps p.tables e below (s₁.setTop (mkF m 11 #[.val (.int sx), .val (.long vb), .second, .unset, .unset] [(.long (-4658895280553007687 : Int64)), (.long (vb + (sx.toInt64 * (-7046029254386353131 : Int64))))])) _
    refine XS.lmul X0.here hx rfl (hb hby d6_11) rfl ?_
    show Steps p.tables e below (s₁.setTop (mkF m 12 #[.val (.int sx), .val (.long vb), .second, .unset, .unset] [(.long ((vb + (sx.toInt64 * (-7046029254386353131 : Int64))) * (-4658895280553007687 : Int64)))])) _
    refine XS.lstoreN X0.here hx rfl (hb hby d6_12) rfl (l' := #[.val (.int sx), .val (.long vb), .second, .val (.long ((vb + (sx.toInt64 * (-7046029254386353131 : Int64))) * (-4658895280553007687 : Int64))), .second]) rfl ?_
    show Steps p.tables e below (s₁.setTop (mkF m 13 #[.val (.int sx), .val (.long vb), .second, .val (.long ((vb + (sx.toInt64 * (-7046029254386353131 : Int64))) * (-4658895280553007687 : Int64))), .second] [])) _
    exact k
  have S46 : ∀ t, Steps p.tables e below (s₁.setTop (mkF m 25 #[.val (.int sx), .val (.long vb), .second, .val (.long ((vb + (sx.toInt64 * (-7046029254386353131 : Int64))) * (-4658895280553007687 : Int64))), .second] [(.int ((((vb + (sx.toInt64 * (-7046029254386353131 : Int64))) * (-4658895280553007687 : Int64)) ^^^ ((((vb + (sx.toInt64 * (-7046029254386353131 : Int64))) * (-4658895280553007687 : Int64)).toUInt64 >>> ((31 : Int32) &&& 0x3f).toInt64.toUInt64).toInt64)) ^^^ ((((vb + (sx.toInt64 * (-7046029254386353131 : Int64))) * (-4658895280553007687 : Int64)).toUInt64 >>> ((47 : Int32) &&& 0x3f).toInt64.toUInt64).toInt64)).toInt32)])) t → Steps p.tables e below (s₁.setTop (entryFrame m #[(.int sx), (.long vb)] 5)) t := by
    intro t k
    refine S45 t ?_
    refine XS.lloadN X0.here hx rfl (hb hby d6_13) rfl ?_
    show Steps p.tables e below (s₁.setTop (mkF m 14 #[.val (.int sx), .val (.long vb), .second, .val (.long ((vb + (sx.toInt64 * (-7046029254386353131 : Int64))) * (-4658895280553007687 : Int64))), .second] [(.long ((vb + (sx.toInt64 * (-7046029254386353131 : Int64))) * (-4658895280553007687 : Int64)))])) _
    refine XS.lloadN X0.here hx rfl (hb hby d6_14) rfl ?_
    show Steps p.tables e below (s₁.setTop (mkF m 15 #[.val (.int sx), .val (.long vb), .second, .val (.long ((vb + (sx.toInt64 * (-7046029254386353131 : Int64))) * (-4658895280553007687 : Int64))), .second] [(.long ((vb + (sx.toInt64 * (-7046029254386353131 : Int64))) * (-4658895280553007687 : Int64))), (.long ((vb + (sx.toInt64 * (-7046029254386353131 : Int64))) * (-4658895280553007687 : Int64)))])) _
    refine XS.bipush X0.here hx rfl (hb hby d6_15) ?_
    show Steps p.tables e below (s₁.setTop (mkF m 17 #[.val (.int sx), .val (.long vb), .second, .val (.long ((vb + (sx.toInt64 * (-7046029254386353131 : Int64))) * (-4658895280553007687 : Int64))), .second] [(.int (31 : Int32)), (.long ((vb + (sx.toInt64 * (-7046029254386353131 : Int64))) * (-4658895280553007687 : Int64))), (.long ((vb + (sx.toInt64 * (-7046029254386353131 : Int64))) * (-4658895280553007687 : Int64)))])) _
    refine XS.lushr X0.here hx rfl (hb hby d6_17) rfl ?_
    show Steps p.tables e below (s₁.setTop (mkF m 18 #[.val (.int sx), .val (.long vb), .second, .val (.long ((vb + (sx.toInt64 * (-7046029254386353131 : Int64))) * (-4658895280553007687 : Int64))), .second] [(.long ((((vb + (sx.toInt64 * (-7046029254386353131 : Int64))) * (-4658895280553007687 : Int64)).toUInt64 >>> ((31 : Int32) &&& 0x3f).toInt64.toUInt64).toInt64)), (.long ((vb + (sx.toInt64 * (-7046029254386353131 : Int64))) * (-4658895280553007687 : Int64)))])) _
    refine XS.lxor X0.here hx rfl (hb hby d6_18) rfl ?_
    show Steps p.tables e below (s₁.setTop (mkF m 19 #[.val (.int sx), .val (.long vb), .second, .val (.long ((vb + (sx.toInt64 * (-7046029254386353131 : Int64))) * (-4658895280553007687 : Int64))), .second] [(.long (((vb + (sx.toInt64 * (-7046029254386353131 : Int64))) * (-4658895280553007687 : Int64)) ^^^ ((((vb + (sx.toInt64 * (-7046029254386353131 : Int64))) * (-4658895280553007687 : Int64)).toUInt64 >>> ((31 : Int32) &&& 0x3f).toInt64.toUInt64).toInt64)))])) _
    refine XS.lloadN X0.here hx rfl (hb hby d6_19) rfl ?_
    show Steps p.tables e below (s₁.setTop (mkF m 20 #[.val (.int sx), .val (.long vb), .second, .val (.long ((vb + (sx.toInt64 * (-7046029254386353131 : Int64))) * (-4658895280553007687 : Int64))), .second] [(.long ((vb + (sx.toInt64 * (-7046029254386353131 : Int64))) * (-4658895280553007687 : Int64))), (.long (((vb + (sx.toInt64 * (-7046029254386353131 : Int64))) * (-4658895280553007687 : Int64)) ^^^ ((((vb + (sx.toInt64 * (-7046029254386353131 : Int64))) * (-4658895280553007687 : Int64)).toUInt64 >>> ((31 : Int32) &&& 0x3f).toInt64.toUInt64).toInt64)))])) _
    refine XS.bipush X0.here hx rfl (hb hby d6_20) ?_
    show Steps p.tables e below (s₁.setTop (mkF m 22 #[.val (.int sx), .val (.long vb), .second, .val (.long ((vb + (sx.toInt64 * (-7046029254386353131 : Int64))) * (-4658895280553007687 : Int64))), .second] [(.int (47 : Int32)), (.long ((vb + (sx.toInt64 * (-7046029254386353131 : Int64))) * (-4658895280553007687 : Int64))), (.long (((vb + (sx.toInt64 * (-7046029254386353131 : Int64))) * (-4658895280553007687 : Int64)) ^^^ ((((vb + (sx.toInt64 * (-7046029254386353131 : Int64))) * (-4658895280553007687 : Int64)).toUInt64 >>> ((31 : Int32) &&& 0x3f).toInt64.toUInt64).toInt64)))])) _
    refine XS.lushr X0.here hx rfl (hb hby d6_22) rfl ?_
    show Steps p.tables e below (s₁.setTop (mkF m 23 #[.val (.int sx), .val (.long vb), .second, .val (.long ((vb + (sx.toInt64 * (-7046029254386353131 : Int64))) * (-4658895280553007687 : Int64))), .second] [(.long ((((vb + (sx.toInt64 * (-7046029254386353131 : Int64))) * (-4658895280553007687 : Int64)).toUInt64 >>> ((47 : Int32) &&& 0x3f).toInt64.toUInt64).toInt64)), (.long (((vb + (sx.toInt64 * (-7046029254386353131 : Int64))) * (-4658895280553007687 : Int64)) ^^^ ((((vb + (sx.toInt64 * (-7046029254386353131 : Int64))) * (-4658895280553007687 : Int64)).toUInt64 >>> ((31 : Int32) &&& 0x3f).toInt64.toUInt64).toInt64)))])) _
    refine XS.lxor X0.here hx rfl (hb hby d6_23) rfl ?_
    show Steps p.tables e below (s₁.setTop (mkF m 24 #[.val (.int sx), .val (.long vb), .second, .val (.long ((vb + (sx.toInt64 * (-7046029254386353131 : Int64))) * (-4658895280553007687 : Int64))), .second] [(.long ((((vb + (sx.toInt64 * (-7046029254386353131 : Int64))) * (-4658895280553007687 : Int64)) ^^^ ((((vb + (sx.toInt64 * (-7046029254386353131 : Int64))) * (-4658895280553007687 : Int64)).toUInt64 >>> ((31 : Int32) &&& 0x3f).toInt64.toUInt64).toInt64)) ^^^ ((((vb + (sx.toInt64 * (-7046029254386353131 : Int64))) * (-4658895280553007687 : Int64)).toUInt64 >>> ((47 : Int32) &&& 0x3f).toInt64.toUInt64).toInt64)))])) _
    refine XS.l2i X0.here hx rfl (hb hby d6_24) rfl ?_
    show Steps p.tables e below (s₁.setTop (mkF m 25 #[.val (.int sx), .val (.long vb), .second, .val (.long ((vb + (sx.toInt64 * (-7046029254386353131 : Int64))) * (-4658895280553007687 : Int64))), .second] [(.int ((((vb + (sx.toInt64 * (-7046029254386353131 : Int64))) * (-4658895280553007687 : Int64)) ^^^ ((((vb + (sx.toInt64 * (-7046029254386353131 : Int64))) * (-4658895280553007687 : Int64)).toUInt64 >>> ((31 : Int32) &&& 0x3f).toInt64.toUInt64).toInt64)) ^^^ ((((vb + (sx.toInt64 * (-7046029254386353131 : Int64))) * (-4658895280553007687 : Int64)).toUInt64 >>> ((47 : Int32) &&& 0x3f).toInt64.toUInt64).toInt64)).toInt32)])) _
    exact k
  have hf : f6 sx vb = ((((vb + (sx.toInt64 * (-7046029254386353131 : Int64))) * (-4658895280553007687 : Int64)) ^^^ ((((vb + (sx.toInt64 * (-7046029254386353131 : Int64))) * (-4658895280553007687 : Int64)).toUInt64 >>> ((31 : Int32) &&& 0x3f).toInt64.toUInt64).toInt64)) ^^^ ((((vb + (sx.toInt64 * (-7046029254386353131 : Int64))) * (-4658895280553007687 : Int64)).toUInt64 >>> ((47 : Int32) &&& 0x3f).toInt64.toUInt64).toInt64)).toInt32 := by
    unfold f6
    rfl
  obtain ⟨fs, hr, hrun, hended, hW, hsame⟩ := X0.leave (v := some (.int ((((vb + (sx.toInt64 * (-7046029254386353131 : Int64))) * (-4658895280553007687 : Int64)) ^^^ ((((vb + (sx.toInt64 * (-7046029254386353131 : Int64))) * (-4658895280553007687 : Int64)).toUInt64 >>> ((31 : Int32) &&& 0x3f).toInt64.toUInt64).toInt64)) ^^^ ((((vb + (sx.toInt64 * (-7046029254386353131 : Int64))) * (-4658895280553007687 : Int64)).toUInt64 >>> ((47 : Int32) &&& 0x3f).toInt64.toUInt64).toInt64)).toInt32)) (fun h => by rw [Bd.returns] at h; cases h)
  refine ⟨_, _, S46 _ ?_, hrun, hended, _, _, rfl, ?_, ⟨_, rfl⟩, hW, hsame.mono (by decide) (by decide)⟩
  · exact retOut X0 hx Bd.returns rfl (Or.inl ⟨rfl, Or.inl rfl, _, rfl⟩) (hb hby d6_25) hr
  · show Q6 Z sx vb h0 n0 _ s₁.heap _
    rw [e0]
    exact ⟨by rw [hf], N0, rfl⟩
def f12 (ix : Int32) : Int32 := (1 : Int32)
theorem f12_b (ix : Int32) : f12 ix = 0 ∨ f12 ix = 1 := by unfold f12; (repeat' split) <;> decide
theorem d12_0 : decode prog_63_method_13_code 0 = .ok (.aload_n 0, 1) := by decide +kernel
theorem d12_1 : decode prog_63_method_13_code 1 = .ok (.getfield 52, 3) := by decide +kernel
theorem d12_4 : decode prog_63_method_13_code 4 = .ok (.ifnonnull 7, 3) := by decide +kernel
theorem d12_7 : decode prog_63_method_13_code 7 = .ok (.aconst_null, 1) := by decide +kernel
theorem d12_8 : decode prog_63_method_13_code 8 = .ok (.goto 9, 3) := by decide +kernel
theorem d12_11 : decode prog_63_method_13_code 11 = .ok (.aload_n 0, 1) := by decide +kernel
theorem d12_12 : decode prog_63_method_13_code 12 = .ok (.getfield 52, 3) := by decide +kernel
theorem d12_15 : decode prog_63_method_13_code 15 = .ok (.iload_n 1, 1) := by decide +kernel
theorem d12_16 : decode prog_63_method_13_code 16 = .ok (.aaload, 1) := by decide +kernel
theorem d12_17 : decode prog_63_method_13_code 17 = .ok (.astore_n 3, 1) := by decide +kernel
theorem d12_18 : decode prog_63_method_13_code 18 = .ok (.aload_n 3, 1) := by decide +kernel
theorem d12_19 : decode prog_63_method_13_code 19 = .ok (.ifnonnull 15, 3) := by decide +kernel
theorem d12_22 : decode prog_63_method_13_code 22 = .ok (.aload_n 2, 1) := by decide +kernel
theorem d12_23 : decode prog_63_method_13_code 23 = .ok (.ifnonnull 7, 3) := by decide +kernel
theorem d12_26 : decode prog_63_method_13_code 26 = .ok (.iconst 1, 1) := by decide +kernel
theorem d12_27 : decode prog_63_method_13_code 27 = .ok (.goto 12, 3) := by decide +kernel
theorem d12_30 : decode prog_63_method_13_code 30 = .ok (.iconst 0, 1) := by decide +kernel
theorem d12_31 : decode prog_63_method_13_code 31 = .ok (.goto 8, 3) := by decide +kernel
theorem d12_34 : decode prog_63_method_13_code 34 = .ok (.aload_n 3, 1) := by decide +kernel
theorem d12_35 : decode prog_63_method_13_code 35 = .ok (.aload_n 2, 1) := by decide +kernel
theorem d12_36 : decode prog_63_method_13_code 36 = .ok (.invokevirtual 80, 3) := by decide +kernel
theorem d12_39 : decode prog_63_method_13_code 39 = .ok (.ireturn, 1) := by decide +kernel
theorem ef_12 (m : MethodId) (x0 : Addr) (x1 : Int32) : entryFrame m #[(.ref x0), (.int x1), .null] 4 = mkF m 0 #[.val (.ref x0), .val (.int x1), .val .null, .unset] [] := by first | (simp [entryFrame, mkF, argsToLocals, Value.category]; done) | rfl
def Q12 (Z : State) (a1 : Addr) (ix : Int32) (h0 : Heap) (n0 : Nat) (v : Option Value) (h : Heap) (L : List Loc) : Prop := v = some (.int (f12 ix)) ∧ Fr n0 L ∧ h = h0
set_option maxRecDepth 65536 in
set_option maxHeartbeats 40000000 in
theorem rm12 (l : Launch) (Z : State) (a0 : Array Value) (hw : ∀ d ∈ tables_1, d.before a0 Z = true) (ws : List Jvm.Cond) (a1 : Addr) (ix : Int32) (h0 : Heap) (n0 : Nat) (Z0 : n0 ≤ h0.size) (F_decimals_a1 : Fld Z h0 a1 "com/example/ketproof/ketproof/MassTable" "decimals" "[Ljava/math/BigDecimal;" .null) :
    MetFree l (⟨"com/example/ketproof/ketproof/MassTable", "holds", "(ILjava/math/BigDecimal;)Z"⟩ : MethodName) (head1 (Jvm.Cond.code (⟨"com/example/ketproof/ketproof/MassTable", "holds", "(ILjava/math/BigDecimal;)Z"⟩ : MethodName) prog_63_method_13_code 4 (some .boolean) :: ws) ({ frames := 0, cells := 0, slots := 0, locals := 0 } : Room)) (fun a U => a = #[(.ref a1), (.int ix), .null] ∧ Z.Warmed39 U.vm ∧ U.heap = h0) (fun _ _ _ _ _ => True) (fun _ U o U' => ∃ v L, o = .returned v ∧ Q12 Z a1 ix h0 n0 v U'.heap L ∧ FrameEnd U o U' L ({ frames := 0, cells := 0, slots := 0, locals := 0 } : Room).cells ({ frames := 0, cells := 0, slots := 0, locals := 0 } : Room).slots) := by
  refine MetFree.of_bodySF (plainFor_of_name pn_0) hisR ?_
  intro p e s m args below meth c s₁ Bd hml0 hP hK
  obtain ⟨rfl, hZ, hh⟩ := hP
  have hx := Bd.exec
  have hby := Bd.bytes
  have hml : c.maxLocals = 4 := hml0
  have hown : s.vm.findClass "com/example/ketproof/ketproof/MassTable" = some m.cls := findClass_of_methodNamed Bd.named
  have hnm := (name_of_methodNamed Bd.named Bd.method).1
  have X0 : Stand p l e ({ frames := 0, cells := 0, slots := 0, locals := 0 } : Room) s m #[(.ref a1), (.int ix), .null] below meth c s₁ [] 0 0 := Stand.of_body Bd
  have e0 : s₁.heap = h0 := by rw [← hh, Bd.state]; rfl
  have N0 := Fr.nil n0
  have pre0 : ∀ t, Steps p.tables e below (s₁.setTop (mkF m 0 #[.val (.ref a1), .val (.int ix), .val .null, .unset] [])) t → Steps p.tables e below (s₁.setTop (entryFrame m #[(.ref a1), (.int ix), .null] 4)) t := fun t k => castTop (ef_12 m a1 ix) k
  obtain ⟨T49, X49, e49, st49⟩ := getF X0 hx hZ hown (host := "") (Or.inl (hw _ (List.mem_of_getElem? (i := 60) rfl))) Via.refl e0 F_decimals_a1 (g := (mkF m 1 #[.val (.ref a1), .val (.int ix), .val .null, .unset] [(.ref a1)])) rfl rfl (hb hby d12_1)
  have S50 : ∀ t, Steps p.tables e below (T49.setTop (mkF m 39 #[.val (.ref a1), .val (.int ix), .val .null, .val .null] [(.int (1 : Int32))])) t → Steps p.tables e below (s₁.setTop (entryFrame m #[(.ref a1), (.int ix), .null] 4)) t := by
    intro t k
    refine pre0 t ?_
    refine XS.aloadN X0.here hx rfl (hb hby d12_0) rfl rfl ?_
    show Steps p.tables e below (s₁.setTop (mkF m 1 #[.val (.ref a1), .val (.int ix), .val .null, .unset] [(.ref a1)])) _
    refine st49 _ ?_
    show Steps p.tables e below (T49.setTop (mkF m 4 #[.val (.ref a1), .val (.int ix), .val .null, .unset] [.null])) _
    refine XS.ifnonnullNo X49.here hx rfl (hb hby d12_4) rfl ?_
    show Steps p.tables e below (T49.setTop (mkF m 7 #[.val (.ref a1), .val (.int ix), .val .null, .unset] [])) _
    refine XS.aconstNull X49.here hx rfl (hb hby d12_7) ?_
    show Steps p.tables e below (T49.setTop (mkF m 8 #[.val (.ref a1), .val (.int ix), .val .null, .unset] [.null])) _
    refine XS.goto X49.here hx rfl (pc0 := 8) (pc' := 17) rfl (hb hby d12_8) (by decide) (by decide) ?_
    show Steps p.tables e below (T49.setTop (mkF m 17 #[.val (.ref a1), .val (.int ix), .val .null, .unset] [.null])) _
    refine XS.astoreN X49.here hx rfl (hb hby d12_17) rfl rfl (l' := #[.val (.ref a1), .val (.int ix), .val .null, .val .null]) rfl ?_
    show Steps p.tables e below (T49.setTop (mkF m 18 #[.val (.ref a1), .val (.int ix), .val .null, .val .null] [])) _
    refine XS.aloadN X49.here hx rfl (hb hby d12_18) rfl rfl ?_
    show Steps p.tables e below (T49.setTop (mkF m 19 #[.val (.ref a1), .val (.int ix), .val .null, .val .null] [.null])) _
    refine XS.ifnonnullNo X49.here hx rfl (hb hby d12_19) rfl ?_
    show Steps p.tables e below (T49.setTop (mkF m 22 #[.val (.ref a1), .val (.int ix), .val .null, .val .null] [])) _
    refine XS.aloadN X49.here hx rfl (hb hby d12_22) rfl rfl ?_
    show Steps p.tables e below (T49.setTop (mkF m 23 #[.val (.ref a1), .val (.int ix), .val .null, .val .null] [.null])) _
    refine XS.ifnonnullNo X49.here hx rfl (hb hby d12_23) rfl ?_
    show Steps p.tables e below (T49.setTop (mkF m 26 #[.val (.ref a1), .val (.int ix), .val .null, .val .null] [])) _
    refine XS.iconst X49.here hx rfl (hb hby d12_26) ?_
    show Steps p.tables e below (T49.setTop (mkF m 27 #[.val (.ref a1), .val (.int ix), .val .null, .val .null] [(.int (1 : Int32))])) _
    refine XS.goto X49.here hx rfl (pc0 := 27) (pc' := 39) rfl (hb hby d12_27) (by decide) (by decide) ?_
    show Steps p.tables e below (T49.setTop (mkF m 39 #[.val (.ref a1), .val (.int ix), .val .null, .val .null] [(.int (1 : Int32))])) _
    exact k
  have hf : f12 ix = (1 : Int32) := by
    unfold f12
    rfl
  have hnb : nar .boolean (1 : Int32) = (1 : Int32) := own_nb (by have hq := f12_b ix; rw [hf] at hq; exact hq)
  obtain ⟨fs, hr, hrun, hended, hW, hsame⟩ := X49.leave (v := some (.int (nar .boolean (1 : Int32)))) (fun h => by rw [Bd.returns] at h; cases h)
  refine ⟨_, _, S50 _ ?_, hrun, hended, _, _, rfl, ?_, ⟨_, rfl⟩, hW, hsame.mono (by decide) (by decide)⟩
  · exact retN X49 hx (t := .boolean) Bd.returns (by simp) (hb hby d12_39) hr
  · show Q12 Z a1 ix h0 n0 _ T49.heap _
    rw [e49]
    exact ⟨by rw [hnb, hf], N0, rfl⟩
theorem own_f12 (i : Int32) : ¬ (f12 i = (0 : Int32)) := by unfold f12; decide
def own_mk : Int32 := (((96 : Int32) / (3 : Int32)) - (1 : Int32))
def own_i0 (sx : Int32) (vb : Int64) : Int32 := (f6 sx vb) &&& own_mk
def own_i1 (sx : Int32) (vb : Int64) : Int32 := own_nx (own_i0 sx vb)
def own_i2 (sx : Int32) (vb : Int64) : Int32 := own_nx (own_i1 sx vb)
theorem own_r0 (sx : Int32) (vb : Int64) : 0 ≤ (own_i0 sx vb).toInt ∧ (own_i0 sx vb).toInt < 32 := own_m _
theorem own_r1 (sx : Int32) (vb : Int64) : 0 ≤ (own_i1 sx vb).toInt ∧ (own_i1 sx vb).toInt < 32 := own_m _
theorem own_r2 (sx : Int32) (vb : Int64) : 0 ≤ (own_i2 sx vb).toInt ∧ (own_i2 sx vb).toInt < 32 := own_m _
/-- the slot i is free, or holds the key -/
def own_st (x : Nat → Int64) (sx : Int32) (vb : Int64) (i : Int32) : Prop :=
  (lcmpW (x ((3 : Int32) * i).toNatClampNeg) (0 : Int64)) = (0 : Int32) ∨ ((lcmpW (x ((3 : Int32) * i).toNatClampNeg) (sx.toInt64 + (1 : Int64))) = (0 : Int32) ∧ (lcmpW (x (((3 : Int32) * i) + (1 : Int32)).toNatClampNeg) vb) = (0 : Int32))
def own_stop (x : Nat → Int64) (sx : Int32) (vb : Int64) : Prop := own_st x sx vb (own_i0 sx vb) ∨ own_st x sx vb (own_i1 sx vb) ∨ own_st x sx vb (own_i2 sx vb)
theorem own_nst {x : Nat → Int64} {sx : Int32} {vb : Int64} {i : Int32} (h1 : ¬ (lcmpW (x ((3 : Int32) * i).toNatClampNeg) (0 : Int64)) = (0 : Int32)) (h2 : ¬ ((lcmpW (x ((3 : Int32) * i).toNatClampNeg) (sx.toInt64 + (1 : Int64))) = (0 : Int32)) ∨ ¬ ((lcmpW (x (((3 : Int32) * i) + (1 : Int32)).toNatClampNeg) vb) = (0 : Int32))) : ¬ own_st x sx vb i := by
  rintro (w | w)
  · exact h1 w
  · exact h2.elim (fun q => q w.1) (fun q => q w.2)
theorem own_third {x : Nat → Int64} {sx : Int32} {vb : Int64} (h : own_stop x sx vb) (n0 : ¬ own_st x sx vb (own_i0 sx vb)) (n1 : ¬ own_st x sx vb (own_i1 sx vb)) (h2 : ¬ (lcmpW (x ((3 : Int32) * (own_i2 sx vb)).toNatClampNeg) (0 : Int64)) = (0 : Int32)) :
    (lcmpW (x ((3 : Int32) * (own_i2 sx vb)).toNatClampNeg) (sx.toInt64 + (1 : Int64))) = (0 : Int32) ∧ (lcmpW (x (((3 : Int32) * (own_i2 sx vb)) + (1 : Int32)).toNatClampNeg) vb) = (0 : Int32) :=
  ((h.resolve_left n0).resolve_left n1).resolve_left h2
theorem pd_0 : parseMethodDescriptor "(IJ)I" = some ⟨[.int, .long], some .int⟩ := by decide +kernel
theorem pd_1 : parseMethodDescriptor "(ILjava/math/BigDecimal;)Z" = some ⟨[.int, (.object "java/math/BigDecimal")], some .boolean⟩ := by decide +kernel
def f5_size (sx : Int32) (vb : Int64) (ms : UInt64) (z_size : Int32) (x_slots : (Nat → Int64)) (x_entrySlots : (Nat → Int32)) : Int32 := (if (lcmpW (x_slots (((3 : Int32) * (own_i0 sx vb))).toNatClampNeg) (0 : Int64)) = (0 : Int32) then (z_size + (1 : Int32)) else (if (lcmpW (x_slots (((3 : Int32) * (own_i0 sx vb))).toNatClampNeg) (sx.toInt64 + (1 : Int64))) = (0 : Int32) then (if (lcmpW (x_slots ((((3 : Int32) * (own_i0 sx vb)) + (1 : Int32))).toNatClampNeg) vb) = (0 : Int32) then z_size else (if (lcmpW (x_slots (((3 : Int32) * (own_i1 sx vb))).toNatClampNeg) (0 : Int64)) = (0 : Int32) then (z_size + (1 : Int32)) else (if (lcmpW (x_slots (((3 : Int32) * (own_i1 sx vb))).toNatClampNeg) (sx.toInt64 + (1 : Int64))) = (0 : Int32) then (if (lcmpW (x_slots ((((3 : Int32) * (own_i1 sx vb)) + (1 : Int32))).toNatClampNeg) vb) = (0 : Int32) then z_size else (if (lcmpW (x_slots (((3 : Int32) * (own_i2 sx vb))).toNatClampNeg) (0 : Int64)) = (0 : Int32) then (z_size + (1 : Int32)) else z_size)) else (if (lcmpW (x_slots (((3 : Int32) * (own_i2 sx vb))).toNatClampNeg) (0 : Int64)) = (0 : Int32) then (z_size + (1 : Int32)) else z_size)))) else (if (lcmpW (x_slots (((3 : Int32) * (own_i1 sx vb))).toNatClampNeg) (0 : Int64)) = (0 : Int32) then (z_size + (1 : Int32)) else (if (lcmpW (x_slots (((3 : Int32) * (own_i1 sx vb))).toNatClampNeg) (sx.toInt64 + (1 : Int64))) = (0 : Int32) then (if (lcmpW (x_slots ((((3 : Int32) * (own_i1 sx vb)) + (1 : Int32))).toNatClampNeg) vb) = (0 : Int32) then z_size else (if (lcmpW (x_slots (((3 : Int32) * (own_i2 sx vb))).toNatClampNeg) (0 : Int64)) = (0 : Int32) then (z_size + (1 : Int32)) else z_size)) else (if (lcmpW (x_slots (((3 : Int32) * (own_i2 sx vb))).toNatClampNeg) (0 : Int64)) = (0 : Int32) then (z_size + (1 : Int32)) else z_size)))))
def f5_slots (sx : Int32) (vb : Int64) (ms : UInt64) (z_size : Int32) (x_slots : (Nat → Int64)) (x_entrySlots : (Nat → Int32)) : (Nat → Int64) := (if (lcmpW (x_slots (((3 : Int32) * (own_i0 sx vb))).toNatClampNeg) (0 : Int64)) = (0 : Int32) then (own_up (own_up (own_up x_slots (((3 : Int32) * (own_i0 sx vb))).toNatClampNeg (sx.toInt64 + (1 : Int64))) ((((3 : Int32) * (own_i0 sx vb)) + (1 : Int32))).toNatClampNeg vb) ((((3 : Int32) * (own_i0 sx vb)) + (2 : Int32))).toNatClampNeg ((ms).toInt64)) else (if (lcmpW (x_slots (((3 : Int32) * (own_i0 sx vb))).toNatClampNeg) (sx.toInt64 + (1 : Int64))) = (0 : Int32) then (if (lcmpW (x_slots ((((3 : Int32) * (own_i0 sx vb)) + (1 : Int32))).toNatClampNeg) vb) = (0 : Int32) then (own_up x_slots ((((3 : Int32) * (own_i0 sx vb)) + (2 : Int32))).toNatClampNeg (((FP.dadd (((x_slots ((((3 : Int32) * (own_i0 sx vb)) + (2 : Int32))).toNatClampNeg)).toUInt64) ms)).toInt64)) else (if (lcmpW (x_slots (((3 : Int32) * (own_i1 sx vb))).toNatClampNeg) (0 : Int64)) = (0 : Int32) then (own_up (own_up (own_up x_slots (((3 : Int32) * (own_i1 sx vb))).toNatClampNeg (sx.toInt64 + (1 : Int64))) ((((3 : Int32) * (own_i1 sx vb)) + (1 : Int32))).toNatClampNeg vb) ((((3 : Int32) * (own_i1 sx vb)) + (2 : Int32))).toNatClampNeg ((ms).toInt64)) else (if (lcmpW (x_slots (((3 : Int32) * (own_i1 sx vb))).toNatClampNeg) (sx.toInt64 + (1 : Int64))) = (0 : Int32) then (if (lcmpW (x_slots ((((3 : Int32) * (own_i1 sx vb)) + (1 : Int32))).toNatClampNeg) vb) = (0 : Int32) then (own_up x_slots ((((3 : Int32) * (own_i1 sx vb)) + (2 : Int32))).toNatClampNeg (((FP.dadd (((x_slots ((((3 : Int32) * (own_i1 sx vb)) + (2 : Int32))).toNatClampNeg)).toUInt64) ms)).toInt64)) else (if (lcmpW (x_slots (((3 : Int32) * (own_i2 sx vb))).toNatClampNeg) (0 : Int64)) = (0 : Int32) then (own_up (own_up (own_up x_slots (((3 : Int32) * (own_i2 sx vb))).toNatClampNeg (sx.toInt64 + (1 : Int64))) ((((3 : Int32) * (own_i2 sx vb)) + (1 : Int32))).toNatClampNeg vb) ((((3 : Int32) * (own_i2 sx vb)) + (2 : Int32))).toNatClampNeg ((ms).toInt64)) else (own_up x_slots ((((3 : Int32) * (own_i2 sx vb)) + (2 : Int32))).toNatClampNeg (((FP.dadd (((x_slots ((((3 : Int32) * (own_i2 sx vb)) + (2 : Int32))).toNatClampNeg)).toUInt64) ms)).toInt64)))) else (if (lcmpW (x_slots (((3 : Int32) * (own_i2 sx vb))).toNatClampNeg) (0 : Int64)) = (0 : Int32) then (own_up (own_up (own_up x_slots (((3 : Int32) * (own_i2 sx vb))).toNatClampNeg (sx.toInt64 + (1 : Int64))) ((((3 : Int32) * (own_i2 sx vb)) + (1 : Int32))).toNatClampNeg vb) ((((3 : Int32) * (own_i2 sx vb)) + (2 : Int32))).toNatClampNeg ((ms).toInt64)) else (own_up x_slots ((((3 : Int32) * (own_i2 sx vb)) + (2 : Int32))).toNatClampNeg (((FP.dadd (((x_slots ((((3 : Int32) * (own_i2 sx vb)) + (2 : Int32))).toNatClampNeg)).toUInt64) ms)).toInt64)))))) else (if (lcmpW (x_slots (((3 : Int32) * (own_i1 sx vb))).toNatClampNeg) (0 : Int64)) = (0 : Int32) then (own_up (own_up (own_up x_slots (((3 : Int32) * (own_i1 sx vb))).toNatClampNeg (sx.toInt64 + (1 : Int64))) ((((3 : Int32) * (own_i1 sx vb)) + (1 : Int32))).toNatClampNeg vb) ((((3 : Int32) * (own_i1 sx vb)) + (2 : Int32))).toNatClampNeg ((ms).toInt64)) else (if (lcmpW (x_slots (((3 : Int32) * (own_i1 sx vb))).toNatClampNeg) (sx.toInt64 + (1 : Int64))) = (0 : Int32) then (if (lcmpW (x_slots ((((3 : Int32) * (own_i1 sx vb)) + (1 : Int32))).toNatClampNeg) vb) = (0 : Int32) then (own_up x_slots ((((3 : Int32) * (own_i1 sx vb)) + (2 : Int32))).toNatClampNeg (((FP.dadd (((x_slots ((((3 : Int32) * (own_i1 sx vb)) + (2 : Int32))).toNatClampNeg)).toUInt64) ms)).toInt64)) else (if (lcmpW (x_slots (((3 : Int32) * (own_i2 sx vb))).toNatClampNeg) (0 : Int64)) = (0 : Int32) then (own_up (own_up (own_up x_slots (((3 : Int32) * (own_i2 sx vb))).toNatClampNeg (sx.toInt64 + (1 : Int64))) ((((3 : Int32) * (own_i2 sx vb)) + (1 : Int32))).toNatClampNeg vb) ((((3 : Int32) * (own_i2 sx vb)) + (2 : Int32))).toNatClampNeg ((ms).toInt64)) else (own_up x_slots ((((3 : Int32) * (own_i2 sx vb)) + (2 : Int32))).toNatClampNeg (((FP.dadd (((x_slots ((((3 : Int32) * (own_i2 sx vb)) + (2 : Int32))).toNatClampNeg)).toUInt64) ms)).toInt64)))) else (if (lcmpW (x_slots (((3 : Int32) * (own_i2 sx vb))).toNatClampNeg) (0 : Int64)) = (0 : Int32) then (own_up (own_up (own_up x_slots (((3 : Int32) * (own_i2 sx vb))).toNatClampNeg (sx.toInt64 + (1 : Int64))) ((((3 : Int32) * (own_i2 sx vb)) + (1 : Int32))).toNatClampNeg vb) ((((3 : Int32) * (own_i2 sx vb)) + (2 : Int32))).toNatClampNeg ((ms).toInt64)) else (own_up x_slots ((((3 : Int32) * (own_i2 sx vb)) + (2 : Int32))).toNatClampNeg (((FP.dadd (((x_slots ((((3 : Int32) * (own_i2 sx vb)) + (2 : Int32))).toNatClampNeg)).toUInt64) ms)).toInt64)))))))
def f5_entrySlots (sx : Int32) (vb : Int64) (ms : UInt64) (z_size : Int32) (x_slots : (Nat → Int64)) (x_entrySlots : (Nat → Int32)) : (Nat → Int32) := (if (lcmpW (x_slots (((3 : Int32) * (own_i0 sx vb))).toNatClampNeg) (0 : Int64)) = (0 : Int32) then (own_up x_entrySlots (z_size).toNatClampNeg (own_i0 sx vb)) else (if (lcmpW (x_slots (((3 : Int32) * (own_i0 sx vb))).toNatClampNeg) (sx.toInt64 + (1 : Int64))) = (0 : Int32) then (if (lcmpW (x_slots ((((3 : Int32) * (own_i0 sx vb)) + (1 : Int32))).toNatClampNeg) vb) = (0 : Int32) then x_entrySlots else (if (lcmpW (x_slots (((3 : Int32) * (own_i1 sx vb))).toNatClampNeg) (0 : Int64)) = (0 : Int32) then (own_up x_entrySlots (z_size).toNatClampNeg (own_i1 sx vb)) else (if (lcmpW (x_slots (((3 : Int32) * (own_i1 sx vb))).toNatClampNeg) (sx.toInt64 + (1 : Int64))) = (0 : Int32) then (if (lcmpW (x_slots ((((3 : Int32) * (own_i1 sx vb)) + (1 : Int32))).toNatClampNeg) vb) = (0 : Int32) then x_entrySlots else (if (lcmpW (x_slots (((3 : Int32) * (own_i2 sx vb))).toNatClampNeg) (0 : Int64)) = (0 : Int32) then (own_up x_entrySlots (z_size).toNatClampNeg (own_i2 sx vb)) else x_entrySlots)) else (if (lcmpW (x_slots (((3 : Int32) * (own_i2 sx vb))).toNatClampNeg) (0 : Int64)) = (0 : Int32) then (own_up x_entrySlots (z_size).toNatClampNeg (own_i2 sx vb)) else x_entrySlots)))) else (if (lcmpW (x_slots (((3 : Int32) * (own_i1 sx vb))).toNatClampNeg) (0 : Int64)) = (0 : Int32) then (own_up x_entrySlots (z_size).toNatClampNeg (own_i1 sx vb)) else (if (lcmpW (x_slots (((3 : Int32) * (own_i1 sx vb))).toNatClampNeg) (sx.toInt64 + (1 : Int64))) = (0 : Int32) then (if (lcmpW (x_slots ((((3 : Int32) * (own_i1 sx vb)) + (1 : Int32))).toNatClampNeg) vb) = (0 : Int32) then x_entrySlots else (if (lcmpW (x_slots (((3 : Int32) * (own_i2 sx vb))).toNatClampNeg) (0 : Int64)) = (0 : Int32) then (own_up x_entrySlots (z_size).toNatClampNeg (own_i2 sx vb)) else x_entrySlots)) else (if (lcmpW (x_slots (((3 : Int32) * (own_i2 sx vb))).toNatClampNeg) (0 : Int64)) = (0 : Int32) then (own_up x_entrySlots (z_size).toNatClampNeg (own_i2 sx vb)) else x_entrySlots)))))
theorem d5_0 : decode prog_63_method_4_code 0 = .ok (.aload_n 0, 1) := by decide +kernel
theorem d5_1 : decode prog_63_method_4_code 1 = .ok (.getfield 9, 3) := by decide +kernel
theorem d5_4 : decode prog_63_method_4_code 4 = .ok (.arraylength, 1) := by decide +kernel
theorem d5_5 : decode prog_63_method_4_code 5 = .ok (.iconst 3, 1) := by decide +kernel
theorem d5_6 : decode prog_63_method_4_code 6 = .ok (.idiv, 1) := by decide +kernel
theorem d5_7 : decode prog_63_method_4_code 7 = .ok (.iconst 1, 1) := by decide +kernel
theorem d5_8 : decode prog_63_method_4_code 8 = .ok (.isub, 1) := by decide +kernel
theorem d5_9 : decode prog_63_method_4_code 9 = .ok (.istore 7, 2) := by decide +kernel
theorem d5_11 : decode prog_63_method_4_code 11 = .ok (.iload_n 1, 1) := by decide +kernel
theorem d5_12 : decode prog_63_method_4_code 12 = .ok (.lload_n 2, 1) := by decide +kernel
theorem d5_13 : decode prog_63_method_4_code 13 = .ok (.invokestatic 33, 3) := by decide +kernel
theorem d5_16 : decode prog_63_method_4_code 16 = .ok (.iload 7, 2) := by decide +kernel
theorem d5_18 : decode prog_63_method_4_code 18 = .ok (.iand, 1) := by decide +kernel
theorem d5_19 : decode prog_63_method_4_code 19 = .ok (.istore 8, 2) := by decide +kernel
theorem d5_21 : decode prog_63_method_4_code 21 = .ok (.aload_n 0, 1) := by decide +kernel
theorem d5_22 : decode prog_63_method_4_code 22 = .ok (.getfield 9, 3) := by decide +kernel
theorem d5_25 : decode prog_63_method_4_code 25 = .ok (.iconst 3, 1) := by decide +kernel
theorem d5_26 : decode prog_63_method_4_code 26 = .ok (.iload 8, 2) := by decide +kernel
theorem d5_28 : decode prog_63_method_4_code 28 = .ok (.imul, 1) := by decide +kernel
theorem d5_29 : decode prog_63_method_4_code 29 = .ok (.laload, 1) := by decide +kernel
theorem d5_30 : decode prog_63_method_4_code 30 = .ok (.lconst 0, 1) := by decide +kernel
theorem d5_31 : decode prog_63_method_4_code 31 = .ok (.lcmp, 1) := by decide +kernel
theorem d5_32 : decode prog_63_method_4_code 32 = .ok (.ifCond .eq 91, 3) := by decide +kernel
theorem d5_35 : decode prog_63_method_4_code 35 = .ok (.aload_n 0, 1) := by decide +kernel
theorem d5_36 : decode prog_63_method_4_code 36 = .ok (.getfield 9, 3) := by decide +kernel
theorem d5_39 : decode prog_63_method_4_code 39 = .ok (.iconst 3, 1) := by decide +kernel
theorem d5_40 : decode prog_63_method_4_code 40 = .ok (.iload 8, 2) := by decide +kernel
theorem d5_42 : decode prog_63_method_4_code 42 = .ok (.imul, 1) := by decide +kernel
theorem d5_43 : decode prog_63_method_4_code 43 = .ok (.laload, 1) := by decide +kernel
theorem d5_44 : decode prog_63_method_4_code 44 = .ok (.iload_n 1, 1) := by decide +kernel
theorem d5_45 : decode prog_63_method_4_code 45 = .ok (.i2l, 1) := by decide +kernel
theorem d5_46 : decode prog_63_method_4_code 46 = .ok (.lconst 1, 1) := by decide +kernel
theorem d5_47 : decode prog_63_method_4_code 47 = .ok (.ladd, 1) := by decide +kernel
theorem d5_48 : decode prog_63_method_4_code 48 = .ok (.lcmp, 1) := by decide +kernel
theorem d5_49 : decode prog_63_method_4_code 49 = .ok (.ifCond .ne 62, 3) := by decide +kernel
theorem d5_52 : decode prog_63_method_4_code 52 = .ok (.aload_n 0, 1) := by decide +kernel
theorem d5_53 : decode prog_63_method_4_code 53 = .ok (.getfield 9, 3) := by decide +kernel
theorem d5_56 : decode prog_63_method_4_code 56 = .ok (.iconst 3, 1) := by decide +kernel
theorem d5_57 : decode prog_63_method_4_code 57 = .ok (.iload 8, 2) := by decide +kernel
theorem d5_59 : decode prog_63_method_4_code 59 = .ok (.imul, 1) := by decide +kernel
theorem d5_60 : decode prog_63_method_4_code 60 = .ok (.iconst 1, 1) := by decide +kernel
theorem d5_61 : decode prog_63_method_4_code 61 = .ok (.iadd, 1) := by decide +kernel
theorem d5_62 : decode prog_63_method_4_code 62 = .ok (.laload, 1) := by decide +kernel
theorem d5_63 : decode prog_63_method_4_code 63 = .ok (.lload_n 2, 1) := by decide +kernel
theorem d5_64 : decode prog_63_method_4_code 64 = .ok (.lcmp, 1) := by decide +kernel
theorem d5_65 : decode prog_63_method_4_code 65 = .ok (.ifCond .ne 46, 3) := by decide +kernel
theorem d5_68 : decode prog_63_method_4_code 68 = .ok (.aload_n 0, 1) := by decide +kernel
theorem d5_69 : decode prog_63_method_4_code 69 = .ok (.iload 8, 2) := by decide +kernel
theorem d5_71 : decode prog_63_method_4_code 71 = .ok (.aload 4, 2) := by decide +kernel
theorem d5_73 : decode prog_63_method_4_code 73 = .ok (.invokevirtual 37, 3) := by decide +kernel
theorem d5_76 : decode prog_63_method_4_code 76 = .ok (.ifCond .eq 35, 3) := by decide +kernel
theorem d5_79 : decode prog_63_method_4_code 79 = .ok (.aload_n 0, 1) := by decide +kernel
theorem d5_80 : decode prog_63_method_4_code 80 = .ok (.getfield 9, 3) := by decide +kernel
theorem d5_83 : decode prog_63_method_4_code 83 = .ok (.iconst 3, 1) := by decide +kernel
theorem d5_84 : decode prog_63_method_4_code 84 = .ok (.iload 8, 2) := by decide +kernel
theorem d5_86 : decode prog_63_method_4_code 86 = .ok (.imul, 1) := by decide +kernel
theorem d5_87 : decode prog_63_method_4_code 87 = .ok (.iconst 2, 1) := by decide +kernel
theorem d5_88 : decode prog_63_method_4_code 88 = .ok (.iadd, 1) := by decide +kernel
theorem d5_89 : decode prog_63_method_4_code 89 = .ok (.aload_n 0, 1) := by decide +kernel
theorem d5_90 : decode prog_63_method_4_code 90 = .ok (.getfield 9, 3) := by decide +kernel
theorem d5_93 : decode prog_63_method_4_code 93 = .ok (.iconst 3, 1) := by decide +kernel
theorem d5_94 : decode prog_63_method_4_code 94 = .ok (.iload 8, 2) := by decide +kernel
theorem d5_96 : decode prog_63_method_4_code 96 = .ok (.imul, 1) := by decide +kernel
theorem d5_97 : decode prog_63_method_4_code 97 = .ok (.iconst 2, 1) := by decide +kernel
theorem d5_98 : decode prog_63_method_4_code 98 = .ok (.iadd, 1) := by decide +kernel
theorem d5_99 : decode prog_63_method_4_code 99 = .ok (.laload, 1) := by decide +kernel
theorem d5_100 : decode prog_63_method_4_code 100 = .ok (.invokestatic 41, 3) := by decide +kernel
theorem d5_103 : decode prog_63_method_4_code 103 = .ok (.dload 5, 2) := by decide +kernel
theorem d5_105 : decode prog_63_method_4_code 105 = .ok (.dadd, 1) := by decide +kernel
theorem d5_106 : decode prog_63_method_4_code 106 = .ok (.invokestatic 17, 3) := by decide +kernel
theorem d5_109 : decode prog_63_method_4_code 109 = .ok (.lastore, 1) := by decide +kernel
theorem d5_110 : decode prog_63_method_4_code 110 = .ok (.return_, 1) := by decide +kernel
theorem d5_111 : decode prog_63_method_4_code 111 = .ok (.iload 8, 2) := by decide +kernel
theorem d5_113 : decode prog_63_method_4_code 113 = .ok (.iconst 1, 1) := by decide +kernel
theorem d5_114 : decode prog_63_method_4_code 114 = .ok (.iadd, 1) := by decide +kernel
theorem d5_115 : decode prog_63_method_4_code 115 = .ok (.iload 7, 2) := by decide +kernel
theorem d5_117 : decode prog_63_method_4_code 117 = .ok (.iand, 1) := by decide +kernel
theorem d5_118 : decode prog_63_method_4_code 118 = .ok (.istore 8, 2) := by decide +kernel
theorem d5_120 : decode prog_63_method_4_code 120 = .ok (.goto (-99), 3) := by decide +kernel
theorem d5_123 : decode prog_63_method_4_code 123 = .ok (.aload_n 0, 1) := by decide +kernel
theorem d5_124 : decode prog_63_method_4_code 124 = .ok (.getfield 45, 3) := by decide +kernel
theorem d5_127 : decode prog_63_method_4_code 127 = .ok (.aload_n 0, 1) := by decide +kernel
theorem d5_128 : decode prog_63_method_4_code 128 = .ok (.getfield 13, 3) := by decide +kernel
theorem d5_131 : decode prog_63_method_4_code 131 = .ok (.arraylength, 1) := by decide +kernel
theorem d5_132 : decode prog_63_method_4_code 132 = .ok (.if_icmp .ne 18, 3) := by decide +kernel
theorem d5_135 : decode prog_63_method_4_code 135 = .ok (.aload_n 0, 1) := by decide +kernel
theorem d5_136 : decode prog_63_method_4_code 136 = .ok (.invokevirtual 49, 3) := by decide +kernel
theorem d5_139 : decode prog_63_method_4_code 139 = .ok (.aload_n 0, 1) := by decide +kernel
theorem d5_140 : decode prog_63_method_4_code 140 = .ok (.iload_n 1, 1) := by decide +kernel
theorem d5_141 : decode prog_63_method_4_code 141 = .ok (.lload_n 2, 1) := by decide +kernel
theorem d5_142 : decode prog_63_method_4_code 142 = .ok (.aload 4, 2) := by decide +kernel
theorem d5_144 : decode prog_63_method_4_code 144 = .ok (.dload 5, 2) := by decide +kernel
theorem d5_146 : decode prog_63_method_4_code 146 = .ok (.invokevirtual 23, 3) := by decide +kernel
theorem d5_149 : decode prog_63_method_4_code 149 = .ok (.return_, 1) := by decide +kernel
theorem d5_150 : decode prog_63_method_4_code 150 = .ok (.aload_n 0, 1) := by decide +kernel
theorem d5_151 : decode prog_63_method_4_code 151 = .ok (.getfield 9, 3) := by decide +kernel
theorem d5_154 : decode prog_63_method_4_code 154 = .ok (.iconst 3, 1) := by decide +kernel
theorem d5_155 : decode prog_63_method_4_code 155 = .ok (.iload 8, 2) := by decide +kernel
theorem d5_157 : decode prog_63_method_4_code 157 = .ok (.imul, 1) := by decide +kernel
theorem d5_158 : decode prog_63_method_4_code 158 = .ok (.iload_n 1, 1) := by decide +kernel
theorem d5_159 : decode prog_63_method_4_code 159 = .ok (.i2l, 1) := by decide +kernel
theorem d5_160 : decode prog_63_method_4_code 160 = .ok (.lconst 1, 1) := by decide +kernel
theorem d5_161 : decode prog_63_method_4_code 161 = .ok (.ladd, 1) := by decide +kernel
theorem d5_162 : decode prog_63_method_4_code 162 = .ok (.lastore, 1) := by decide +kernel
theorem d5_163 : decode prog_63_method_4_code 163 = .ok (.aload_n 0, 1) := by decide +kernel
theorem d5_164 : decode prog_63_method_4_code 164 = .ok (.getfield 9, 3) := by decide +kernel
theorem d5_167 : decode prog_63_method_4_code 167 = .ok (.iconst 3, 1) := by decide +kernel
theorem d5_168 : decode prog_63_method_4_code 168 = .ok (.iload 8, 2) := by decide +kernel
theorem d5_170 : decode prog_63_method_4_code 170 = .ok (.imul, 1) := by decide +kernel
theorem d5_171 : decode prog_63_method_4_code 171 = .ok (.iconst 1, 1) := by decide +kernel
theorem d5_172 : decode prog_63_method_4_code 172 = .ok (.iadd, 1) := by decide +kernel
theorem d5_173 : decode prog_63_method_4_code 173 = .ok (.lload_n 2, 1) := by decide +kernel
theorem d5_174 : decode prog_63_method_4_code 174 = .ok (.lastore, 1) := by decide +kernel
theorem d5_175 : decode prog_63_method_4_code 175 = .ok (.aload_n 0, 1) := by decide +kernel
theorem d5_176 : decode prog_63_method_4_code 176 = .ok (.getfield 9, 3) := by decide +kernel
theorem d5_179 : decode prog_63_method_4_code 179 = .ok (.iconst 3, 1) := by decide +kernel
theorem d5_180 : decode prog_63_method_4_code 180 = .ok (.iload 8, 2) := by decide +kernel
theorem d5_182 : decode prog_63_method_4_code 182 = .ok (.imul, 1) := by decide +kernel
theorem d5_183 : decode prog_63_method_4_code 183 = .ok (.iconst 2, 1) := by decide +kernel
theorem d5_184 : decode prog_63_method_4_code 184 = .ok (.iadd, 1) := by decide +kernel
theorem d5_185 : decode prog_63_method_4_code 185 = .ok (.dload 5, 2) := by decide +kernel
theorem d5_187 : decode prog_63_method_4_code 187 = .ok (.invokestatic 17, 3) := by decide +kernel
theorem d5_190 : decode prog_63_method_4_code 190 = .ok (.lastore, 1) := by decide +kernel
theorem d5_191 : decode prog_63_method_4_code 191 = .ok (.aload 4, 2) := by decide +kernel
theorem d5_193 : decode prog_63_method_4_code 193 = .ok (.ifnull 33, 3) := by decide +kernel
theorem d5_196 : decode prog_63_method_4_code 196 = .ok (.aload_n 0, 1) := by decide +kernel
theorem d5_197 : decode prog_63_method_4_code 197 = .ok (.getfield 52, 3) := by decide +kernel
theorem d5_200 : decode prog_63_method_4_code 200 = .ok (.ifnonnull 17, 3) := by decide +kernel
theorem d5_203 : decode prog_63_method_4_code 203 = .ok (.aload_n 0, 1) := by decide +kernel
theorem d5_204 : decode prog_63_method_4_code 204 = .ok (.aload_n 0, 1) := by decide +kernel
theorem d5_205 : decode prog_63_method_4_code 205 = .ok (.getfield 9, 3) := by decide +kernel
theorem d5_208 : decode prog_63_method_4_code 208 = .ok (.arraylength, 1) := by decide +kernel
theorem d5_209 : decode prog_63_method_4_code 209 = .ok (.iconst 3, 1) := by decide +kernel
theorem d5_210 : decode prog_63_method_4_code 210 = .ok (.idiv, 1) := by decide +kernel
theorem d5_211 : decode prog_63_method_4_code 211 = .ok (.anewarray 28, 3) := by decide +kernel
theorem d5_214 : decode prog_63_method_4_code 214 = .ok (.putfield 52, 3) := by decide +kernel
theorem d5_217 : decode prog_63_method_4_code 217 = .ok (.aload_n 0, 1) := by decide +kernel
theorem d5_218 : decode prog_63_method_4_code 218 = .ok (.getfield 52, 3) := by decide +kernel
theorem d5_221 : decode prog_63_method_4_code 221 = .ok (.iload 8, 2) := by decide +kernel
theorem d5_223 : decode prog_63_method_4_code 223 = .ok (.aload 4, 2) := by decide +kernel
theorem d5_225 : decode prog_63_method_4_code 225 = .ok (.aastore, 1) := by decide +kernel
theorem d5_226 : decode prog_63_method_4_code 226 = .ok (.aload_n 0, 1) := by decide +kernel
theorem d5_227 : decode prog_63_method_4_code 227 = .ok (.getfield 13, 3) := by decide +kernel
theorem d5_230 : decode prog_63_method_4_code 230 = .ok (.aload_n 0, 1) := by decide +kernel
theorem d5_231 : decode prog_63_method_4_code 231 = .ok (.dup, 1) := by decide +kernel
theorem d5_232 : decode prog_63_method_4_code 232 = .ok (.getfield 45, 3) := by decide +kernel
theorem d5_235 : decode prog_63_method_4_code 235 = .ok (.dup_x1, 1) := by decide +kernel
theorem d5_236 : decode prog_63_method_4_code 236 = .ok (.iconst 1, 1) := by decide +kernel
theorem d5_237 : decode prog_63_method_4_code 237 = .ok (.iadd, 1) := by decide +kernel
theorem d5_238 : decode prog_63_method_4_code 238 = .ok (.putfield 45, 3) := by decide +kernel
theorem d5_241 : decode prog_63_method_4_code 241 = .ok (.iload 8, 2) := by decide +kernel
theorem d5_243 : decode prog_63_method_4_code 243 = .ok (.iastore, 1) := by decide +kernel
theorem d5_244 : decode prog_63_method_4_code 244 = .ok (.return_, 1) := by decide +kernel
theorem ef_5 (m : MethodId) (x0 : Addr) (x1 : Int32) (x2 : Int64) (x4 : UInt64) : entryFrame m #[(.ref x0), (.int x1), (.long x2), .null, (.double x4)] 9 = mkF m 0 #[.val (.ref x0), .val (.int x1), .val (.long x2), .second, .val .null, .val (.double x4), .second, .unset, .unset] [] := by first | (simp [entryFrame, mkF, argsToLocals, Value.category]; done) | rfl
def Q5 (Z : State) (a1 : Addr) (sx : Int32) (vb : Int64) (ms : UInt64) (z_slots : Addr) (z_entrySlots : Addr) (z_size : Int32) (k_slots : ClassId) (x_slots : (Nat → Int64)) (k_entrySlots : ClassId) (x_entrySlots : (Nat → Int32)) (h0 : Heap) (n0 : Nat) (v : Option Value) (h : Heap) (L : List Loc) : Prop := v = none ∧ Fr n0 L ∧ Keep h0 h [a1, z_slots, z_entrySlots] ∧ Exa Z h a1 "com/example/ketproof/ketproof/MassTable" ∧ Fld Z h a1 "com/example/ketproof/ketproof/MassTable" "slots" "[J" (.ref z_slots) ∧ Fld Z h a1 "com/example/ketproof/ketproof/MassTable" "entrySlots" "[I" (.ref z_entrySlots) ∧ Fld Z h a1 "com/example/ketproof/ketproof/MassTable" "size" "I" (.int (f5_size sx vb ms z_size x_slots x_entrySlots)) ∧ Fld Z h a1 "com/example/ketproof/ketproof/MassTable" "decimals" "[Ljava/math/BigDecimal;" .null ∧ Arv Z h z_slots k_slots .long (96 : Int32) (own_L (f5_slots sx vb ms z_size x_slots x_entrySlots)) (.long (0 : Int64)) ∧ Arv Z h z_entrySlots k_entrySlots .int (16 : Int32) (own_E (f5_entrySlots sx vb ms z_size x_slots x_entrySlots)) (.int (0 : Int32))
set_option maxRecDepth 65536 in
set_option maxHeartbeats 40000000 in
theorem rm5 (l : Launch) (Z : State) (a0 : Array Value) (hw : ∀ d ∈ tables_1, d.before a0 Z = true) (ws : List Jvm.Cond) (a1 : Addr) (sx : Int32) (vb : Int64) (ms : UInt64) (z_slots : Addr) (z_entrySlots : Addr) (z_size : Int32) (k_slots : ClassId) (x_slots : (Nat → Int64)) (k_entrySlots : ClassId) (x_entrySlots : (Nat → Int32)) (h0 : Heap) (n0 : Nat) (Z0 : n0 ≤ h0.size) (E1 : Exa Z h0 a1 "com/example/ketproof/ketproof/MassTable") (F_slots_a1 : Fld Z h0 a1 "com/example/ketproof/ketproof/MassTable" "slots" "[J" (.ref z_slots)) (F_entrySlots_a1 : Fld Z h0 a1 "com/example/ketproof/ketproof/MassTable" "entrySlots" "[I" (.ref z_entrySlots)) (F_size_a1 : Fld Z h0 a1 "com/example/ketproof/ketproof/MassTable" "size" "I" (.int z_size)) (F_decimals_a1 : Fld Z h0 a1 "com/example/ketproof/ketproof/MassTable" "decimals" "[Ljava/math/BigDecimal;" .null) (g1 : n0 ≤ a1) (V_slots : Arv Z h0 z_slots k_slots .long (96 : Int32) (own_L x_slots) (.long (0 : Int64))) (g_slots : n0 ≤ z_slots) (ne_slots : a1 ≠ z_slots) (V_entrySlots : Arv Z h0 z_entrySlots k_entrySlots .int (16 : Int32) (own_E x_entrySlots) (.int (0 : Int32))) (g_entrySlots : n0 ≤ z_entrySlots) (ne_entrySlots : a1 ≠ z_entrySlots) (ne_entrySlots_slots : z_entrySlots ≠ z_slots) (hsz : 0 ≤ z_size.toInt ∧ z_size.toInt ≤ 3) (hst : own_stop x_slots sx vb) (hM : own_M x_slots) (hms : Jvm.Free.Fl.Fin64 ms) :
    MetFree l (⟨"com/example/ketproof/ketproof/MassTable", "add", "(IJLjava/math/BigDecimal;D)V"⟩ : MethodName) (head1 (Jvm.Cond.code (⟨"com/example/ketproof/ketproof/MassTable", "add", "(IJLjava/math/BigDecimal;D)V"⟩ : MethodName) prog_63_method_4_code 9 none :: ws) ({ frames := 1, cells := 0, slots := 0, locals := 22 } : Room)) (fun a U => a = #[(.ref a1), (.int sx), (.long vb), .null, (.double ms)] ∧ Z.Warmed39 U.vm ∧ U.heap = h0) (fun _ _ _ _ _ => True) (fun _ U o U' => ∃ v L, o = .returned v ∧ Q5 Z a1 sx vb ms z_slots z_entrySlots z_size k_slots x_slots k_entrySlots x_entrySlots h0 n0 v U'.heap L ∧ FrameEnd U o U' L ({ frames := 1, cells := 0, slots := 0, locals := 22 } : Room).cells ({ frames := 1, cells := 0, slots := 0, locals := 22 } : Room).slots) := by
  refine MetFree.of_bodySF (plainFor_of_name pn_0) hisR ?_
  intro p e s m args below meth c s₁ Bd hml0 hP hK
  obtain ⟨rfl, hZ, hh⟩ := hP
  have hx := Bd.exec
  have hby := Bd.bytes
  have hml : c.maxLocals = 9 := hml0
  have hown : s.vm.findClass "com/example/ketproof/ketproof/MassTable" = some m.cls := findClass_of_methodNamed Bd.named
  have hnm := (name_of_methodNamed Bd.named Bd.method).1
  have X0 : Stand p l e ({ frames := 1, cells := 0, slots := 0, locals := 22 } : Room) s m #[(.ref a1), (.int sx), (.long vb), .null, (.double ms)] below meth c s₁ [] 0 0 := Stand.of_body Bd
  have e0 : s₁.heap = h0 := by rw [← hh, Bd.state]; rfl
  have N0 := Fr.nil n0
  have pre0 : ∀ t, Steps p.tables e below (s₁.setTop (mkF m 0 #[.val (.ref a1), .val (.int sx), .val (.long vb), .second, .val .null, .val (.double ms), .second, .unset, .unset] [])) t → Steps p.tables e below (s₁.setTop (entryFrame m #[(.ref a1), (.int sx), (.long vb), .null, (.double ms)] 9)) t := fun t k => castTop (ef_5 m a1 sx vb ms) k
  obtain ⟨T51, X51, e51, st51⟩ := getF X0 hx hZ hown (host := "") (Or.inl (hw _ (List.mem_of_getElem? (i := 10) rfl))) Via.refl e0 F_slots_a1 (g := (mkF m 1 #[.val (.ref a1), .val (.int sx), .val (.long vb), .second, .val .null, .val (.double ms), .second, .unset, .unset] [(.ref a1)])) rfl rfl (hb hby d5_1)
  obtain ⟨cl52, Ar52, qa52, Sa52, Na52, Ha52, Ga52⟩ := id V_slots
  obtain ⟨_, _, ⟨T53, L53, k53, n53⟩, -, X53, ⟨Lc53, hQ53, l53, y53, z53⟩, st53⟩ := Jvm.LawKit.callS X51 hx (y := (⟨"com/example/ketproof/ketproof/MassTable", "hash", "(IJ)I"⟩ : MethodName)) hown (mvT hZ (hw _ (List.mem_of_getElem? (i := 35) rfl))) (mvT hZ (hw _ (List.mem_of_getElem? (i := 36) rfl))) (mvT hZ (hw _ (List.mem_of_getElem? (i := 2) rfl))) (mvT hZ (hw _ (List.mem_of_getElem? (i := 37) rfl))) (by decide) (backOf (W := 0) (rm6 l Z a0 hw [] sx vb h0 n0 Z0) hZ (hw _ (List.mem_of_getElem? (i := 37) rfl)) (hw _ (List.mem_of_getElem? (i := 2) rfl)) (by decide) (by decide)) (g := (mkF m 13 #[.val (.ref a1), .val (.int sx), .val (.long vb), .second, .val .null, .val (.double ms), .second, .val (.int own_mk), .unset] [(.long vb), (.int sx)])) rfl (by rw [hml]; rfl) (argsL := [(.int sx), (.long vb)]) (rest := []) (lenOf pd_0 rfl) rfl (by show 2 * 0 + _ ≤ _; exact Nat.le_of_eq rfl) (hb hby d5_13) (fun _ _ => ⟨rfl, e51, (by decide : 0 + 0 ≤ _), (by decide : 0 + 0 ≤ _)⟩)
  dsimp only [Pt.U, Pt.locs, Pt.cells, Pt.slots] at X53 l53 y53 z53 st53 hQ53
  subst l53 y53 z53
  obtain ⟨rfl, N53q, e53⟩ := hQ53
  have N53 := Fr.app N0 N53q
  obtain ⟨T54, X54, e54, st54⟩ := getF X53 hx hZ hown (host := "") (Or.inl (hw _ (List.mem_of_getElem? (i := 10) rfl))) Via.refl e53 F_slots_a1 (g := (mkF m 22 #[.val (.ref a1), .val (.int sx), .val (.long vb), .second, .val .null, .val (.double ms), .second, .val (.int own_mk), .val (.int (own_i0 sx vb))] [(.ref a1)])) rfl rfl (hb hby d5_22)
  obtain ⟨cl55, Ar55, qa55, Sa55, Na55, Ha55, Ga55⟩ := id V_slots
  have hin55 : ¬ (((3 : Int32) * (own_i0 sx vb)) < 0 ∨ cl55.slots.size ≤ (((3 : Int32) * (own_i0 sx vb))).toNatClampNeg) := inb_of Sa55 (own_b0 (own_r0 sx vb))
  have S56 : ∀ t, Steps p.tables e below (T54.setTop (mkF m 32 #[.val (.ref a1), .val (.int sx), .val (.long vb), .second, .val .null, .val (.double ms), .second, .val (.int own_mk), .val (.int (own_i0 sx vb))] [(.int (lcmpW (x_slots (((3 : Int32) * (own_i0 sx vb))).toNatClampNeg) (0 : Int64)))])) t → Steps p.tables e below (s₁.setTop (entryFrame m #[(.ref a1), (.int sx), (.long vb), .null, (.double ms)] 9)) t := by
    intro t k
    refine pre0 t ?_
    refine XS.aloadN X0.here hx rfl (hb hby d5_0) rfl rfl ?_
    show Steps p.tables e below (s₁.setTop (mkF m 1 #[.val (.ref a1), .val (.int sx), .val (.long vb), .second, .val .null, .val (.double ms), .second, .unset, .unset] [(.ref a1)])) _
    refine st51 _ ?_
    show Steps p.tables e below (T51.setTop (mkF m 4 #[.val (.ref a1), .val (.int sx), .val (.long vb), .second, .val .null, .val (.double ms), .second, .unset, .unset] [(.ref z_slots)])) _
    refine X51.arraylength hx (by rw [e51]; exact Ar52.1) (State.isArrayOf_alike hZ.alike Ar52.2.1) (g := (mkF m 4 #[.val (.ref a1), .val (.int sx), .val (.long vb), .second, .val .null, .val (.double ms), .second, .unset, .unset] [(.ref z_slots)])) rfl rfl (hb hby d5_4) _ ?_
    rw [len_of Sa52 Na52]
    show Steps p.tables e below (T51.setTop (mkF m 5 #[.val (.ref a1), .val (.int sx), .val (.long vb), .second, .val .null, .val (.double ms), .second, .unset, .unset] [(.int (96 : Int32))])) _
    refine XS.iconst X51.here hx rfl (hb hby d5_5) ?_
    show Steps p.tables e below (T51.setTop (mkF m 6 #[.val (.ref a1), .val (.int sx), .val (.long vb), .second, .val .null, .val (.double ms), .second, .unset, .unset] [(.int (3 : Int32)), (.int (96 : Int32))])) _
    refine XS.idiv X51.here hx rfl (hb hby d5_6) rfl (by decide) ?_
    show Steps p.tables e below (T51.setTop (mkF m 7 #[.val (.ref a1), .val (.int sx), .val (.long vb), .second, .val .null, .val (.double ms), .second, .unset, .unset] [(.int ((96 : Int32) / (3 : Int32)))])) _
    refine XS.iconst X51.here hx rfl (hb hby d5_7) ?_
    show Steps p.tables e below (T51.setTop (mkF m 8 #[.val (.ref a1), .val (.int sx), .val (.long vb), .second, .val .null, .val (.double ms), .second, .unset, .unset] [(.int (1 : Int32)), (.int ((96 : Int32) / (3 : Int32)))])) _
    refine XS.isub X51.here hx rfl (hb hby d5_8) rfl ?_
    show Steps p.tables e below (T51.setTop (mkF m 9 #[.val (.ref a1), .val (.int sx), .val (.long vb), .second, .val .null, .val (.double ms), .second, .unset, .unset] [(.int own_mk)])) _
    refine XS.istore X51.here hx rfl (hb hby d5_9) rfl (l' := #[.val (.ref a1), .val (.int sx), .val (.long vb), .second, .val .null, .val (.double ms), .second, .val (.int own_mk), .unset]) rfl ?_
    show Steps p.tables e below (T51.setTop (mkF m 11 #[.val (.ref a1), .val (.int sx), .val (.long vb), .second, .val .null, .val (.double ms), .second, .val (.int own_mk), .unset] [])) _
    refine XS.iloadN X51.here hx rfl (hb hby d5_11) rfl ?_
    show Steps p.tables e below (T51.setTop (mkF m 12 #[.val (.ref a1), .val (.int sx), .val (.long vb), .second, .val .null, .val (.double ms), .second, .val (.int own_mk), .unset] [(.int sx)])) _
    refine XS.lloadN X51.here hx rfl (hb hby d5_12) rfl ?_
    show Steps p.tables e below (T51.setTop (mkF m 13 #[.val (.ref a1), .val (.int sx), .val (.long vb), .second, .val .null, .val (.double ms), .second, .val (.int own_mk), .unset] [(.long vb), (.int sx)])) _
    refine st53 _ ?_
    show Steps p.tables e below (T53.setTop (mkF m 16 #[.val (.ref a1), .val (.int sx), .val (.long vb), .second, .val .null, .val (.double ms), .second, .val (.int own_mk), .unset] [(.int (f6 sx vb))])) _
    refine XS.iload X53.here hx rfl (hb hby d5_16) rfl ?_
    show Steps p.tables e below (T53.setTop (mkF m 18 #[.val (.ref a1), .val (.int sx), .val (.long vb), .second, .val .null, .val (.double ms), .second, .val (.int own_mk), .unset] [(.int own_mk), (.int (f6 sx vb))])) _
    refine XS.iand X53.here hx rfl (hb hby d5_18) rfl ?_
    show Steps p.tables e below (T53.setTop (mkF m 19 #[.val (.ref a1), .val (.int sx), .val (.long vb), .second, .val .null, .val (.double ms), .second, .val (.int own_mk), .unset] [(.int (own_i0 sx vb))])) _
    refine XS.istore X53.here hx rfl (hb hby d5_19) rfl (l' := #[.val (.ref a1), .val (.int sx), .val (.long vb), .second, .val .null, .val (.double ms), .second, .val (.int own_mk), .val (.int (own_i0 sx vb))]) rfl ?_
    show Steps p.tables e below (T53.setTop (mkF m 21 #[.val (.ref a1), .val (.int sx), .val (.long vb), .second, .val .null, .val (.double ms), .second, .val (.int own_mk), .val (.int (own_i0 sx vb))] [])) _
    refine XS.aloadN X53.here hx rfl (hb hby d5_21) rfl rfl ?_
    show Steps p.tables e below (T53.setTop (mkF m 22 #[.val (.ref a1), .val (.int sx), .val (.long vb), .second, .val .null, .val (.double ms), .second, .val (.int own_mk), .val (.int (own_i0 sx vb))] [(.ref a1)])) _
    refine st54 _ ?_
    show Steps p.tables e below (T54.setTop (mkF m 25 #[.val (.ref a1), .val (.int sx), .val (.long vb), .second, .val .null, .val (.double ms), .second, .val (.int own_mk), .val (.int (own_i0 sx vb))] [(.ref z_slots)])) _
    refine XS.iconst X54.here hx rfl (hb hby d5_25) ?_
    show Steps p.tables e below (T54.setTop (mkF m 26 #[.val (.ref a1), .val (.int sx), .val (.long vb), .second, .val .null, .val (.double ms), .second, .val (.int own_mk), .val (.int (own_i0 sx vb))] [(.int (3 : Int32)), (.ref z_slots)])) _
    refine XS.iload X54.here hx rfl (hb hby d5_26) rfl ?_
    show Steps p.tables e below (T54.setTop (mkF m 28 #[.val (.ref a1), .val (.int sx), .val (.long vb), .second, .val .null, .val (.double ms), .second, .val (.int own_mk), .val (.int (own_i0 sx vb))] [(.int (own_i0 sx vb)), (.int (3 : Int32)), (.ref z_slots)])) _
    refine XS.imul X54.here hx rfl (hb hby d5_28) rfl ?_
    show Steps p.tables e below (T54.setTop (mkF m 29 #[.val (.ref a1), .val (.int sx), .val (.long vb), .second, .val .null, .val (.double ms), .second, .val (.int own_mk), .val (.int (own_i0 sx vb))] [(.int ((3 : Int32) * (own_i0 sx vb))), (.ref z_slots)])) _
    refine X54.laload hx (j := ((3 : Int32) * (own_i0 sx vb))) (v := (.long (x_slots (((3 : Int32) * (own_i0 sx vb))).toNatClampNeg))) (by rw [e54]; exact Ar55.1) (State.isArrayOf_alike hZ.alike Ar55.2.1) Ar55.2.2 hin55 (Has.at Ha55 hin55 (own_rd x_slots (own_b0 (own_r0 sx vb)))) (g := (mkF m 29 #[.val (.ref a1), .val (.int sx), .val (.long vb), .second, .val .null, .val (.double ms), .second, .val (.int own_mk), .val (.int (own_i0 sx vb))] [(.int ((3 : Int32) * (own_i0 sx vb))), (.ref z_slots)])) rfl rfl (hb hby d5_29) _ ?_
    show Steps p.tables e below (T54.setTop (mkF m 30 #[.val (.ref a1), .val (.int sx), .val (.long vb), .second, .val .null, .val (.double ms), .second, .val (.int own_mk), .val (.int (own_i0 sx vb))] [(.long (x_slots (((3 : Int32) * (own_i0 sx vb))).toNatClampNeg))])) _
    refine XS.lconst X54.here hx rfl (hb hby d5_30) ?_
    show Steps p.tables e below (T54.setTop (mkF m 31 #[.val (.ref a1), .val (.int sx), .val (.long vb), .second, .val .null, .val (.double ms), .second, .val (.int own_mk), .val (.int (own_i0 sx vb))] [(.long (0 : Int64)), (.long (x_slots (((3 : Int32) * (own_i0 sx vb))).toNatClampNeg))])) _
    refine XS.lcmp X54.here hx rfl (hb hby d5_31) rfl ?_
    show Steps p.tables e below (T54.setTop (mkF m 32 #[.val (.ref a1), .val (.int sx), .val (.long vb), .second, .val .null, .val (.double ms), .second, .val (.int own_mk), .val (.int (own_i0 sx vb))] [(.int (lcmpW (x_slots (((3 : Int32) * (own_i0 sx vb))).toNatClampNeg) (0 : Int64)))])) _
    exact k
  by_cases hc57 : (lcmpW (x_slots (((3 : Int32) * (own_i0 sx vb))).toNatClampNeg) (0 : Int64)) = (0 : Int32)
  · obtain ⟨T58, X58, e58, st58⟩ := getF X54 hx hZ hown (host := "") (Or.inl (hw _ (List.mem_of_getElem? (i := 20) rfl))) Via.refl e54 F_size_a1 (g := (mkF m 124 #[.val (.ref a1), .val (.int sx), .val (.long vb), .second, .val .null, .val (.double ms), .second, .val (.int own_mk), .val (.int (own_i0 sx vb))] [(.ref a1)])) rfl rfl (hb hby d5_124)
    obtain ⟨T59, X59, e59, st59⟩ := getF X58 hx hZ hown (host := "") (Or.inl (hw _ (List.mem_of_getElem? (i := 13) rfl))) Via.refl e58 F_entrySlots_a1 (g := (mkF m 128 #[.val (.ref a1), .val (.int sx), .val (.long vb), .second, .val .null, .val (.double ms), .second, .val (.int own_mk), .val (.int (own_i0 sx vb))] [(.ref a1), (.int z_size)])) rfl rfl (hb hby d5_128)
    obtain ⟨cl60, Ar60, qa60, Sa60, Na60, Ha60, Ga60⟩ := id V_entrySlots
    obtain ⟨T61, X61, e61, st61⟩ := getF X59 hx hZ hown (host := "") (Or.inl (hw _ (List.mem_of_getElem? (i := 10) rfl))) Via.refl e59 F_slots_a1 (g := (mkF m 151 #[.val (.ref a1), .val (.int sx), .val (.long vb), .second, .val .null, .val (.double ms), .second, .val (.int own_mk), .val (.int (own_i0 sx vb))] [(.ref a1)])) rfl rfl (hb hby d5_151)
    obtain ⟨cl62, Ar62, qa62, Sa62, Na62, Ha62, Ga62⟩ := id V_slots
    have hin62 : ¬ (((3 : Int32) * (own_i0 sx vb)) < 0 ∨ cl62.slots.size ≤ (((3 : Int32) * (own_i0 sx vb))).toNatClampNeg) := inb_of Sa62 (own_b0 (own_r0 sx vb))
    obtain ⟨T63, h63, X63, e63, W63, st63⟩ := stJ X61 hx hZ e61 Ar62 (j := ((3 : Int32) * (own_i0 sx vb))) hin62 (g := (mkF m 162 #[.val (.ref a1), .val (.int sx), .val (.long vb), .second, .val .null, .val (.double ms), .second, .val (.int own_mk), .val (.int (own_i0 sx vb))] [(.long (sx.toInt64 + (1 : Int64))), (.int ((3 : Int32) * (own_i0 sx vb))), (.ref z_slots)])) rfl rfl (hb hby d5_162)
    have fa63 : Arv Z h63 z_slots k_slots .long (96 : Int32) (own_L (own_up x_slots (((3 : Int32) * (own_i0 sx vb))).toNatClampNeg (sx.toInt64 + (1 : Int64)))) (.long (0 : Int64)) := (Arv.set Ar62 qa62 Sa62 Na62 Ha62 Ga62 rfl W63 (((3 : Int32) * (own_i0 sx vb))).toNatClampNeg rfl (own_Ll x_slots (own_ix (own_b0 (own_r0 sx vb))))).pad (own_Lset x_slots (own_ix (own_b0 (own_r0 sx vb))) (sx.toInt64 + (1 : Int64)))
    have f64 : Exa Z h63 a1 "com/example/ketproof/ketproof/MassTable" := E1.wr W63
    have f65 : Fld Z h63 a1 "com/example/ketproof/ketproof/MassTable" "slots" "[J" (.ref z_slots) := F_slots_a1.other W63 (Or.inl ne_slots)
    have f66 : Fld Z h63 a1 "com/example/ketproof/ketproof/MassTable" "entrySlots" "[I" (.ref z_entrySlots) := F_entrySlots_a1.other W63 (Or.inl ne_slots)
    have f67 : Fld Z h63 a1 "com/example/ketproof/ketproof/MassTable" "size" "I" (.int z_size) := F_size_a1.other W63 (Or.inl ne_slots)
    have f68 : Fld Z h63 a1 "com/example/ketproof/ketproof/MassTable" "decimals" "[Ljava/math/BigDecimal;" .null := F_decimals_a1.other W63 (Or.inl ne_slots)
    have f69 : Arv Z h63 z_entrySlots k_entrySlots .int (16 : Int32) (own_E x_entrySlots) (.int (0 : Int32)) := V_entrySlots.other W63 ne_entrySlots_slots
    have N70 := Fr.snoc X63 N53 g_slots
    have K71 : Keep h0 h63 [a1, z_slots, z_entrySlots] := (Keep.refl h0 [a1, z_slots, z_entrySlots]).wr W63 (Or.inl (List.mem_of_getElem? (i := 1) rfl))
    have Z72 : n0 ≤ h63.size := Nat.le_trans Z0 (Keep.of_wr W63).1
    obtain ⟨T73, X73, e73, st73⟩ := getF X63 hx hZ hown (host := "") (Or.inl (hw _ (List.mem_of_getElem? (i := 10) rfl))) Via.refl e63 f65 (g := (mkF m 164 #[.val (.ref a1), .val (.int sx), .val (.long vb), .second, .val .null, .val (.double ms), .second, .val (.int own_mk), .val (.int (own_i0 sx vb))] [(.ref a1)])) rfl rfl (hb hby d5_164)
    obtain ⟨cl74, Ar74, qa74, Sa74, Na74, Ha74, Ga74⟩ := id fa63
    have hin74 : ¬ ((((3 : Int32) * (own_i0 sx vb)) + (1 : Int32)) < 0 ∨ cl74.slots.size ≤ ((((3 : Int32) * (own_i0 sx vb)) + (1 : Int32))).toNatClampNeg) := inb_of Sa74 (own_b1 (own_r0 sx vb))
    obtain ⟨T75, h75, X75, e75, W75, st75⟩ := stJ X73 hx hZ e73 Ar74 (j := (((3 : Int32) * (own_i0 sx vb)) + (1 : Int32))) hin74 (g := (mkF m 174 #[.val (.ref a1), .val (.int sx), .val (.long vb), .second, .val .null, .val (.double ms), .second, .val (.int own_mk), .val (.int (own_i0 sx vb))] [(.long vb), (.int (((3 : Int32) * (own_i0 sx vb)) + (1 : Int32))), (.ref z_slots)])) rfl rfl (hb hby d5_174)
    have fa75 : Arv Z h75 z_slots k_slots .long (96 : Int32) (own_L (own_up (own_up x_slots (((3 : Int32) * (own_i0 sx vb))).toNatClampNeg (sx.toInt64 + (1 : Int64))) ((((3 : Int32) * (own_i0 sx vb)) + (1 : Int32))).toNatClampNeg vb)) (.long (0 : Int64)) := (Arv.set Ar74 qa74 Sa74 Na74 Ha74 Ga74 rfl W75 ((((3 : Int32) * (own_i0 sx vb)) + (1 : Int32))).toNatClampNeg rfl (own_Ll (own_up x_slots (((3 : Int32) * (own_i0 sx vb))).toNatClampNeg (sx.toInt64 + (1 : Int64))) (own_ix (own_b1 (own_r0 sx vb))))).pad (own_Lset (own_up x_slots (((3 : Int32) * (own_i0 sx vb))).toNatClampNeg (sx.toInt64 + (1 : Int64))) (own_ix (own_b1 (own_r0 sx vb))) vb)
    have f76 : Exa Z h75 a1 "com/example/ketproof/ketproof/MassTable" := f64.wr W75
    have f77 : Fld Z h75 a1 "com/example/ketproof/ketproof/MassTable" "slots" "[J" (.ref z_slots) := f65.other W75 (Or.inl ne_slots)
    have f78 : Fld Z h75 a1 "com/example/ketproof/ketproof/MassTable" "entrySlots" "[I" (.ref z_entrySlots) := f66.other W75 (Or.inl ne_slots)
    have f79 : Fld Z h75 a1 "com/example/ketproof/ketproof/MassTable" "size" "I" (.int z_size) := f67.other W75 (Or.inl ne_slots)
    have f80 : Fld Z h75 a1 "com/example/ketproof/ketproof/MassTable" "decimals" "[Ljava/math/BigDecimal;" .null := f68.other W75 (Or.inl ne_slots)
    have f81 : Arv Z h75 z_entrySlots k_entrySlots .int (16 : Int32) (own_E x_entrySlots) (.int (0 : Int32)) := f69.other W75 ne_entrySlots_slots
    have N82 := Fr.snoc X75 N70 g_slots
    have K83 : Keep h0 h75 [a1, z_slots, z_entrySlots] := K71.wr W75 (Or.inl (List.mem_of_getElem? (i := 1) rfl))
    have Z84 : n0 ≤ h75.size := Nat.le_trans Z72 (Keep.of_wr W75).1
    obtain ⟨T85, X85, e85, st85⟩ := getF X75 hx hZ hown (host := "") (Or.inl (hw _ (List.mem_of_getElem? (i := 10) rfl))) Via.refl e75 f77 (g := (mkF m 176 #[.val (.ref a1), .val (.int sx), .val (.long vb), .second, .val .null, .val (.double ms), .second, .val (.int own_mk), .val (.int (own_i0 sx vb))] [(.ref a1)])) rfl rfl (hb hby d5_176)
    obtain ⟨vm86, X86, st86⟩ := X85.doubleToRawLongBits hx hown (mvT hZ (hw _ (List.mem_of_getElem? (i := 27) rfl))) (mvT hZ (hw _ (List.mem_of_getElem? (i := 30) rfl))) (mvT hZ (hw _ (List.mem_of_getElem? (i := 28) rfl))) (mvT hZ (hw _ (List.mem_of_getElem? (i := 29) rfl))) (g := (mkF m 187 #[.val (.ref a1), .val (.int sx), .val (.long vb), .second, .val .null, .val (.double ms), .second, .val (.int own_mk), .val (.int (own_i0 sx vb))] [(.double ms), (.int (((3 : Int32) * (own_i0 sx vb)) + (2 : Int32))), (.ref z_slots)])) rfl (by rw [hml]; rfl) (rest := [(.int (((3 : Int32) * (own_i0 sx vb)) + (2 : Int32))), (.ref z_slots)]) (b := ms) rfl (hb hby d5_187) (by decide) (by show 2 * 0 + 2 + (nativeFrameWords "java/lang/Double" "doubleToRawLongBits" 2 + 11) ≤ _; decide)
    obtain ⟨T86, hT86⟩ : ∃ z, z = T85.setVm vm86 := ⟨_, rfl⟩
    rw [← hT86] at X86 st86
    have e86 : T86.heap = h75 := by rw [hT86]; exact e85
    obtain ⟨cl87, Ar87, qa87, Sa87, Na87, Ha87, Ga87⟩ := id fa75
    have hin87 : ¬ ((((3 : Int32) * (own_i0 sx vb)) + (2 : Int32)) < 0 ∨ cl87.slots.size ≤ ((((3 : Int32) * (own_i0 sx vb)) + (2 : Int32))).toNatClampNeg) := inb_of Sa87 (own_b2 (own_r0 sx vb))
    obtain ⟨T88, h88, X88, e88, W88, st88⟩ := stJ X86 hx hZ e86 Ar87 (j := (((3 : Int32) * (own_i0 sx vb)) + (2 : Int32))) hin87 (g := (mkF m 190 #[.val (.ref a1), .val (.int sx), .val (.long vb), .second, .val .null, .val (.double ms), .second, .val (.int own_mk), .val (.int (own_i0 sx vb))] [(.long ((ms).toInt64)), (.int (((3 : Int32) * (own_i0 sx vb)) + (2 : Int32))), (.ref z_slots)])) rfl rfl (hb hby d5_190)
    have fa88 : Arv Z h88 z_slots k_slots .long (96 : Int32) (own_L (own_up (own_up (own_up x_slots (((3 : Int32) * (own_i0 sx vb))).toNatClampNeg (sx.toInt64 + (1 : Int64))) ((((3 : Int32) * (own_i0 sx vb)) + (1 : Int32))).toNatClampNeg vb) ((((3 : Int32) * (own_i0 sx vb)) + (2 : Int32))).toNatClampNeg ((ms).toInt64))) (.long (0 : Int64)) := (Arv.set Ar87 qa87 Sa87 Na87 Ha87 Ga87 rfl W88 ((((3 : Int32) * (own_i0 sx vb)) + (2 : Int32))).toNatClampNeg rfl (own_Ll (own_up (own_up x_slots (((3 : Int32) * (own_i0 sx vb))).toNatClampNeg (sx.toInt64 + (1 : Int64))) ((((3 : Int32) * (own_i0 sx vb)) + (1 : Int32))).toNatClampNeg vb) (own_ix (own_b2 (own_r0 sx vb))))).pad (own_Lset (own_up (own_up x_slots (((3 : Int32) * (own_i0 sx vb))).toNatClampNeg (sx.toInt64 + (1 : Int64))) ((((3 : Int32) * (own_i0 sx vb)) + (1 : Int32))).toNatClampNeg vb) (own_ix (own_b2 (own_r0 sx vb))) ((ms).toInt64))
    have f89 : Exa Z h88 a1 "com/example/ketproof/ketproof/MassTable" := f76.wr W88
    have f90 : Fld Z h88 a1 "com/example/ketproof/ketproof/MassTable" "slots" "[J" (.ref z_slots) := f77.other W88 (Or.inl ne_slots)
    have f91 : Fld Z h88 a1 "com/example/ketproof/ketproof/MassTable" "entrySlots" "[I" (.ref z_entrySlots) := f78.other W88 (Or.inl ne_slots)
    have f92 : Fld Z h88 a1 "com/example/ketproof/ketproof/MassTable" "size" "I" (.int z_size) := f79.other W88 (Or.inl ne_slots)
    have f93 : Fld Z h88 a1 "com/example/ketproof/ketproof/MassTable" "decimals" "[Ljava/math/BigDecimal;" .null := f80.other W88 (Or.inl ne_slots)
    have f94 : Arv Z h88 z_entrySlots k_entrySlots .int (16 : Int32) (own_E x_entrySlots) (.int (0 : Int32)) := f81.other W88 ne_entrySlots_slots
    have N95 := Fr.snoc X88 N82 g_slots
    have K96 : Keep h0 h88 [a1, z_slots, z_entrySlots] := K83.wr W88 (Or.inl (List.mem_of_getElem? (i := 1) rfl))
    have Z97 : n0 ≤ h88.size := Nat.le_trans Z84 (Keep.of_wr W88).1
    obtain ⟨T98, X98, e98, st98⟩ := getF X88 hx hZ hown (host := "") (Or.inl (hw _ (List.mem_of_getElem? (i := 13) rfl))) Via.refl e88 f91 (g := (mkF m 227 #[.val (.ref a1), .val (.int sx), .val (.long vb), .second, .val .null, .val (.double ms), .second, .val (.int own_mk), .val (.int (own_i0 sx vb))] [(.ref a1)])) rfl rfl (hb hby d5_227)
    obtain ⟨T99, X99, e99, st99⟩ := getF X98 hx hZ hown (host := "") (Or.inl (hw _ (List.mem_of_getElem? (i := 20) rfl))) Via.refl e98 f92 (g := (mkF m 232 #[.val (.ref a1), .val (.int sx), .val (.long vb), .second, .val .null, .val (.double ms), .second, .val (.int own_mk), .val (.int (own_i0 sx vb))] [(.ref a1), (.ref a1), (.ref z_entrySlots)])) rfl rfl (hb hby d5_232)
    obtain ⟨T100, h100, X100, e100, W100, st100⟩ := putF X99 hx hZ hown (host := "") (Or.inl (hw _ (List.mem_of_getElem? (i := 20) rfl))) Via.refl e99 f92 f89 (Or.inl (hw _ (List.mem_of_getElem? (i := 21) rfl))) (hw _ (List.mem_of_getElem? (i := 1) rfl)) (ty := .int) (by decide) rfl rfl (g := (mkF m 238 #[.val (.ref a1), .val (.int sx), .val (.long vb), .second, .val .null, .val (.double ms), .second, .val (.int own_mk), .val (.int (own_i0 sx vb))] [(.int (z_size + (1 : Int32))), (.ref a1), (.int z_size), (.ref z_entrySlots)])) rfl rfl (hb hby d5_238)
    have f101 : Exa Z h100 a1 "com/example/ketproof/ketproof/MassTable" := f89.wr W100
    have f102 : Fld Z h100 a1 "com/example/ketproof/ketproof/MassTable" "slots" "[J" (.ref z_slots) := f90.other W100 (Or.inr (slot_ne (Or.inl (hw _ (List.mem_of_getElem? (i := 11) rfl))) (Or.inl (hw _ (List.mem_of_getElem? (i := 21) rfl))) (by decide) (t := (.array .long)) (t' := .int) (by decide) (by decide)))
    have f103 : Fld Z h100 a1 "com/example/ketproof/ketproof/MassTable" "entrySlots" "[I" (.ref z_entrySlots) := f91.other W100 (Or.inr (slot_ne (Or.inl (hw _ (List.mem_of_getElem? (i := 14) rfl))) (Or.inl (hw _ (List.mem_of_getElem? (i := 21) rfl))) (by decide) (t := (.array .int)) (t' := .int) (by decide) (by decide)))
    have f104 : Fld Z h100 a1 "com/example/ketproof/ketproof/MassTable" "size" "I" (.int (z_size + (1 : Int32))) := f92.same W100
    have f105 : Fld Z h100 a1 "com/example/ketproof/ketproof/MassTable" "decimals" "[Ljava/math/BigDecimal;" .null := f93.other W100 (Or.inr (slot_ne (Or.inl (hw _ (List.mem_of_getElem? (i := 61) rfl))) (Or.inl (hw _ (List.mem_of_getElem? (i := 21) rfl))) (by decide) (t := (.array (.object "java/math/BigDecimal"))) (t' := .int) (by decide) (by decide)))
    have f106 : Arv Z h100 z_entrySlots k_entrySlots .int (16 : Int32) (own_E x_entrySlots) (.int (0 : Int32)) := f94.other W100 (Ne.symm ne_entrySlots)
    have f107 : Arv Z h100 z_slots k_slots .long (96 : Int32) (own_L (own_up (own_up (own_up x_slots (((3 : Int32) * (own_i0 sx vb))).toNatClampNeg (sx.toInt64 + (1 : Int64))) ((((3 : Int32) * (own_i0 sx vb)) + (1 : Int32))).toNatClampNeg vb) ((((3 : Int32) * (own_i0 sx vb)) + (2 : Int32))).toNatClampNeg ((ms).toInt64))) (.long (0 : Int64)) := fa88.other W100 (Ne.symm ne_slots)
    have N108 := Fr.snoc X100 N95 g1
    have K109 : Keep h0 h100 [a1, z_slots, z_entrySlots] := K96.wr W100 (Or.inl (List.mem_of_getElem? (i := 0) rfl))
    have Z110 : n0 ≤ h100.size := Nat.le_trans Z97 (Keep.of_wr W100).1
    obtain ⟨cl111, Ar111, qa111, Sa111, Na111, Ha111, Ga111⟩ := id f106
    have hin111 : ¬ (z_size < 0 ∨ cl111.slots.size ≤ (z_size).toNatClampNeg) := inb_of Sa111 (own_ine hsz)
    obtain ⟨T112, h112, X112, e112, W112, st112⟩ := stI X100 hx hZ e100 Ar111 (j := z_size) hin111 (g := (mkF m 243 #[.val (.ref a1), .val (.int sx), .val (.long vb), .second, .val .null, .val (.double ms), .second, .val (.int own_mk), .val (.int (own_i0 sx vb))] [(.int (own_i0 sx vb)), (.int z_size), (.ref z_entrySlots)])) rfl rfl (hb hby d5_243)
    have fa112 : Arv Z h112 z_entrySlots k_entrySlots .int (16 : Int32) (own_E (own_up x_entrySlots (z_size).toNatClampNeg (own_i0 sx vb))) (.int (0 : Int32)) := (Arv.set Ar111 qa111 Sa111 Na111 Ha111 Ga111 rfl W112 (z_size).toNatClampNeg rfl (own_El x_entrySlots (own_ixe (own_ine hsz)))).pad (own_Eset x_entrySlots (own_ixe (own_ine hsz)) (own_i0 sx vb))
    have f113 : Exa Z h112 a1 "com/example/ketproof/ketproof/MassTable" := f101.wr W112
    have f114 : Fld Z h112 a1 "com/example/ketproof/ketproof/MassTable" "slots" "[J" (.ref z_slots) := f102.other W112 (Or.inl ne_entrySlots)
    have f115 : Fld Z h112 a1 "com/example/ketproof/ketproof/MassTable" "entrySlots" "[I" (.ref z_entrySlots) := f103.other W112 (Or.inl ne_entrySlots)
    have f116 : Fld Z h112 a1 "com/example/ketproof/ketproof/MassTable" "size" "I" (.int (z_size + (1 : Int32))) := f104.other W112 (Or.inl ne_entrySlots)
    have f117 : Fld Z h112 a1 "com/example/ketproof/ketproof/MassTable" "decimals" "[Ljava/math/BigDecimal;" .null := f105.other W112 (Or.inl ne_entrySlots)
    have f118 : Arv Z h112 z_slots k_slots .long (96 : Int32) (own_L (own_up (own_up (own_up x_slots (((3 : Int32) * (own_i0 sx vb))).toNatClampNeg (sx.toInt64 + (1 : Int64))) ((((3 : Int32) * (own_i0 sx vb)) + (1 : Int32))).toNatClampNeg vb) ((((3 : Int32) * (own_i0 sx vb)) + (2 : Int32))).toNatClampNeg ((ms).toInt64))) (.long (0 : Int64)) := f107.other W112 (Ne.symm ne_entrySlots_slots)
    have N119 := Fr.snoc X112 N108 g_entrySlots
    have K120 : Keep h0 h112 [a1, z_slots, z_entrySlots] := K109.wr W112 (Or.inl (List.mem_of_getElem? (i := 2) rfl))
    have Z121 : n0 ≤ h112.size := Nat.le_trans Z110 (Keep.of_wr W112).1
    have hf_size : f5_size sx vb ms z_size x_slots x_entrySlots = (z_size + (1 : Int32)) := by
      unfold f5_size
      first | rfl | (rw [if_pos hc57])
    have hf_slots : f5_slots sx vb ms z_size x_slots x_entrySlots = (own_up (own_up (own_up x_slots (((3 : Int32) * (own_i0 sx vb))).toNatClampNeg (sx.toInt64 + (1 : Int64))) ((((3 : Int32) * (own_i0 sx vb)) + (1 : Int32))).toNatClampNeg vb) ((((3 : Int32) * (own_i0 sx vb)) + (2 : Int32))).toNatClampNeg ((ms).toInt64)) := by
      unfold f5_slots
      first | rfl | (rw [if_pos hc57])
    have hf_entrySlots : f5_entrySlots sx vb ms z_size x_slots x_entrySlots = (own_up x_entrySlots (z_size).toNatClampNeg (own_i0 sx vb)) := by
      unfold f5_entrySlots
      first | rfl | (rw [if_pos hc57])
    obtain ⟨fs, hr, hrun, hended, hW, hsame⟩ := X112.leave (v := none) (fun _ => rfl)
    refine ⟨_, _, S56 _ ?_, hrun, hended, _, _, rfl, ?_, ⟨_, rfl⟩, hW, hsame.mono (by decide) (by decide)⟩
    · refine XS.ifYes X54.here hx rfl (pc0 := 32) (pc' := 123) rfl (hb hby d5_32) rfl ((if0 _ _).trans (teq hc57).1) (by decide) (by decide) ?_
      show Steps p.tables e below (T54.setTop (mkF m 123 #[.val (.ref a1), .val (.int sx), .val (.long vb), .second, .val .null, .val (.double ms), .second, .val (.int own_mk), .val (.int (own_i0 sx vb))] [])) _
      refine XS.aloadN X54.here hx rfl (hb hby d5_123) rfl rfl ?_
      show Steps p.tables e below (T54.setTop (mkF m 124 #[.val (.ref a1), .val (.int sx), .val (.long vb), .second, .val .null, .val (.double ms), .second, .val (.int own_mk), .val (.int (own_i0 sx vb))] [(.ref a1)])) _
      refine st58 _ ?_
      show Steps p.tables e below (T58.setTop (mkF m 127 #[.val (.ref a1), .val (.int sx), .val (.long vb), .second, .val .null, .val (.double ms), .second, .val (.int own_mk), .val (.int (own_i0 sx vb))] [(.int z_size)])) _
      refine XS.aloadN X58.here hx rfl (hb hby d5_127) rfl rfl ?_
      show Steps p.tables e below (T58.setTop (mkF m 128 #[.val (.ref a1), .val (.int sx), .val (.long vb), .second, .val .null, .val (.double ms), .second, .val (.int own_mk), .val (.int (own_i0 sx vb))] [(.ref a1), (.int z_size)])) _
      refine st59 _ ?_
      show Steps p.tables e below (T59.setTop (mkF m 131 #[.val (.ref a1), .val (.int sx), .val (.long vb), .second, .val .null, .val (.double ms), .second, .val (.int own_mk), .val (.int (own_i0 sx vb))] [(.ref z_entrySlots), (.int z_size)])) _
      refine X59.arraylength hx (by rw [e59]; exact Ar60.1) (State.isArrayOf_alike hZ.alike Ar60.2.1) (g := (mkF m 131 #[.val (.ref a1), .val (.int sx), .val (.long vb), .second, .val .null, .val (.double ms), .second, .val (.int own_mk), .val (.int (own_i0 sx vb))] [(.ref z_entrySlots), (.int z_size)])) rfl rfl (hb hby d5_131) _ ?_
      rw [len_of Sa60 Na60]
      show Steps p.tables e below (T59.setTop (mkF m 132 #[.val (.ref a1), .val (.int sx), .val (.long vb), .second, .val .null, .val (.double ms), .second, .val (.int own_mk), .val (.int (own_i0 sx vb))] [(.int (16 : Int32)), (.int z_size)])) _
      refine XS.icmpYes X59.here hx rfl (pc0 := 132) (pc' := 150) rfl (hb hby d5_132) rfl (feq (own_full hsz)).2 (by decide) (by decide) ?_
      show Steps p.tables e below (T59.setTop (mkF m 150 #[.val (.ref a1), .val (.int sx), .val (.long vb), .second, .val .null, .val (.double ms), .second, .val (.int own_mk), .val (.int (own_i0 sx vb))] [])) _
      refine XS.aloadN X59.here hx rfl (hb hby d5_150) rfl rfl ?_
      show Steps p.tables e below (T59.setTop (mkF m 151 #[.val (.ref a1), .val (.int sx), .val (.long vb), .second, .val .null, .val (.double ms), .second, .val (.int own_mk), .val (.int (own_i0 sx vb))] [(.ref a1)])) _
      refine st61 _ ?_
      show Steps p.tables e below (T61.setTop (mkF m 154 #[.val (.ref a1), .val (.int sx), .val (.long vb), .second, .val .null, .val (.double ms), .second, .val (.int own_mk), .val (.int (own_i0 sx vb))] [(.ref z_slots)])) _
      refine XS.iconst X61.here hx rfl (hb hby d5_154) ?_
      show Steps p.tables e below (T61.setTop (mkF m 155 #[.val (.ref a1), .val (.int sx), .val (.long vb), .second, .val .null, .val (.double ms), .second, .val (.int own_mk), .val (.int (own_i0 sx vb))] [(.int (3 : Int32)), (.ref z_slots)])) _
      refine XS.iload X61.here hx rfl (hb hby d5_155) rfl ?_
      show Steps p.tables e below (T61.setTop (mkF m 157 #[.val (.ref a1), .val (.int sx), .val (.long vb), .second, .val .null, .val (.double ms), .second, .val (.int own_mk), .val (.int (own_i0 sx vb))] [(.int (own_i0 sx vb)), (.int (3 : Int32)), (.ref z_slots)])) _
      refine XS.imul X61.here hx rfl (hb hby d5_157) rfl ?_
      show Steps p.tables e below (T61.setTop (mkF m 158 #[.val (.ref a1), .val (.int sx), .val (.long vb), .second, .val .null, .val (.double ms), .second, .val (.int own_mk), .val (.int (own_i0 sx vb))] [(.int ((3 : Int32) * (own_i0 sx vb))), (.ref z_slots)])) _
      refine XS.iloadN X61.here hx rfl (hb hby d5_158) rfl ?_
      show Steps p.tables e below (T61.setTop (mkF m 159 #[.val (.ref a1), .val (.int sx), .val (.long vb), .second, .val .null, .val (.double ms), .second, .val (.int own_mk), .val (.int (own_i0 sx vb))] [(.int sx), (.int ((3 : Int32) * (own_i0 sx vb))), (.ref z_slots)])) _
      refine XS.i2l X61.here hx rfl (hb hby d5_159) rfl ?_
      show Steps p.tables e below (T61.setTop (mkF m 160 #[.val (.ref a1), .val (.int sx), .val (.long vb), .second, .val .null, .val (.double ms), .second, .val (.int own_mk), .val (.int (own_i0 sx vb))] [(.long sx.toInt64), (.int ((3 : Int32) * (own_i0 sx vb))), (.ref z_slots)])) _
      refine XS.lconst X61.here hx rfl (hb hby d5_160) ?_
      show Steps p.tables e below (T61.setTop (mkF m 161 #[.val (.ref a1), .val (.int sx), .val (.long vb), .second, .val .null, .val (.double ms), .second, .val (.int own_mk), .val (.int (own_i0 sx vb))] [(.long (1 : Int64)), (.long sx.toInt64), (.int ((3 : Int32) * (own_i0 sx vb))), (.ref z_slots)])) _
      refine XS.ladd X61.here hx rfl (hb hby d5_161) rfl ?_
      show Steps p.tables e below (T61.setTop (mkF m 162 #[.val (.ref a1), .val (.int sx), .val (.long vb), .second, .val .null, .val (.double ms), .second, .val (.int own_mk), .val (.int (own_i0 sx vb))] [(.long (sx.toInt64 + (1 : Int64))), (.int ((3 : Int32) * (own_i0 sx vb))), (.ref z_slots)])) _
      refine st63 _ ?_
      show Steps p.tables e below (T63.setTop (mkF m 163 #[.val (.ref a1), .val (.int sx), .val (.long vb), .second, .val .null, .val (.double ms), .second, .val (.int own_mk), .val (.int (own_i0 sx vb))] [])) _
      refine XS.aloadN X63.here hx rfl (hb hby d5_163) rfl rfl ?_
      show Steps p.tables e below (T63.setTop (mkF m 164 #[.val (.ref a1), .val (.int sx), .val (.long vb), .second, .val .null, .val (.double ms), .second, .val (.int own_mk), .val (.int (own_i0 sx vb))] [(.ref a1)])) _
      refine st73 _ ?_
      show Steps p.tables e below (T73.setTop (mkF m 167 #[.val (.ref a1), .val (.int sx), .val (.long vb), .second, .val .null, .val (.double ms), .second, .val (.int own_mk), .val (.int (own_i0 sx vb))] [(.ref z_slots)])) _
      refine XS.iconst X73.here hx rfl (hb hby d5_167) ?_
      show Steps p.tables e below (T73.setTop (mkF m 168 #[.val (.ref a1), .val (.int sx), .val (.long vb), .second, .val .null, .val (.double ms), .second, .val (.int own_mk), .val (.int (own_i0 sx vb))] [(.int (3 : Int32)), (.ref z_slots)])) _
      refine XS.iload X73.here hx rfl (hb hby d5_168) rfl ?_
      show Steps p.tables e below (T73.setTop (mkF m 170 #[.val (.ref a1), .val (.int sx), .val (.long vb), .second, .val .null, .val (.double ms), .second, .val (.int own_mk), .val (.int (own_i0 sx vb))] [(.int (own_i0 sx vb)), (.int (3 : Int32)), (.ref z_slots)])) _
      refine XS.imul X73.here hx rfl (hb hby d5_170) rfl ?_
      show Steps p.tables e below (T73.setTop (mkF m 171 #[.val (.ref a1), .val (.int sx), .val (.long vb), .second, .val .null, .val (.double ms), .second, .val (.int own_mk), .val (.int (own_i0 sx vb))] [(.int ((3 : Int32) * (own_i0 sx vb))), (.ref z_slots)])) _
      refine XS.iconst X73.here hx rfl (hb hby d5_171) ?_
      show Steps p.tables e below (T73.setTop (mkF m 172 #[.val (.ref a1), .val (.int sx), .val (.long vb), .second, .val .null, .val (.double ms), .second, .val (.int own_mk), .val (.int (own_i0 sx vb))] [(.int (1 : Int32)), (.int ((3 : Int32) * (own_i0 sx vb))), (.ref z_slots)])) _
      refine XS.iadd X73.here hx rfl (hb hby d5_172) rfl ?_
      show Steps p.tables e below (T73.setTop (mkF m 173 #[.val (.ref a1), .val (.int sx), .val (.long vb), .second, .val .null, .val (.double ms), .second, .val (.int own_mk), .val (.int (own_i0 sx vb))] [(.int (((3 : Int32) * (own_i0 sx vb)) + (1 : Int32))), (.ref z_slots)])) _
      refine XS.lloadN X73.here hx rfl (hb hby d5_173) rfl ?_
      show Steps p.tables e below (T73.setTop (mkF m 174 #[.val (.ref a1), .val (.int sx), .val (.long vb), .second, .val .null, .val (.double ms), .second, .val (.int own_mk), .val (.int (own_i0 sx vb))] [(.long vb), (.int (((3 : Int32) * (own_i0 sx vb)) + (1 : Int32))), (.ref z_slots)])) _
      refine st75 _ ?_
      show Steps p.tables e below (T75.setTop (mkF m 175 #[.val (.ref a1), .val (.int sx), .val (.long vb), .second, .val .null, .val (.double ms), .second, .val (.int own_mk), .val (.int (own_i0 sx vb))] [])) _
      refine XS.aloadN X75.here hx rfl (hb hby d5_175) rfl rfl ?_
      show Steps p.tables e below (T75.setTop (mkF m 176 #[.val (.ref a1), .val (.int sx), .val (.long vb), .second, .val .null, .val (.double ms), .second, .val (.int own_mk), .val (.int (own_i0 sx vb))] [(.ref a1)])) _
      refine st85 _ ?_
      show Steps p.tables e below (T85.setTop (mkF m 179 #[.val (.ref a1), .val (.int sx), .val (.long vb), .second, .val .null, .val (.double ms), .second, .val (.int own_mk), .val (.int (own_i0 sx vb))] [(.ref z_slots)])) _
      refine XS.iconst X85.here hx rfl (hb hby d5_179) ?_
      show Steps p.tables e below (T85.setTop (mkF m 180 #[.val (.ref a1), .val (.int sx), .val (.long vb), .second, .val .null, .val (.double ms), .second, .val (.int own_mk), .val (.int (own_i0 sx vb))] [(.int (3 : Int32)), (.ref z_slots)])) _
      refine XS.iload X85.here hx rfl (hb hby d5_180) rfl ?_
      show Steps p.tables e below (T85.setTop (mkF m 182 #[.val (.ref a1), .val (.int sx), .val (.long vb), .second, .val .null, .val (.double ms), .second, .val (.int own_mk), .val (.int (own_i0 sx vb))] [(.int (own_i0 sx vb)), (.int (3 : Int32)), (.ref z_slots)])) _
      refine XS.imul X85.here hx rfl (hb hby d5_182) rfl ?_
      show Steps p.tables e below (T85.setTop (mkF m 183 #[.val (.ref a1), .val (.int sx), .val (.long vb), .second, .val .null, .val (.double ms), .second, .val (.int own_mk), .val (.int (own_i0 sx vb))] [(.int ((3 : Int32) * (own_i0 sx vb))), (.ref z_slots)])) _
      refine XS.iconst X85.here hx rfl (hb hby d5_183) ?_
      show Steps p.tables e below (T85.setTop (mkF m 184 #[.val (.ref a1), .val (.int sx), .val (.long vb), .second, .val .null, .val (.double ms), .second, .val (.int own_mk), .val (.int (own_i0 sx vb))] [(.int (2 : Int32)), (.int ((3 : Int32) * (own_i0 sx vb))), (.ref z_slots)])) _
      refine XS.iadd X85.here hx rfl (hb hby d5_184) rfl ?_
      show Steps p.tables e below (T85.setTop (mkF m 185 #[.val (.ref a1), .val (.int sx), .val (.long vb), .second, .val .null, .val (.double ms), .second, .val (.int own_mk), .val (.int (own_i0 sx vb))] [(.int (((3 : Int32) * (own_i0 sx vb)) + (2 : Int32))), (.ref z_slots)])) _
      refine XS.dload X85.here hx rfl (hb hby d5_185) rfl ?_
      show Steps p.tables e below (T85.setTop (mkF m 187 #[.val (.ref a1), .val (.int sx), .val (.long vb), .second, .val .null, .val (.double ms), .second, .val (.int own_mk), .val (.int (own_i0 sx vb))] [(.double ms), (.int (((3 : Int32) * (own_i0 sx vb)) + (2 : Int32))), (.ref z_slots)])) _
      refine st86 _ ?_
      show Steps p.tables e below (T86.setTop (mkF m 190 #[.val (.ref a1), .val (.int sx), .val (.long vb), .second, .val .null, .val (.double ms), .second, .val (.int own_mk), .val (.int (own_i0 sx vb))] [(.long ((ms).toInt64)), (.int (((3 : Int32) * (own_i0 sx vb)) + (2 : Int32))), (.ref z_slots)])) _
      refine st88 _ ?_
      show Steps p.tables e below (T88.setTop (mkF m 191 #[.val (.ref a1), .val (.int sx), .val (.long vb), .second, .val .null, .val (.double ms), .second, .val (.int own_mk), .val (.int (own_i0 sx vb))] [])) _
      refine XS.aload X88.here hx rfl (hb hby d5_191) rfl rfl ?_
      show Steps p.tables e below (T88.setTop (mkF m 193 #[.val (.ref a1), .val (.int sx), .val (.long vb), .second, .val .null, .val (.double ms), .second, .val (.int own_mk), .val (.int (own_i0 sx vb))] [.null])) _
      refine XS.ifnullYes X88.here hx rfl (pc0 := 193) (pc' := 226) rfl (hb hby d5_193) rfl (by decide) (by decide) ?_
      show Steps p.tables e below (T88.setTop (mkF m 226 #[.val (.ref a1), .val (.int sx), .val (.long vb), .second, .val .null, .val (.double ms), .second, .val (.int own_mk), .val (.int (own_i0 sx vb))] [])) _
      refine XS.aloadN X88.here hx rfl (hb hby d5_226) rfl rfl ?_
      show Steps p.tables e below (T88.setTop (mkF m 227 #[.val (.ref a1), .val (.int sx), .val (.long vb), .second, .val .null, .val (.double ms), .second, .val (.int own_mk), .val (.int (own_i0 sx vb))] [(.ref a1)])) _
      refine st98 _ ?_
      show Steps p.tables e below (T98.setTop (mkF m 230 #[.val (.ref a1), .val (.int sx), .val (.long vb), .second, .val .null, .val (.double ms), .second, .val (.int own_mk), .val (.int (own_i0 sx vb))] [(.ref z_entrySlots)])) _
      refine XS.aloadN X98.here hx rfl (hb hby d5_230) rfl rfl ?_
      show Steps p.tables e below (T98.setTop (mkF m 231 #[.val (.ref a1), .val (.int sx), .val (.long vb), .second, .val .null, .val (.double ms), .second, .val (.int own_mk), .val (.int (own_i0 sx vb))] [(.ref a1), (.ref z_entrySlots)])) _
      refine XS.dup X98.here hx rfl (hb hby d5_231) rfl rfl ?_
      show Steps p.tables e below (T98.setTop (mkF m 232 #[.val (.ref a1), .val (.int sx), .val (.long vb), .second, .val .null, .val (.double ms), .second, .val (.int own_mk), .val (.int (own_i0 sx vb))] [(.ref a1), (.ref a1), (.ref z_entrySlots)])) _
      refine st99 _ ?_
      show Steps p.tables e below (T99.setTop (mkF m 235 #[.val (.ref a1), .val (.int sx), .val (.long vb), .second, .val .null, .val (.double ms), .second, .val (.int own_mk), .val (.int (own_i0 sx vb))] [(.int z_size), (.ref a1), (.ref z_entrySlots)])) _
      refine XS.dupX1 X99.here hx rfl (hb hby d5_235) rfl rfl rfl ?_
      show Steps p.tables e below (T99.setTop (mkF m 236 #[.val (.ref a1), .val (.int sx), .val (.long vb), .second, .val .null, .val (.double ms), .second, .val (.int own_mk), .val (.int (own_i0 sx vb))] [(.int z_size), (.ref a1), (.int z_size), (.ref z_entrySlots)])) _
      refine XS.iconst X99.here hx rfl (hb hby d5_236) ?_
      show Steps p.tables e below (T99.setTop (mkF m 237 #[.val (.ref a1), .val (.int sx), .val (.long vb), .second, .val .null, .val (.double ms), .second, .val (.int own_mk), .val (.int (own_i0 sx vb))] [(.int (1 : Int32)), (.int z_size), (.ref a1), (.int z_size), (.ref z_entrySlots)])) _
      refine XS.iadd X99.here hx rfl (hb hby d5_237) rfl ?_
      show Steps p.tables e below (T99.setTop (mkF m 238 #[.val (.ref a1), .val (.int sx), .val (.long vb), .second, .val .null, .val (.double ms), .second, .val (.int own_mk), .val (.int (own_i0 sx vb))] [(.int (z_size + (1 : Int32))), (.ref a1), (.int z_size), (.ref z_entrySlots)])) _
      refine st100 _ ?_
      show Steps p.tables e below (T100.setTop (mkF m 241 #[.val (.ref a1), .val (.int sx), .val (.long vb), .second, .val .null, .val (.double ms), .second, .val (.int own_mk), .val (.int (own_i0 sx vb))] [(.int z_size), (.ref z_entrySlots)])) _
      refine XS.iload X100.here hx rfl (hb hby d5_241) rfl ?_
      show Steps p.tables e below (T100.setTop (mkF m 243 #[.val (.ref a1), .val (.int sx), .val (.long vb), .second, .val .null, .val (.double ms), .second, .val (.int own_mk), .val (.int (own_i0 sx vb))] [(.int (own_i0 sx vb)), (.int z_size), (.ref z_entrySlots)])) _
      refine st112 _ ?_
      show Steps p.tables e below (T112.setTop (mkF m 244 #[.val (.ref a1), .val (.int sx), .val (.long vb), .second, .val .null, .val (.double ms), .second, .val (.int own_mk), .val (.int (own_i0 sx vb))] [])) _
      exact X112.returnOut hx Bd.returns (hb hby d5_244) hr
    · show Q5 Z a1 sx vb ms z_slots z_entrySlots z_size k_slots x_slots k_entrySlots x_entrySlots h0 n0 _ T112.heap _
      rw [e112]
      exact ⟨rfl, N119, K120, f113, f114, f115, by rw [hf_size]; exact f116, f117, by rw [hf_slots]; exact f118, by rw [hf_entrySlots]; exact fa112⟩
  · obtain ⟨T122, X122, e122, st122⟩ := getF X54 hx hZ hown (host := "") (Or.inl (hw _ (List.mem_of_getElem? (i := 10) rfl))) Via.refl e54 F_slots_a1 (g := (mkF m 36 #[.val (.ref a1), .val (.int sx), .val (.long vb), .second, .val .null, .val (.double ms), .second, .val (.int own_mk), .val (.int (own_i0 sx vb))] [(.ref a1)])) rfl rfl (hb hby d5_36)
    obtain ⟨cl123, Ar123, qa123, Sa123, Na123, Ha123, Ga123⟩ := id V_slots
    have hin123 : ¬ (((3 : Int32) * (own_i0 sx vb)) < 0 ∨ cl123.slots.size ≤ (((3 : Int32) * (own_i0 sx vb))).toNatClampNeg) := inb_of Sa123 (own_b0 (own_r0 sx vb))
    have S124 : ∀ t, Steps p.tables e below (T122.setTop (mkF m 49 #[.val (.ref a1), .val (.int sx), .val (.long vb), .second, .val .null, .val (.double ms), .second, .val (.int own_mk), .val (.int (own_i0 sx vb))] [(.int (lcmpW (x_slots (((3 : Int32) * (own_i0 sx vb))).toNatClampNeg) (sx.toInt64 + (1 : Int64))))])) t → Steps p.tables e below (s₁.setTop (entryFrame m #[(.ref a1), (.int sx), (.long vb), .null, (.double ms)] 9)) t := by
      intro t k
      refine S56 t ?_
      refine XS.ifNo X54.here hx rfl (hb hby d5_32) rfl ((if0 _ _).trans (feq hc57).1) ?_
      show Steps p.tables e below (T54.setTop (mkF m 35 #[.val (.ref a1), .val (.int sx), .val (.long vb), .second, .val .null, .val (.double ms), .second, .val (.int own_mk), .val (.int (own_i0 sx vb))] [])) _
      refine XS.aloadN X54.here hx rfl (hb hby d5_35) rfl rfl ?_
      show Steps p.tables e below (T54.setTop (mkF m 36 #[.val (.ref a1), .val (.int sx), .val (.long vb), .second, .val .null, .val (.double ms), .second, .val (.int own_mk), .val (.int (own_i0 sx vb))] [(.ref a1)])) _
      refine st122 _ ?_
      show Steps p.tables e below (T122.setTop (mkF m 39 #[.val (.ref a1), .val (.int sx), .val (.long vb), .second, .val .null, .val (.double ms), .second, .val (.int own_mk), .val (.int (own_i0 sx vb))] [(.ref z_slots)])) _
      refine XS.iconst X122.here hx rfl (hb hby d5_39) ?_
      show Steps p.tables e below (T122.setTop (mkF m 40 #[.val (.ref a1), .val (.int sx), .val (.long vb), .second, .val .null, .val (.double ms), .second, .val (.int own_mk), .val (.int (own_i0 sx vb))] [(.int (3 : Int32)), (.ref z_slots)])) _
      refine XS.iload X122.here hx rfl (hb hby d5_40) rfl ?_
      show Steps p.tables e below (T122.setTop (mkF m 42 #[.val (.ref a1), .val (.int sx), .val (.long vb), .second, .val .null, .val (.double ms), .second, .val (.int own_mk), .val (.int (own_i0 sx vb))] [(.int (own_i0 sx vb)), (.int (3 : Int32)), (.ref z_slots)])) _
      refine XS.imul X122.here hx rfl (hb hby d5_42) rfl ?_
      show Steps p.tables e below (T122.setTop (mkF m 43 #[.val (.ref a1), .val (.int sx), .val (.long vb), .second, .val .null, .val (.double ms), .second, .val (.int own_mk), .val (.int (own_i0 sx vb))] [(.int ((3 : Int32) * (own_i0 sx vb))), (.ref z_slots)])) _
      refine X122.laload hx (j := ((3 : Int32) * (own_i0 sx vb))) (v := (.long (x_slots (((3 : Int32) * (own_i0 sx vb))).toNatClampNeg))) (by rw [e122]; exact Ar123.1) (State.isArrayOf_alike hZ.alike Ar123.2.1) Ar123.2.2 hin123 (Has.at Ha123 hin123 (own_rd x_slots (own_b0 (own_r0 sx vb)))) (g := (mkF m 43 #[.val (.ref a1), .val (.int sx), .val (.long vb), .second, .val .null, .val (.double ms), .second, .val (.int own_mk), .val (.int (own_i0 sx vb))] [(.int ((3 : Int32) * (own_i0 sx vb))), (.ref z_slots)])) rfl rfl (hb hby d5_43) _ ?_
      show Steps p.tables e below (T122.setTop (mkF m 44 #[.val (.ref a1), .val (.int sx), .val (.long vb), .second, .val .null, .val (.double ms), .second, .val (.int own_mk), .val (.int (own_i0 sx vb))] [(.long (x_slots (((3 : Int32) * (own_i0 sx vb))).toNatClampNeg))])) _
      refine XS.iloadN X122.here hx rfl (hb hby d5_44) rfl ?_
      show Steps p.tables e below (T122.setTop (mkF m 45 #[.val (.ref a1), .val (.int sx), .val (.long vb), .second, .val .null, .val (.double ms), .second, .val (.int own_mk), .val (.int (own_i0 sx vb))] [(.int sx), (.long (x_slots (((3 : Int32) * (own_i0 sx vb))).toNatClampNeg))])) _
      refine XS.i2l X122.here hx rfl (hb hby d5_45) rfl ?_
      show Steps p.tables e below (T122.setTop (mkF m 46 #[.val (.ref a1), .val (.int sx), .val (.long vb), .second, .val .null, .val (.double ms), .second, .val (.int own_mk), .val (.int (own_i0 sx vb))] [(.long sx.toInt64), (.long (x_slots (((3 : Int32) * (own_i0 sx vb))).toNatClampNeg))])) _
      refine XS.lconst X122.here hx rfl (hb hby d5_46) ?_
      show Steps p.tables e below (T122.setTop (mkF m 47 #[.val (.ref a1), .val (.int sx), .val (.long vb), .second, .val .null, .val (.double ms), .second, .val (.int own_mk), .val (.int (own_i0 sx vb))] [(.long (1 : Int64)), (.long sx.toInt64), (.long (x_slots (((3 : Int32) * (own_i0 sx vb))).toNatClampNeg))])) _
      refine XS.ladd X122.here hx rfl (hb hby d5_47) rfl ?_
      show Steps p.tables e below (T122.setTop (mkF m 48 #[.val (.ref a1), .val (.int sx), .val (.long vb), .second, .val .null, .val (.double ms), .second, .val (.int own_mk), .val (.int (own_i0 sx vb))] [(.long (sx.toInt64 + (1 : Int64))), (.long (x_slots (((3 : Int32) * (own_i0 sx vb))).toNatClampNeg))])) _
      refine XS.lcmp X122.here hx rfl (hb hby d5_48) rfl ?_
      show Steps p.tables e below (T122.setTop (mkF m 49 #[.val (.ref a1), .val (.int sx), .val (.long vb), .second, .val .null, .val (.double ms), .second, .val (.int own_mk), .val (.int (own_i0 sx vb))] [(.int (lcmpW (x_slots (((3 : Int32) * (own_i0 sx vb))).toNatClampNeg) (sx.toInt64 + (1 : Int64))))])) _
      exact k
    by_cases hc125 : (lcmpW (x_slots (((3 : Int32) * (own_i0 sx vb))).toNatClampNeg) (sx.toInt64 + (1 : Int64))) = (0 : Int32)
    · obtain ⟨T126, X126, e126, st126⟩ := getF X122 hx hZ hown (host := "") (Or.inl (hw _ (List.mem_of_getElem? (i := 10) rfl))) Via.refl e122 F_slots_a1 (g := (mkF m 53 #[.val (.ref a1), .val (.int sx), .val (.long vb), .second, .val .null, .val (.double ms), .second, .val (.int own_mk), .val (.int (own_i0 sx vb))] [(.ref a1)])) rfl rfl (hb hby d5_53)
      obtain ⟨cl127, Ar127, qa127, Sa127, Na127, Ha127, Ga127⟩ := id V_slots
      have hin127 : ¬ ((((3 : Int32) * (own_i0 sx vb)) + (1 : Int32)) < 0 ∨ cl127.slots.size ≤ ((((3 : Int32) * (own_i0 sx vb)) + (1 : Int32))).toNatClampNeg) := inb_of Sa127 (own_b1 (own_r0 sx vb))
      have S128 : ∀ t, Steps p.tables e below (T126.setTop (mkF m 65 #[.val (.ref a1), .val (.int sx), .val (.long vb), .second, .val .null, .val (.double ms), .second, .val (.int own_mk), .val (.int (own_i0 sx vb))] [(.int (lcmpW (x_slots ((((3 : Int32) * (own_i0 sx vb)) + (1 : Int32))).toNatClampNeg) vb))])) t → Steps p.tables e below (s₁.setTop (entryFrame m #[(.ref a1), (.int sx), (.long vb), .null, (.double ms)] 9)) t := by
        intro t k
        refine S124 t ?_
        refine XS.ifNo X122.here hx rfl (hb hby d5_49) rfl ((if0 _ _).trans (teq hc125).2) ?_
        show Steps p.tables e below (T122.setTop (mkF m 52 #[.val (.ref a1), .val (.int sx), .val (.long vb), .second, .val .null, .val (.double ms), .second, .val (.int own_mk), .val (.int (own_i0 sx vb))] [])) _
        refine XS.aloadN X122.here hx rfl (hb hby d5_52) rfl rfl ?_
        show Steps p.tables e below (T122.setTop (mkF m 53 #[.val (.ref a1), .val (.int sx), .val (.long vb), .second, .val .null, .val (.double ms), .second, .val (.int own_mk), .val (.int (own_i0 sx vb))] [(.ref a1)])) _
        refine st126 _ ?_
        show Steps p.tables e below (T126.setTop (mkF m 56 #[.val (.ref a1), .val (.int sx), .val (.long vb), .second, .val .null, .val (.double ms), .second, .val (.int own_mk), .val (.int (own_i0 sx vb))] [(.ref z_slots)])) _
        refine XS.iconst X126.here hx rfl (hb hby d5_56) ?_
        show Steps p.tables e below (T126.setTop (mkF m 57 #[.val (.ref a1), .val (.int sx), .val (.long vb), .second, .val .null, .val (.double ms), .second, .val (.int own_mk), .val (.int (own_i0 sx vb))] [(.int (3 : Int32)), (.ref z_slots)])) _
        refine XS.iload X126.here hx rfl (hb hby d5_57) rfl ?_
        show Steps p.tables e below (T126.setTop (mkF m 59 #[.val (.ref a1), .val (.int sx), .val (.long vb), .second, .val .null, .val (.double ms), .second, .val (.int own_mk), .val (.int (own_i0 sx vb))] [(.int (own_i0 sx vb)), (.int (3 : Int32)), (.ref z_slots)])) _
        refine XS.imul X126.here hx rfl (hb hby d5_59) rfl ?_
        show Steps p.tables e below (T126.setTop (mkF m 60 #[.val (.ref a1), .val (.int sx), .val (.long vb), .second, .val .null, .val (.double ms), .second, .val (.int own_mk), .val (.int (own_i0 sx vb))] [(.int ((3 : Int32) * (own_i0 sx vb))), (.ref z_slots)])) _
        refine XS.iconst X126.here hx rfl (hb hby d5_60) ?_
        show Steps p.tables e below (T126.setTop (mkF m 61 #[.val (.ref a1), .val (.int sx), .val (.long vb), .second, .val .null, .val (.double ms), .second, .val (.int own_mk), .val (.int (own_i0 sx vb))] [(.int (1 : Int32)), (.int ((3 : Int32) * (own_i0 sx vb))), (.ref z_slots)])) _
        refine XS.iadd X126.here hx rfl (hb hby d5_61) rfl ?_
        show Steps p.tables e below (T126.setTop (mkF m 62 #[.val (.ref a1), .val (.int sx), .val (.long vb), .second, .val .null, .val (.double ms), .second, .val (.int own_mk), .val (.int (own_i0 sx vb))] [(.int (((3 : Int32) * (own_i0 sx vb)) + (1 : Int32))), (.ref z_slots)])) _
        refine X126.laload hx (j := (((3 : Int32) * (own_i0 sx vb)) + (1 : Int32))) (v := (.long (x_slots ((((3 : Int32) * (own_i0 sx vb)) + (1 : Int32))).toNatClampNeg))) (by rw [e126]; exact Ar127.1) (State.isArrayOf_alike hZ.alike Ar127.2.1) Ar127.2.2 hin127 (Has.at Ha127 hin127 (own_rd x_slots (own_b1 (own_r0 sx vb)))) (g := (mkF m 62 #[.val (.ref a1), .val (.int sx), .val (.long vb), .second, .val .null, .val (.double ms), .second, .val (.int own_mk), .val (.int (own_i0 sx vb))] [(.int (((3 : Int32) * (own_i0 sx vb)) + (1 : Int32))), (.ref z_slots)])) rfl rfl (hb hby d5_62) _ ?_
        show Steps p.tables e below (T126.setTop (mkF m 63 #[.val (.ref a1), .val (.int sx), .val (.long vb), .second, .val .null, .val (.double ms), .second, .val (.int own_mk), .val (.int (own_i0 sx vb))] [(.long (x_slots ((((3 : Int32) * (own_i0 sx vb)) + (1 : Int32))).toNatClampNeg))])) _
        refine XS.lloadN X126.here hx rfl (hb hby d5_63) rfl ?_
        show Steps p.tables e below (T126.setTop (mkF m 64 #[.val (.ref a1), .val (.int sx), .val (.long vb), .second, .val .null, .val (.double ms), .second, .val (.int own_mk), .val (.int (own_i0 sx vb))] [(.long vb), (.long (x_slots ((((3 : Int32) * (own_i0 sx vb)) + (1 : Int32))).toNatClampNeg))])) _
        refine XS.lcmp X126.here hx rfl (hb hby d5_64) rfl ?_
        show Steps p.tables e below (T126.setTop (mkF m 65 #[.val (.ref a1), .val (.int sx), .val (.long vb), .second, .val .null, .val (.double ms), .second, .val (.int own_mk), .val (.int (own_i0 sx vb))] [(.int (lcmpW (x_slots ((((3 : Int32) * (own_i0 sx vb)) + (1 : Int32))).toNatClampNeg) vb))])) _
        exact k
      by_cases hc129 : (lcmpW (x_slots ((((3 : Int32) * (own_i0 sx vb)) + (1 : Int32))).toNatClampNeg) vb) = (0 : Int32)
      · obtain ⟨cq130, q130, q130'⟩ := E1.cell
        obtain ⟨_, _, ⟨T130, L130, k130, n130⟩, -, X130, ⟨Lc130, hQ130, l130, y130, z130⟩, st130⟩ := X126.privateBack hx (y := (⟨"com/example/ketproof/ketproof/MassTable", "holds", "(ILjava/math/BigDecimal;)Z"⟩ : MethodName)) hown (mvT hZ (hw _ (List.mem_of_getElem? (i := 70) rfl))) (mvT hZ (hw _ (List.mem_of_getElem? (i := 71) rfl))) (mvT hZ (Jvm.Kit.selects_private (by decide) (hw _ (List.mem_of_getElem? (i := 1) rfl)) (hw _ (List.mem_of_getElem? (i := 72) rfl)) (hw _ (List.mem_of_getElem? (i := 71) rfl)))) (Cond.privateMethod_at (mvP hZ (hw _ (List.mem_of_getElem? (i := 72) rfl)) (args := #[]))) (mvT hZ (hw _ (List.mem_of_getElem? (i := 73) rfl))) (by decide) (backOf (W := 0) (rm12 l Z a0 hw [] a1 (own_i0 sx vb) h0 n0 Z0 F_decimals_a1) hZ (hw _ (List.mem_of_getElem? (i := 73) rfl)) (hw _ (List.mem_of_getElem? (i := 2) rfl)) (by decide) (by decide)) (g := (mkF m 73 #[.val (.ref a1), .val (.int sx), .val (.long vb), .second, .val .null, .val (.double ms), .second, .val (.int own_mk), .val (.int (own_i0 sx vb))] [.null, (.int (own_i0 sx vb)), (.ref a1)])) rfl (by rw [hml]; rfl) (Steps.refl _) (a := a1) (by rw [e126]; exact q130) q130' (argsL := [(.int (own_i0 sx vb)), .null]) (rest := []) (lenOf pd_1 rfl) rfl (by show 2 * 0 + _ ≤ _; exact Nat.le_of_eq rfl) (hb hby d5_73) (fun _ _ => ⟨rfl, e126, (by decide : 0 + 0 ≤ _), (by decide : 0 + 0 ≤ _)⟩)
        dsimp only [Pt.U, Pt.locs, Pt.cells, Pt.slots] at X130 l130 y130 z130 st130 hQ130
        subst l130 y130 z130
        obtain ⟨rfl, N130q, e130⟩ := hQ130
        have N130 := Fr.app N53 N130q
        obtain ⟨T131, X131, e131, st131⟩ := getF X130 hx hZ hown (host := "") (Or.inl (hw _ (List.mem_of_getElem? (i := 10) rfl))) Via.refl e130 F_slots_a1 (g := (mkF m 80 #[.val (.ref a1), .val (.int sx), .val (.long vb), .second, .val .null, .val (.double ms), .second, .val (.int own_mk), .val (.int (own_i0 sx vb))] [(.ref a1)])) rfl rfl (hb hby d5_80)
        obtain ⟨T132, X132, e132, st132⟩ := getF X131 hx hZ hown (host := "") (Or.inl (hw _ (List.mem_of_getElem? (i := 10) rfl))) Via.refl e131 F_slots_a1 (g := (mkF m 90 #[.val (.ref a1), .val (.int sx), .val (.long vb), .second, .val .null, .val (.double ms), .second, .val (.int own_mk), .val (.int (own_i0 sx vb))] [(.ref a1), (.int (((3 : Int32) * (own_i0 sx vb)) + (2 : Int32))), (.ref z_slots)])) rfl rfl (hb hby d5_90)
        obtain ⟨cl133, Ar133, qa133, Sa133, Na133, Ha133, Ga133⟩ := id V_slots
        have hin133 : ¬ ((((3 : Int32) * (own_i0 sx vb)) + (2 : Int32)) < 0 ∨ cl133.slots.size ≤ ((((3 : Int32) * (own_i0 sx vb)) + (2 : Int32))).toNatClampNeg) := inb_of Sa133 (own_b2 (own_r0 sx vb))
        obtain ⟨vm134, X134, st134⟩ := X132.longBitsToDouble hx hown (mvT hZ (hw _ (List.mem_of_getElem? (i := 62) rfl))) (mvT hZ (hw _ (List.mem_of_getElem? (i := 64) rfl))) (mvT hZ (hw _ (List.mem_of_getElem? (i := 63) rfl))) (mvT hZ (hw _ (List.mem_of_getElem? (i := 29) rfl))) (g := (mkF m 100 #[.val (.ref a1), .val (.int sx), .val (.long vb), .second, .val .null, .val (.double ms), .second, .val (.int own_mk), .val (.int (own_i0 sx vb))] [(.long (x_slots ((((3 : Int32) * (own_i0 sx vb)) + (2 : Int32))).toNatClampNeg)), (.int (((3 : Int32) * (own_i0 sx vb)) + (2 : Int32))), (.ref z_slots)])) rfl (by rw [hml]; rfl) (rest := [(.int (((3 : Int32) * (own_i0 sx vb)) + (2 : Int32))), (.ref z_slots)]) (b := (x_slots ((((3 : Int32) * (own_i0 sx vb)) + (2 : Int32))).toNatClampNeg)) (own_lb (hM _ (own_md (own_r0 sx vb)))) rfl (hb hby d5_100) (by decide) (by show 2 * 0 + 2 + (nativeFrameWords "java/lang/Double" "longBitsToDouble" 2 + 11) ≤ _; decide)
        obtain ⟨T134, hT134⟩ : ∃ z, z = T132.setVm vm134 := ⟨_, rfl⟩
        rw [← hT134] at X134 st134
        have e134 : T134.heap = h0 := by rw [hT134]; exact e132
        obtain ⟨vm135, X135, st135⟩ := X134.doubleToRawLongBits hx hown (mvT hZ (hw _ (List.mem_of_getElem? (i := 27) rfl))) (mvT hZ (hw _ (List.mem_of_getElem? (i := 30) rfl))) (mvT hZ (hw _ (List.mem_of_getElem? (i := 28) rfl))) (mvT hZ (hw _ (List.mem_of_getElem? (i := 29) rfl))) (g := (mkF m 106 #[.val (.ref a1), .val (.int sx), .val (.long vb), .second, .val .null, .val (.double ms), .second, .val (.int own_mk), .val (.int (own_i0 sx vb))] [(.double (FP.dadd (((x_slots ((((3 : Int32) * (own_i0 sx vb)) + (2 : Int32))).toNatClampNeg)).toUInt64) ms)), (.int (((3 : Int32) * (own_i0 sx vb)) + (2 : Int32))), (.ref z_slots)])) rfl (by rw [hml]; rfl) (rest := [(.int (((3 : Int32) * (own_i0 sx vb)) + (2 : Int32))), (.ref z_slots)]) (b := (FP.dadd (((x_slots ((((3 : Int32) * (own_i0 sx vb)) + (2 : Int32))).toNatClampNeg)).toUInt64) ms)) rfl (hb hby d5_106) (by decide) (by show 2 * 0 + 2 + (nativeFrameWords "java/lang/Double" "doubleToRawLongBits" 2 + 11) ≤ _; decide)
        obtain ⟨T135, hT135⟩ : ∃ z, z = T134.setVm vm135 := ⟨_, rfl⟩
        rw [← hT135] at X135 st135
        have e135 : T135.heap = h0 := by rw [hT135]; exact e134
        obtain ⟨cl136, Ar136, qa136, Sa136, Na136, Ha136, Ga136⟩ := id V_slots
        have hin136 : ¬ ((((3 : Int32) * (own_i0 sx vb)) + (2 : Int32)) < 0 ∨ cl136.slots.size ≤ ((((3 : Int32) * (own_i0 sx vb)) + (2 : Int32))).toNatClampNeg) := inb_of Sa136 (own_b2 (own_r0 sx vb))
        obtain ⟨T137, h137, X137, e137, W137, st137⟩ := stJ X135 hx hZ e135 Ar136 (j := (((3 : Int32) * (own_i0 sx vb)) + (2 : Int32))) hin136 (g := (mkF m 109 #[.val (.ref a1), .val (.int sx), .val (.long vb), .second, .val .null, .val (.double ms), .second, .val (.int own_mk), .val (.int (own_i0 sx vb))] [(.long (((FP.dadd (((x_slots ((((3 : Int32) * (own_i0 sx vb)) + (2 : Int32))).toNatClampNeg)).toUInt64) ms)).toInt64)), (.int (((3 : Int32) * (own_i0 sx vb)) + (2 : Int32))), (.ref z_slots)])) rfl rfl (hb hby d5_109)
        have fa137 : Arv Z h137 z_slots k_slots .long (96 : Int32) (own_L (own_up x_slots ((((3 : Int32) * (own_i0 sx vb)) + (2 : Int32))).toNatClampNeg (((FP.dadd (((x_slots ((((3 : Int32) * (own_i0 sx vb)) + (2 : Int32))).toNatClampNeg)).toUInt64) ms)).toInt64))) (.long (0 : Int64)) := (Arv.set Ar136 qa136 Sa136 Na136 Ha136 Ga136 rfl W137 ((((3 : Int32) * (own_i0 sx vb)) + (2 : Int32))).toNatClampNeg rfl (own_Ll x_slots (own_ix (own_b2 (own_r0 sx vb))))).pad (own_Lset x_slots (own_ix (own_b2 (own_r0 sx vb))) (((FP.dadd (((x_slots ((((3 : Int32) * (own_i0 sx vb)) + (2 : Int32))).toNatClampNeg)).toUInt64) ms)).toInt64))
        have f138 : Exa Z h137 a1 "com/example/ketproof/ketproof/MassTable" := E1.wr W137
        have f139 : Fld Z h137 a1 "com/example/ketproof/ketproof/MassTable" "slots" "[J" (.ref z_slots) := F_slots_a1.other W137 (Or.inl ne_slots)
        have f140 : Fld Z h137 a1 "com/example/ketproof/ketproof/MassTable" "entrySlots" "[I" (.ref z_entrySlots) := F_entrySlots_a1.other W137 (Or.inl ne_slots)
        have f141 : Fld Z h137 a1 "com/example/ketproof/ketproof/MassTable" "size" "I" (.int z_size) := F_size_a1.other W137 (Or.inl ne_slots)
        have f142 : Fld Z h137 a1 "com/example/ketproof/ketproof/MassTable" "decimals" "[Ljava/math/BigDecimal;" .null := F_decimals_a1.other W137 (Or.inl ne_slots)
        have f143 : Arv Z h137 z_entrySlots k_entrySlots .int (16 : Int32) (own_E x_entrySlots) (.int (0 : Int32)) := V_entrySlots.other W137 ne_entrySlots_slots
        have N144 := Fr.snoc X137 N130 g_slots
        have K145 : Keep h0 h137 [a1, z_slots, z_entrySlots] := (Keep.refl h0 [a1, z_slots, z_entrySlots]).wr W137 (Or.inl (List.mem_of_getElem? (i := 1) rfl))
        have Z146 : n0 ≤ h137.size := Nat.le_trans Z0 (Keep.of_wr W137).1
        have hf_size : f5_size sx vb ms z_size x_slots x_entrySlots = z_size := by
          unfold f5_size
          first | rfl | (rw [if_neg hc57, if_pos hc125, if_pos hc129])
        have hf_slots : f5_slots sx vb ms z_size x_slots x_entrySlots = (own_up x_slots ((((3 : Int32) * (own_i0 sx vb)) + (2 : Int32))).toNatClampNeg (((FP.dadd (((x_slots ((((3 : Int32) * (own_i0 sx vb)) + (2 : Int32))).toNatClampNeg)).toUInt64) ms)).toInt64)) := by
          unfold f5_slots
          first | rfl | (rw [if_neg hc57, if_pos hc125, if_pos hc129])
        have hf_entrySlots : f5_entrySlots sx vb ms z_size x_slots x_entrySlots = x_entrySlots := by
          unfold f5_entrySlots
          first | rfl | (rw [if_neg hc57, if_pos hc125, if_pos hc129])
        obtain ⟨fs, hr, hrun, hended, hW, hsame⟩ := X137.leave (v := none) (fun _ => rfl)
        refine ⟨_, _, S128 _ ?_, hrun, hended, _, _, rfl, ?_, ⟨_, rfl⟩, hW, hsame.mono (by decide) (by decide)⟩
        · refine XS.ifNo X126.here hx rfl (hb hby d5_65) rfl ((if0 _ _).trans (teq hc129).2) ?_
          show Steps p.tables e below (T126.setTop (mkF m 68 #[.val (.ref a1), .val (.int sx), .val (.long vb), .second, .val .null, .val (.double ms), .second, .val (.int own_mk), .val (.int (own_i0 sx vb))] [])) _
          refine XS.aloadN X126.here hx rfl (hb hby d5_68) rfl rfl ?_
          show Steps p.tables e below (T126.setTop (mkF m 69 #[.val (.ref a1), .val (.int sx), .val (.long vb), .second, .val .null, .val (.double ms), .second, .val (.int own_mk), .val (.int (own_i0 sx vb))] [(.ref a1)])) _
          refine XS.iload X126.here hx rfl (hb hby d5_69) rfl ?_
          show Steps p.tables e below (T126.setTop (mkF m 71 #[.val (.ref a1), .val (.int sx), .val (.long vb), .second, .val .null, .val (.double ms), .second, .val (.int own_mk), .val (.int (own_i0 sx vb))] [(.int (own_i0 sx vb)), (.ref a1)])) _
          refine XS.aload X126.here hx rfl (hb hby d5_71) rfl rfl ?_
          show Steps p.tables e below (T126.setTop (mkF m 73 #[.val (.ref a1), .val (.int sx), .val (.long vb), .second, .val .null, .val (.double ms), .second, .val (.int own_mk), .val (.int (own_i0 sx vb))] [.null, (.int (own_i0 sx vb)), (.ref a1)])) _
          refine st130.trans ?_
          show Steps p.tables e below (T130.setTop (mkF m 76 #[.val (.ref a1), .val (.int sx), .val (.long vb), .second, .val .null, .val (.double ms), .second, .val (.int own_mk), .val (.int (own_i0 sx vb))] [(.int (f12 (own_i0 sx vb)))])) _
          refine XS.ifNo X130.here hx rfl (hb hby d5_76) rfl ((if0 _ _).trans (feq (own_f12 _)).1) ?_
          show Steps p.tables e below (T130.setTop (mkF m 79 #[.val (.ref a1), .val (.int sx), .val (.long vb), .second, .val .null, .val (.double ms), .second, .val (.int own_mk), .val (.int (own_i0 sx vb))] [])) _
          refine XS.aloadN X130.here hx rfl (hb hby d5_79) rfl rfl ?_
          show Steps p.tables e below (T130.setTop (mkF m 80 #[.val (.ref a1), .val (.int sx), .val (.long vb), .second, .val .null, .val (.double ms), .second, .val (.int own_mk), .val (.int (own_i0 sx vb))] [(.ref a1)])) _
          refine st131 _ ?_
          show Steps p.tables e below (T131.setTop (mkF m 83 #[.val (.ref a1), .val (.int sx), .val (.long vb), .second, .val .null, .val (.double ms), .second, .val (.int own_mk), .val (.int (own_i0 sx vb))] [(.ref z_slots)])) _
          refine XS.iconst X131.here hx rfl (hb hby d5_83) ?_
          show Steps p.tables e below (T131.setTop (mkF m 84 #[.val (.ref a1), .val (.int sx), .val (.long vb), .second, .val .null, .val (.double ms), .second, .val (.int own_mk), .val (.int (own_i0 sx vb))] [(.int (3 : Int32)), (.ref z_slots)])) _
          refine XS.iload X131.here hx rfl (hb hby d5_84) rfl ?_
          show Steps p.tables e below (T131.setTop (mkF m 86 #[.val (.ref a1), .val (.int sx), .val (.long vb), .second, .val .null, .val (.double ms), .second, .val (.int own_mk), .val (.int (own_i0 sx vb))] [(.int (own_i0 sx vb)), (.int (3 : Int32)), (.ref z_slots)])) _
          refine XS.imul X131.here hx rfl (hb hby d5_86) rfl ?_
          show Steps p.tables e below (T131.setTop (mkF m 87 #[.val (.ref a1), .val (.int sx), .val (.long vb), .second, .val .null, .val (.double ms), .second, .val (.int own_mk), .val (.int (own_i0 sx vb))] [(.int ((3 : Int32) * (own_i0 sx vb))), (.ref z_slots)])) _
          refine XS.iconst X131.here hx rfl (hb hby d5_87) ?_
          show Steps p.tables e below (T131.setTop (mkF m 88 #[.val (.ref a1), .val (.int sx), .val (.long vb), .second, .val .null, .val (.double ms), .second, .val (.int own_mk), .val (.int (own_i0 sx vb))] [(.int (2 : Int32)), (.int ((3 : Int32) * (own_i0 sx vb))), (.ref z_slots)])) _
          refine XS.iadd X131.here hx rfl (hb hby d5_88) rfl ?_
          show Steps p.tables e below (T131.setTop (mkF m 89 #[.val (.ref a1), .val (.int sx), .val (.long vb), .second, .val .null, .val (.double ms), .second, .val (.int own_mk), .val (.int (own_i0 sx vb))] [(.int (((3 : Int32) * (own_i0 sx vb)) + (2 : Int32))), (.ref z_slots)])) _
          refine XS.aloadN X131.here hx rfl (hb hby d5_89) rfl rfl ?_
          show Steps p.tables e below (T131.setTop (mkF m 90 #[.val (.ref a1), .val (.int sx), .val (.long vb), .second, .val .null, .val (.double ms), .second, .val (.int own_mk), .val (.int (own_i0 sx vb))] [(.ref a1), (.int (((3 : Int32) * (own_i0 sx vb)) + (2 : Int32))), (.ref z_slots)])) _
          refine st132 _ ?_
          show Steps p.tables e below (T132.setTop (mkF m 93 #[.val (.ref a1), .val (.int sx), .val (.long vb), .second, .val .null, .val (.double ms), .second, .val (.int own_mk), .val (.int (own_i0 sx vb))] [(.ref z_slots), (.int (((3 : Int32) * (own_i0 sx vb)) + (2 : Int32))), (.ref z_slots)])) _
          refine XS.iconst X132.here hx rfl (hb hby d5_93) ?_
          show Steps p.tables e below (T132.setTop (mkF m 94 #[.val (.ref a1), .val (.int sx), .val (.long vb), .second, .val .null, .val (.double ms), .second, .val (.int own_mk), .val (.int (own_i0 sx vb))] [(.int (3 : Int32)), (.ref z_slots), (.int (((3 : Int32) * (own_i0 sx vb)) + (2 : Int32))), (.ref z_slots)])) _
          refine XS.iload X132.here hx rfl (hb hby d5_94) rfl ?_
          show Steps p.tables e below (T132.setTop (mkF m 96 #[.val (.ref a1), .val (.int sx), .val (.long vb), .second, .val .null, .val (.double ms), .second, .val (.int own_mk), .val (.int (own_i0 sx vb))] [(.int (own_i0 sx vb)), (.int (3 : Int32)), (.ref z_slots), (.int (((3 : Int32) * (own_i0 sx vb)) + (2 : Int32))), (.ref z_slots)])) _
          refine XS.imul X132.here hx rfl (hb hby d5_96) rfl ?_
          show Steps p.tables e below (T132.setTop (mkF m 97 #[.val (.ref a1), .val (.int sx), .val (.long vb), .second, .val .null, .val (.double ms), .second, .val (.int own_mk), .val (.int (own_i0 sx vb))] [(.int ((3 : Int32) * (own_i0 sx vb))), (.ref z_slots), (.int (((3 : Int32) * (own_i0 sx vb)) + (2 : Int32))), (.ref z_slots)])) _
          refine XS.iconst X132.here hx rfl (hb hby d5_97) ?_
          show Steps p.tables e below (T132.setTop (mkF m 98 #[.val (.ref a1), .val (.int sx), .val (.long vb), .second, .val .null, .val (.double ms), .second, .val (.int own_mk), .val (.int (own_i0 sx vb))] [(.int (2 : Int32)), (.int ((3 : Int32) * (own_i0 sx vb))), (.ref z_slots), (.int (((3 : Int32) * (own_i0 sx vb)) + (2 : Int32))), (.ref z_slots)])) _
          refine XS.iadd X132.here hx rfl (hb hby d5_98) rfl ?_
          show Steps p.tables e below (T132.setTop (mkF m 99 #[.val (.ref a1), .val (.int sx), .val (.long vb), .second, .val .null, .val (.double ms), .second, .val (.int own_mk), .val (.int (own_i0 sx vb))] [(.int (((3 : Int32) * (own_i0 sx vb)) + (2 : Int32))), (.ref z_slots), (.int (((3 : Int32) * (own_i0 sx vb)) + (2 : Int32))), (.ref z_slots)])) _
          refine X132.laload hx (j := (((3 : Int32) * (own_i0 sx vb)) + (2 : Int32))) (v := (.long (x_slots ((((3 : Int32) * (own_i0 sx vb)) + (2 : Int32))).toNatClampNeg))) (by rw [e132]; exact Ar133.1) (State.isArrayOf_alike hZ.alike Ar133.2.1) Ar133.2.2 hin133 (Has.at Ha133 hin133 (own_rd x_slots (own_b2 (own_r0 sx vb)))) (g := (mkF m 99 #[.val (.ref a1), .val (.int sx), .val (.long vb), .second, .val .null, .val (.double ms), .second, .val (.int own_mk), .val (.int (own_i0 sx vb))] [(.int (((3 : Int32) * (own_i0 sx vb)) + (2 : Int32))), (.ref z_slots), (.int (((3 : Int32) * (own_i0 sx vb)) + (2 : Int32))), (.ref z_slots)])) rfl rfl (hb hby d5_99) _ ?_
          show Steps p.tables e below (T132.setTop (mkF m 100 #[.val (.ref a1), .val (.int sx), .val (.long vb), .second, .val .null, .val (.double ms), .second, .val (.int own_mk), .val (.int (own_i0 sx vb))] [(.long (x_slots ((((3 : Int32) * (own_i0 sx vb)) + (2 : Int32))).toNatClampNeg)), (.int (((3 : Int32) * (own_i0 sx vb)) + (2 : Int32))), (.ref z_slots)])) _
          refine st134 _ ?_
          show Steps p.tables e below (T134.setTop (mkF m 103 #[.val (.ref a1), .val (.int sx), .val (.long vb), .second, .val .null, .val (.double ms), .second, .val (.int own_mk), .val (.int (own_i0 sx vb))] [(.double (((x_slots ((((3 : Int32) * (own_i0 sx vb)) + (2 : Int32))).toNatClampNeg)).toUInt64)), (.int (((3 : Int32) * (own_i0 sx vb)) + (2 : Int32))), (.ref z_slots)])) _
          refine XS.dload X134.here hx rfl (hb hby d5_103) rfl ?_
          show Steps p.tables e below (T134.setTop (mkF m 105 #[.val (.ref a1), .val (.int sx), .val (.long vb), .second, .val .null, .val (.double ms), .second, .val (.int own_mk), .val (.int (own_i0 sx vb))] [(.double ms), (.double (((x_slots ((((3 : Int32) * (own_i0 sx vb)) + (2 : Int32))).toNatClampNeg)).toUInt64)), (.int (((3 : Int32) * (own_i0 sx vb)) + (2 : Int32))), (.ref z_slots)])) _
          refine XS.daddS X134.here hx rfl (hb hby d5_105) rfl (Jvm.Free.Fl.dadd_out (hM _ (own_md (own_r0 sx vb))) hms) rfl ?_
          show Steps p.tables e below (T134.setTop (mkF m 106 #[.val (.ref a1), .val (.int sx), .val (.long vb), .second, .val .null, .val (.double ms), .second, .val (.int own_mk), .val (.int (own_i0 sx vb))] [(.double (FP.dadd (((x_slots ((((3 : Int32) * (own_i0 sx vb)) + (2 : Int32))).toNatClampNeg)).toUInt64) ms)), (.int (((3 : Int32) * (own_i0 sx vb)) + (2 : Int32))), (.ref z_slots)])) _
          refine st135 _ ?_
          show Steps p.tables e below (T135.setTop (mkF m 109 #[.val (.ref a1), .val (.int sx), .val (.long vb), .second, .val .null, .val (.double ms), .second, .val (.int own_mk), .val (.int (own_i0 sx vb))] [(.long (((FP.dadd (((x_slots ((((3 : Int32) * (own_i0 sx vb)) + (2 : Int32))).toNatClampNeg)).toUInt64) ms)).toInt64)), (.int (((3 : Int32) * (own_i0 sx vb)) + (2 : Int32))), (.ref z_slots)])) _
          refine st137 _ ?_
          show Steps p.tables e below (T137.setTop (mkF m 110 #[.val (.ref a1), .val (.int sx), .val (.long vb), .second, .val .null, .val (.double ms), .second, .val (.int own_mk), .val (.int (own_i0 sx vb))] [])) _
          exact X137.returnOut hx Bd.returns (hb hby d5_110) hr
        · show Q5 Z a1 sx vb ms z_slots z_entrySlots z_size k_slots x_slots k_entrySlots x_entrySlots h0 n0 _ T137.heap _
          rw [e137]
          exact ⟨rfl, N144, K145, f138, f139, f140, by rw [hf_size]; exact f141, f142, by rw [hf_slots]; exact fa137, by rw [hf_entrySlots]; exact f143⟩
      · obtain ⟨T147, X147, e147, st147⟩ := getF X126 hx hZ hown (host := "") (Or.inl (hw _ (List.mem_of_getElem? (i := 10) rfl))) Via.refl e126 F_slots_a1 (g := (mkF m 22 #[.val (.ref a1), .val (.int sx), .val (.long vb), .second, .val .null, .val (.double ms), .second, .val (.int own_mk), .val (.int (own_i1 sx vb))] [(.ref a1)])) rfl rfl (hb hby d5_22)
        obtain ⟨cl148, Ar148, qa148, Sa148, Na148, Ha148, Ga148⟩ := id V_slots
        have hin148 : ¬ (((3 : Int32) * (own_i1 sx vb)) < 0 ∨ cl148.slots.size ≤ (((3 : Int32) * (own_i1 sx vb))).toNatClampNeg) := inb_of Sa148 (own_b0 (own_r1 sx vb))
        have S149 : ∀ t, Steps p.tables e below (T147.setTop (mkF m 32 #[.val (.ref a1), .val (.int sx), .val (.long vb), .second, .val .null, .val (.double ms), .second, .val (.int own_mk), .val (.int (own_i1 sx vb))] [(.int (lcmpW (x_slots (((3 : Int32) * (own_i1 sx vb))).toNatClampNeg) (0 : Int64)))])) t → Steps p.tables e below (s₁.setTop (entryFrame m #[(.ref a1), (.int sx), (.long vb), .null, (.double ms)] 9)) t := by
          intro t k
          refine S128 t ?_
          refine XS.ifYes X126.here hx rfl (pc0 := 65) (pc' := 111) rfl (hb hby d5_65) rfl ((if0 _ _).trans (feq hc129).2) (by decide) (by decide) ?_
          show Steps p.tables e below (T126.setTop (mkF m 111 #[.val (.ref a1), .val (.int sx), .val (.long vb), .second, .val .null, .val (.double ms), .second, .val (.int own_mk), .val (.int (own_i0 sx vb))] [])) _
          refine XS.iload X126.here hx rfl (hb hby d5_111) rfl ?_
          show Steps p.tables e below (T126.setTop (mkF m 113 #[.val (.ref a1), .val (.int sx), .val (.long vb), .second, .val .null, .val (.double ms), .second, .val (.int own_mk), .val (.int (own_i0 sx vb))] [(.int (own_i0 sx vb))])) _
          refine XS.iconst X126.here hx rfl (hb hby d5_113) ?_
          show Steps p.tables e below (T126.setTop (mkF m 114 #[.val (.ref a1), .val (.int sx), .val (.long vb), .second, .val .null, .val (.double ms), .second, .val (.int own_mk), .val (.int (own_i0 sx vb))] [(.int (1 : Int32)), (.int (own_i0 sx vb))])) _
          refine XS.iadd X126.here hx rfl (hb hby d5_114) rfl ?_
          show Steps p.tables e below (T126.setTop (mkF m 115 #[.val (.ref a1), .val (.int sx), .val (.long vb), .second, .val .null, .val (.double ms), .second, .val (.int own_mk), .val (.int (own_i0 sx vb))] [(.int ((own_i0 sx vb) + (1 : Int32)))])) _
          refine XS.iload X126.here hx rfl (hb hby d5_115) rfl ?_
          show Steps p.tables e below (T126.setTop (mkF m 117 #[.val (.ref a1), .val (.int sx), .val (.long vb), .second, .val .null, .val (.double ms), .second, .val (.int own_mk), .val (.int (own_i0 sx vb))] [(.int own_mk), (.int ((own_i0 sx vb) + (1 : Int32)))])) _
          refine XS.iand X126.here hx rfl (hb hby d5_117) rfl ?_
          show Steps p.tables e below (T126.setTop (mkF m 118 #[.val (.ref a1), .val (.int sx), .val (.long vb), .second, .val .null, .val (.double ms), .second, .val (.int own_mk), .val (.int (own_i0 sx vb))] [(.int (own_i1 sx vb))])) _
          refine XS.istore X126.here hx rfl (hb hby d5_118) rfl (l' := #[.val (.ref a1), .val (.int sx), .val (.long vb), .second, .val .null, .val (.double ms), .second, .val (.int own_mk), .val (.int (own_i1 sx vb))]) rfl ?_
          show Steps p.tables e below (T126.setTop (mkF m 120 #[.val (.ref a1), .val (.int sx), .val (.long vb), .second, .val .null, .val (.double ms), .second, .val (.int own_mk), .val (.int (own_i1 sx vb))] [])) _
          refine XS.goto X126.here hx rfl (pc0 := 120) (pc' := 21) rfl (hb hby d5_120) (by decide) (by decide) ?_
          show Steps p.tables e below (T126.setTop (mkF m 21 #[.val (.ref a1), .val (.int sx), .val (.long vb), .second, .val .null, .val (.double ms), .second, .val (.int own_mk), .val (.int (own_i1 sx vb))] [])) _
          refine XS.aloadN X126.here hx rfl (hb hby d5_21) rfl rfl ?_
          show Steps p.tables e below (T126.setTop (mkF m 22 #[.val (.ref a1), .val (.int sx), .val (.long vb), .second, .val .null, .val (.double ms), .second, .val (.int own_mk), .val (.int (own_i1 sx vb))] [(.ref a1)])) _
          refine st147 _ ?_
          show Steps p.tables e below (T147.setTop (mkF m 25 #[.val (.ref a1), .val (.int sx), .val (.long vb), .second, .val .null, .val (.double ms), .second, .val (.int own_mk), .val (.int (own_i1 sx vb))] [(.ref z_slots)])) _
          refine XS.iconst X147.here hx rfl (hb hby d5_25) ?_
          show Steps p.tables e below (T147.setTop (mkF m 26 #[.val (.ref a1), .val (.int sx), .val (.long vb), .second, .val .null, .val (.double ms), .second, .val (.int own_mk), .val (.int (own_i1 sx vb))] [(.int (3 : Int32)), (.ref z_slots)])) _
          refine XS.iload X147.here hx rfl (hb hby d5_26) rfl ?_
          show Steps p.tables e below (T147.setTop (mkF m 28 #[.val (.ref a1), .val (.int sx), .val (.long vb), .second, .val .null, .val (.double ms), .second, .val (.int own_mk), .val (.int (own_i1 sx vb))] [(.int (own_i1 sx vb)), (.int (3 : Int32)), (.ref z_slots)])) _
          refine XS.imul X147.here hx rfl (hb hby d5_28) rfl ?_
          show Steps p.tables e below (T147.setTop (mkF m 29 #[.val (.ref a1), .val (.int sx), .val (.long vb), .second, .val .null, .val (.double ms), .second, .val (.int own_mk), .val (.int (own_i1 sx vb))] [(.int ((3 : Int32) * (own_i1 sx vb))), (.ref z_slots)])) _
          refine X147.laload hx (j := ((3 : Int32) * (own_i1 sx vb))) (v := (.long (x_slots (((3 : Int32) * (own_i1 sx vb))).toNatClampNeg))) (by rw [e147]; exact Ar148.1) (State.isArrayOf_alike hZ.alike Ar148.2.1) Ar148.2.2 hin148 (Has.at Ha148 hin148 (own_rd x_slots (own_b0 (own_r1 sx vb)))) (g := (mkF m 29 #[.val (.ref a1), .val (.int sx), .val (.long vb), .second, .val .null, .val (.double ms), .second, .val (.int own_mk), .val (.int (own_i1 sx vb))] [(.int ((3 : Int32) * (own_i1 sx vb))), (.ref z_slots)])) rfl rfl (hb hby d5_29) _ ?_
          show Steps p.tables e below (T147.setTop (mkF m 30 #[.val (.ref a1), .val (.int sx), .val (.long vb), .second, .val .null, .val (.double ms), .second, .val (.int own_mk), .val (.int (own_i1 sx vb))] [(.long (x_slots (((3 : Int32) * (own_i1 sx vb))).toNatClampNeg))])) _
          refine XS.lconst X147.here hx rfl (hb hby d5_30) ?_
          show Steps p.tables e below (T147.setTop (mkF m 31 #[.val (.ref a1), .val (.int sx), .val (.long vb), .second, .val .null, .val (.double ms), .second, .val (.int own_mk), .val (.int (own_i1 sx vb))] [(.long (0 : Int64)), (.long (x_slots (((3 : Int32) * (own_i1 sx vb))).toNatClampNeg))])) _
          refine XS.lcmp X147.here hx rfl (hb hby d5_31) rfl ?_
          show Steps p.tables e below (T147.setTop (mkF m 32 #[.val (.ref a1), .val (.int sx), .val (.long vb), .second, .val .null, .val (.double ms), .second, .val (.int own_mk), .val (.int (own_i1 sx vb))] [(.int (lcmpW (x_slots (((3 : Int32) * (own_i1 sx vb))).toNatClampNeg) (0 : Int64)))])) _
          exact k
        by_cases hc150 : (lcmpW (x_slots (((3 : Int32) * (own_i1 sx vb))).toNatClampNeg) (0 : Int64)) = (0 : Int32)
        · obtain ⟨T151, X151, e151, st151⟩ := getF X147 hx hZ hown (host := "") (Or.inl (hw _ (List.mem_of_getElem? (i := 20) rfl))) Via.refl e147 F_size_a1 (g := (mkF m 124 #[.val (.ref a1), .val (.int sx), .val (.long vb), .second, .val .null, .val (.double ms), .second, .val (.int own_mk), .val (.int (own_i1 sx vb))] [(.ref a1)])) rfl rfl (hb hby d5_124)
          obtain ⟨T152, X152, e152, st152⟩ := getF X151 hx hZ hown (host := "") (Or.inl (hw _ (List.mem_of_getElem? (i := 13) rfl))) Via.refl e151 F_entrySlots_a1 (g := (mkF m 128 #[.val (.ref a1), .val (.int sx), .val (.long vb), .second, .val .null, .val (.double ms), .second, .val (.int own_mk), .val (.int (own_i1 sx vb))] [(.ref a1), (.int z_size)])) rfl rfl (hb hby d5_128)
          obtain ⟨cl153, Ar153, qa153, Sa153, Na153, Ha153, Ga153⟩ := id V_entrySlots
          obtain ⟨T154, X154, e154, st154⟩ := getF X152 hx hZ hown (host := "") (Or.inl (hw _ (List.mem_of_getElem? (i := 10) rfl))) Via.refl e152 F_slots_a1 (g := (mkF m 151 #[.val (.ref a1), .val (.int sx), .val (.long vb), .second, .val .null, .val (.double ms), .second, .val (.int own_mk), .val (.int (own_i1 sx vb))] [(.ref a1)])) rfl rfl (hb hby d5_151)
          obtain ⟨cl155, Ar155, qa155, Sa155, Na155, Ha155, Ga155⟩ := id V_slots
          have hin155 : ¬ (((3 : Int32) * (own_i1 sx vb)) < 0 ∨ cl155.slots.size ≤ (((3 : Int32) * (own_i1 sx vb))).toNatClampNeg) := inb_of Sa155 (own_b0 (own_r1 sx vb))
          obtain ⟨T156, h156, X156, e156, W156, st156⟩ := stJ X154 hx hZ e154 Ar155 (j := ((3 : Int32) * (own_i1 sx vb))) hin155 (g := (mkF m 162 #[.val (.ref a1), .val (.int sx), .val (.long vb), .second, .val .null, .val (.double ms), .second, .val (.int own_mk), .val (.int (own_i1 sx vb))] [(.long (sx.toInt64 + (1 : Int64))), (.int ((3 : Int32) * (own_i1 sx vb))), (.ref z_slots)])) rfl rfl (hb hby d5_162)
          have fa156 : Arv Z h156 z_slots k_slots .long (96 : Int32) (own_L (own_up x_slots (((3 : Int32) * (own_i1 sx vb))).toNatClampNeg (sx.toInt64 + (1 : Int64)))) (.long (0 : Int64)) := (Arv.set Ar155 qa155 Sa155 Na155 Ha155 Ga155 rfl W156 (((3 : Int32) * (own_i1 sx vb))).toNatClampNeg rfl (own_Ll x_slots (own_ix (own_b0 (own_r1 sx vb))))).pad (own_Lset x_slots (own_ix (own_b0 (own_r1 sx vb))) (sx.toInt64 + (1 : Int64)))
          have f157 : Exa Z h156 a1 "com/example/ketproof/ketproof/MassTable" := E1.wr W156
          have f158 : Fld Z h156 a1 "com/example/ketproof/ketproof/MassTable" "slots" "[J" (.ref z_slots) := F_slots_a1.other W156 (Or.inl ne_slots)
          have f159 : Fld Z h156 a1 "com/example/ketproof/ketproof/MassTable" "entrySlots" "[I" (.ref z_entrySlots) := F_entrySlots_a1.other W156 (Or.inl ne_slots)
          have f160 : Fld Z h156 a1 "com/example/ketproof/ketproof/MassTable" "size" "I" (.int z_size) := F_size_a1.other W156 (Or.inl ne_slots)
          have f161 : Fld Z h156 a1 "com/example/ketproof/ketproof/MassTable" "decimals" "[Ljava/math/BigDecimal;" .null := F_decimals_a1.other W156 (Or.inl ne_slots)
          have f162 : Arv Z h156 z_entrySlots k_entrySlots .int (16 : Int32) (own_E x_entrySlots) (.int (0 : Int32)) := V_entrySlots.other W156 ne_entrySlots_slots
          have N163 := Fr.snoc X156 N53 g_slots
          have K164 : Keep h0 h156 [a1, z_slots, z_entrySlots] := (Keep.refl h0 [a1, z_slots, z_entrySlots]).wr W156 (Or.inl (List.mem_of_getElem? (i := 1) rfl))
          have Z165 : n0 ≤ h156.size := Nat.le_trans Z0 (Keep.of_wr W156).1
          obtain ⟨T166, X166, e166, st166⟩ := getF X156 hx hZ hown (host := "") (Or.inl (hw _ (List.mem_of_getElem? (i := 10) rfl))) Via.refl e156 f158 (g := (mkF m 164 #[.val (.ref a1), .val (.int sx), .val (.long vb), .second, .val .null, .val (.double ms), .second, .val (.int own_mk), .val (.int (own_i1 sx vb))] [(.ref a1)])) rfl rfl (hb hby d5_164)
          obtain ⟨cl167, Ar167, qa167, Sa167, Na167, Ha167, Ga167⟩ := id fa156
          have hin167 : ¬ ((((3 : Int32) * (own_i1 sx vb)) + (1 : Int32)) < 0 ∨ cl167.slots.size ≤ ((((3 : Int32) * (own_i1 sx vb)) + (1 : Int32))).toNatClampNeg) := inb_of Sa167 (own_b1 (own_r1 sx vb))
          obtain ⟨T168, h168, X168, e168, W168, st168⟩ := stJ X166 hx hZ e166 Ar167 (j := (((3 : Int32) * (own_i1 sx vb)) + (1 : Int32))) hin167 (g := (mkF m 174 #[.val (.ref a1), .val (.int sx), .val (.long vb), .second, .val .null, .val (.double ms), .second, .val (.int own_mk), .val (.int (own_i1 sx vb))] [(.long vb), (.int (((3 : Int32) * (own_i1 sx vb)) + (1 : Int32))), (.ref z_slots)])) rfl rfl (hb hby d5_174)
          have fa168 : Arv Z h168 z_slots k_slots .long (96 : Int32) (own_L (own_up (own_up x_slots (((3 : Int32) * (own_i1 sx vb))).toNatClampNeg (sx.toInt64 + (1 : Int64))) ((((3 : Int32) * (own_i1 sx vb)) + (1 : Int32))).toNatClampNeg vb)) (.long (0 : Int64)) := (Arv.set Ar167 qa167 Sa167 Na167 Ha167 Ga167 rfl W168 ((((3 : Int32) * (own_i1 sx vb)) + (1 : Int32))).toNatClampNeg rfl (own_Ll (own_up x_slots (((3 : Int32) * (own_i1 sx vb))).toNatClampNeg (sx.toInt64 + (1 : Int64))) (own_ix (own_b1 (own_r1 sx vb))))).pad (own_Lset (own_up x_slots (((3 : Int32) * (own_i1 sx vb))).toNatClampNeg (sx.toInt64 + (1 : Int64))) (own_ix (own_b1 (own_r1 sx vb))) vb)
          have f169 : Exa Z h168 a1 "com/example/ketproof/ketproof/MassTable" := f157.wr W168
          have f170 : Fld Z h168 a1 "com/example/ketproof/ketproof/MassTable" "slots" "[J" (.ref z_slots) := f158.other W168 (Or.inl ne_slots)
          have f171 : Fld Z h168 a1 "com/example/ketproof/ketproof/MassTable" "entrySlots" "[I" (.ref z_entrySlots) := f159.other W168 (Or.inl ne_slots)
          have f172 : Fld Z h168 a1 "com/example/ketproof/ketproof/MassTable" "size" "I" (.int z_size) := f160.other W168 (Or.inl ne_slots)
          have f173 : Fld Z h168 a1 "com/example/ketproof/ketproof/MassTable" "decimals" "[Ljava/math/BigDecimal;" .null := f161.other W168 (Or.inl ne_slots)
          have f174 : Arv Z h168 z_entrySlots k_entrySlots .int (16 : Int32) (own_E x_entrySlots) (.int (0 : Int32)) := f162.other W168 ne_entrySlots_slots
          have N175 := Fr.snoc X168 N163 g_slots
          have K176 : Keep h0 h168 [a1, z_slots, z_entrySlots] := K164.wr W168 (Or.inl (List.mem_of_getElem? (i := 1) rfl))
          have Z177 : n0 ≤ h168.size := Nat.le_trans Z165 (Keep.of_wr W168).1
          obtain ⟨T178, X178, e178, st178⟩ := getF X168 hx hZ hown (host := "") (Or.inl (hw _ (List.mem_of_getElem? (i := 10) rfl))) Via.refl e168 f170 (g := (mkF m 176 #[.val (.ref a1), .val (.int sx), .val (.long vb), .second, .val .null, .val (.double ms), .second, .val (.int own_mk), .val (.int (own_i1 sx vb))] [(.ref a1)])) rfl rfl (hb hby d5_176)
          obtain ⟨vm179, X179, st179⟩ := X178.doubleToRawLongBits hx hown (mvT hZ (hw _ (List.mem_of_getElem? (i := 27) rfl))) (mvT hZ (hw _ (List.mem_of_getElem? (i := 30) rfl))) (mvT hZ (hw _ (List.mem_of_getElem? (i := 28) rfl))) (mvT hZ (hw _ (List.mem_of_getElem? (i := 29) rfl))) (g := (mkF m 187 #[.val (.ref a1), .val (.int sx), .val (.long vb), .second, .val .null, .val (.double ms), .second, .val (.int own_mk), .val (.int (own_i1 sx vb))] [(.double ms), (.int (((3 : Int32) * (own_i1 sx vb)) + (2 : Int32))), (.ref z_slots)])) rfl (by rw [hml]; rfl) (rest := [(.int (((3 : Int32) * (own_i1 sx vb)) + (2 : Int32))), (.ref z_slots)]) (b := ms) rfl (hb hby d5_187) (by decide) (by show 2 * 0 + 2 + (nativeFrameWords "java/lang/Double" "doubleToRawLongBits" 2 + 11) ≤ _; decide)
          obtain ⟨T179, hT179⟩ : ∃ z, z = T178.setVm vm179 := ⟨_, rfl⟩
          rw [← hT179] at X179 st179
          have e179 : T179.heap = h168 := by rw [hT179]; exact e178
          obtain ⟨cl180, Ar180, qa180, Sa180, Na180, Ha180, Ga180⟩ := id fa168
          have hin180 : ¬ ((((3 : Int32) * (own_i1 sx vb)) + (2 : Int32)) < 0 ∨ cl180.slots.size ≤ ((((3 : Int32) * (own_i1 sx vb)) + (2 : Int32))).toNatClampNeg) := inb_of Sa180 (own_b2 (own_r1 sx vb))
          obtain ⟨T181, h181, X181, e181, W181, st181⟩ := stJ X179 hx hZ e179 Ar180 (j := (((3 : Int32) * (own_i1 sx vb)) + (2 : Int32))) hin180 (g := (mkF m 190 #[.val (.ref a1), .val (.int sx), .val (.long vb), .second, .val .null, .val (.double ms), .second, .val (.int own_mk), .val (.int (own_i1 sx vb))] [(.long ((ms).toInt64)), (.int (((3 : Int32) * (own_i1 sx vb)) + (2 : Int32))), (.ref z_slots)])) rfl rfl (hb hby d5_190)
          have fa181 : Arv Z h181 z_slots k_slots .long (96 : Int32) (own_L (own_up (own_up (own_up x_slots (((3 : Int32) * (own_i1 sx vb))).toNatClampNeg (sx.toInt64 + (1 : Int64))) ((((3 : Int32) * (own_i1 sx vb)) + (1 : Int32))).toNatClampNeg vb) ((((3 : Int32) * (own_i1 sx vb)) + (2 : Int32))).toNatClampNeg ((ms).toInt64))) (.long (0 : Int64)) := (Arv.set Ar180 qa180 Sa180 Na180 Ha180 Ga180 rfl W181 ((((3 : Int32) * (own_i1 sx vb)) + (2 : Int32))).toNatClampNeg rfl (own_Ll (own_up (own_up x_slots (((3 : Int32) * (own_i1 sx vb))).toNatClampNeg (sx.toInt64 + (1 : Int64))) ((((3 : Int32) * (own_i1 sx vb)) + (1 : Int32))).toNatClampNeg vb) (own_ix (own_b2 (own_r1 sx vb))))).pad (own_Lset (own_up (own_up x_slots (((3 : Int32) * (own_i1 sx vb))).toNatClampNeg (sx.toInt64 + (1 : Int64))) ((((3 : Int32) * (own_i1 sx vb)) + (1 : Int32))).toNatClampNeg vb) (own_ix (own_b2 (own_r1 sx vb))) ((ms).toInt64))
          have f182 : Exa Z h181 a1 "com/example/ketproof/ketproof/MassTable" := f169.wr W181
          have f183 : Fld Z h181 a1 "com/example/ketproof/ketproof/MassTable" "slots" "[J" (.ref z_slots) := f170.other W181 (Or.inl ne_slots)
          have f184 : Fld Z h181 a1 "com/example/ketproof/ketproof/MassTable" "entrySlots" "[I" (.ref z_entrySlots) := f171.other W181 (Or.inl ne_slots)
          have f185 : Fld Z h181 a1 "com/example/ketproof/ketproof/MassTable" "size" "I" (.int z_size) := f172.other W181 (Or.inl ne_slots)
          have f186 : Fld Z h181 a1 "com/example/ketproof/ketproof/MassTable" "decimals" "[Ljava/math/BigDecimal;" .null := f173.other W181 (Or.inl ne_slots)
          have f187 : Arv Z h181 z_entrySlots k_entrySlots .int (16 : Int32) (own_E x_entrySlots) (.int (0 : Int32)) := f174.other W181 ne_entrySlots_slots
          have N188 := Fr.snoc X181 N175 g_slots
          have K189 : Keep h0 h181 [a1, z_slots, z_entrySlots] := K176.wr W181 (Or.inl (List.mem_of_getElem? (i := 1) rfl))
          have Z190 : n0 ≤ h181.size := Nat.le_trans Z177 (Keep.of_wr W181).1
          obtain ⟨T191, X191, e191, st191⟩ := getF X181 hx hZ hown (host := "") (Or.inl (hw _ (List.mem_of_getElem? (i := 13) rfl))) Via.refl e181 f184 (g := (mkF m 227 #[.val (.ref a1), .val (.int sx), .val (.long vb), .second, .val .null, .val (.double ms), .second, .val (.int own_mk), .val (.int (own_i1 sx vb))] [(.ref a1)])) rfl rfl (hb hby d5_227)
          obtain ⟨T192, X192, e192, st192⟩ := getF X191 hx hZ hown (host := "") (Or.inl (hw _ (List.mem_of_getElem? (i := 20) rfl))) Via.refl e191 f185 (g := (mkF m 232 #[.val (.ref a1), .val (.int sx), .val (.long vb), .second, .val .null, .val (.double ms), .second, .val (.int own_mk), .val (.int (own_i1 sx vb))] [(.ref a1), (.ref a1), (.ref z_entrySlots)])) rfl rfl (hb hby d5_232)
          obtain ⟨T193, h193, X193, e193, W193, st193⟩ := putF X192 hx hZ hown (host := "") (Or.inl (hw _ (List.mem_of_getElem? (i := 20) rfl))) Via.refl e192 f185 f182 (Or.inl (hw _ (List.mem_of_getElem? (i := 21) rfl))) (hw _ (List.mem_of_getElem? (i := 1) rfl)) (ty := .int) (by decide) rfl rfl (g := (mkF m 238 #[.val (.ref a1), .val (.int sx), .val (.long vb), .second, .val .null, .val (.double ms), .second, .val (.int own_mk), .val (.int (own_i1 sx vb))] [(.int (z_size + (1 : Int32))), (.ref a1), (.int z_size), (.ref z_entrySlots)])) rfl rfl (hb hby d5_238)
          have f194 : Exa Z h193 a1 "com/example/ketproof/ketproof/MassTable" := f182.wr W193
          have f195 : Fld Z h193 a1 "com/example/ketproof/ketproof/MassTable" "slots" "[J" (.ref z_slots) := f183.other W193 (Or.inr (slot_ne (Or.inl (hw _ (List.mem_of_getElem? (i := 11) rfl))) (Or.inl (hw _ (List.mem_of_getElem? (i := 21) rfl))) (by decide) (t := (.array .long)) (t' := .int) (by decide) (by decide)))
          have f196 : Fld Z h193 a1 "com/example/ketproof/ketproof/MassTable" "entrySlots" "[I" (.ref z_entrySlots) := f184.other W193 (Or.inr (slot_ne (Or.inl (hw _ (List.mem_of_getElem? (i := 14) rfl))) (Or.inl (hw _ (List.mem_of_getElem? (i := 21) rfl))) (by decide) (t := (.array .int)) (t' := .int) (by decide) (by decide)))
          have f197 : Fld Z h193 a1 "com/example/ketproof/ketproof/MassTable" "size" "I" (.int (z_size + (1 : Int32))) := f185.same W193
          have f198 : Fld Z h193 a1 "com/example/ketproof/ketproof/MassTable" "decimals" "[Ljava/math/BigDecimal;" .null := f186.other W193 (Or.inr (slot_ne (Or.inl (hw _ (List.mem_of_getElem? (i := 61) rfl))) (Or.inl (hw _ (List.mem_of_getElem? (i := 21) rfl))) (by decide) (t := (.array (.object "java/math/BigDecimal"))) (t' := .int) (by decide) (by decide)))
          have f199 : Arv Z h193 z_entrySlots k_entrySlots .int (16 : Int32) (own_E x_entrySlots) (.int (0 : Int32)) := f187.other W193 (Ne.symm ne_entrySlots)
          have f200 : Arv Z h193 z_slots k_slots .long (96 : Int32) (own_L (own_up (own_up (own_up x_slots (((3 : Int32) * (own_i1 sx vb))).toNatClampNeg (sx.toInt64 + (1 : Int64))) ((((3 : Int32) * (own_i1 sx vb)) + (1 : Int32))).toNatClampNeg vb) ((((3 : Int32) * (own_i1 sx vb)) + (2 : Int32))).toNatClampNeg ((ms).toInt64))) (.long (0 : Int64)) := fa181.other W193 (Ne.symm ne_slots)
          have N201 := Fr.snoc X193 N188 g1
          have K202 : Keep h0 h193 [a1, z_slots, z_entrySlots] := K189.wr W193 (Or.inl (List.mem_of_getElem? (i := 0) rfl))
          have Z203 : n0 ≤ h193.size := Nat.le_trans Z190 (Keep.of_wr W193).1
          obtain ⟨cl204, Ar204, qa204, Sa204, Na204, Ha204, Ga204⟩ := id f199
          have hin204 : ¬ (z_size < 0 ∨ cl204.slots.size ≤ (z_size).toNatClampNeg) := inb_of Sa204 (own_ine hsz)
          obtain ⟨T205, h205, X205, e205, W205, st205⟩ := stI X193 hx hZ e193 Ar204 (j := z_size) hin204 (g := (mkF m 243 #[.val (.ref a1), .val (.int sx), .val (.long vb), .second, .val .null, .val (.double ms), .second, .val (.int own_mk), .val (.int (own_i1 sx vb))] [(.int (own_i1 sx vb)), (.int z_size), (.ref z_entrySlots)])) rfl rfl (hb hby d5_243)
          have fa205 : Arv Z h205 z_entrySlots k_entrySlots .int (16 : Int32) (own_E (own_up x_entrySlots (z_size).toNatClampNeg (own_i1 sx vb))) (.int (0 : Int32)) := (Arv.set Ar204 qa204 Sa204 Na204 Ha204 Ga204 rfl W205 (z_size).toNatClampNeg rfl (own_El x_entrySlots (own_ixe (own_ine hsz)))).pad (own_Eset x_entrySlots (own_ixe (own_ine hsz)) (own_i1 sx vb))
          have f206 : Exa Z h205 a1 "com/example/ketproof/ketproof/MassTable" := f194.wr W205
          have f207 : Fld Z h205 a1 "com/example/ketproof/ketproof/MassTable" "slots" "[J" (.ref z_slots) := f195.other W205 (Or.inl ne_entrySlots)
          have f208 : Fld Z h205 a1 "com/example/ketproof/ketproof/MassTable" "entrySlots" "[I" (.ref z_entrySlots) := f196.other W205 (Or.inl ne_entrySlots)
          have f209 : Fld Z h205 a1 "com/example/ketproof/ketproof/MassTable" "size" "I" (.int (z_size + (1 : Int32))) := f197.other W205 (Or.inl ne_entrySlots)
          have f210 : Fld Z h205 a1 "com/example/ketproof/ketproof/MassTable" "decimals" "[Ljava/math/BigDecimal;" .null := f198.other W205 (Or.inl ne_entrySlots)
          have f211 : Arv Z h205 z_slots k_slots .long (96 : Int32) (own_L (own_up (own_up (own_up x_slots (((3 : Int32) * (own_i1 sx vb))).toNatClampNeg (sx.toInt64 + (1 : Int64))) ((((3 : Int32) * (own_i1 sx vb)) + (1 : Int32))).toNatClampNeg vb) ((((3 : Int32) * (own_i1 sx vb)) + (2 : Int32))).toNatClampNeg ((ms).toInt64))) (.long (0 : Int64)) := f200.other W205 (Ne.symm ne_entrySlots_slots)
          have N212 := Fr.snoc X205 N201 g_entrySlots
          have K213 : Keep h0 h205 [a1, z_slots, z_entrySlots] := K202.wr W205 (Or.inl (List.mem_of_getElem? (i := 2) rfl))
          have Z214 : n0 ≤ h205.size := Nat.le_trans Z203 (Keep.of_wr W205).1
          have hf_size : f5_size sx vb ms z_size x_slots x_entrySlots = (z_size + (1 : Int32)) := by
            unfold f5_size
            first | rfl | (rw [if_neg hc57, if_pos hc125, if_neg hc129, if_pos hc150])
          have hf_slots : f5_slots sx vb ms z_size x_slots x_entrySlots = (own_up (own_up (own_up x_slots (((3 : Int32) * (own_i1 sx vb))).toNatClampNeg (sx.toInt64 + (1 : Int64))) ((((3 : Int32) * (own_i1 sx vb)) + (1 : Int32))).toNatClampNeg vb) ((((3 : Int32) * (own_i1 sx vb)) + (2 : Int32))).toNatClampNeg ((ms).toInt64)) := by
            unfold f5_slots
            first | rfl | (rw [if_neg hc57, if_pos hc125, if_neg hc129, if_pos hc150])
          have hf_entrySlots : f5_entrySlots sx vb ms z_size x_slots x_entrySlots = (own_up x_entrySlots (z_size).toNatClampNeg (own_i1 sx vb)) := by
            unfold f5_entrySlots
            first | rfl | (rw [if_neg hc57, if_pos hc125, if_neg hc129, if_pos hc150])
          obtain ⟨fs, hr, hrun, hended, hW, hsame⟩ := X205.leave (v := none) (fun _ => rfl)
          refine ⟨_, _, S149 _ ?_, hrun, hended, _, _, rfl, ?_, ⟨_, rfl⟩, hW, hsame.mono (by decide) (by decide)⟩
          · refine XS.ifYes X147.here hx rfl (pc0 := 32) (pc' := 123) rfl (hb hby d5_32) rfl ((if0 _ _).trans (teq hc150).1) (by decide) (by decide) ?_
            show Steps p.tables e below (T147.setTop (mkF m 123 #[.val (.ref a1), .val (.int sx), .val (.long vb), .second, .val .null, .val (.double ms), .second, .val (.int own_mk), .val (.int (own_i1 sx vb))] [])) _
            refine XS.aloadN X147.here hx rfl (hb hby d5_123) rfl rfl ?_
            show Steps p.tables e below (T147.setTop (mkF m 124 #[.val (.ref a1), .val (.int sx), .val (.long vb), .second, .val .null, .val (.double ms), .second, .val (.int own_mk), .val (.int (own_i1 sx vb))] [(.ref a1)])) _
            refine st151 _ ?_
            show Steps p.tables e below (T151.setTop (mkF m 127 #[.val (.ref a1), .val (.int sx), .val (.long vb), .second, .val .null, .val (.double ms), .second, .val (.int own_mk), .val (.int (own_i1 sx vb))] [(.int z_size)])) _
            refine XS.aloadN X151.here hx rfl (hb hby d5_127) rfl rfl ?_
            show Steps p.tables e below (T151.setTop (mkF m 128 #[.val (.ref a1), .val (.int sx), .val (.long vb), .second, .val .null, .val (.double ms), .second, .val (.int own_mk), .val (.int (own_i1 sx vb))] [(.ref a1), (.int z_size)])) _
            refine st152 _ ?_
            show Steps p.tables e below (T152.setTop (mkF m 131 #[.val (.ref a1), .val (.int sx), .val (.long vb), .second, .val .null, .val (.double ms), .second, .val (.int own_mk), .val (.int (own_i1 sx vb))] [(.ref z_entrySlots), (.int z_size)])) _
            refine X152.arraylength hx (by rw [e152]; exact Ar153.1) (State.isArrayOf_alike hZ.alike Ar153.2.1) (g := (mkF m 131 #[.val (.ref a1), .val (.int sx), .val (.long vb), .second, .val .null, .val (.double ms), .second, .val (.int own_mk), .val (.int (own_i1 sx vb))] [(.ref z_entrySlots), (.int z_size)])) rfl rfl (hb hby d5_131) _ ?_
            rw [len_of Sa153 Na153]
            show Steps p.tables e below (T152.setTop (mkF m 132 #[.val (.ref a1), .val (.int sx), .val (.long vb), .second, .val .null, .val (.double ms), .second, .val (.int own_mk), .val (.int (own_i1 sx vb))] [(.int (16 : Int32)), (.int z_size)])) _
            refine XS.icmpYes X152.here hx rfl (pc0 := 132) (pc' := 150) rfl (hb hby d5_132) rfl (feq (own_full hsz)).2 (by decide) (by decide) ?_
            show Steps p.tables e below (T152.setTop (mkF m 150 #[.val (.ref a1), .val (.int sx), .val (.long vb), .second, .val .null, .val (.double ms), .second, .val (.int own_mk), .val (.int (own_i1 sx vb))] [])) _
            refine XS.aloadN X152.here hx rfl (hb hby d5_150) rfl rfl ?_
            show Steps p.tables e below (T152.setTop (mkF m 151 #[.val (.ref a1), .val (.int sx), .val (.long vb), .second, .val .null, .val (.double ms), .second, .val (.int own_mk), .val (.int (own_i1 sx vb))] [(.ref a1)])) _
            refine st154 _ ?_
            show Steps p.tables e below (T154.setTop (mkF m 154 #[.val (.ref a1), .val (.int sx), .val (.long vb), .second, .val .null, .val (.double ms), .second, .val (.int own_mk), .val (.int (own_i1 sx vb))] [(.ref z_slots)])) _
            refine XS.iconst X154.here hx rfl (hb hby d5_154) ?_
            show Steps p.tables e below (T154.setTop (mkF m 155 #[.val (.ref a1), .val (.int sx), .val (.long vb), .second, .val .null, .val (.double ms), .second, .val (.int own_mk), .val (.int (own_i1 sx vb))] [(.int (3 : Int32)), (.ref z_slots)])) _
            refine XS.iload X154.here hx rfl (hb hby d5_155) rfl ?_
            show Steps p.tables e below (T154.setTop (mkF m 157 #[.val (.ref a1), .val (.int sx), .val (.long vb), .second, .val .null, .val (.double ms), .second, .val (.int own_mk), .val (.int (own_i1 sx vb))] [(.int (own_i1 sx vb)), (.int (3 : Int32)), (.ref z_slots)])) _
            refine XS.imul X154.here hx rfl (hb hby d5_157) rfl ?_
            show Steps p.tables e below (T154.setTop (mkF m 158 #[.val (.ref a1), .val (.int sx), .val (.long vb), .second, .val .null, .val (.double ms), .second, .val (.int own_mk), .val (.int (own_i1 sx vb))] [(.int ((3 : Int32) * (own_i1 sx vb))), (.ref z_slots)])) _
            refine XS.iloadN X154.here hx rfl (hb hby d5_158) rfl ?_
            show Steps p.tables e below (T154.setTop (mkF m 159 #[.val (.ref a1), .val (.int sx), .val (.long vb), .second, .val .null, .val (.double ms), .second, .val (.int own_mk), .val (.int (own_i1 sx vb))] [(.int sx), (.int ((3 : Int32) * (own_i1 sx vb))), (.ref z_slots)])) _
            refine XS.i2l X154.here hx rfl (hb hby d5_159) rfl ?_
            show Steps p.tables e below (T154.setTop (mkF m 160 #[.val (.ref a1), .val (.int sx), .val (.long vb), .second, .val .null, .val (.double ms), .second, .val (.int own_mk), .val (.int (own_i1 sx vb))] [(.long sx.toInt64), (.int ((3 : Int32) * (own_i1 sx vb))), (.ref z_slots)])) _
            refine XS.lconst X154.here hx rfl (hb hby d5_160) ?_
            show Steps p.tables e below (T154.setTop (mkF m 161 #[.val (.ref a1), .val (.int sx), .val (.long vb), .second, .val .null, .val (.double ms), .second, .val (.int own_mk), .val (.int (own_i1 sx vb))] [(.long (1 : Int64)), (.long sx.toInt64), (.int ((3 : Int32) * (own_i1 sx vb))), (.ref z_slots)])) _
            refine XS.ladd X154.here hx rfl (hb hby d5_161) rfl ?_
            show Steps p.tables e below (T154.setTop (mkF m 162 #[.val (.ref a1), .val (.int sx), .val (.long vb), .second, .val .null, .val (.double ms), .second, .val (.int own_mk), .val (.int (own_i1 sx vb))] [(.long (sx.toInt64 + (1 : Int64))), (.int ((3 : Int32) * (own_i1 sx vb))), (.ref z_slots)])) _
            refine st156 _ ?_
            show Steps p.tables e below (T156.setTop (mkF m 163 #[.val (.ref a1), .val (.int sx), .val (.long vb), .second, .val .null, .val (.double ms), .second, .val (.int own_mk), .val (.int (own_i1 sx vb))] [])) _
            refine XS.aloadN X156.here hx rfl (hb hby d5_163) rfl rfl ?_
            show Steps p.tables e below (T156.setTop (mkF m 164 #[.val (.ref a1), .val (.int sx), .val (.long vb), .second, .val .null, .val (.double ms), .second, .val (.int own_mk), .val (.int (own_i1 sx vb))] [(.ref a1)])) _
            refine st166 _ ?_
            show Steps p.tables e below (T166.setTop (mkF m 167 #[.val (.ref a1), .val (.int sx), .val (.long vb), .second, .val .null, .val (.double ms), .second, .val (.int own_mk), .val (.int (own_i1 sx vb))] [(.ref z_slots)])) _
            refine XS.iconst X166.here hx rfl (hb hby d5_167) ?_
            show Steps p.tables e below (T166.setTop (mkF m 168 #[.val (.ref a1), .val (.int sx), .val (.long vb), .second, .val .null, .val (.double ms), .second, .val (.int own_mk), .val (.int (own_i1 sx vb))] [(.int (3 : Int32)), (.ref z_slots)])) _
            refine XS.iload X166.here hx rfl (hb hby d5_168) rfl ?_
            show Steps p.tables e below (T166.setTop (mkF m 170 #[.val (.ref a1), .val (.int sx), .val (.long vb), .second, .val .null, .val (.double ms), .second, .val (.int own_mk), .val (.int (own_i1 sx vb))] [(.int (own_i1 sx vb)), (.int (3 : Int32)), (.ref z_slots)])) _
            refine XS.imul X166.here hx rfl (hb hby d5_170) rfl ?_
            show Steps p.tables e below (T166.setTop (mkF m 171 #[.val (.ref a1), .val (.int sx), .val (.long vb), .second, .val .null, .val (.double ms), .second, .val (.int own_mk), .val (.int (own_i1 sx vb))] [(.int ((3 : Int32) * (own_i1 sx vb))), (.ref z_slots)])) _
            refine XS.iconst X166.here hx rfl (hb hby d5_171) ?_
            show Steps p.tables e below (T166.setTop (mkF m 172 #[.val (.ref a1), .val (.int sx), .val (.long vb), .second, .val .null, .val (.double ms), .second, .val (.int own_mk), .val (.int (own_i1 sx vb))] [(.int (1 : Int32)), (.int ((3 : Int32) * (own_i1 sx vb))), (.ref z_slots)])) _
            refine XS.iadd X166.here hx rfl (hb hby d5_172) rfl ?_
            show Steps p.tables e below (T166.setTop (mkF m 173 #[.val (.ref a1), .val (.int sx), .val (.long vb), .second, .val .null, .val (.double ms), .second, .val (.int own_mk), .val (.int (own_i1 sx vb))] [(.int (((3 : Int32) * (own_i1 sx vb)) + (1 : Int32))), (.ref z_slots)])) _
            refine XS.lloadN X166.here hx rfl (hb hby d5_173) rfl ?_
            show Steps p.tables e below (T166.setTop (mkF m 174 #[.val (.ref a1), .val (.int sx), .val (.long vb), .second, .val .null, .val (.double ms), .second, .val (.int own_mk), .val (.int (own_i1 sx vb))] [(.long vb), (.int (((3 : Int32) * (own_i1 sx vb)) + (1 : Int32))), (.ref z_slots)])) _
            refine st168 _ ?_
            show Steps p.tables e below (T168.setTop (mkF m 175 #[.val (.ref a1), .val (.int sx), .val (.long vb), .second, .val .null, .val (.double ms), .second, .val (.int own_mk), .val (.int (own_i1 sx vb))] [])) _
            refine XS.aloadN X168.here hx rfl (hb hby d5_175) rfl rfl ?_
            show Steps p.tables e below (T168.setTop (mkF m 176 #[.val (.ref a1), .val (.int sx), .val (.long vb), .second, .val .null, .val (.double ms), .second, .val (.int own_mk), .val (.int (own_i1 sx vb))] [(.ref a1)])) _
            refine st178 _ ?_
            show Steps p.tables e below (T178.setTop (mkF m 179 #[.val (.ref a1), .val (.int sx), .val (.long vb), .second, .val .null, .val (.double ms), .second, .val (.int own_mk), .val (.int (own_i1 sx vb))] [(.ref z_slots)])) _
            refine XS.iconst X178.here hx rfl (hb hby d5_179) ?_
            show Steps p.tables e below (T178.setTop (mkF m 180 #[.val (.ref a1), .val (.int sx), .val (.long vb), .second, .val .null, .val (.double ms), .second, .val (.int own_mk), .val (.int (own_i1 sx vb))] [(.int (3 : Int32)), (.ref z_slots)])) _
            refine XS.iload X178.here hx rfl (hb hby d5_180) rfl ?_
            show Steps p.tables e below (T178.setTop (mkF m 182 #[.val (.ref a1), .val (.int sx), .val (.long vb), .second, .val .null, .val (.double ms), .second, .val (.int own_mk), .val (.int (own_i1 sx vb))] [(.int (own_i1 sx vb)), (.int (3 : Int32)), (.ref z_slots)])) _
            refine XS.imul X178.here hx rfl (hb hby d5_182) rfl ?_
            show Steps p.tables e below (T178.setTop (mkF m 183 #[.val (.ref a1), .val (.int sx), .val (.long vb), .second, .val .null, .val (.double ms), .second, .val (.int own_mk), .val (.int (own_i1 sx vb))] [(.int ((3 : Int32) * (own_i1 sx vb))), (.ref z_slots)])) _
            refine XS.iconst X178.here hx rfl (hb hby d5_183) ?_
            show Steps p.tables e below (T178.setTop (mkF m 184 #[.val (.ref a1), .val (.int sx), .val (.long vb), .second, .val .null, .val (.double ms), .second, .val (.int own_mk), .val (.int (own_i1 sx vb))] [(.int (2 : Int32)), (.int ((3 : Int32) * (own_i1 sx vb))), (.ref z_slots)])) _
            refine XS.iadd X178.here hx rfl (hb hby d5_184) rfl ?_
            show Steps p.tables e below (T178.setTop (mkF m 185 #[.val (.ref a1), .val (.int sx), .val (.long vb), .second, .val .null, .val (.double ms), .second, .val (.int own_mk), .val (.int (own_i1 sx vb))] [(.int (((3 : Int32) * (own_i1 sx vb)) + (2 : Int32))), (.ref z_slots)])) _
            refine XS.dload X178.here hx rfl (hb hby d5_185) rfl ?_
            show Steps p.tables e below (T178.setTop (mkF m 187 #[.val (.ref a1), .val (.int sx), .val (.long vb), .second, .val .null, .val (.double ms), .second, .val (.int own_mk), .val (.int (own_i1 sx vb))] [(.double ms), (.int (((3 : Int32) * (own_i1 sx vb)) + (2 : Int32))), (.ref z_slots)])) _
            refine st179 _ ?_
            show Steps p.tables e below (T179.setTop (mkF m 190 #[.val (.ref a1), .val (.int sx), .val (.long vb), .second, .val .null, .val (.double ms), .second, .val (.int own_mk), .val (.int (own_i1 sx vb))] [(.long ((ms).toInt64)), (.int (((3 : Int32) * (own_i1 sx vb)) + (2 : Int32))), (.ref z_slots)])) _
            refine st181 _ ?_
            show Steps p.tables e below (T181.setTop (mkF m 191 #[.val (.ref a1), .val (.int sx), .val (.long vb), .second, .val .null, .val (.double ms), .second, .val (.int own_mk), .val (.int (own_i1 sx vb))] [])) _
            refine XS.aload X181.here hx rfl (hb hby d5_191) rfl rfl ?_
            show Steps p.tables e below (T181.setTop (mkF m 193 #[.val (.ref a1), .val (.int sx), .val (.long vb), .second, .val .null, .val (.double ms), .second, .val (.int own_mk), .val (.int (own_i1 sx vb))] [.null])) _
            refine XS.ifnullYes X181.here hx rfl (pc0 := 193) (pc' := 226) rfl (hb hby d5_193) rfl (by decide) (by decide) ?_
            show Steps p.tables e below (T181.setTop (mkF m 226 #[.val (.ref a1), .val (.int sx), .val (.long vb), .second, .val .null, .val (.double ms), .second, .val (.int own_mk), .val (.int (own_i1 sx vb))] [])) _
            refine XS.aloadN X181.here hx rfl (hb hby d5_226) rfl rfl ?_
            show Steps p.tables e below (T181.setTop (mkF m 227 #[.val (.ref a1), .val (.int sx), .val (.long vb), .second, .val .null, .val (.double ms), .second, .val (.int own_mk), .val (.int (own_i1 sx vb))] [(.ref a1)])) _
            refine st191 _ ?_
            show Steps p.tables e below (T191.setTop (mkF m 230 #[.val (.ref a1), .val (.int sx), .val (.long vb), .second, .val .null, .val (.double ms), .second, .val (.int own_mk), .val (.int (own_i1 sx vb))] [(.ref z_entrySlots)])) _
            refine XS.aloadN X191.here hx rfl (hb hby d5_230) rfl rfl ?_
            show Steps p.tables e below (T191.setTop (mkF m 231 #[.val (.ref a1), .val (.int sx), .val (.long vb), .second, .val .null, .val (.double ms), .second, .val (.int own_mk), .val (.int (own_i1 sx vb))] [(.ref a1), (.ref z_entrySlots)])) _
            refine XS.dup X191.here hx rfl (hb hby d5_231) rfl rfl ?_
            show Steps p.tables e below (T191.setTop (mkF m 232 #[.val (.ref a1), .val (.int sx), .val (.long vb), .second, .val .null, .val (.double ms), .second, .val (.int own_mk), .val (.int (own_i1 sx vb))] [(.ref a1), (.ref a1), (.ref z_entrySlots)])) _
            refine st192 _ ?_
            show Steps p.tables e below (T192.setTop (mkF m 235 #[.val (.ref a1), .val (.int sx), .val (.long vb), .second, .val .null, .val (.double ms), .second, .val (.int own_mk), .val (.int (own_i1 sx vb))] [(.int z_size), (.ref a1), (.ref z_entrySlots)])) _
            refine XS.dupX1 X192.here hx rfl (hb hby d5_235) rfl rfl rfl ?_
            show Steps p.tables e below (T192.setTop (mkF m 236 #[.val (.ref a1), .val (.int sx), .val (.long vb), .second, .val .null, .val (.double ms), .second, .val (.int own_mk), .val (.int (own_i1 sx vb))] [(.int z_size), (.ref a1), (.int z_size), (.ref z_entrySlots)])) _
            refine XS.iconst X192.here hx rfl (hb hby d5_236) ?_
            show Steps p.tables e below (T192.setTop (mkF m 237 #[.val (.ref a1), .val (.int sx), .val (.long vb), .second, .val .null, .val (.double ms), .second, .val (.int own_mk), .val (.int (own_i1 sx vb))] [(.int (1 : Int32)), (.int z_size), (.ref a1), (.int z_size), (.ref z_entrySlots)])) _
            refine XS.iadd X192.here hx rfl (hb hby d5_237) rfl ?_
            show Steps p.tables e below (T192.setTop (mkF m 238 #[.val (.ref a1), .val (.int sx), .val (.long vb), .second, .val .null, .val (.double ms), .second, .val (.int own_mk), .val (.int (own_i1 sx vb))] [(.int (z_size + (1 : Int32))), (.ref a1), (.int z_size), (.ref z_entrySlots)])) _
            refine st193 _ ?_
            show Steps p.tables e below (T193.setTop (mkF m 241 #[.val (.ref a1), .val (.int sx), .val (.long vb), .second, .val .null, .val (.double ms), .second, .val (.int own_mk), .val (.int (own_i1 sx vb))] [(.int z_size), (.ref z_entrySlots)])) _
            refine XS.iload X193.here hx rfl (hb hby d5_241) rfl ?_
            show Steps p.tables e below (T193.setTop (mkF m 243 #[.val (.ref a1), .val (.int sx), .val (.long vb), .second, .val .null, .val (.double ms), .second, .val (.int own_mk), .val (.int (own_i1 sx vb))] [(.int (own_i1 sx vb)), (.int z_size), (.ref z_entrySlots)])) _
            refine st205 _ ?_
            show Steps p.tables e below (T205.setTop (mkF m 244 #[.val (.ref a1), .val (.int sx), .val (.long vb), .second, .val .null, .val (.double ms), .second, .val (.int own_mk), .val (.int (own_i1 sx vb))] [])) _
            exact X205.returnOut hx Bd.returns (hb hby d5_244) hr
          · show Q5 Z a1 sx vb ms z_slots z_entrySlots z_size k_slots x_slots k_entrySlots x_entrySlots h0 n0 _ T205.heap _
            rw [e205]
            exact ⟨rfl, N212, K213, f206, f207, f208, by rw [hf_size]; exact f209, f210, by rw [hf_slots]; exact f211, by rw [hf_entrySlots]; exact fa205⟩
        · obtain ⟨T215, X215, e215, st215⟩ := getF X147 hx hZ hown (host := "") (Or.inl (hw _ (List.mem_of_getElem? (i := 10) rfl))) Via.refl e147 F_slots_a1 (g := (mkF m 36 #[.val (.ref a1), .val (.int sx), .val (.long vb), .second, .val .null, .val (.double ms), .second, .val (.int own_mk), .val (.int (own_i1 sx vb))] [(.ref a1)])) rfl rfl (hb hby d5_36)
          obtain ⟨cl216, Ar216, qa216, Sa216, Na216, Ha216, Ga216⟩ := id V_slots
          have hin216 : ¬ (((3 : Int32) * (own_i1 sx vb)) < 0 ∨ cl216.slots.size ≤ (((3 : Int32) * (own_i1 sx vb))).toNatClampNeg) := inb_of Sa216 (own_b0 (own_r1 sx vb))
          have S217 : ∀ t, Steps p.tables e below (T215.setTop (mkF m 49 #[.val (.ref a1), .val (.int sx), .val (.long vb), .second, .val .null, .val (.double ms), .second, .val (.int own_mk), .val (.int (own_i1 sx vb))] [(.int (lcmpW (x_slots (((3 : Int32) * (own_i1 sx vb))).toNatClampNeg) (sx.toInt64 + (1 : Int64))))])) t → Steps p.tables e below (s₁.setTop (entryFrame m #[(.ref a1), (.int sx), (.long vb), .null, (.double ms)] 9)) t := by
            intro t k
            refine S149 t ?_
            refine XS.ifNo X147.here hx rfl (hb hby d5_32) rfl ((if0 _ _).trans (feq hc150).1) ?_
            show Steps p.tables e below (T147.setTop (mkF m 35 #[.val (.ref a1), .val (.int sx), .val (.long vb), .second, .val .null, .val (.double ms), .second, .val (.int own_mk), .val (.int (own_i1 sx vb))] [])) _
            refine XS.aloadN X147.here hx rfl (hb hby d5_35) rfl rfl ?_
            show Steps p.tables e below (T147.setTop (mkF m 36 #[.val (.ref a1), .val (.int sx), .val (.long vb), .second, .val .null, .val (.double ms), .second, .val (.int own_mk), .val (.int (own_i1 sx vb))] [(.ref a1)])) _
            refine st215 _ ?_
            show Steps p.tables e below (T215.setTop (mkF m 39 #[.val (.ref a1), .val (.int sx), .val (.long vb), .second, .val .null, .val (.double ms), .second, .val (.int own_mk), .val (.int (own_i1 sx vb))] [(.ref z_slots)])) _
            refine XS.iconst X215.here hx rfl (hb hby d5_39) ?_
            show Steps p.tables e below (T215.setTop (mkF m 40 #[.val (.ref a1), .val (.int sx), .val (.long vb), .second, .val .null, .val (.double ms), .second, .val (.int own_mk), .val (.int (own_i1 sx vb))] [(.int (3 : Int32)), (.ref z_slots)])) _
            refine XS.iload X215.here hx rfl (hb hby d5_40) rfl ?_
            show Steps p.tables e below (T215.setTop (mkF m 42 #[.val (.ref a1), .val (.int sx), .val (.long vb), .second, .val .null, .val (.double ms), .second, .val (.int own_mk), .val (.int (own_i1 sx vb))] [(.int (own_i1 sx vb)), (.int (3 : Int32)), (.ref z_slots)])) _
            refine XS.imul X215.here hx rfl (hb hby d5_42) rfl ?_
            show Steps p.tables e below (T215.setTop (mkF m 43 #[.val (.ref a1), .val (.int sx), .val (.long vb), .second, .val .null, .val (.double ms), .second, .val (.int own_mk), .val (.int (own_i1 sx vb))] [(.int ((3 : Int32) * (own_i1 sx vb))), (.ref z_slots)])) _
            refine X215.laload hx (j := ((3 : Int32) * (own_i1 sx vb))) (v := (.long (x_slots (((3 : Int32) * (own_i1 sx vb))).toNatClampNeg))) (by rw [e215]; exact Ar216.1) (State.isArrayOf_alike hZ.alike Ar216.2.1) Ar216.2.2 hin216 (Has.at Ha216 hin216 (own_rd x_slots (own_b0 (own_r1 sx vb)))) (g := (mkF m 43 #[.val (.ref a1), .val (.int sx), .val (.long vb), .second, .val .null, .val (.double ms), .second, .val (.int own_mk), .val (.int (own_i1 sx vb))] [(.int ((3 : Int32) * (own_i1 sx vb))), (.ref z_slots)])) rfl rfl (hb hby d5_43) _ ?_
            show Steps p.tables e below (T215.setTop (mkF m 44 #[.val (.ref a1), .val (.int sx), .val (.long vb), .second, .val .null, .val (.double ms), .second, .val (.int own_mk), .val (.int (own_i1 sx vb))] [(.long (x_slots (((3 : Int32) * (own_i1 sx vb))).toNatClampNeg))])) _
            refine XS.iloadN X215.here hx rfl (hb hby d5_44) rfl ?_
            show Steps p.tables e below (T215.setTop (mkF m 45 #[.val (.ref a1), .val (.int sx), .val (.long vb), .second, .val .null, .val (.double ms), .second, .val (.int own_mk), .val (.int (own_i1 sx vb))] [(.int sx), (.long (x_slots (((3 : Int32) * (own_i1 sx vb))).toNatClampNeg))])) _
            refine XS.i2l X215.here hx rfl (hb hby d5_45) rfl ?_
            show Steps p.tables e below (T215.setTop (mkF m 46 #[.val (.ref a1), .val (.int sx), .val (.long vb), .second, .val .null, .val (.double ms), .second, .val (.int own_mk), .val (.int (own_i1 sx vb))] [(.long sx.toInt64), (.long (x_slots (((3 : Int32) * (own_i1 sx vb))).toNatClampNeg))])) _
            refine XS.lconst X215.here hx rfl (hb hby d5_46) ?_
            show Steps p.tables e below (T215.setTop (mkF m 47 #[.val (.ref a1), .val (.int sx), .val (.long vb), .second, .val .null, .val (.double ms), .second, .val (.int own_mk), .val (.int (own_i1 sx vb))] [(.long (1 : Int64)), (.long sx.toInt64), (.long (x_slots (((3 : Int32) * (own_i1 sx vb))).toNatClampNeg))])) _
            refine XS.ladd X215.here hx rfl (hb hby d5_47) rfl ?_
            show Steps p.tables e below (T215.setTop (mkF m 48 #[.val (.ref a1), .val (.int sx), .val (.long vb), .second, .val .null, .val (.double ms), .second, .val (.int own_mk), .val (.int (own_i1 sx vb))] [(.long (sx.toInt64 + (1 : Int64))), (.long (x_slots (((3 : Int32) * (own_i1 sx vb))).toNatClampNeg))])) _
            refine XS.lcmp X215.here hx rfl (hb hby d5_48) rfl ?_
            show Steps p.tables e below (T215.setTop (mkF m 49 #[.val (.ref a1), .val (.int sx), .val (.long vb), .second, .val .null, .val (.double ms), .second, .val (.int own_mk), .val (.int (own_i1 sx vb))] [(.int (lcmpW (x_slots (((3 : Int32) * (own_i1 sx vb))).toNatClampNeg) (sx.toInt64 + (1 : Int64))))])) _
            exact k
          by_cases hc218 : (lcmpW (x_slots (((3 : Int32) * (own_i1 sx vb))).toNatClampNeg) (sx.toInt64 + (1 : Int64))) = (0 : Int32)
          · obtain ⟨T219, X219, e219, st219⟩ := getF X215 hx hZ hown (host := "") (Or.inl (hw _ (List.mem_of_getElem? (i := 10) rfl))) Via.refl e215 F_slots_a1 (g := (mkF m 53 #[.val (.ref a1), .val (.int sx), .val (.long vb), .second, .val .null, .val (.double ms), .second, .val (.int own_mk), .val (.int (own_i1 sx vb))] [(.ref a1)])) rfl rfl (hb hby d5_53)
            obtain ⟨cl220, Ar220, qa220, Sa220, Na220, Ha220, Ga220⟩ := id V_slots
            have hin220 : ¬ ((((3 : Int32) * (own_i1 sx vb)) + (1 : Int32)) < 0 ∨ cl220.slots.size ≤ ((((3 : Int32) * (own_i1 sx vb)) + (1 : Int32))).toNatClampNeg) := inb_of Sa220 (own_b1 (own_r1 sx vb))
            have S221 : ∀ t, Steps p.tables e below (T219.setTop (mkF m 65 #[.val (.ref a1), .val (.int sx), .val (.long vb), .second, .val .null, .val (.double ms), .second, .val (.int own_mk), .val (.int (own_i1 sx vb))] [(.int (lcmpW (x_slots ((((3 : Int32) * (own_i1 sx vb)) + (1 : Int32))).toNatClampNeg) vb))])) t → Steps p.tables e below (s₁.setTop (entryFrame m #[(.ref a1), (.int sx), (.long vb), .null, (.double ms)] 9)) t := by
              intro t k
              refine S217 t ?_
              refine XS.ifNo X215.here hx rfl (hb hby d5_49) rfl ((if0 _ _).trans (teq hc218).2) ?_
              show Steps p.tables e below (T215.setTop (mkF m 52 #[.val (.ref a1), .val (.int sx), .val (.long vb), .second, .val .null, .val (.double ms), .second, .val (.int own_mk), .val (.int (own_i1 sx vb))] [])) _
              refine XS.aloadN X215.here hx rfl (hb hby d5_52) rfl rfl ?_
              show Steps p.tables e below (T215.setTop (mkF m 53 #[.val (.ref a1), .val (.int sx), .val (.long vb), .second, .val .null, .val (.double ms), .second, .val (.int own_mk), .val (.int (own_i1 sx vb))] [(.ref a1)])) _
              refine st219 _ ?_
              show Steps p.tables e below (T219.setTop (mkF m 56 #[.val (.ref a1), .val (.int sx), .val (.long vb), .second, .val .null, .val (.double ms), .second, .val (.int own_mk), .val (.int (own_i1 sx vb))] [(.ref z_slots)])) _
              refine XS.iconst X219.here hx rfl (hb hby d5_56) ?_
              show Steps p.tables e below (T219.setTop (mkF m 57 #[.val (.ref a1), .val (.int sx), .val (.long vb), .second, .val .null, .val (.double ms), .second, .val (.int own_mk), .val (.int (own_i1 sx vb))] [(.int (3 : Int32)), (.ref z_slots)])) _
              refine XS.iload X219.here hx rfl (hb hby d5_57) rfl ?_
              show Steps p.tables e below (T219.setTop (mkF m 59 #[.val (.ref a1), .val (.int sx), .val (.long vb), .second, .val .null, .val (.double ms), .second, .val (.int own_mk), .val (.int (own_i1 sx vb))] [(.int (own_i1 sx vb)), (.int (3 : Int32)), (.ref z_slots)])) _
              refine XS.imul X219.here hx rfl (hb hby d5_59) rfl ?_
              show Steps p.tables e below (T219.setTop (mkF m 60 #[.val (.ref a1), .val (.int sx), .val (.long vb), .second, .val .null, .val (.double ms), .second, .val (.int own_mk), .val (.int (own_i1 sx vb))] [(.int ((3 : Int32) * (own_i1 sx vb))), (.ref z_slots)])) _
              refine XS.iconst X219.here hx rfl (hb hby d5_60) ?_
              show Steps p.tables e below (T219.setTop (mkF m 61 #[.val (.ref a1), .val (.int sx), .val (.long vb), .second, .val .null, .val (.double ms), .second, .val (.int own_mk), .val (.int (own_i1 sx vb))] [(.int (1 : Int32)), (.int ((3 : Int32) * (own_i1 sx vb))), (.ref z_slots)])) _
              refine XS.iadd X219.here hx rfl (hb hby d5_61) rfl ?_
              show Steps p.tables e below (T219.setTop (mkF m 62 #[.val (.ref a1), .val (.int sx), .val (.long vb), .second, .val .null, .val (.double ms), .second, .val (.int own_mk), .val (.int (own_i1 sx vb))] [(.int (((3 : Int32) * (own_i1 sx vb)) + (1 : Int32))), (.ref z_slots)])) _
              refine X219.laload hx (j := (((3 : Int32) * (own_i1 sx vb)) + (1 : Int32))) (v := (.long (x_slots ((((3 : Int32) * (own_i1 sx vb)) + (1 : Int32))).toNatClampNeg))) (by rw [e219]; exact Ar220.1) (State.isArrayOf_alike hZ.alike Ar220.2.1) Ar220.2.2 hin220 (Has.at Ha220 hin220 (own_rd x_slots (own_b1 (own_r1 sx vb)))) (g := (mkF m 62 #[.val (.ref a1), .val (.int sx), .val (.long vb), .second, .val .null, .val (.double ms), .second, .val (.int own_mk), .val (.int (own_i1 sx vb))] [(.int (((3 : Int32) * (own_i1 sx vb)) + (1 : Int32))), (.ref z_slots)])) rfl rfl (hb hby d5_62) _ ?_
              show Steps p.tables e below (T219.setTop (mkF m 63 #[.val (.ref a1), .val (.int sx), .val (.long vb), .second, .val .null, .val (.double ms), .second, .val (.int own_mk), .val (.int (own_i1 sx vb))] [(.long (x_slots ((((3 : Int32) * (own_i1 sx vb)) + (1 : Int32))).toNatClampNeg))])) _
              refine XS.lloadN X219.here hx rfl (hb hby d5_63) rfl ?_
              show Steps p.tables e below (T219.setTop (mkF m 64 #[.val (.ref a1), .val (.int sx), .val (.long vb), .second, .val .null, .val (.double ms), .second, .val (.int own_mk), .val (.int (own_i1 sx vb))] [(.long vb), (.long (x_slots ((((3 : Int32) * (own_i1 sx vb)) + (1 : Int32))).toNatClampNeg))])) _
              refine XS.lcmp X219.here hx rfl (hb hby d5_64) rfl ?_
              show Steps p.tables e below (T219.setTop (mkF m 65 #[.val (.ref a1), .val (.int sx), .val (.long vb), .second, .val .null, .val (.double ms), .second, .val (.int own_mk), .val (.int (own_i1 sx vb))] [(.int (lcmpW (x_slots ((((3 : Int32) * (own_i1 sx vb)) + (1 : Int32))).toNatClampNeg) vb))])) _
              exact k
            by_cases hc222 : (lcmpW (x_slots ((((3 : Int32) * (own_i1 sx vb)) + (1 : Int32))).toNatClampNeg) vb) = (0 : Int32)
            · obtain ⟨cq223, q223, q223'⟩ := E1.cell
              obtain ⟨_, _, ⟨T223, L223, k223, n223⟩, -, X223, ⟨Lc223, hQ223, l223, y223, z223⟩, st223⟩ := X219.privateBack hx (y := (⟨"com/example/ketproof/ketproof/MassTable", "holds", "(ILjava/math/BigDecimal;)Z"⟩ : MethodName)) hown (mvT hZ (hw _ (List.mem_of_getElem? (i := 70) rfl))) (mvT hZ (hw _ (List.mem_of_getElem? (i := 71) rfl))) (mvT hZ (Jvm.Kit.selects_private (by decide) (hw _ (List.mem_of_getElem? (i := 1) rfl)) (hw _ (List.mem_of_getElem? (i := 72) rfl)) (hw _ (List.mem_of_getElem? (i := 71) rfl)))) (Cond.privateMethod_at (mvP hZ (hw _ (List.mem_of_getElem? (i := 72) rfl)) (args := #[]))) (mvT hZ (hw _ (List.mem_of_getElem? (i := 73) rfl))) (by decide) (backOf (W := 0) (rm12 l Z a0 hw [] a1 (own_i1 sx vb) h0 n0 Z0 F_decimals_a1) hZ (hw _ (List.mem_of_getElem? (i := 73) rfl)) (hw _ (List.mem_of_getElem? (i := 2) rfl)) (by decide) (by decide)) (g := (mkF m 73 #[.val (.ref a1), .val (.int sx), .val (.long vb), .second, .val .null, .val (.double ms), .second, .val (.int own_mk), .val (.int (own_i1 sx vb))] [.null, (.int (own_i1 sx vb)), (.ref a1)])) rfl (by rw [hml]; rfl) (Steps.refl _) (a := a1) (by rw [e219]; exact q223) q223' (argsL := [(.int (own_i1 sx vb)), .null]) (rest := []) (lenOf pd_1 rfl) rfl (by show 2 * 0 + _ ≤ _; exact Nat.le_of_eq rfl) (hb hby d5_73) (fun _ _ => ⟨rfl, e219, (by decide : 0 + 0 ≤ _), (by decide : 0 + 0 ≤ _)⟩)
              dsimp only [Pt.U, Pt.locs, Pt.cells, Pt.slots] at X223 l223 y223 z223 st223 hQ223
              subst l223 y223 z223
              obtain ⟨rfl, N223q, e223⟩ := hQ223
              have N223 := Fr.app N53 N223q
              obtain ⟨T224, X224, e224, st224⟩ := getF X223 hx hZ hown (host := "") (Or.inl (hw _ (List.mem_of_getElem? (i := 10) rfl))) Via.refl e223 F_slots_a1 (g := (mkF m 80 #[.val (.ref a1), .val (.int sx), .val (.long vb), .second, .val .null, .val (.double ms), .second, .val (.int own_mk), .val (.int (own_i1 sx vb))] [(.ref a1)])) rfl rfl (hb hby d5_80)
              obtain ⟨T225, X225, e225, st225⟩ := getF X224 hx hZ hown (host := "") (Or.inl (hw _ (List.mem_of_getElem? (i := 10) rfl))) Via.refl e224 F_slots_a1 (g := (mkF m 90 #[.val (.ref a1), .val (.int sx), .val (.long vb), .second, .val .null, .val (.double ms), .second, .val (.int own_mk), .val (.int (own_i1 sx vb))] [(.ref a1), (.int (((3 : Int32) * (own_i1 sx vb)) + (2 : Int32))), (.ref z_slots)])) rfl rfl (hb hby d5_90)
              obtain ⟨cl226, Ar226, qa226, Sa226, Na226, Ha226, Ga226⟩ := id V_slots
              have hin226 : ¬ ((((3 : Int32) * (own_i1 sx vb)) + (2 : Int32)) < 0 ∨ cl226.slots.size ≤ ((((3 : Int32) * (own_i1 sx vb)) + (2 : Int32))).toNatClampNeg) := inb_of Sa226 (own_b2 (own_r1 sx vb))
              obtain ⟨vm227, X227, st227⟩ := X225.longBitsToDouble hx hown (mvT hZ (hw _ (List.mem_of_getElem? (i := 62) rfl))) (mvT hZ (hw _ (List.mem_of_getElem? (i := 64) rfl))) (mvT hZ (hw _ (List.mem_of_getElem? (i := 63) rfl))) (mvT hZ (hw _ (List.mem_of_getElem? (i := 29) rfl))) (g := (mkF m 100 #[.val (.ref a1), .val (.int sx), .val (.long vb), .second, .val .null, .val (.double ms), .second, .val (.int own_mk), .val (.int (own_i1 sx vb))] [(.long (x_slots ((((3 : Int32) * (own_i1 sx vb)) + (2 : Int32))).toNatClampNeg)), (.int (((3 : Int32) * (own_i1 sx vb)) + (2 : Int32))), (.ref z_slots)])) rfl (by rw [hml]; rfl) (rest := [(.int (((3 : Int32) * (own_i1 sx vb)) + (2 : Int32))), (.ref z_slots)]) (b := (x_slots ((((3 : Int32) * (own_i1 sx vb)) + (2 : Int32))).toNatClampNeg)) (own_lb (hM _ (own_md (own_r1 sx vb)))) rfl (hb hby d5_100) (by decide) (by show 2 * 0 + 2 + (nativeFrameWords "java/lang/Double" "longBitsToDouble" 2 + 11) ≤ _; decide)
              obtain ⟨T227, hT227⟩ : ∃ z, z = T225.setVm vm227 := ⟨_, rfl⟩
              rw [← hT227] at X227 st227
              have e227 : T227.heap = h0 := by rw [hT227]; exact e225
              obtain ⟨vm228, X228, st228⟩ := X227.doubleToRawLongBits hx hown (mvT hZ (hw _ (List.mem_of_getElem? (i := 27) rfl))) (mvT hZ (hw _ (List.mem_of_getElem? (i := 30) rfl))) (mvT hZ (hw _ (List.mem_of_getElem? (i := 28) rfl))) (mvT hZ (hw _ (List.mem_of_getElem? (i := 29) rfl))) (g := (mkF m 106 #[.val (.ref a1), .val (.int sx), .val (.long vb), .second, .val .null, .val (.double ms), .second, .val (.int own_mk), .val (.int (own_i1 sx vb))] [(.double (FP.dadd (((x_slots ((((3 : Int32) * (own_i1 sx vb)) + (2 : Int32))).toNatClampNeg)).toUInt64) ms)), (.int (((3 : Int32) * (own_i1 sx vb)) + (2 : Int32))), (.ref z_slots)])) rfl (by rw [hml]; rfl) (rest := [(.int (((3 : Int32) * (own_i1 sx vb)) + (2 : Int32))), (.ref z_slots)]) (b := (FP.dadd (((x_slots ((((3 : Int32) * (own_i1 sx vb)) + (2 : Int32))).toNatClampNeg)).toUInt64) ms)) rfl (hb hby d5_106) (by decide) (by show 2 * 0 + 2 + (nativeFrameWords "java/lang/Double" "doubleToRawLongBits" 2 + 11) ≤ _; decide)
              obtain ⟨T228, hT228⟩ : ∃ z, z = T227.setVm vm228 := ⟨_, rfl⟩
              rw [← hT228] at X228 st228
              have e228 : T228.heap = h0 := by rw [hT228]; exact e227
              obtain ⟨cl229, Ar229, qa229, Sa229, Na229, Ha229, Ga229⟩ := id V_slots
              have hin229 : ¬ ((((3 : Int32) * (own_i1 sx vb)) + (2 : Int32)) < 0 ∨ cl229.slots.size ≤ ((((3 : Int32) * (own_i1 sx vb)) + (2 : Int32))).toNatClampNeg) := inb_of Sa229 (own_b2 (own_r1 sx vb))
              obtain ⟨T230, h230, X230, e230, W230, st230⟩ := stJ X228 hx hZ e228 Ar229 (j := (((3 : Int32) * (own_i1 sx vb)) + (2 : Int32))) hin229 (g := (mkF m 109 #[.val (.ref a1), .val (.int sx), .val (.long vb), .second, .val .null, .val (.double ms), .second, .val (.int own_mk), .val (.int (own_i1 sx vb))] [(.long (((FP.dadd (((x_slots ((((3 : Int32) * (own_i1 sx vb)) + (2 : Int32))).toNatClampNeg)).toUInt64) ms)).toInt64)), (.int (((3 : Int32) * (own_i1 sx vb)) + (2 : Int32))), (.ref z_slots)])) rfl rfl (hb hby d5_109)
              have fa230 : Arv Z h230 z_slots k_slots .long (96 : Int32) (own_L (own_up x_slots ((((3 : Int32) * (own_i1 sx vb)) + (2 : Int32))).toNatClampNeg (((FP.dadd (((x_slots ((((3 : Int32) * (own_i1 sx vb)) + (2 : Int32))).toNatClampNeg)).toUInt64) ms)).toInt64))) (.long (0 : Int64)) := (Arv.set Ar229 qa229 Sa229 Na229 Ha229 Ga229 rfl W230 ((((3 : Int32) * (own_i1 sx vb)) + (2 : Int32))).toNatClampNeg rfl (own_Ll x_slots (own_ix (own_b2 (own_r1 sx vb))))).pad (own_Lset x_slots (own_ix (own_b2 (own_r1 sx vb))) (((FP.dadd (((x_slots ((((3 : Int32) * (own_i1 sx vb)) + (2 : Int32))).toNatClampNeg)).toUInt64) ms)).toInt64))
              have f231 : Exa Z h230 a1 "com/example/ketproof/ketproof/MassTable" := E1.wr W230
              have f232 : Fld Z h230 a1 "com/example/ketproof/ketproof/MassTable" "slots" "[J" (.ref z_slots) := F_slots_a1.other W230 (Or.inl ne_slots)
              have f233 : Fld Z h230 a1 "com/example/ketproof/ketproof/MassTable" "entrySlots" "[I" (.ref z_entrySlots) := F_entrySlots_a1.other W230 (Or.inl ne_slots)
              have f234 : Fld Z h230 a1 "com/example/ketproof/ketproof/MassTable" "size" "I" (.int z_size) := F_size_a1.other W230 (Or.inl ne_slots)
              have f235 : Fld Z h230 a1 "com/example/ketproof/ketproof/MassTable" "decimals" "[Ljava/math/BigDecimal;" .null := F_decimals_a1.other W230 (Or.inl ne_slots)
              have f236 : Arv Z h230 z_entrySlots k_entrySlots .int (16 : Int32) (own_E x_entrySlots) (.int (0 : Int32)) := V_entrySlots.other W230 ne_entrySlots_slots
              have N237 := Fr.snoc X230 N223 g_slots
              have K238 : Keep h0 h230 [a1, z_slots, z_entrySlots] := (Keep.refl h0 [a1, z_slots, z_entrySlots]).wr W230 (Or.inl (List.mem_of_getElem? (i := 1) rfl))
              have Z239 : n0 ≤ h230.size := Nat.le_trans Z0 (Keep.of_wr W230).1
              have hf_size : f5_size sx vb ms z_size x_slots x_entrySlots = z_size := by
                unfold f5_size
                first | rfl | (rw [if_neg hc57, if_pos hc125, if_neg hc129, if_neg hc150, if_pos hc218, if_pos hc222])
              have hf_slots : f5_slots sx vb ms z_size x_slots x_entrySlots = (own_up x_slots ((((3 : Int32) * (own_i1 sx vb)) + (2 : Int32))).toNatClampNeg (((FP.dadd (((x_slots ((((3 : Int32) * (own_i1 sx vb)) + (2 : Int32))).toNatClampNeg)).toUInt64) ms)).toInt64)) := by
                unfold f5_slots
                first | rfl | (rw [if_neg hc57, if_pos hc125, if_neg hc129, if_neg hc150, if_pos hc218, if_pos hc222])
              have hf_entrySlots : f5_entrySlots sx vb ms z_size x_slots x_entrySlots = x_entrySlots := by
                unfold f5_entrySlots
                first | rfl | (rw [if_neg hc57, if_pos hc125, if_neg hc129, if_neg hc150, if_pos hc218, if_pos hc222])
              obtain ⟨fs, hr, hrun, hended, hW, hsame⟩ := X230.leave (v := none) (fun _ => rfl)
              refine ⟨_, _, S221 _ ?_, hrun, hended, _, _, rfl, ?_, ⟨_, rfl⟩, hW, hsame.mono (by decide) (by decide)⟩
              · refine XS.ifNo X219.here hx rfl (hb hby d5_65) rfl ((if0 _ _).trans (teq hc222).2) ?_
                show Steps p.tables e below (T219.setTop (mkF m 68 #[.val (.ref a1), .val (.int sx), .val (.long vb), .second, .val .null, .val (.double ms), .second, .val (.int own_mk), .val (.int (own_i1 sx vb))] [])) _
                refine XS.aloadN X219.here hx rfl (hb hby d5_68) rfl rfl ?_
                show Steps p.tables e below (T219.setTop (mkF m 69 #[.val (.ref a1), .val (.int sx), .val (.long vb), .second, .val .null, .val (.double ms), .second, .val (.int own_mk), .val (.int (own_i1 sx vb))] [(.ref a1)])) _
                refine XS.iload X219.here hx rfl (hb hby d5_69) rfl ?_
                show Steps p.tables e below (T219.setTop (mkF m 71 #[.val (.ref a1), .val (.int sx), .val (.long vb), .second, .val .null, .val (.double ms), .second, .val (.int own_mk), .val (.int (own_i1 sx vb))] [(.int (own_i1 sx vb)), (.ref a1)])) _
                refine XS.aload X219.here hx rfl (hb hby d5_71) rfl rfl ?_
                show Steps p.tables e below (T219.setTop (mkF m 73 #[.val (.ref a1), .val (.int sx), .val (.long vb), .second, .val .null, .val (.double ms), .second, .val (.int own_mk), .val (.int (own_i1 sx vb))] [.null, (.int (own_i1 sx vb)), (.ref a1)])) _
                refine st223.trans ?_
                show Steps p.tables e below (T223.setTop (mkF m 76 #[.val (.ref a1), .val (.int sx), .val (.long vb), .second, .val .null, .val (.double ms), .second, .val (.int own_mk), .val (.int (own_i1 sx vb))] [(.int (f12 (own_i1 sx vb)))])) _
                refine XS.ifNo X223.here hx rfl (hb hby d5_76) rfl ((if0 _ _).trans (feq (own_f12 _)).1) ?_
                show Steps p.tables e below (T223.setTop (mkF m 79 #[.val (.ref a1), .val (.int sx), .val (.long vb), .second, .val .null, .val (.double ms), .second, .val (.int own_mk), .val (.int (own_i1 sx vb))] [])) _
                refine XS.aloadN X223.here hx rfl (hb hby d5_79) rfl rfl ?_
                show Steps p.tables e below (T223.setTop (mkF m 80 #[.val (.ref a1), .val (.int sx), .val (.long vb), .second, .val .null, .val (.double ms), .second, .val (.int own_mk), .val (.int (own_i1 sx vb))] [(.ref a1)])) _
                refine st224 _ ?_
                show Steps p.tables e below (T224.setTop (mkF m 83 #[.val (.ref a1), .val (.int sx), .val (.long vb), .second, .val .null, .val (.double ms), .second, .val (.int own_mk), .val (.int (own_i1 sx vb))] [(.ref z_slots)])) _
                refine XS.iconst X224.here hx rfl (hb hby d5_83) ?_
                show Steps p.tables e below (T224.setTop (mkF m 84 #[.val (.ref a1), .val (.int sx), .val (.long vb), .second, .val .null, .val (.double ms), .second, .val (.int own_mk), .val (.int (own_i1 sx vb))] [(.int (3 : Int32)), (.ref z_slots)])) _
                refine XS.iload X224.here hx rfl (hb hby d5_84) rfl ?_
                show Steps p.tables e below (T224.setTop (mkF m 86 #[.val (.ref a1), .val (.int sx), .val (.long vb), .second, .val .null, .val (.double ms), .second, .val (.int own_mk), .val (.int (own_i1 sx vb))] [(.int (own_i1 sx vb)), (.int (3 : Int32)), (.ref z_slots)])) _
                refine XS.imul X224.here hx rfl (hb hby d5_86) rfl ?_
                show Steps p.tables e below (T224.setTop (mkF m 87 #[.val (.ref a1), .val (.int sx), .val (.long vb), .second, .val .null, .val (.double ms), .second, .val (.int own_mk), .val (.int (own_i1 sx vb))] [(.int ((3 : Int32) * (own_i1 sx vb))), (.ref z_slots)])) _
                refine XS.iconst X224.here hx rfl (hb hby d5_87) ?_
                show Steps p.tables e below (T224.setTop (mkF m 88 #[.val (.ref a1), .val (.int sx), .val (.long vb), .second, .val .null, .val (.double ms), .second, .val (.int own_mk), .val (.int (own_i1 sx vb))] [(.int (2 : Int32)), (.int ((3 : Int32) * (own_i1 sx vb))), (.ref z_slots)])) _
                refine XS.iadd X224.here hx rfl (hb hby d5_88) rfl ?_
                show Steps p.tables e below (T224.setTop (mkF m 89 #[.val (.ref a1), .val (.int sx), .val (.long vb), .second, .val .null, .val (.double ms), .second, .val (.int own_mk), .val (.int (own_i1 sx vb))] [(.int (((3 : Int32) * (own_i1 sx vb)) + (2 : Int32))), (.ref z_slots)])) _
                refine XS.aloadN X224.here hx rfl (hb hby d5_89) rfl rfl ?_
                show Steps p.tables e below (T224.setTop (mkF m 90 #[.val (.ref a1), .val (.int sx), .val (.long vb), .second, .val .null, .val (.double ms), .second, .val (.int own_mk), .val (.int (own_i1 sx vb))] [(.ref a1), (.int (((3 : Int32) * (own_i1 sx vb)) + (2 : Int32))), (.ref z_slots)])) _
                refine st225 _ ?_
                show Steps p.tables e below (T225.setTop (mkF m 93 #[.val (.ref a1), .val (.int sx), .val (.long vb), .second, .val .null, .val (.double ms), .second, .val (.int own_mk), .val (.int (own_i1 sx vb))] [(.ref z_slots), (.int (((3 : Int32) * (own_i1 sx vb)) + (2 : Int32))), (.ref z_slots)])) _
                refine XS.iconst X225.here hx rfl (hb hby d5_93) ?_
                show Steps p.tables e below (T225.setTop (mkF m 94 #[.val (.ref a1), .val (.int sx), .val (.long vb), .second, .val .null, .val (.double ms), .second, .val (.int own_mk), .val (.int (own_i1 sx vb))] [(.int (3 : Int32)), (.ref z_slots), (.int (((3 : Int32) * (own_i1 sx vb)) + (2 : Int32))), (.ref z_slots)])) _
                refine XS.iload X225.here hx rfl (hb hby d5_94) rfl ?_
                show Steps p.tables e below (T225.setTop (mkF m 96 #[.val (.ref a1), .val (.int sx), .val (.long vb), .second, .val .null, .val (.double ms), .second, .val (.int own_mk), .val (.int (own_i1 sx vb))] [(.int (own_i1 sx vb)), (.int (3 : Int32)), (.ref z_slots), (.int (((3 : Int32) * (own_i1 sx vb)) + (2 : Int32))), (.ref z_slots)])) _
                refine XS.imul X225.here hx rfl (hb hby d5_96) rfl ?_
                show Steps p.tables e below (T225.setTop (mkF m 97 #[.val (.ref a1), .val (.int sx), .val (.long vb), .second, .val .null, .val (.double ms), .second, .val (.int own_mk), .val (.int (own_i1 sx vb))] [(.int ((3 : Int32) * (own_i1 sx vb))), (.ref z_slots), (.int (((3 : Int32) * (own_i1 sx vb)) + (2 : Int32))), (.ref z_slots)])) _
                refine XS.iconst X225.here hx rfl (hb hby d5_97) ?_
                show Steps p.tables e below (T225.setTop (mkF m 98 #[.val (.ref a1), .val (.int sx), .val (.long vb), .second, .val .null, .val (.double ms), .second, .val (.int own_mk), .val (.int (own_i1 sx vb))] [(.int (2 : Int32)), (.int ((3 : Int32) * (own_i1 sx vb))), (.ref z_slots), (.int (((3 : Int32) * (own_i1 sx vb)) + (2 : Int32))), (.ref z_slots)])) _
                refine XS.iadd X225.here hx rfl (hb hby d5_98) rfl ?_
                show Steps p.tables e below (T225.setTop (mkF m 99 #[.val (.ref a1), .val (.int sx), .val (.long vb), .second, .val .null, .val (.double ms), .second, .val (.int own_mk), .val (.int (own_i1 sx vb))] [(.int (((3 : Int32) * (own_i1 sx vb)) + (2 : Int32))), (.ref z_slots), (.int (((3 : Int32) * (own_i1 sx vb)) + (2 : Int32))), (.ref z_slots)])) _
                refine X225.laload hx (j := (((3 : Int32) * (own_i1 sx vb)) + (2 : Int32))) (v := (.long (x_slots ((((3 : Int32) * (own_i1 sx vb)) + (2 : Int32))).toNatClampNeg))) (by rw [e225]; exact Ar226.1) (State.isArrayOf_alike hZ.alike Ar226.2.1) Ar226.2.2 hin226 (Has.at Ha226 hin226 (own_rd x_slots (own_b2 (own_r1 sx vb)))) (g := (mkF m 99 #[.val (.ref a1), .val (.int sx), .val (.long vb), .second, .val .null, .val (.double ms), .second, .val (.int own_mk), .val (.int (own_i1 sx vb))] [(.int (((3 : Int32) * (own_i1 sx vb)) + (2 : Int32))), (.ref z_slots), (.int (((3 : Int32) * (own_i1 sx vb)) + (2 : Int32))), (.ref z_slots)])) rfl rfl (hb hby d5_99) _ ?_
                show Steps p.tables e below (T225.setTop (mkF m 100 #[.val (.ref a1), .val (.int sx), .val (.long vb), .second, .val .null, .val (.double ms), .second, .val (.int own_mk), .val (.int (own_i1 sx vb))] [(.long (x_slots ((((3 : Int32) * (own_i1 sx vb)) + (2 : Int32))).toNatClampNeg)), (.int (((3 : Int32) * (own_i1 sx vb)) + (2 : Int32))), (.ref z_slots)])) _
                refine st227 _ ?_
                show Steps p.tables e below (T227.setTop (mkF m 103 #[.val (.ref a1), .val (.int sx), .val (.long vb), .second, .val .null, .val (.double ms), .second, .val (.int own_mk), .val (.int (own_i1 sx vb))] [(.double (((x_slots ((((3 : Int32) * (own_i1 sx vb)) + (2 : Int32))).toNatClampNeg)).toUInt64)), (.int (((3 : Int32) * (own_i1 sx vb)) + (2 : Int32))), (.ref z_slots)])) _
                refine XS.dload X227.here hx rfl (hb hby d5_103) rfl ?_
                show Steps p.tables e below (T227.setTop (mkF m 105 #[.val (.ref a1), .val (.int sx), .val (.long vb), .second, .val .null, .val (.double ms), .second, .val (.int own_mk), .val (.int (own_i1 sx vb))] [(.double ms), (.double (((x_slots ((((3 : Int32) * (own_i1 sx vb)) + (2 : Int32))).toNatClampNeg)).toUInt64)), (.int (((3 : Int32) * (own_i1 sx vb)) + (2 : Int32))), (.ref z_slots)])) _
                refine XS.daddS X227.here hx rfl (hb hby d5_105) rfl (Jvm.Free.Fl.dadd_out (hM _ (own_md (own_r1 sx vb))) hms) rfl ?_
                show Steps p.tables e below (T227.setTop (mkF m 106 #[.val (.ref a1), .val (.int sx), .val (.long vb), .second, .val .null, .val (.double ms), .second, .val (.int own_mk), .val (.int (own_i1 sx vb))] [(.double (FP.dadd (((x_slots ((((3 : Int32) * (own_i1 sx vb)) + (2 : Int32))).toNatClampNeg)).toUInt64) ms)), (.int (((3 : Int32) * (own_i1 sx vb)) + (2 : Int32))), (.ref z_slots)])) _
                refine st228 _ ?_
                show Steps p.tables e below (T228.setTop (mkF m 109 #[.val (.ref a1), .val (.int sx), .val (.long vb), .second, .val .null, .val (.double ms), .second, .val (.int own_mk), .val (.int (own_i1 sx vb))] [(.long (((FP.dadd (((x_slots ((((3 : Int32) * (own_i1 sx vb)) + (2 : Int32))).toNatClampNeg)).toUInt64) ms)).toInt64)), (.int (((3 : Int32) * (own_i1 sx vb)) + (2 : Int32))), (.ref z_slots)])) _
                refine st230 _ ?_
                show Steps p.tables e below (T230.setTop (mkF m 110 #[.val (.ref a1), .val (.int sx), .val (.long vb), .second, .val .null, .val (.double ms), .second, .val (.int own_mk), .val (.int (own_i1 sx vb))] [])) _
                exact X230.returnOut hx Bd.returns (hb hby d5_110) hr
              · show Q5 Z a1 sx vb ms z_slots z_entrySlots z_size k_slots x_slots k_entrySlots x_entrySlots h0 n0 _ T230.heap _
                rw [e230]
                exact ⟨rfl, N237, K238, f231, f232, f233, by rw [hf_size]; exact f234, f235, by rw [hf_slots]; exact fa230, by rw [hf_entrySlots]; exact f236⟩
            · obtain ⟨T240, X240, e240, st240⟩ := getF X219 hx hZ hown (host := "") (Or.inl (hw _ (List.mem_of_getElem? (i := 10) rfl))) Via.refl e219 F_slots_a1 (g := (mkF m 22 #[.val (.ref a1), .val (.int sx), .val (.long vb), .second, .val .null, .val (.double ms), .second, .val (.int own_mk), .val (.int (own_i2 sx vb))] [(.ref a1)])) rfl rfl (hb hby d5_22)
              obtain ⟨cl241, Ar241, qa241, Sa241, Na241, Ha241, Ga241⟩ := id V_slots
              have hin241 : ¬ (((3 : Int32) * (own_i2 sx vb)) < 0 ∨ cl241.slots.size ≤ (((3 : Int32) * (own_i2 sx vb))).toNatClampNeg) := inb_of Sa241 (own_b0 (own_r2 sx vb))
              have S242 : ∀ t, Steps p.tables e below (T240.setTop (mkF m 32 #[.val (.ref a1), .val (.int sx), .val (.long vb), .second, .val .null, .val (.double ms), .second, .val (.int own_mk), .val (.int (own_i2 sx vb))] [(.int (lcmpW (x_slots (((3 : Int32) * (own_i2 sx vb))).toNatClampNeg) (0 : Int64)))])) t → Steps p.tables e below (s₁.setTop (entryFrame m #[(.ref a1), (.int sx), (.long vb), .null, (.double ms)] 9)) t := by
                intro t k
                refine S221 t ?_
                refine XS.ifYes X219.here hx rfl (pc0 := 65) (pc' := 111) rfl (hb hby d5_65) rfl ((if0 _ _).trans (feq hc222).2) (by decide) (by decide) ?_
                show Steps p.tables e below (T219.setTop (mkF m 111 #[.val (.ref a1), .val (.int sx), .val (.long vb), .second, .val .null, .val (.double ms), .second, .val (.int own_mk), .val (.int (own_i1 sx vb))] [])) _
                refine XS.iload X219.here hx rfl (hb hby d5_111) rfl ?_
                show Steps p.tables e below (T219.setTop (mkF m 113 #[.val (.ref a1), .val (.int sx), .val (.long vb), .second, .val .null, .val (.double ms), .second, .val (.int own_mk), .val (.int (own_i1 sx vb))] [(.int (own_i1 sx vb))])) _
                refine XS.iconst X219.here hx rfl (hb hby d5_113) ?_
                show Steps p.tables e below (T219.setTop (mkF m 114 #[.val (.ref a1), .val (.int sx), .val (.long vb), .second, .val .null, .val (.double ms), .second, .val (.int own_mk), .val (.int (own_i1 sx vb))] [(.int (1 : Int32)), (.int (own_i1 sx vb))])) _
                refine XS.iadd X219.here hx rfl (hb hby d5_114) rfl ?_
                show Steps p.tables e below (T219.setTop (mkF m 115 #[.val (.ref a1), .val (.int sx), .val (.long vb), .second, .val .null, .val (.double ms), .second, .val (.int own_mk), .val (.int (own_i1 sx vb))] [(.int ((own_i1 sx vb) + (1 : Int32)))])) _
                refine XS.iload X219.here hx rfl (hb hby d5_115) rfl ?_
                show Steps p.tables e below (T219.setTop (mkF m 117 #[.val (.ref a1), .val (.int sx), .val (.long vb), .second, .val .null, .val (.double ms), .second, .val (.int own_mk), .val (.int (own_i1 sx vb))] [(.int own_mk), (.int ((own_i1 sx vb) + (1 : Int32)))])) _
                refine XS.iand X219.here hx rfl (hb hby d5_117) rfl ?_
                show Steps p.tables e below (T219.setTop (mkF m 118 #[.val (.ref a1), .val (.int sx), .val (.long vb), .second, .val .null, .val (.double ms), .second, .val (.int own_mk), .val (.int (own_i1 sx vb))] [(.int (own_i2 sx vb))])) _
                refine XS.istore X219.here hx rfl (hb hby d5_118) rfl (l' := #[.val (.ref a1), .val (.int sx), .val (.long vb), .second, .val .null, .val (.double ms), .second, .val (.int own_mk), .val (.int (own_i2 sx vb))]) rfl ?_
                show Steps p.tables e below (T219.setTop (mkF m 120 #[.val (.ref a1), .val (.int sx), .val (.long vb), .second, .val .null, .val (.double ms), .second, .val (.int own_mk), .val (.int (own_i2 sx vb))] [])) _
                refine XS.goto X219.here hx rfl (pc0 := 120) (pc' := 21) rfl (hb hby d5_120) (by decide) (by decide) ?_
                show Steps p.tables e below (T219.setTop (mkF m 21 #[.val (.ref a1), .val (.int sx), .val (.long vb), .second, .val .null, .val (.double ms), .second, .val (.int own_mk), .val (.int (own_i2 sx vb))] [])) _
                refine XS.aloadN X219.here hx rfl (hb hby d5_21) rfl rfl ?_
                show Steps p.tables e below (T219.setTop (mkF m 22 #[.val (.ref a1), .val (.int sx), .val (.long vb), .second, .val .null, .val (.double ms), .second, .val (.int own_mk), .val (.int (own_i2 sx vb))] [(.ref a1)])) _
                refine st240 _ ?_
                show Steps p.tables e below (T240.setTop (mkF m 25 #[.val (.ref a1), .val (.int sx), .val (.long vb), .second, .val .null, .val (.double ms), .second, .val (.int own_mk), .val (.int (own_i2 sx vb))] [(.ref z_slots)])) _
                refine XS.iconst X240.here hx rfl (hb hby d5_25) ?_
                show Steps p.tables e below (T240.setTop (mkF m 26 #[.val (.ref a1), .val (.int sx), .val (.long vb), .second, .val .null, .val (.double ms), .second, .val (.int own_mk), .val (.int (own_i2 sx vb))] [(.int (3 : Int32)), (.ref z_slots)])) _
                refine XS.iload X240.here hx rfl (hb hby d5_26) rfl ?_
                show Steps p.tables e below (T240.setTop (mkF m 28 #[.val (.ref a1), .val (.int sx), .val (.long vb), .second, .val .null, .val (.double ms), .second, .val (.int own_mk), .val (.int (own_i2 sx vb))] [(.int (own_i2 sx vb)), (.int (3 : Int32)), (.ref z_slots)])) _
                refine XS.imul X240.here hx rfl (hb hby d5_28) rfl ?_
                show Steps p.tables e below (T240.setTop (mkF m 29 #[.val (.ref a1), .val (.int sx), .val (.long vb), .second, .val .null, .val (.double ms), .second, .val (.int own_mk), .val (.int (own_i2 sx vb))] [(.int ((3 : Int32) * (own_i2 sx vb))), (.ref z_slots)])) _
                refine X240.laload hx (j := ((3 : Int32) * (own_i2 sx vb))) (v := (.long (x_slots (((3 : Int32) * (own_i2 sx vb))).toNatClampNeg))) (by rw [e240]; exact Ar241.1) (State.isArrayOf_alike hZ.alike Ar241.2.1) Ar241.2.2 hin241 (Has.at Ha241 hin241 (own_rd x_slots (own_b0 (own_r2 sx vb)))) (g := (mkF m 29 #[.val (.ref a1), .val (.int sx), .val (.long vb), .second, .val .null, .val (.double ms), .second, .val (.int own_mk), .val (.int (own_i2 sx vb))] [(.int ((3 : Int32) * (own_i2 sx vb))), (.ref z_slots)])) rfl rfl (hb hby d5_29) _ ?_
                show Steps p.tables e below (T240.setTop (mkF m 30 #[.val (.ref a1), .val (.int sx), .val (.long vb), .second, .val .null, .val (.double ms), .second, .val (.int own_mk), .val (.int (own_i2 sx vb))] [(.long (x_slots (((3 : Int32) * (own_i2 sx vb))).toNatClampNeg))])) _
                refine XS.lconst X240.here hx rfl (hb hby d5_30) ?_
                show Steps p.tables e below (T240.setTop (mkF m 31 #[.val (.ref a1), .val (.int sx), .val (.long vb), .second, .val .null, .val (.double ms), .second, .val (.int own_mk), .val (.int (own_i2 sx vb))] [(.long (0 : Int64)), (.long (x_slots (((3 : Int32) * (own_i2 sx vb))).toNatClampNeg))])) _
                refine XS.lcmp X240.here hx rfl (hb hby d5_31) rfl ?_
                show Steps p.tables e below (T240.setTop (mkF m 32 #[.val (.ref a1), .val (.int sx), .val (.long vb), .second, .val .null, .val (.double ms), .second, .val (.int own_mk), .val (.int (own_i2 sx vb))] [(.int (lcmpW (x_slots (((3 : Int32) * (own_i2 sx vb))).toNatClampNeg) (0 : Int64)))])) _
                exact k
              by_cases hc243 : (lcmpW (x_slots (((3 : Int32) * (own_i2 sx vb))).toNatClampNeg) (0 : Int64)) = (0 : Int32)
              · obtain ⟨T244, X244, e244, st244⟩ := getF X240 hx hZ hown (host := "") (Or.inl (hw _ (List.mem_of_getElem? (i := 20) rfl))) Via.refl e240 F_size_a1 (g := (mkF m 124 #[.val (.ref a1), .val (.int sx), .val (.long vb), .second, .val .null, .val (.double ms), .second, .val (.int own_mk), .val (.int (own_i2 sx vb))] [(.ref a1)])) rfl rfl (hb hby d5_124)
                obtain ⟨T245, X245, e245, st245⟩ := getF X244 hx hZ hown (host := "") (Or.inl (hw _ (List.mem_of_getElem? (i := 13) rfl))) Via.refl e244 F_entrySlots_a1 (g := (mkF m 128 #[.val (.ref a1), .val (.int sx), .val (.long vb), .second, .val .null, .val (.double ms), .second, .val (.int own_mk), .val (.int (own_i2 sx vb))] [(.ref a1), (.int z_size)])) rfl rfl (hb hby d5_128)
                obtain ⟨cl246, Ar246, qa246, Sa246, Na246, Ha246, Ga246⟩ := id V_entrySlots
                obtain ⟨T247, X247, e247, st247⟩ := getF X245 hx hZ hown (host := "") (Or.inl (hw _ (List.mem_of_getElem? (i := 10) rfl))) Via.refl e245 F_slots_a1 (g := (mkF m 151 #[.val (.ref a1), .val (.int sx), .val (.long vb), .second, .val .null, .val (.double ms), .second, .val (.int own_mk), .val (.int (own_i2 sx vb))] [(.ref a1)])) rfl rfl (hb hby d5_151)
                obtain ⟨cl248, Ar248, qa248, Sa248, Na248, Ha248, Ga248⟩ := id V_slots
                have hin248 : ¬ (((3 : Int32) * (own_i2 sx vb)) < 0 ∨ cl248.slots.size ≤ (((3 : Int32) * (own_i2 sx vb))).toNatClampNeg) := inb_of Sa248 (own_b0 (own_r2 sx vb))
                obtain ⟨T249, h249, X249, e249, W249, st249⟩ := stJ X247 hx hZ e247 Ar248 (j := ((3 : Int32) * (own_i2 sx vb))) hin248 (g := (mkF m 162 #[.val (.ref a1), .val (.int sx), .val (.long vb), .second, .val .null, .val (.double ms), .second, .val (.int own_mk), .val (.int (own_i2 sx vb))] [(.long (sx.toInt64 + (1 : Int64))), (.int ((3 : Int32) * (own_i2 sx vb))), (.ref z_slots)])) rfl rfl (hb hby d5_162)
                have fa249 : Arv Z h249 z_slots k_slots .long (96 : Int32) (own_L (own_up x_slots (((3 : Int32) * (own_i2 sx vb))).toNatClampNeg (sx.toInt64 + (1 : Int64)))) (.long (0 : Int64)) := (Arv.set Ar248 qa248 Sa248 Na248 Ha248 Ga248 rfl W249 (((3 : Int32) * (own_i2 sx vb))).toNatClampNeg rfl (own_Ll x_slots (own_ix (own_b0 (own_r2 sx vb))))).pad (own_Lset x_slots (own_ix (own_b0 (own_r2 sx vb))) (sx.toInt64 + (1 : Int64)))
                have f250 : Exa Z h249 a1 "com/example/ketproof/ketproof/MassTable" := E1.wr W249
                have f251 : Fld Z h249 a1 "com/example/ketproof/ketproof/MassTable" "slots" "[J" (.ref z_slots) := F_slots_a1.other W249 (Or.inl ne_slots)
                have f252 : Fld Z h249 a1 "com/example/ketproof/ketproof/MassTable" "entrySlots" "[I" (.ref z_entrySlots) := F_entrySlots_a1.other W249 (Or.inl ne_slots)
                have f253 : Fld Z h249 a1 "com/example/ketproof/ketproof/MassTable" "size" "I" (.int z_size) := F_size_a1.other W249 (Or.inl ne_slots)
                have f254 : Fld Z h249 a1 "com/example/ketproof/ketproof/MassTable" "decimals" "[Ljava/math/BigDecimal;" .null := F_decimals_a1.other W249 (Or.inl ne_slots)
                have f255 : Arv Z h249 z_entrySlots k_entrySlots .int (16 : Int32) (own_E x_entrySlots) (.int (0 : Int32)) := V_entrySlots.other W249 ne_entrySlots_slots
                have N256 := Fr.snoc X249 N53 g_slots
                have K257 : Keep h0 h249 [a1, z_slots, z_entrySlots] := (Keep.refl h0 [a1, z_slots, z_entrySlots]).wr W249 (Or.inl (List.mem_of_getElem? (i := 1) rfl))
                have Z258 : n0 ≤ h249.size := Nat.le_trans Z0 (Keep.of_wr W249).1
                obtain ⟨T259, X259, e259, st259⟩ := getF X249 hx hZ hown (host := "") (Or.inl (hw _ (List.mem_of_getElem? (i := 10) rfl))) Via.refl e249 f251 (g := (mkF m 164 #[.val (.ref a1), .val (.int sx), .val (.long vb), .second, .val .null, .val (.double ms), .second, .val (.int own_mk), .val (.int (own_i2 sx vb))] [(.ref a1)])) rfl rfl (hb hby d5_164)
                obtain ⟨cl260, Ar260, qa260, Sa260, Na260, Ha260, Ga260⟩ := id fa249
                have hin260 : ¬ ((((3 : Int32) * (own_i2 sx vb)) + (1 : Int32)) < 0 ∨ cl260.slots.size ≤ ((((3 : Int32) * (own_i2 sx vb)) + (1 : Int32))).toNatClampNeg) := inb_of Sa260 (own_b1 (own_r2 sx vb))
                obtain ⟨T261, h261, X261, e261, W261, st261⟩ := stJ X259 hx hZ e259 Ar260 (j := (((3 : Int32) * (own_i2 sx vb)) + (1 : Int32))) hin260 (g := (mkF m 174 #[.val (.ref a1), .val (.int sx), .val (.long vb), .second, .val .null, .val (.double ms), .second, .val (.int own_mk), .val (.int (own_i2 sx vb))] [(.long vb), (.int (((3 : Int32) * (own_i2 sx vb)) + (1 : Int32))), (.ref z_slots)])) rfl rfl (hb hby d5_174)
                have fa261 : Arv Z h261 z_slots k_slots .long (96 : Int32) (own_L (own_up (own_up x_slots (((3 : Int32) * (own_i2 sx vb))).toNatClampNeg (sx.toInt64 + (1 : Int64))) ((((3 : Int32) * (own_i2 sx vb)) + (1 : Int32))).toNatClampNeg vb)) (.long (0 : Int64)) := (Arv.set Ar260 qa260 Sa260 Na260 Ha260 Ga260 rfl W261 ((((3 : Int32) * (own_i2 sx vb)) + (1 : Int32))).toNatClampNeg rfl (own_Ll (own_up x_slots (((3 : Int32) * (own_i2 sx vb))).toNatClampNeg (sx.toInt64 + (1 : Int64))) (own_ix (own_b1 (own_r2 sx vb))))).pad (own_Lset (own_up x_slots (((3 : Int32) * (own_i2 sx vb))).toNatClampNeg (sx.toInt64 + (1 : Int64))) (own_ix (own_b1 (own_r2 sx vb))) vb)
                have f262 : Exa Z h261 a1 "com/example/ketproof/ketproof/MassTable" := f250.wr W261
                have f263 : Fld Z h261 a1 "com/example/ketproof/ketproof/MassTable" "slots" "[J" (.ref z_slots) := f251.other W261 (Or.inl ne_slots)
                have f264 : Fld Z h261 a1 "com/example/ketproof/ketproof/MassTable" "entrySlots" "[I" (.ref z_entrySlots) := f252.other W261 (Or.inl ne_slots)
                have f265 : Fld Z h261 a1 "com/example/ketproof/ketproof/MassTable" "size" "I" (.int z_size) := f253.other W261 (Or.inl ne_slots)
                have f266 : Fld Z h261 a1 "com/example/ketproof/ketproof/MassTable" "decimals" "[Ljava/math/BigDecimal;" .null := f254.other W261 (Or.inl ne_slots)
                have f267 : Arv Z h261 z_entrySlots k_entrySlots .int (16 : Int32) (own_E x_entrySlots) (.int (0 : Int32)) := f255.other W261 ne_entrySlots_slots
                have N268 := Fr.snoc X261 N256 g_slots
                have K269 : Keep h0 h261 [a1, z_slots, z_entrySlots] := K257.wr W261 (Or.inl (List.mem_of_getElem? (i := 1) rfl))
                have Z270 : n0 ≤ h261.size := Nat.le_trans Z258 (Keep.of_wr W261).1
                obtain ⟨T271, X271, e271, st271⟩ := getF X261 hx hZ hown (host := "") (Or.inl (hw _ (List.mem_of_getElem? (i := 10) rfl))) Via.refl e261 f263 (g := (mkF m 176 #[.val (.ref a1), .val (.int sx), .val (.long vb), .second, .val .null, .val (.double ms), .second, .val (.int own_mk), .val (.int (own_i2 sx vb))] [(.ref a1)])) rfl rfl (hb hby d5_176)
                obtain ⟨vm272, X272, st272⟩ := X271.doubleToRawLongBits hx hown (mvT hZ (hw _ (List.mem_of_getElem? (i := 27) rfl))) (mvT hZ (hw _ (List.mem_of_getElem? (i := 30) rfl))) (mvT hZ (hw _ (List.mem_of_getElem? (i := 28) rfl))) (mvT hZ (hw _ (List.mem_of_getElem? (i := 29) rfl))) (g := (mkF m 187 #[.val (.ref a1), .val (.int sx), .val (.long vb), .second, .val .null, .val (.double ms), .second, .val (.int own_mk), .val (.int (own_i2 sx vb))] [(.double ms), (.int (((3 : Int32) * (own_i2 sx vb)) + (2 : Int32))), (.ref z_slots)])) rfl (by rw [hml]; rfl) (rest := [(.int (((3 : Int32) * (own_i2 sx vb)) + (2 : Int32))), (.ref z_slots)]) (b := ms) rfl (hb hby d5_187) (by decide) (by show 2 * 0 + 2 + (nativeFrameWords "java/lang/Double" "doubleToRawLongBits" 2 + 11) ≤ _; decide)
                obtain ⟨T272, hT272⟩ : ∃ z, z = T271.setVm vm272 := ⟨_, rfl⟩
                rw [← hT272] at X272 st272
                have e272 : T272.heap = h261 := by rw [hT272]; exact e271
                obtain ⟨cl273, Ar273, qa273, Sa273, Na273, Ha273, Ga273⟩ := id fa261
                have hin273 : ¬ ((((3 : Int32) * (own_i2 sx vb)) + (2 : Int32)) < 0 ∨ cl273.slots.size ≤ ((((3 : Int32) * (own_i2 sx vb)) + (2 : Int32))).toNatClampNeg) := inb_of Sa273 (own_b2 (own_r2 sx vb))
                obtain ⟨T274, h274, X274, e274, W274, st274⟩ := stJ X272 hx hZ e272 Ar273 (j := (((3 : Int32) * (own_i2 sx vb)) + (2 : Int32))) hin273 (g := (mkF m 190 #[.val (.ref a1), .val (.int sx), .val (.long vb), .second, .val .null, .val (.double ms), .second, .val (.int own_mk), .val (.int (own_i2 sx vb))] [(.long ((ms).toInt64)), (.int (((3 : Int32) * (own_i2 sx vb)) + (2 : Int32))), (.ref z_slots)])) rfl rfl (hb hby d5_190)
                have fa274 : Arv Z h274 z_slots k_slots .long (96 : Int32) (own_L (own_up (own_up (own_up x_slots (((3 : Int32) * (own_i2 sx vb))).toNatClampNeg (sx.toInt64 + (1 : Int64))) ((((3 : Int32) * (own_i2 sx vb)) + (1 : Int32))).toNatClampNeg vb) ((((3 : Int32) * (own_i2 sx vb)) + (2 : Int32))).toNatClampNeg ((ms).toInt64))) (.long (0 : Int64)) := (Arv.set Ar273 qa273 Sa273 Na273 Ha273 Ga273 rfl W274 ((((3 : Int32) * (own_i2 sx vb)) + (2 : Int32))).toNatClampNeg rfl (own_Ll (own_up (own_up x_slots (((3 : Int32) * (own_i2 sx vb))).toNatClampNeg (sx.toInt64 + (1 : Int64))) ((((3 : Int32) * (own_i2 sx vb)) + (1 : Int32))).toNatClampNeg vb) (own_ix (own_b2 (own_r2 sx vb))))).pad (own_Lset (own_up (own_up x_slots (((3 : Int32) * (own_i2 sx vb))).toNatClampNeg (sx.toInt64 + (1 : Int64))) ((((3 : Int32) * (own_i2 sx vb)) + (1 : Int32))).toNatClampNeg vb) (own_ix (own_b2 (own_r2 sx vb))) ((ms).toInt64))
                have f275 : Exa Z h274 a1 "com/example/ketproof/ketproof/MassTable" := f262.wr W274
                have f276 : Fld Z h274 a1 "com/example/ketproof/ketproof/MassTable" "slots" "[J" (.ref z_slots) := f263.other W274 (Or.inl ne_slots)
                have f277 : Fld Z h274 a1 "com/example/ketproof/ketproof/MassTable" "entrySlots" "[I" (.ref z_entrySlots) := f264.other W274 (Or.inl ne_slots)
                have f278 : Fld Z h274 a1 "com/example/ketproof/ketproof/MassTable" "size" "I" (.int z_size) := f265.other W274 (Or.inl ne_slots)
                have f279 : Fld Z h274 a1 "com/example/ketproof/ketproof/MassTable" "decimals" "[Ljava/math/BigDecimal;" .null := f266.other W274 (Or.inl ne_slots)
                have f280 : Arv Z h274 z_entrySlots k_entrySlots .int (16 : Int32) (own_E x_entrySlots) (.int (0 : Int32)) := f267.other W274 ne_entrySlots_slots
                have N281 := Fr.snoc X274 N268 g_slots
                have K282 : Keep h0 h274 [a1, z_slots, z_entrySlots] := K269.wr W274 (Or.inl (List.mem_of_getElem? (i := 1) rfl))
                have Z283 : n0 ≤ h274.size := Nat.le_trans Z270 (Keep.of_wr W274).1
                obtain ⟨T284, X284, e284, st284⟩ := getF X274 hx hZ hown (host := "") (Or.inl (hw _ (List.mem_of_getElem? (i := 13) rfl))) Via.refl e274 f277 (g := (mkF m 227 #[.val (.ref a1), .val (.int sx), .val (.long vb), .second, .val .null, .val (.double ms), .second, .val (.int own_mk), .val (.int (own_i2 sx vb))] [(.ref a1)])) rfl rfl (hb hby d5_227)
                obtain ⟨T285, X285, e285, st285⟩ := getF X284 hx hZ hown (host := "") (Or.inl (hw _ (List.mem_of_getElem? (i := 20) rfl))) Via.refl e284 f278 (g := (mkF m 232 #[.val (.ref a1), .val (.int sx), .val (.long vb), .second, .val .null, .val (.double ms), .second, .val (.int own_mk), .val (.int (own_i2 sx vb))] [(.ref a1), (.ref a1), (.ref z_entrySlots)])) rfl rfl (hb hby d5_232)
                obtain ⟨T286, h286, X286, e286, W286, st286⟩ := putF X285 hx hZ hown (host := "") (Or.inl (hw _ (List.mem_of_getElem? (i := 20) rfl))) Via.refl e285 f278 f275 (Or.inl (hw _ (List.mem_of_getElem? (i := 21) rfl))) (hw _ (List.mem_of_getElem? (i := 1) rfl)) (ty := .int) (by decide) rfl rfl (g := (mkF m 238 #[.val (.ref a1), .val (.int sx), .val (.long vb), .second, .val .null, .val (.double ms), .second, .val (.int own_mk), .val (.int (own_i2 sx vb))] [(.int (z_size + (1 : Int32))), (.ref a1), (.int z_size), (.ref z_entrySlots)])) rfl rfl (hb hby d5_238)
                have f287 : Exa Z h286 a1 "com/example/ketproof/ketproof/MassTable" := f275.wr W286
                have f288 : Fld Z h286 a1 "com/example/ketproof/ketproof/MassTable" "slots" "[J" (.ref z_slots) := f276.other W286 (Or.inr (slot_ne (Or.inl (hw _ (List.mem_of_getElem? (i := 11) rfl))) (Or.inl (hw _ (List.mem_of_getElem? (i := 21) rfl))) (by decide) (t := (.array .long)) (t' := .int) (by decide) (by decide)))
                have f289 : Fld Z h286 a1 "com/example/ketproof/ketproof/MassTable" "entrySlots" "[I" (.ref z_entrySlots) := f277.other W286 (Or.inr (slot_ne (Or.inl (hw _ (List.mem_of_getElem? (i := 14) rfl))) (Or.inl (hw _ (List.mem_of_getElem? (i := 21) rfl))) (by decide) (t := (.array .int)) (t' := .int) (by decide) (by decide)))
                have f290 : Fld Z h286 a1 "com/example/ketproof/ketproof/MassTable" "size" "I" (.int (z_size + (1 : Int32))) := f278.same W286
                have f291 : Fld Z h286 a1 "com/example/ketproof/ketproof/MassTable" "decimals" "[Ljava/math/BigDecimal;" .null := f279.other W286 (Or.inr (slot_ne (Or.inl (hw _ (List.mem_of_getElem? (i := 61) rfl))) (Or.inl (hw _ (List.mem_of_getElem? (i := 21) rfl))) (by decide) (t := (.array (.object "java/math/BigDecimal"))) (t' := .int) (by decide) (by decide)))
                have f292 : Arv Z h286 z_entrySlots k_entrySlots .int (16 : Int32) (own_E x_entrySlots) (.int (0 : Int32)) := f280.other W286 (Ne.symm ne_entrySlots)
                have f293 : Arv Z h286 z_slots k_slots .long (96 : Int32) (own_L (own_up (own_up (own_up x_slots (((3 : Int32) * (own_i2 sx vb))).toNatClampNeg (sx.toInt64 + (1 : Int64))) ((((3 : Int32) * (own_i2 sx vb)) + (1 : Int32))).toNatClampNeg vb) ((((3 : Int32) * (own_i2 sx vb)) + (2 : Int32))).toNatClampNeg ((ms).toInt64))) (.long (0 : Int64)) := fa274.other W286 (Ne.symm ne_slots)
                have N294 := Fr.snoc X286 N281 g1
                have K295 : Keep h0 h286 [a1, z_slots, z_entrySlots] := K282.wr W286 (Or.inl (List.mem_of_getElem? (i := 0) rfl))
                have Z296 : n0 ≤ h286.size := Nat.le_trans Z283 (Keep.of_wr W286).1
                obtain ⟨cl297, Ar297, qa297, Sa297, Na297, Ha297, Ga297⟩ := id f292
                have hin297 : ¬ (z_size < 0 ∨ cl297.slots.size ≤ (z_size).toNatClampNeg) := inb_of Sa297 (own_ine hsz)
                obtain ⟨T298, h298, X298, e298, W298, st298⟩ := stI X286 hx hZ e286 Ar297 (j := z_size) hin297 (g := (mkF m 243 #[.val (.ref a1), .val (.int sx), .val (.long vb), .second, .val .null, .val (.double ms), .second, .val (.int own_mk), .val (.int (own_i2 sx vb))] [(.int (own_i2 sx vb)), (.int z_size), (.ref z_entrySlots)])) rfl rfl (hb hby d5_243)
                have fa298 : Arv Z h298 z_entrySlots k_entrySlots .int (16 : Int32) (own_E (own_up x_entrySlots (z_size).toNatClampNeg (own_i2 sx vb))) (.int (0 : Int32)) := (Arv.set Ar297 qa297 Sa297 Na297 Ha297 Ga297 rfl W298 (z_size).toNatClampNeg rfl (own_El x_entrySlots (own_ixe (own_ine hsz)))).pad (own_Eset x_entrySlots (own_ixe (own_ine hsz)) (own_i2 sx vb))
                have f299 : Exa Z h298 a1 "com/example/ketproof/ketproof/MassTable" := f287.wr W298
                have f300 : Fld Z h298 a1 "com/example/ketproof/ketproof/MassTable" "slots" "[J" (.ref z_slots) := f288.other W298 (Or.inl ne_entrySlots)
                have f301 : Fld Z h298 a1 "com/example/ketproof/ketproof/MassTable" "entrySlots" "[I" (.ref z_entrySlots) := f289.other W298 (Or.inl ne_entrySlots)
                have f302 : Fld Z h298 a1 "com/example/ketproof/ketproof/MassTable" "size" "I" (.int (z_size + (1 : Int32))) := f290.other W298 (Or.inl ne_entrySlots)
                have f303 : Fld Z h298 a1 "com/example/ketproof/ketproof/MassTable" "decimals" "[Ljava/math/BigDecimal;" .null := f291.other W298 (Or.inl ne_entrySlots)
                have f304 : Arv Z h298 z_slots k_slots .long (96 : Int32) (own_L (own_up (own_up (own_up x_slots (((3 : Int32) * (own_i2 sx vb))).toNatClampNeg (sx.toInt64 + (1 : Int64))) ((((3 : Int32) * (own_i2 sx vb)) + (1 : Int32))).toNatClampNeg vb) ((((3 : Int32) * (own_i2 sx vb)) + (2 : Int32))).toNatClampNeg ((ms).toInt64))) (.long (0 : Int64)) := f293.other W298 (Ne.symm ne_entrySlots_slots)
                have N305 := Fr.snoc X298 N294 g_entrySlots
                have K306 : Keep h0 h298 [a1, z_slots, z_entrySlots] := K295.wr W298 (Or.inl (List.mem_of_getElem? (i := 2) rfl))
                have Z307 : n0 ≤ h298.size := Nat.le_trans Z296 (Keep.of_wr W298).1
                have hf_size : f5_size sx vb ms z_size x_slots x_entrySlots = (z_size + (1 : Int32)) := by
                  unfold f5_size
                  first | rfl | (rw [if_neg hc57, if_pos hc125, if_neg hc129, if_neg hc150, if_pos hc218, if_neg hc222, if_pos hc243])
                have hf_slots : f5_slots sx vb ms z_size x_slots x_entrySlots = (own_up (own_up (own_up x_slots (((3 : Int32) * (own_i2 sx vb))).toNatClampNeg (sx.toInt64 + (1 : Int64))) ((((3 : Int32) * (own_i2 sx vb)) + (1 : Int32))).toNatClampNeg vb) ((((3 : Int32) * (own_i2 sx vb)) + (2 : Int32))).toNatClampNeg ((ms).toInt64)) := by
                  unfold f5_slots
                  first | rfl | (rw [if_neg hc57, if_pos hc125, if_neg hc129, if_neg hc150, if_pos hc218, if_neg hc222, if_pos hc243])
                have hf_entrySlots : f5_entrySlots sx vb ms z_size x_slots x_entrySlots = (own_up x_entrySlots (z_size).toNatClampNeg (own_i2 sx vb)) := by
                  unfold f5_entrySlots
                  first | rfl | (rw [if_neg hc57, if_pos hc125, if_neg hc129, if_neg hc150, if_pos hc218, if_neg hc222, if_pos hc243])
                obtain ⟨fs, hr, hrun, hended, hW, hsame⟩ := X298.leave (v := none) (fun _ => rfl)
                refine ⟨_, _, S242 _ ?_, hrun, hended, _, _, rfl, ?_, ⟨_, rfl⟩, hW, hsame.mono (by decide) (by decide)⟩
                · refine XS.ifYes X240.here hx rfl (pc0 := 32) (pc' := 123) rfl (hb hby d5_32) rfl ((if0 _ _).trans (teq hc243).1) (by decide) (by decide) ?_
                  show Steps p.tables e below (T240.setTop (mkF m 123 #[.val (.ref a1), .val (.int sx), .val (.long vb), .second, .val .null, .val (.double ms), .second, .val (.int own_mk), .val (.int (own_i2 sx vb))] [])) _
                  refine XS.aloadN X240.here hx rfl (hb hby d5_123) rfl rfl ?_
                  show Steps p.tables e below (T240.setTop (mkF m 124 #[.val (.ref a1), .val (.int sx), .val (.long vb), .second, .val .null, .val (.double ms), .second, .val (.int own_mk), .val (.int (own_i2 sx vb))] [(.ref a1)])) _
                  refine st244 _ ?_
                  show Steps p.tables e below (T244.setTop (mkF m 127 #[.val (.ref a1), .val (.int sx), .val (.long vb), .second, .val .null, .val (.double ms), .second, .val (.int own_mk), .val (.int (own_i2 sx vb))] [(.int z_size)])) _
                  refine XS.aloadN X244.here hx rfl (hb hby d5_127) rfl rfl ?_
                  show Steps p.tables e below (T244.setTop (mkF m 128 #[.val (.ref a1), .val (.int sx), .val (.long vb), .second, .val .null, .val (.double ms), .second, .val (.int own_mk), .val (.int (own_i2 sx vb))] [(.ref a1), (.int z_size)])) _
                  refine st245 _ ?_
                  show Steps p.tables e below (T245.setTop (mkF m 131 #[.val (.ref a1), .val (.int sx), .val (.long vb), .second, .val .null, .val (.double ms), .second, .val (.int own_mk), .val (.int (own_i2 sx vb))] [(.ref z_entrySlots), (.int z_size)])) _
                  refine X245.arraylength hx (by rw [e245]; exact Ar246.1) (State.isArrayOf_alike hZ.alike Ar246.2.1) (g := (mkF m 131 #[.val (.ref a1), .val (.int sx), .val (.long vb), .second, .val .null, .val (.double ms), .second, .val (.int own_mk), .val (.int (own_i2 sx vb))] [(.ref z_entrySlots), (.int z_size)])) rfl rfl (hb hby d5_131) _ ?_
                  rw [len_of Sa246 Na246]
                  show Steps p.tables e below (T245.setTop (mkF m 132 #[.val (.ref a1), .val (.int sx), .val (.long vb), .second, .val .null, .val (.double ms), .second, .val (.int own_mk), .val (.int (own_i2 sx vb))] [(.int (16 : Int32)), (.int z_size)])) _
                  refine XS.icmpYes X245.here hx rfl (pc0 := 132) (pc' := 150) rfl (hb hby d5_132) rfl (feq (own_full hsz)).2 (by decide) (by decide) ?_
                  show Steps p.tables e below (T245.setTop (mkF m 150 #[.val (.ref a1), .val (.int sx), .val (.long vb), .second, .val .null, .val (.double ms), .second, .val (.int own_mk), .val (.int (own_i2 sx vb))] [])) _
                  refine XS.aloadN X245.here hx rfl (hb hby d5_150) rfl rfl ?_
                  show Steps p.tables e below (T245.setTop (mkF m 151 #[.val (.ref a1), .val (.int sx), .val (.long vb), .second, .val .null, .val (.double ms), .second, .val (.int own_mk), .val (.int (own_i2 sx vb))] [(.ref a1)])) _
                  refine st247 _ ?_
                  show Steps p.tables e below (T247.setTop (mkF m 154 #[.val (.ref a1), .val (.int sx), .val (.long vb), .second, .val .null, .val (.double ms), .second, .val (.int own_mk), .val (.int (own_i2 sx vb))] [(.ref z_slots)])) _
                  refine XS.iconst X247.here hx rfl (hb hby d5_154) ?_
                  show Steps p.tables e below (T247.setTop (mkF m 155 #[.val (.ref a1), .val (.int sx), .val (.long vb), .second, .val .null, .val (.double ms), .second, .val (.int own_mk), .val (.int (own_i2 sx vb))] [(.int (3 : Int32)), (.ref z_slots)])) _
                  refine XS.iload X247.here hx rfl (hb hby d5_155) rfl ?_
                  show Steps p.tables e below (T247.setTop (mkF m 157 #[.val (.ref a1), .val (.int sx), .val (.long vb), .second, .val .null, .val (.double ms), .second, .val (.int own_mk), .val (.int (own_i2 sx vb))] [(.int (own_i2 sx vb)), (.int (3 : Int32)), (.ref z_slots)])) _
                  refine XS.imul X247.here hx rfl (hb hby d5_157) rfl ?_
                  show Steps p.tables e below (T247.setTop (mkF m 158 #[.val (.ref a1), .val (.int sx), .val (.long vb), .second, .val .null, .val (.double ms), .second, .val (.int own_mk), .val (.int (own_i2 sx vb))] [(.int ((3 : Int32) * (own_i2 sx vb))), (.ref z_slots)])) _
                  refine XS.iloadN X247.here hx rfl (hb hby d5_158) rfl ?_
                  show Steps p.tables e below (T247.setTop (mkF m 159 #[.val (.ref a1), .val (.int sx), .val (.long vb), .second, .val .null, .val (.double ms), .second, .val (.int own_mk), .val (.int (own_i2 sx vb))] [(.int sx), (.int ((3 : Int32) * (own_i2 sx vb))), (.ref z_slots)])) _
                  refine XS.i2l X247.here hx rfl (hb hby d5_159) rfl ?_
                  show Steps p.tables e below (T247.setTop (mkF m 160 #[.val (.ref a1), .val (.int sx), .val (.long vb), .second, .val .null, .val (.double ms), .second, .val (.int own_mk), .val (.int (own_i2 sx vb))] [(.long sx.toInt64), (.int ((3 : Int32) * (own_i2 sx vb))), (.ref z_slots)])) _
                  refine XS.lconst X247.here hx rfl (hb hby d5_160) ?_
                  show Steps p.tables e below (T247.setTop (mkF m 161 #[.val (.ref a1), .val (.int sx), .val (.long vb), .second, .val .null, .val (.double ms), .second, .val (.int own_mk), .val (.int (own_i2 sx vb))] [(.long (1 : Int64)), (.long sx.toInt64), (.int ((3 : Int32) * (own_i2 sx vb))), (.ref z_slots)])) _
                  refine XS.ladd X247.here hx rfl (hb hby d5_161) rfl ?_
                  show Steps p.tables e below (T247.setTop (mkF m 162 #[.val (.ref a1), .val (.int sx), .val (.long vb), .second, .val .null, .val (.double ms), .second, .val (.int own_mk), .val (.int (own_i2 sx vb))] [(.long (sx.toInt64 + (1 : Int64))), (.int ((3 : Int32) * (own_i2 sx vb))), (.ref z_slots)])) _
                  refine st249 _ ?_
                  show Steps p.tables e below (T249.setTop (mkF m 163 #[.val (.ref a1), .val (.int sx), .val (.long vb), .second, .val .null, .val (.double ms), .second, .val (.int own_mk), .val (.int (own_i2 sx vb))] [])) _
                  refine XS.aloadN X249.here hx rfl (hb hby d5_163) rfl rfl ?_
                  show Steps p.tables e below (T249.setTop (mkF m 164 #[.val (.ref a1), .val (.int sx), .val (.long vb), .second, .val .null, .val (.double ms), .second, .val (.int own_mk), .val (.int (own_i2 sx vb))] [(.ref a1)])) _
                  refine st259 _ ?_
                  show Steps p.tables e below (T259.setTop (mkF m 167 #[.val (.ref a1), .val (.int sx), .val (.long vb), .second, .val .null, .val (.double ms), .second, .val (.int own_mk), .val (.int (own_i2 sx vb))] [(.ref z_slots)])) _
                  refine XS.iconst X259.here hx rfl (hb hby d5_167) ?_
                  show Steps p.tables e below (T259.setTop (mkF m 168 #[.val (.ref a1), .val (.int sx), .val (.long vb), .second, .val .null, .val (.double ms), .second, .val (.int own_mk), .val (.int (own_i2 sx vb))] [(.int (3 : Int32)), (.ref z_slots)])) _
                  refine XS.iload X259.here hx rfl (hb hby d5_168) rfl ?_
                  show Steps p.tables e below (T259.setTop (mkF m 170 #[.val (.ref a1), .val (.int sx), .val (.long vb), .second, .val .null, .val (.double ms), .second, .val (.int own_mk), .val (.int (own_i2 sx vb))] [(.int (own_i2 sx vb)), (.int (3 : Int32)), (.ref z_slots)])) _
                  refine XS.imul X259.here hx rfl (hb hby d5_170) rfl ?_
                  show Steps p.tables e below (T259.setTop (mkF m 171 #[.val (.ref a1), .val (.int sx), .val (.long vb), .second, .val .null, .val (.double ms), .second, .val (.int own_mk), .val (.int (own_i2 sx vb))] [(.int ((3 : Int32) * (own_i2 sx vb))), (.ref z_slots)])) _
                  refine XS.iconst X259.here hx rfl (hb hby d5_171) ?_
                  show Steps p.tables e below (T259.setTop (mkF m 172 #[.val (.ref a1), .val (.int sx), .val (.long vb), .second, .val .null, .val (.double ms), .second, .val (.int own_mk), .val (.int (own_i2 sx vb))] [(.int (1 : Int32)), (.int ((3 : Int32) * (own_i2 sx vb))), (.ref z_slots)])) _
                  refine XS.iadd X259.here hx rfl (hb hby d5_172) rfl ?_
                  show Steps p.tables e below (T259.setTop (mkF m 173 #[.val (.ref a1), .val (.int sx), .val (.long vb), .second, .val .null, .val (.double ms), .second, .val (.int own_mk), .val (.int (own_i2 sx vb))] [(.int (((3 : Int32) * (own_i2 sx vb)) + (1 : Int32))), (.ref z_slots)])) _
                  refine XS.lloadN X259.here hx rfl (hb hby d5_173) rfl ?_
                  show Steps p.tables e below (T259.setTop (mkF m 174 #[.val (.ref a1), .val (.int sx), .val (.long vb), .second, .val .null, .val (.double ms), .second, .val (.int own_mk), .val (.int (own_i2 sx vb))] [(.long vb), (.int (((3 : Int32) * (own_i2 sx vb)) + (1 : Int32))), (.ref z_slots)])) _
                  refine st261 _ ?_
                  show Steps p.tables e below (T261.setTop (mkF m 175 #[.val (.ref a1), .val (.int sx), .val (.long vb), .second, .val .null, .val (.double ms), .second, .val (.int own_mk), .val (.int (own_i2 sx vb))] [])) _
                  refine XS.aloadN X261.here hx rfl (hb hby d5_175) rfl rfl ?_
                  show Steps p.tables e below (T261.setTop (mkF m 176 #[.val (.ref a1), .val (.int sx), .val (.long vb), .second, .val .null, .val (.double ms), .second, .val (.int own_mk), .val (.int (own_i2 sx vb))] [(.ref a1)])) _
                  refine st271 _ ?_
                  show Steps p.tables e below (T271.setTop (mkF m 179 #[.val (.ref a1), .val (.int sx), .val (.long vb), .second, .val .null, .val (.double ms), .second, .val (.int own_mk), .val (.int (own_i2 sx vb))] [(.ref z_slots)])) _
                  refine XS.iconst X271.here hx rfl (hb hby d5_179) ?_
                  show Steps p.tables e below (T271.setTop (mkF m 180 #[.val (.ref a1), .val (.int sx), .val (.long vb), .second, .val .null, .val (.double ms), .second, .val (.int own_mk), .val (.int (own_i2 sx vb))] [(.int (3 : Int32)), (.ref z_slots)])) _
                  refine XS.iload X271.here hx rfl (hb hby d5_180) rfl ?_
                  show Steps p.tables e below (T271.setTop (mkF m 182 #[.val (.ref a1), .val (.int sx), .val (.long vb), .second, .val .null, .val (.double ms), .second, .val (.int own_mk), .val (.int (own_i2 sx vb))] [(.int (own_i2 sx vb)), (.int (3 : Int32)), (.ref z_slots)])) _
                  refine XS.imul X271.here hx rfl (hb hby d5_182) rfl ?_
                  show Steps p.tables e below (T271.setTop (mkF m 183 #[.val (.ref a1), .val (.int sx), .val (.long vb), .second, .val .null, .val (.double ms), .second, .val (.int own_mk), .val (.int (own_i2 sx vb))] [(.int ((3 : Int32) * (own_i2 sx vb))), (.ref z_slots)])) _
                  refine XS.iconst X271.here hx rfl (hb hby d5_183) ?_
                  show Steps p.tables e below (T271.setTop (mkF m 184 #[.val (.ref a1), .val (.int sx), .val (.long vb), .second, .val .null, .val (.double ms), .second, .val (.int own_mk), .val (.int (own_i2 sx vb))] [(.int (2 : Int32)), (.int ((3 : Int32) * (own_i2 sx vb))), (.ref z_slots)])) _
                  refine XS.iadd X271.here hx rfl (hb hby d5_184) rfl ?_
                  show Steps p.tables e below (T271.setTop (mkF m 185 #[.val (.ref a1), .val (.int sx), .val (.long vb), .second, .val .null, .val (.double ms), .second, .val (.int own_mk), .val (.int (own_i2 sx vb))] [(.int (((3 : Int32) * (own_i2 sx vb)) + (2 : Int32))), (.ref z_slots)])) _
                  refine XS.dload X271.here hx rfl (hb hby d5_185) rfl ?_
                  show Steps p.tables e below (T271.setTop (mkF m 187 #[.val (.ref a1), .val (.int sx), .val (.long vb), .second, .val .null, .val (.double ms), .second, .val (.int own_mk), .val (.int (own_i2 sx vb))] [(.double ms), (.int (((3 : Int32) * (own_i2 sx vb)) + (2 : Int32))), (.ref z_slots)])) _
                  refine st272 _ ?_
                  show Steps p.tables e below (T272.setTop (mkF m 190 #[.val (.ref a1), .val (.int sx), .val (.long vb), .second, .val .null, .val (.double ms), .second, .val (.int own_mk), .val (.int (own_i2 sx vb))] [(.long ((ms).toInt64)), (.int (((3 : Int32) * (own_i2 sx vb)) + (2 : Int32))), (.ref z_slots)])) _
                  refine st274 _ ?_
                  show Steps p.tables e below (T274.setTop (mkF m 191 #[.val (.ref a1), .val (.int sx), .val (.long vb), .second, .val .null, .val (.double ms), .second, .val (.int own_mk), .val (.int (own_i2 sx vb))] [])) _
                  refine XS.aload X274.here hx rfl (hb hby d5_191) rfl rfl ?_
                  show Steps p.tables e below (T274.setTop (mkF m 193 #[.val (.ref a1), .val (.int sx), .val (.long vb), .second, .val .null, .val (.double ms), .second, .val (.int own_mk), .val (.int (own_i2 sx vb))] [.null])) _
                  refine XS.ifnullYes X274.here hx rfl (pc0 := 193) (pc' := 226) rfl (hb hby d5_193) rfl (by decide) (by decide) ?_
                  show Steps p.tables e below (T274.setTop (mkF m 226 #[.val (.ref a1), .val (.int sx), .val (.long vb), .second, .val .null, .val (.double ms), .second, .val (.int own_mk), .val (.int (own_i2 sx vb))] [])) _
                  refine XS.aloadN X274.here hx rfl (hb hby d5_226) rfl rfl ?_
                  show Steps p.tables e below (T274.setTop (mkF m 227 #[.val (.ref a1), .val (.int sx), .val (.long vb), .second, .val .null, .val (.double ms), .second, .val (.int own_mk), .val (.int (own_i2 sx vb))] [(.ref a1)])) _
                  refine st284 _ ?_
                  show Steps p.tables e below (T284.setTop (mkF m 230 #[.val (.ref a1), .val (.int sx), .val (.long vb), .second, .val .null, .val (.double ms), .second, .val (.int own_mk), .val (.int (own_i2 sx vb))] [(.ref z_entrySlots)])) _
                  refine XS.aloadN X284.here hx rfl (hb hby d5_230) rfl rfl ?_
                  show Steps p.tables e below (T284.setTop (mkF m 231 #[.val (.ref a1), .val (.int sx), .val (.long vb), .second, .val .null, .val (.double ms), .second, .val (.int own_mk), .val (.int (own_i2 sx vb))] [(.ref a1), (.ref z_entrySlots)])) _
                  refine XS.dup X284.here hx rfl (hb hby d5_231) rfl rfl ?_
                  show Steps p.tables e below (T284.setTop (mkF m 232 #[.val (.ref a1), .val (.int sx), .val (.long vb), .second, .val .null, .val (.double ms), .second, .val (.int own_mk), .val (.int (own_i2 sx vb))] [(.ref a1), (.ref a1), (.ref z_entrySlots)])) _
                  refine st285 _ ?_
                  show Steps p.tables e below (T285.setTop (mkF m 235 #[.val (.ref a1), .val (.int sx), .val (.long vb), .second, .val .null, .val (.double ms), .second, .val (.int own_mk), .val (.int (own_i2 sx vb))] [(.int z_size), (.ref a1), (.ref z_entrySlots)])) _
                  refine XS.dupX1 X285.here hx rfl (hb hby d5_235) rfl rfl rfl ?_
                  show Steps p.tables e below (T285.setTop (mkF m 236 #[.val (.ref a1), .val (.int sx), .val (.long vb), .second, .val .null, .val (.double ms), .second, .val (.int own_mk), .val (.int (own_i2 sx vb))] [(.int z_size), (.ref a1), (.int z_size), (.ref z_entrySlots)])) _
                  refine XS.iconst X285.here hx rfl (hb hby d5_236) ?_
                  show Steps p.tables e below (T285.setTop (mkF m 237 #[.val (.ref a1), .val (.int sx), .val (.long vb), .second, .val .null, .val (.double ms), .second, .val (.int own_mk), .val (.int (own_i2 sx vb))] [(.int (1 : Int32)), (.int z_size), (.ref a1), (.int z_size), (.ref z_entrySlots)])) _
                  refine XS.iadd X285.here hx rfl (hb hby d5_237) rfl ?_
                  show Steps p.tables e below (T285.setTop (mkF m 238 #[.val (.ref a1), .val (.int sx), .val (.long vb), .second, .val .null, .val (.double ms), .second, .val (.int own_mk), .val (.int (own_i2 sx vb))] [(.int (z_size + (1 : Int32))), (.ref a1), (.int z_size), (.ref z_entrySlots)])) _
                  refine st286 _ ?_
                  show Steps p.tables e below (T286.setTop (mkF m 241 #[.val (.ref a1), .val (.int sx), .val (.long vb), .second, .val .null, .val (.double ms), .second, .val (.int own_mk), .val (.int (own_i2 sx vb))] [(.int z_size), (.ref z_entrySlots)])) _
                  refine XS.iload X286.here hx rfl (hb hby d5_241) rfl ?_
                  show Steps p.tables e below (T286.setTop (mkF m 243 #[.val (.ref a1), .val (.int sx), .val (.long vb), .second, .val .null, .val (.double ms), .second, .val (.int own_mk), .val (.int (own_i2 sx vb))] [(.int (own_i2 sx vb)), (.int z_size), (.ref z_entrySlots)])) _
                  refine st298 _ ?_
                  show Steps p.tables e below (T298.setTop (mkF m 244 #[.val (.ref a1), .val (.int sx), .val (.long vb), .second, .val .null, .val (.double ms), .second, .val (.int own_mk), .val (.int (own_i2 sx vb))] [])) _
                  exact X298.returnOut hx Bd.returns (hb hby d5_244) hr
                · show Q5 Z a1 sx vb ms z_slots z_entrySlots z_size k_slots x_slots k_entrySlots x_entrySlots h0 n0 _ T298.heap _
                  rw [e298]
                  exact ⟨rfl, N305, K306, f299, f300, f301, by rw [hf_size]; exact f302, f303, by rw [hf_slots]; exact f304, by rw [hf_entrySlots]; exact fa298⟩
              · obtain ⟨T308, X308, e308, st308⟩ := getF X240 hx hZ hown (host := "") (Or.inl (hw _ (List.mem_of_getElem? (i := 10) rfl))) Via.refl e240 F_slots_a1 (g := (mkF m 36 #[.val (.ref a1), .val (.int sx), .val (.long vb), .second, .val .null, .val (.double ms), .second, .val (.int own_mk), .val (.int (own_i2 sx vb))] [(.ref a1)])) rfl rfl (hb hby d5_36)
                obtain ⟨cl309, Ar309, qa309, Sa309, Na309, Ha309, Ga309⟩ := id V_slots
                have hin309 : ¬ (((3 : Int32) * (own_i2 sx vb)) < 0 ∨ cl309.slots.size ≤ (((3 : Int32) * (own_i2 sx vb))).toNatClampNeg) := inb_of Sa309 (own_b0 (own_r2 sx vb))
                obtain ⟨T310, X310, e310, st310⟩ := getF X308 hx hZ hown (host := "") (Or.inl (hw _ (List.mem_of_getElem? (i := 10) rfl))) Via.refl e308 F_slots_a1 (g := (mkF m 53 #[.val (.ref a1), .val (.int sx), .val (.long vb), .second, .val .null, .val (.double ms), .second, .val (.int own_mk), .val (.int (own_i2 sx vb))] [(.ref a1)])) rfl rfl (hb hby d5_53)
                obtain ⟨cl311, Ar311, qa311, Sa311, Na311, Ha311, Ga311⟩ := id V_slots
                have hin311 : ¬ ((((3 : Int32) * (own_i2 sx vb)) + (1 : Int32)) < 0 ∨ cl311.slots.size ≤ ((((3 : Int32) * (own_i2 sx vb)) + (1 : Int32))).toNatClampNeg) := inb_of Sa311 (own_b1 (own_r2 sx vb))
                obtain ⟨cq312, q312, q312'⟩ := E1.cell
                obtain ⟨_, _, ⟨T312, L312, k312, n312⟩, -, X312, ⟨Lc312, hQ312, l312, y312, z312⟩, st312⟩ := X310.privateBack hx (y := (⟨"com/example/ketproof/ketproof/MassTable", "holds", "(ILjava/math/BigDecimal;)Z"⟩ : MethodName)) hown (mvT hZ (hw _ (List.mem_of_getElem? (i := 70) rfl))) (mvT hZ (hw _ (List.mem_of_getElem? (i := 71) rfl))) (mvT hZ (Jvm.Kit.selects_private (by decide) (hw _ (List.mem_of_getElem? (i := 1) rfl)) (hw _ (List.mem_of_getElem? (i := 72) rfl)) (hw _ (List.mem_of_getElem? (i := 71) rfl)))) (Cond.privateMethod_at (mvP hZ (hw _ (List.mem_of_getElem? (i := 72) rfl)) (args := #[]))) (mvT hZ (hw _ (List.mem_of_getElem? (i := 73) rfl))) (by decide) (backOf (W := 0) (rm12 l Z a0 hw [] a1 (own_i2 sx vb) h0 n0 Z0 F_decimals_a1) hZ (hw _ (List.mem_of_getElem? (i := 73) rfl)) (hw _ (List.mem_of_getElem? (i := 2) rfl)) (by decide) (by decide)) (g := (mkF m 73 #[.val (.ref a1), .val (.int sx), .val (.long vb), .second, .val .null, .val (.double ms), .second, .val (.int own_mk), .val (.int (own_i2 sx vb))] [.null, (.int (own_i2 sx vb)), (.ref a1)])) rfl (by rw [hml]; rfl) (Steps.refl _) (a := a1) (by rw [e310]; exact q312) q312' (argsL := [(.int (own_i2 sx vb)), .null]) (rest := []) (lenOf pd_1 rfl) rfl (by show 2 * 0 + _ ≤ _; exact Nat.le_of_eq rfl) (hb hby d5_73) (fun _ _ => ⟨rfl, e310, (by decide : 0 + 0 ≤ _), (by decide : 0 + 0 ≤ _)⟩)
                dsimp only [Pt.U, Pt.locs, Pt.cells, Pt.slots] at X312 l312 y312 z312 st312 hQ312
                subst l312 y312 z312
                obtain ⟨rfl, N312q, e312⟩ := hQ312
                have N312 := Fr.app N53 N312q
                obtain ⟨T313, X313, e313, st313⟩ := getF X312 hx hZ hown (host := "") (Or.inl (hw _ (List.mem_of_getElem? (i := 10) rfl))) Via.refl e312 F_slots_a1 (g := (mkF m 80 #[.val (.ref a1), .val (.int sx), .val (.long vb), .second, .val .null, .val (.double ms), .second, .val (.int own_mk), .val (.int (own_i2 sx vb))] [(.ref a1)])) rfl rfl (hb hby d5_80)
                obtain ⟨T314, X314, e314, st314⟩ := getF X313 hx hZ hown (host := "") (Or.inl (hw _ (List.mem_of_getElem? (i := 10) rfl))) Via.refl e313 F_slots_a1 (g := (mkF m 90 #[.val (.ref a1), .val (.int sx), .val (.long vb), .second, .val .null, .val (.double ms), .second, .val (.int own_mk), .val (.int (own_i2 sx vb))] [(.ref a1), (.int (((3 : Int32) * (own_i2 sx vb)) + (2 : Int32))), (.ref z_slots)])) rfl rfl (hb hby d5_90)
                obtain ⟨cl315, Ar315, qa315, Sa315, Na315, Ha315, Ga315⟩ := id V_slots
                have hin315 : ¬ ((((3 : Int32) * (own_i2 sx vb)) + (2 : Int32)) < 0 ∨ cl315.slots.size ≤ ((((3 : Int32) * (own_i2 sx vb)) + (2 : Int32))).toNatClampNeg) := inb_of Sa315 (own_b2 (own_r2 sx vb))
                obtain ⟨vm316, X316, st316⟩ := X314.longBitsToDouble hx hown (mvT hZ (hw _ (List.mem_of_getElem? (i := 62) rfl))) (mvT hZ (hw _ (List.mem_of_getElem? (i := 64) rfl))) (mvT hZ (hw _ (List.mem_of_getElem? (i := 63) rfl))) (mvT hZ (hw _ (List.mem_of_getElem? (i := 29) rfl))) (g := (mkF m 100 #[.val (.ref a1), .val (.int sx), .val (.long vb), .second, .val .null, .val (.double ms), .second, .val (.int own_mk), .val (.int (own_i2 sx vb))] [(.long (x_slots ((((3 : Int32) * (own_i2 sx vb)) + (2 : Int32))).toNatClampNeg)), (.int (((3 : Int32) * (own_i2 sx vb)) + (2 : Int32))), (.ref z_slots)])) rfl (by rw [hml]; rfl) (rest := [(.int (((3 : Int32) * (own_i2 sx vb)) + (2 : Int32))), (.ref z_slots)]) (b := (x_slots ((((3 : Int32) * (own_i2 sx vb)) + (2 : Int32))).toNatClampNeg)) (own_lb (hM _ (own_md (own_r2 sx vb)))) rfl (hb hby d5_100) (by decide) (by show 2 * 0 + 2 + (nativeFrameWords "java/lang/Double" "longBitsToDouble" 2 + 11) ≤ _; decide)
                obtain ⟨T316, hT316⟩ : ∃ z, z = T314.setVm vm316 := ⟨_, rfl⟩
                rw [← hT316] at X316 st316
                have e316 : T316.heap = h0 := by rw [hT316]; exact e314
                obtain ⟨vm317, X317, st317⟩ := X316.doubleToRawLongBits hx hown (mvT hZ (hw _ (List.mem_of_getElem? (i := 27) rfl))) (mvT hZ (hw _ (List.mem_of_getElem? (i := 30) rfl))) (mvT hZ (hw _ (List.mem_of_getElem? (i := 28) rfl))) (mvT hZ (hw _ (List.mem_of_getElem? (i := 29) rfl))) (g := (mkF m 106 #[.val (.ref a1), .val (.int sx), .val (.long vb), .second, .val .null, .val (.double ms), .second, .val (.int own_mk), .val (.int (own_i2 sx vb))] [(.double (FP.dadd (((x_slots ((((3 : Int32) * (own_i2 sx vb)) + (2 : Int32))).toNatClampNeg)).toUInt64) ms)), (.int (((3 : Int32) * (own_i2 sx vb)) + (2 : Int32))), (.ref z_slots)])) rfl (by rw [hml]; rfl) (rest := [(.int (((3 : Int32) * (own_i2 sx vb)) + (2 : Int32))), (.ref z_slots)]) (b := (FP.dadd (((x_slots ((((3 : Int32) * (own_i2 sx vb)) + (2 : Int32))).toNatClampNeg)).toUInt64) ms)) rfl (hb hby d5_106) (by decide) (by show 2 * 0 + 2 + (nativeFrameWords "java/lang/Double" "doubleToRawLongBits" 2 + 11) ≤ _; decide)
                obtain ⟨T317, hT317⟩ : ∃ z, z = T316.setVm vm317 := ⟨_, rfl⟩
                rw [← hT317] at X317 st317
                have e317 : T317.heap = h0 := by rw [hT317]; exact e316
                obtain ⟨cl318, Ar318, qa318, Sa318, Na318, Ha318, Ga318⟩ := id V_slots
                have hin318 : ¬ ((((3 : Int32) * (own_i2 sx vb)) + (2 : Int32)) < 0 ∨ cl318.slots.size ≤ ((((3 : Int32) * (own_i2 sx vb)) + (2 : Int32))).toNatClampNeg) := inb_of Sa318 (own_b2 (own_r2 sx vb))
                obtain ⟨T319, h319, X319, e319, W319, st319⟩ := stJ X317 hx hZ e317 Ar318 (j := (((3 : Int32) * (own_i2 sx vb)) + (2 : Int32))) hin318 (g := (mkF m 109 #[.val (.ref a1), .val (.int sx), .val (.long vb), .second, .val .null, .val (.double ms), .second, .val (.int own_mk), .val (.int (own_i2 sx vb))] [(.long (((FP.dadd (((x_slots ((((3 : Int32) * (own_i2 sx vb)) + (2 : Int32))).toNatClampNeg)).toUInt64) ms)).toInt64)), (.int (((3 : Int32) * (own_i2 sx vb)) + (2 : Int32))), (.ref z_slots)])) rfl rfl (hb hby d5_109)
                have fa319 : Arv Z h319 z_slots k_slots .long (96 : Int32) (own_L (own_up x_slots ((((3 : Int32) * (own_i2 sx vb)) + (2 : Int32))).toNatClampNeg (((FP.dadd (((x_slots ((((3 : Int32) * (own_i2 sx vb)) + (2 : Int32))).toNatClampNeg)).toUInt64) ms)).toInt64))) (.long (0 : Int64)) := (Arv.set Ar318 qa318 Sa318 Na318 Ha318 Ga318 rfl W319 ((((3 : Int32) * (own_i2 sx vb)) + (2 : Int32))).toNatClampNeg rfl (own_Ll x_slots (own_ix (own_b2 (own_r2 sx vb))))).pad (own_Lset x_slots (own_ix (own_b2 (own_r2 sx vb))) (((FP.dadd (((x_slots ((((3 : Int32) * (own_i2 sx vb)) + (2 : Int32))).toNatClampNeg)).toUInt64) ms)).toInt64))
                have f320 : Exa Z h319 a1 "com/example/ketproof/ketproof/MassTable" := E1.wr W319
                have f321 : Fld Z h319 a1 "com/example/ketproof/ketproof/MassTable" "slots" "[J" (.ref z_slots) := F_slots_a1.other W319 (Or.inl ne_slots)
                have f322 : Fld Z h319 a1 "com/example/ketproof/ketproof/MassTable" "entrySlots" "[I" (.ref z_entrySlots) := F_entrySlots_a1.other W319 (Or.inl ne_slots)
                have f323 : Fld Z h319 a1 "com/example/ketproof/ketproof/MassTable" "size" "I" (.int z_size) := F_size_a1.other W319 (Or.inl ne_slots)
                have f324 : Fld Z h319 a1 "com/example/ketproof/ketproof/MassTable" "decimals" "[Ljava/math/BigDecimal;" .null := F_decimals_a1.other W319 (Or.inl ne_slots)
                have f325 : Arv Z h319 z_entrySlots k_entrySlots .int (16 : Int32) (own_E x_entrySlots) (.int (0 : Int32)) := V_entrySlots.other W319 ne_entrySlots_slots
                have N326 := Fr.snoc X319 N312 g_slots
                have K327 : Keep h0 h319 [a1, z_slots, z_entrySlots] := (Keep.refl h0 [a1, z_slots, z_entrySlots]).wr W319 (Or.inl (List.mem_of_getElem? (i := 1) rfl))
                have Z328 : n0 ≤ h319.size := Nat.le_trans Z0 (Keep.of_wr W319).1
                have hf_size : f5_size sx vb ms z_size x_slots x_entrySlots = z_size := by
                  unfold f5_size
                  first | rfl | (rw [if_neg hc57, if_pos hc125, if_neg hc129, if_neg hc150, if_pos hc218, if_neg hc222, if_neg hc243])
                have hf_slots : f5_slots sx vb ms z_size x_slots x_entrySlots = (own_up x_slots ((((3 : Int32) * (own_i2 sx vb)) + (2 : Int32))).toNatClampNeg (((FP.dadd (((x_slots ((((3 : Int32) * (own_i2 sx vb)) + (2 : Int32))).toNatClampNeg)).toUInt64) ms)).toInt64)) := by
                  unfold f5_slots
                  first | rfl | (rw [if_neg hc57, if_pos hc125, if_neg hc129, if_neg hc150, if_pos hc218, if_neg hc222, if_neg hc243])
                have hf_entrySlots : f5_entrySlots sx vb ms z_size x_slots x_entrySlots = x_entrySlots := by
                  unfold f5_entrySlots
                  first | rfl | (rw [if_neg hc57, if_pos hc125, if_neg hc129, if_neg hc150, if_pos hc218, if_neg hc222, if_neg hc243])
                obtain ⟨fs, hr, hrun, hended, hW, hsame⟩ := X319.leave (v := none) (fun _ => rfl)
                refine ⟨_, _, S242 _ ?_, hrun, hended, _, _, rfl, ?_, ⟨_, rfl⟩, hW, hsame.mono (by decide) (by decide)⟩
                · refine XS.ifNo X240.here hx rfl (hb hby d5_32) rfl ((if0 _ _).trans (feq hc243).1) ?_
                  show Steps p.tables e below (T240.setTop (mkF m 35 #[.val (.ref a1), .val (.int sx), .val (.long vb), .second, .val .null, .val (.double ms), .second, .val (.int own_mk), .val (.int (own_i2 sx vb))] [])) _
                  refine XS.aloadN X240.here hx rfl (hb hby d5_35) rfl rfl ?_
                  show Steps p.tables e below (T240.setTop (mkF m 36 #[.val (.ref a1), .val (.int sx), .val (.long vb), .second, .val .null, .val (.double ms), .second, .val (.int own_mk), .val (.int (own_i2 sx vb))] [(.ref a1)])) _
                  refine st308 _ ?_
                  show Steps p.tables e below (T308.setTop (mkF m 39 #[.val (.ref a1), .val (.int sx), .val (.long vb), .second, .val .null, .val (.double ms), .second, .val (.int own_mk), .val (.int (own_i2 sx vb))] [(.ref z_slots)])) _
                  refine XS.iconst X308.here hx rfl (hb hby d5_39) ?_
                  show Steps p.tables e below (T308.setTop (mkF m 40 #[.val (.ref a1), .val (.int sx), .val (.long vb), .second, .val .null, .val (.double ms), .second, .val (.int own_mk), .val (.int (own_i2 sx vb))] [(.int (3 : Int32)), (.ref z_slots)])) _
                  refine XS.iload X308.here hx rfl (hb hby d5_40) rfl ?_
                  show Steps p.tables e below (T308.setTop (mkF m 42 #[.val (.ref a1), .val (.int sx), .val (.long vb), .second, .val .null, .val (.double ms), .second, .val (.int own_mk), .val (.int (own_i2 sx vb))] [(.int (own_i2 sx vb)), (.int (3 : Int32)), (.ref z_slots)])) _
                  refine XS.imul X308.here hx rfl (hb hby d5_42) rfl ?_
                  show Steps p.tables e below (T308.setTop (mkF m 43 #[.val (.ref a1), .val (.int sx), .val (.long vb), .second, .val .null, .val (.double ms), .second, .val (.int own_mk), .val (.int (own_i2 sx vb))] [(.int ((3 : Int32) * (own_i2 sx vb))), (.ref z_slots)])) _
                  refine X308.laload hx (j := ((3 : Int32) * (own_i2 sx vb))) (v := (.long (x_slots (((3 : Int32) * (own_i2 sx vb))).toNatClampNeg))) (by rw [e308]; exact Ar309.1) (State.isArrayOf_alike hZ.alike Ar309.2.1) Ar309.2.2 hin309 (Has.at Ha309 hin309 (own_rd x_slots (own_b0 (own_r2 sx vb)))) (g := (mkF m 43 #[.val (.ref a1), .val (.int sx), .val (.long vb), .second, .val .null, .val (.double ms), .second, .val (.int own_mk), .val (.int (own_i2 sx vb))] [(.int ((3 : Int32) * (own_i2 sx vb))), (.ref z_slots)])) rfl rfl (hb hby d5_43) _ ?_
                  show Steps p.tables e below (T308.setTop (mkF m 44 #[.val (.ref a1), .val (.int sx), .val (.long vb), .second, .val .null, .val (.double ms), .second, .val (.int own_mk), .val (.int (own_i2 sx vb))] [(.long (x_slots (((3 : Int32) * (own_i2 sx vb))).toNatClampNeg))])) _
                  refine XS.iloadN X308.here hx rfl (hb hby d5_44) rfl ?_
                  show Steps p.tables e below (T308.setTop (mkF m 45 #[.val (.ref a1), .val (.int sx), .val (.long vb), .second, .val .null, .val (.double ms), .second, .val (.int own_mk), .val (.int (own_i2 sx vb))] [(.int sx), (.long (x_slots (((3 : Int32) * (own_i2 sx vb))).toNatClampNeg))])) _
                  refine XS.i2l X308.here hx rfl (hb hby d5_45) rfl ?_
                  show Steps p.tables e below (T308.setTop (mkF m 46 #[.val (.ref a1), .val (.int sx), .val (.long vb), .second, .val .null, .val (.double ms), .second, .val (.int own_mk), .val (.int (own_i2 sx vb))] [(.long sx.toInt64), (.long (x_slots (((3 : Int32) * (own_i2 sx vb))).toNatClampNeg))])) _
                  refine XS.lconst X308.here hx rfl (hb hby d5_46) ?_
                  show Steps p.tables e below (T308.setTop (mkF m 47 #[.val (.ref a1), .val (.int sx), .val (.long vb), .second, .val .null, .val (.double ms), .second, .val (.int own_mk), .val (.int (own_i2 sx vb))] [(.long (1 : Int64)), (.long sx.toInt64), (.long (x_slots (((3 : Int32) * (own_i2 sx vb))).toNatClampNeg))])) _
                  refine XS.ladd X308.here hx rfl (hb hby d5_47) rfl ?_
                  show Steps p.tables e below (T308.setTop (mkF m 48 #[.val (.ref a1), .val (.int sx), .val (.long vb), .second, .val .null, .val (.double ms), .second, .val (.int own_mk), .val (.int (own_i2 sx vb))] [(.long (sx.toInt64 + (1 : Int64))), (.long (x_slots (((3 : Int32) * (own_i2 sx vb))).toNatClampNeg))])) _
                  refine XS.lcmp X308.here hx rfl (hb hby d5_48) rfl ?_
                  show Steps p.tables e below (T308.setTop (mkF m 49 #[.val (.ref a1), .val (.int sx), .val (.long vb), .second, .val .null, .val (.double ms), .second, .val (.int own_mk), .val (.int (own_i2 sx vb))] [(.int (lcmpW (x_slots (((3 : Int32) * (own_i2 sx vb))).toNatClampNeg) (sx.toInt64 + (1 : Int64))))])) _
                  refine XS.ifNo X308.here hx rfl (hb hby d5_49) rfl ((if0 _ _).trans (teq (own_third hst (own_nst hc57 (Or.inr hc129)) (own_nst hc150 (Or.inr hc222)) hc243).1).2) ?_
                  show Steps p.tables e below (T308.setTop (mkF m 52 #[.val (.ref a1), .val (.int sx), .val (.long vb), .second, .val .null, .val (.double ms), .second, .val (.int own_mk), .val (.int (own_i2 sx vb))] [])) _
                  refine XS.aloadN X308.here hx rfl (hb hby d5_52) rfl rfl ?_
                  show Steps p.tables e below (T308.setTop (mkF m 53 #[.val (.ref a1), .val (.int sx), .val (.long vb), .second, .val .null, .val (.double ms), .second, .val (.int own_mk), .val (.int (own_i2 sx vb))] [(.ref a1)])) _
                  refine st310 _ ?_
                  show Steps p.tables e below (T310.setTop (mkF m 56 #[.val (.ref a1), .val (.int sx), .val (.long vb), .second, .val .null, .val (.double ms), .second, .val (.int own_mk), .val (.int (own_i2 sx vb))] [(.ref z_slots)])) _
                  refine XS.iconst X310.here hx rfl (hb hby d5_56) ?_
                  show Steps p.tables e below (T310.setTop (mkF m 57 #[.val (.ref a1), .val (.int sx), .val (.long vb), .second, .val .null, .val (.double ms), .second, .val (.int own_mk), .val (.int (own_i2 sx vb))] [(.int (3 : Int32)), (.ref z_slots)])) _
                  refine XS.iload X310.here hx rfl (hb hby d5_57) rfl ?_
                  show Steps p.tables e below (T310.setTop (mkF m 59 #[.val (.ref a1), .val (.int sx), .val (.long vb), .second, .val .null, .val (.double ms), .second, .val (.int own_mk), .val (.int (own_i2 sx vb))] [(.int (own_i2 sx vb)), (.int (3 : Int32)), (.ref z_slots)])) _
                  refine XS.imul X310.here hx rfl (hb hby d5_59) rfl ?_
                  show Steps p.tables e below (T310.setTop (mkF m 60 #[.val (.ref a1), .val (.int sx), .val (.long vb), .second, .val .null, .val (.double ms), .second, .val (.int own_mk), .val (.int (own_i2 sx vb))] [(.int ((3 : Int32) * (own_i2 sx vb))), (.ref z_slots)])) _
                  refine XS.iconst X310.here hx rfl (hb hby d5_60) ?_
                  show Steps p.tables e below (T310.setTop (mkF m 61 #[.val (.ref a1), .val (.int sx), .val (.long vb), .second, .val .null, .val (.double ms), .second, .val (.int own_mk), .val (.int (own_i2 sx vb))] [(.int (1 : Int32)), (.int ((3 : Int32) * (own_i2 sx vb))), (.ref z_slots)])) _
                  refine XS.iadd X310.here hx rfl (hb hby d5_61) rfl ?_
                  show Steps p.tables e below (T310.setTop (mkF m 62 #[.val (.ref a1), .val (.int sx), .val (.long vb), .second, .val .null, .val (.double ms), .second, .val (.int own_mk), .val (.int (own_i2 sx vb))] [(.int (((3 : Int32) * (own_i2 sx vb)) + (1 : Int32))), (.ref z_slots)])) _
                  refine X310.laload hx (j := (((3 : Int32) * (own_i2 sx vb)) + (1 : Int32))) (v := (.long (x_slots ((((3 : Int32) * (own_i2 sx vb)) + (1 : Int32))).toNatClampNeg))) (by rw [e310]; exact Ar311.1) (State.isArrayOf_alike hZ.alike Ar311.2.1) Ar311.2.2 hin311 (Has.at Ha311 hin311 (own_rd x_slots (own_b1 (own_r2 sx vb)))) (g := (mkF m 62 #[.val (.ref a1), .val (.int sx), .val (.long vb), .second, .val .null, .val (.double ms), .second, .val (.int own_mk), .val (.int (own_i2 sx vb))] [(.int (((3 : Int32) * (own_i2 sx vb)) + (1 : Int32))), (.ref z_slots)])) rfl rfl (hb hby d5_62) _ ?_
                  show Steps p.tables e below (T310.setTop (mkF m 63 #[.val (.ref a1), .val (.int sx), .val (.long vb), .second, .val .null, .val (.double ms), .second, .val (.int own_mk), .val (.int (own_i2 sx vb))] [(.long (x_slots ((((3 : Int32) * (own_i2 sx vb)) + (1 : Int32))).toNatClampNeg))])) _
                  refine XS.lloadN X310.here hx rfl (hb hby d5_63) rfl ?_
                  show Steps p.tables e below (T310.setTop (mkF m 64 #[.val (.ref a1), .val (.int sx), .val (.long vb), .second, .val .null, .val (.double ms), .second, .val (.int own_mk), .val (.int (own_i2 sx vb))] [(.long vb), (.long (x_slots ((((3 : Int32) * (own_i2 sx vb)) + (1 : Int32))).toNatClampNeg))])) _
                  refine XS.lcmp X310.here hx rfl (hb hby d5_64) rfl ?_
                  show Steps p.tables e below (T310.setTop (mkF m 65 #[.val (.ref a1), .val (.int sx), .val (.long vb), .second, .val .null, .val (.double ms), .second, .val (.int own_mk), .val (.int (own_i2 sx vb))] [(.int (lcmpW (x_slots ((((3 : Int32) * (own_i2 sx vb)) + (1 : Int32))).toNatClampNeg) vb))])) _
                  refine XS.ifNo X310.here hx rfl (hb hby d5_65) rfl ((if0 _ _).trans (teq (own_third hst (own_nst hc57 (Or.inr hc129)) (own_nst hc150 (Or.inr hc222)) hc243).2).2) ?_
                  show Steps p.tables e below (T310.setTop (mkF m 68 #[.val (.ref a1), .val (.int sx), .val (.long vb), .second, .val .null, .val (.double ms), .second, .val (.int own_mk), .val (.int (own_i2 sx vb))] [])) _
                  refine XS.aloadN X310.here hx rfl (hb hby d5_68) rfl rfl ?_
                  show Steps p.tables e below (T310.setTop (mkF m 69 #[.val (.ref a1), .val (.int sx), .val (.long vb), .second, .val .null, .val (.double ms), .second, .val (.int own_mk), .val (.int (own_i2 sx vb))] [(.ref a1)])) _
                  refine XS.iload X310.here hx rfl (hb hby d5_69) rfl ?_
                  show Steps p.tables e below (T310.setTop (mkF m 71 #[.val (.ref a1), .val (.int sx), .val (.long vb), .second, .val .null, .val (.double ms), .second, .val (.int own_mk), .val (.int (own_i2 sx vb))] [(.int (own_i2 sx vb)), (.ref a1)])) _
                  refine XS.aload X310.here hx rfl (hb hby d5_71) rfl rfl ?_
                  show Steps p.tables e below (T310.setTop (mkF m 73 #[.val (.ref a1), .val (.int sx), .val (.long vb), .second, .val .null, .val (.double ms), .second, .val (.int own_mk), .val (.int (own_i2 sx vb))] [.null, (.int (own_i2 sx vb)), (.ref a1)])) _
                  refine st312.trans ?_
                  show Steps p.tables e below (T312.setTop (mkF m 76 #[.val (.ref a1), .val (.int sx), .val (.long vb), .second, .val .null, .val (.double ms), .second, .val (.int own_mk), .val (.int (own_i2 sx vb))] [(.int (f12 (own_i2 sx vb)))])) _
                  refine XS.ifNo X312.here hx rfl (hb hby d5_76) rfl ((if0 _ _).trans (feq (own_f12 _)).1) ?_
                  show Steps p.tables e below (T312.setTop (mkF m 79 #[.val (.ref a1), .val (.int sx), .val (.long vb), .second, .val .null, .val (.double ms), .second, .val (.int own_mk), .val (.int (own_i2 sx vb))] [])) _
                  refine XS.aloadN X312.here hx rfl (hb hby d5_79) rfl rfl ?_
                  show Steps p.tables e below (T312.setTop (mkF m 80 #[.val (.ref a1), .val (.int sx), .val (.long vb), .second, .val .null, .val (.double ms), .second, .val (.int own_mk), .val (.int (own_i2 sx vb))] [(.ref a1)])) _
                  refine st313 _ ?_
                  show Steps p.tables e below (T313.setTop (mkF m 83 #[.val (.ref a1), .val (.int sx), .val (.long vb), .second, .val .null, .val (.double ms), .second, .val (.int own_mk), .val (.int (own_i2 sx vb))] [(.ref z_slots)])) _
                  refine XS.iconst X313.here hx rfl (hb hby d5_83) ?_
                  show Steps p.tables e below (T313.setTop (mkF m 84 #[.val (.ref a1), .val (.int sx), .val (.long vb), .second, .val .null, .val (.double ms), .second, .val (.int own_mk), .val (.int (own_i2 sx vb))] [(.int (3 : Int32)), (.ref z_slots)])) _
                  refine XS.iload X313.here hx rfl (hb hby d5_84) rfl ?_
                  show Steps p.tables e below (T313.setTop (mkF m 86 #[.val (.ref a1), .val (.int sx), .val (.long vb), .second, .val .null, .val (.double ms), .second, .val (.int own_mk), .val (.int (own_i2 sx vb))] [(.int (own_i2 sx vb)), (.int (3 : Int32)), (.ref z_slots)])) _
                  refine XS.imul X313.here hx rfl (hb hby d5_86) rfl ?_
                  show Steps p.tables e below (T313.setTop (mkF m 87 #[.val (.ref a1), .val (.int sx), .val (.long vb), .second, .val .null, .val (.double ms), .second, .val (.int own_mk), .val (.int (own_i2 sx vb))] [(.int ((3 : Int32) * (own_i2 sx vb))), (.ref z_slots)])) _
                  refine XS.iconst X313.here hx rfl (hb hby d5_87) ?_
                  show Steps p.tables e below (T313.setTop (mkF m 88 #[.val (.ref a1), .val (.int sx), .val (.long vb), .second, .val .null, .val (.double ms), .second, .val (.int own_mk), .val (.int (own_i2 sx vb))] [(.int (2 : Int32)), (.int ((3 : Int32) * (own_i2 sx vb))), (.ref z_slots)])) _
                  refine XS.iadd X313.here hx rfl (hb hby d5_88) rfl ?_
                  show Steps p.tables e below (T313.setTop (mkF m 89 #[.val (.ref a1), .val (.int sx), .val (.long vb), .second, .val .null, .val (.double ms), .second, .val (.int own_mk), .val (.int (own_i2 sx vb))] [(.int (((3 : Int32) * (own_i2 sx vb)) + (2 : Int32))), (.ref z_slots)])) _
                  refine XS.aloadN X313.here hx rfl (hb hby d5_89) rfl rfl ?_
                  show Steps p.tables e below (T313.setTop (mkF m 90 #[.val (.ref a1), .val (.int sx), .val (.long vb), .second, .val .null, .val (.double ms), .second, .val (.int own_mk), .val (.int (own_i2 sx vb))] [(.ref a1), (.int (((3 : Int32) * (own_i2 sx vb)) + (2 : Int32))), (.ref z_slots)])) _
                  refine st314 _ ?_
                  show Steps p.tables e below (T314.setTop (mkF m 93 #[.val (.ref a1), .val (.int sx), .val (.long vb), .second, .val .null, .val (.double ms), .second, .val (.int own_mk), .val (.int (own_i2 sx vb))] [(.ref z_slots), (.int (((3 : Int32) * (own_i2 sx vb)) + (2 : Int32))), (.ref z_slots)])) _
                  refine XS.iconst X314.here hx rfl (hb hby d5_93) ?_
                  show Steps p.tables e below (T314.setTop (mkF m 94 #[.val (.ref a1), .val (.int sx), .val (.long vb), .second, .val .null, .val (.double ms), .second, .val (.int own_mk), .val (.int (own_i2 sx vb))] [(.int (3 : Int32)), (.ref z_slots), (.int (((3 : Int32) * (own_i2 sx vb)) + (2 : Int32))), (.ref z_slots)])) _
                  refine XS.iload X314.here hx rfl (hb hby d5_94) rfl ?_
                  show Steps p.tables e below (T314.setTop (mkF m 96 #[.val (.ref a1), .val (.int sx), .val (.long vb), .second, .val .null, .val (.double ms), .second, .val (.int own_mk), .val (.int (own_i2 sx vb))] [(.int (own_i2 sx vb)), (.int (3 : Int32)), (.ref z_slots), (.int (((3 : Int32) * (own_i2 sx vb)) + (2 : Int32))), (.ref z_slots)])) _
                  refine XS.imul X314.here hx rfl (hb hby d5_96) rfl ?_
                  show Steps p.tables e below (T314.setTop (mkF m 97 #[.val (.ref a1), .val (.int sx), .val (.long vb), .second, .val .null, .val (.double ms), .second, .val (.int own_mk), .val (.int (own_i2 sx vb))] [(.int ((3 : Int32) * (own_i2 sx vb))), (.ref z_slots), (.int (((3 : Int32) * (own_i2 sx vb)) + (2 : Int32))), (.ref z_slots)])) _
                  refine XS.iconst X314.here hx rfl (hb hby d5_97) ?_
                  show Steps p.tables e below (T314.setTop (mkF m 98 #[.val (.ref a1), .val (.int sx), .val (.long vb), .second, .val .null, .val (.double ms), .second, .val (.int own_mk), .val (.int (own_i2 sx vb))] [(.int (2 : Int32)), (.int ((3 : Int32) * (own_i2 sx vb))), (.ref z_slots), (.int (((3 : Int32) * (own_i2 sx vb)) + (2 : Int32))), (.ref z_slots)])) _
                  refine XS.iadd X314.here hx rfl (hb hby d5_98) rfl ?_
                  show Steps p.tables e below (T314.setTop (mkF m 99 #[.val (.ref a1), .val (.int sx), .val (.long vb), .second, .val .null, .val (.double ms), .second, .val (.int own_mk), .val (.int (own_i2 sx vb))] [(.int (((3 : Int32) * (own_i2 sx vb)) + (2 : Int32))), (.ref z_slots), (.int (((3 : Int32) * (own_i2 sx vb)) + (2 : Int32))), (.ref z_slots)])) _
                  refine X314.laload hx (j := (((3 : Int32) * (own_i2 sx vb)) + (2 : Int32))) (v := (.long (x_slots ((((3 : Int32) * (own_i2 sx vb)) + (2 : Int32))).toNatClampNeg))) (by rw [e314]; exact Ar315.1) (State.isArrayOf_alike hZ.alike Ar315.2.1) Ar315.2.2 hin315 (Has.at Ha315 hin315 (own_rd x_slots (own_b2 (own_r2 sx vb)))) (g := (mkF m 99 #[.val (.ref a1), .val (.int sx), .val (.long vb), .second, .val .null, .val (.double ms), .second, .val (.int own_mk), .val (.int (own_i2 sx vb))] [(.int (((3 : Int32) * (own_i2 sx vb)) + (2 : Int32))), (.ref z_slots), (.int (((3 : Int32) * (own_i2 sx vb)) + (2 : Int32))), (.ref z_slots)])) rfl rfl (hb hby d5_99) _ ?_
                  show Steps p.tables e below (T314.setTop (mkF m 100 #[.val (.ref a1), .val (.int sx), .val (.long vb), .second, .val .null, .val (.double ms), .second, .val (.int own_mk), .val (.int (own_i2 sx vb))] [(.long (x_slots ((((3 : Int32) * (own_i2 sx vb)) + (2 : Int32))).toNatClampNeg)), (.int (((3 : Int32) * (own_i2 sx vb)) + (2 : Int32))), (.ref z_slots)])) _
                  refine st316 _ ?_
                  show Steps p.tables e below (T316.setTop (mkF m 103 #[.val (.ref a1), .val (.int sx), .val (.long vb), .second, .val .null, .val (.double ms), .second, .val (.int own_mk), .val (.int (own_i2 sx vb))] [(.double (((x_slots ((((3 : Int32) * (own_i2 sx vb)) + (2 : Int32))).toNatClampNeg)).toUInt64)), (.int (((3 : Int32) * (own_i2 sx vb)) + (2 : Int32))), (.ref z_slots)])) _
                  refine XS.dload X316.here hx rfl (hb hby d5_103) rfl ?_
                  show Steps p.tables e below (T316.setTop (mkF m 105 #[.val (.ref a1), .val (.int sx), .val (.long vb), .second, .val .null, .val (.double ms), .second, .val (.int own_mk), .val (.int (own_i2 sx vb))] [(.double ms), (.double (((x_slots ((((3 : Int32) * (own_i2 sx vb)) + (2 : Int32))).toNatClampNeg)).toUInt64)), (.int (((3 : Int32) * (own_i2 sx vb)) + (2 : Int32))), (.ref z_slots)])) _
                  refine XS.daddS X316.here hx rfl (hb hby d5_105) rfl (Jvm.Free.Fl.dadd_out (hM _ (own_md (own_r2 sx vb))) hms) rfl ?_
                  show Steps p.tables e below (T316.setTop (mkF m 106 #[.val (.ref a1), .val (.int sx), .val (.long vb), .second, .val .null, .val (.double ms), .second, .val (.int own_mk), .val (.int (own_i2 sx vb))] [(.double (FP.dadd (((x_slots ((((3 : Int32) * (own_i2 sx vb)) + (2 : Int32))).toNatClampNeg)).toUInt64) ms)), (.int (((3 : Int32) * (own_i2 sx vb)) + (2 : Int32))), (.ref z_slots)])) _
                  refine st317 _ ?_
                  show Steps p.tables e below (T317.setTop (mkF m 109 #[.val (.ref a1), .val (.int sx), .val (.long vb), .second, .val .null, .val (.double ms), .second, .val (.int own_mk), .val (.int (own_i2 sx vb))] [(.long (((FP.dadd (((x_slots ((((3 : Int32) * (own_i2 sx vb)) + (2 : Int32))).toNatClampNeg)).toUInt64) ms)).toInt64)), (.int (((3 : Int32) * (own_i2 sx vb)) + (2 : Int32))), (.ref z_slots)])) _
                  refine st319 _ ?_
                  show Steps p.tables e below (T319.setTop (mkF m 110 #[.val (.ref a1), .val (.int sx), .val (.long vb), .second, .val .null, .val (.double ms), .second, .val (.int own_mk), .val (.int (own_i2 sx vb))] [])) _
                  exact X319.returnOut hx Bd.returns (hb hby d5_110) hr
                · show Q5 Z a1 sx vb ms z_slots z_entrySlots z_size k_slots x_slots k_entrySlots x_entrySlots h0 n0 _ T319.heap _
                  rw [e319]
                  exact ⟨rfl, N326, K327, f320, f321, f322, by rw [hf_size]; exact f323, f324, by rw [hf_slots]; exact fa319, by rw [hf_entrySlots]; exact f325⟩
          · obtain ⟨T329, X329, e329, st329⟩ := getF X215 hx hZ hown (host := "") (Or.inl (hw _ (List.mem_of_getElem? (i := 10) rfl))) Via.refl e215 F_slots_a1 (g := (mkF m 22 #[.val (.ref a1), .val (.int sx), .val (.long vb), .second, .val .null, .val (.double ms), .second, .val (.int own_mk), .val (.int (own_i2 sx vb))] [(.ref a1)])) rfl rfl (hb hby d5_22)
            obtain ⟨cl330, Ar330, qa330, Sa330, Na330, Ha330, Ga330⟩ := id V_slots
            have hin330 : ¬ (((3 : Int32) * (own_i2 sx vb)) < 0 ∨ cl330.slots.size ≤ (((3 : Int32) * (own_i2 sx vb))).toNatClampNeg) := inb_of Sa330 (own_b0 (own_r2 sx vb))
            have S331 : ∀ t, Steps p.tables e below (T329.setTop (mkF m 32 #[.val (.ref a1), .val (.int sx), .val (.long vb), .second, .val .null, .val (.double ms), .second, .val (.int own_mk), .val (.int (own_i2 sx vb))] [(.int (lcmpW (x_slots (((3 : Int32) * (own_i2 sx vb))).toNatClampNeg) (0 : Int64)))])) t → Steps p.tables e below (s₁.setTop (entryFrame m #[(.ref a1), (.int sx), (.long vb), .null, (.double ms)] 9)) t := by
              intro t k
              refine S217 t ?_
              refine XS.ifYes X215.here hx rfl (pc0 := 49) (pc' := 111) rfl (hb hby d5_49) rfl ((if0 _ _).trans (feq hc218).2) (by decide) (by decide) ?_
              show Steps p.tables e below (T215.setTop (mkF m 111 #[.val (.ref a1), .val (.int sx), .val (.long vb), .second, .val .null, .val (.double ms), .second, .val (.int own_mk), .val (.int (own_i1 sx vb))] [])) _
              refine XS.iload X215.here hx rfl (hb hby d5_111) rfl ?_
              show Steps p.tables e below (T215.setTop (mkF m 113 #[.val (.ref a1), .val (.int sx), .val (.long vb), .second, .val .null, .val (.double ms), .second, .val (.int own_mk), .val (.int (own_i1 sx vb))] [(.int (own_i1 sx vb))])) _
              refine XS.iconst X215.here hx rfl (hb hby d5_113) ?_
              show Steps p.tables e below (T215.setTop (mkF m 114 #[.val (.ref a1), .val (.int sx), .val (.long vb), .second, .val .null, .val (.double ms), .second, .val (.int own_mk), .val (.int (own_i1 sx vb))] [(.int (1 : Int32)), (.int (own_i1 sx vb))])) _
              refine XS.iadd X215.here hx rfl (hb hby d5_114) rfl ?_
              show Steps p.tables e below (T215.setTop (mkF m 115 #[.val (.ref a1), .val (.int sx), .val (.long vb), .second, .val .null, .val (.double ms), .second, .val (.int own_mk), .val (.int (own_i1 sx vb))] [(.int ((own_i1 sx vb) + (1 : Int32)))])) _
              refine XS.iload X215.here hx rfl (hb hby d5_115) rfl ?_
              show Steps p.tables e below (T215.setTop (mkF m 117 #[.val (.ref a1), .val (.int sx), .val (.long vb), .second, .val .null, .val (.double ms), .second, .val (.int own_mk), .val (.int (own_i1 sx vb))] [(.int own_mk), (.int ((own_i1 sx vb) + (1 : Int32)))])) _
              refine XS.iand X215.here hx rfl (hb hby d5_117) rfl ?_
              show Steps p.tables e below (T215.setTop (mkF m 118 #[.val (.ref a1), .val (.int sx), .val (.long vb), .second, .val .null, .val (.double ms), .second, .val (.int own_mk), .val (.int (own_i1 sx vb))] [(.int (own_i2 sx vb))])) _
              refine XS.istore X215.here hx rfl (hb hby d5_118) rfl (l' := #[.val (.ref a1), .val (.int sx), .val (.long vb), .second, .val .null, .val (.double ms), .second, .val (.int own_mk), .val (.int (own_i2 sx vb))]) rfl ?_
              show Steps p.tables e below (T215.setTop (mkF m 120 #[.val (.ref a1), .val (.int sx), .val (.long vb), .second, .val .null, .val (.double ms), .second, .val (.int own_mk), .val (.int (own_i2 sx vb))] [])) _
              refine XS.goto X215.here hx rfl (pc0 := 120) (pc' := 21) rfl (hb hby d5_120) (by decide) (by decide) ?_
              show Steps p.tables e below (T215.setTop (mkF m 21 #[.val (.ref a1), .val (.int sx), .val (.long vb), .second, .val .null, .val (.double ms), .second, .val (.int own_mk), .val (.int (own_i2 sx vb))] [])) _
              refine XS.aloadN X215.here hx rfl (hb hby d5_21) rfl rfl ?_
              show Steps p.tables e below (T215.setTop (mkF m 22 #[.val (.ref a1), .val (.int sx), .val (.long vb), .second, .val .null, .val (.double ms), .second, .val (.int own_mk), .val (.int (own_i2 sx vb))] [(.ref a1)])) _
              refine st329 _ ?_
              show Steps p.tables e below (T329.setTop (mkF m 25 #[.val (.ref a1), .val (.int sx), .val (.long vb), .second, .val .null, .val (.double ms), .second, .val (.int own_mk), .val (.int (own_i2 sx vb))] [(.ref z_slots)])) _
              refine XS.iconst X329.here hx rfl (hb hby d5_25) ?_
              show Steps p.tables e below (T329.setTop (mkF m 26 #[.val (.ref a1), .val (.int sx), .val (.long vb), .second, .val .null, .val (.double ms), .second, .val (.int own_mk), .val (.int (own_i2 sx vb))] [(.int (3 : Int32)), (.ref z_slots)])) _
              refine XS.iload X329.here hx rfl (hb hby d5_26) rfl ?_
              show Steps p.tables e below (T329.setTop (mkF m 28 #[.val (.ref a1), .val (.int sx), .val (.long vb), .second, .val .null, .val (.double ms), .second, .val (.int own_mk), .val (.int (own_i2 sx vb))] [(.int (own_i2 sx vb)), (.int (3 : Int32)), (.ref z_slots)])) _
              refine XS.imul X329.here hx rfl (hb hby d5_28) rfl ?_
              show Steps p.tables e below (T329.setTop (mkF m 29 #[.val (.ref a1), .val (.int sx), .val (.long vb), .second, .val .null, .val (.double ms), .second, .val (.int own_mk), .val (.int (own_i2 sx vb))] [(.int ((3 : Int32) * (own_i2 sx vb))), (.ref z_slots)])) _
              refine X329.laload hx (j := ((3 : Int32) * (own_i2 sx vb))) (v := (.long (x_slots (((3 : Int32) * (own_i2 sx vb))).toNatClampNeg))) (by rw [e329]; exact Ar330.1) (State.isArrayOf_alike hZ.alike Ar330.2.1) Ar330.2.2 hin330 (Has.at Ha330 hin330 (own_rd x_slots (own_b0 (own_r2 sx vb)))) (g := (mkF m 29 #[.val (.ref a1), .val (.int sx), .val (.long vb), .second, .val .null, .val (.double ms), .second, .val (.int own_mk), .val (.int (own_i2 sx vb))] [(.int ((3 : Int32) * (own_i2 sx vb))), (.ref z_slots)])) rfl rfl (hb hby d5_29) _ ?_
              show Steps p.tables e below (T329.setTop (mkF m 30 #[.val (.ref a1), .val (.int sx), .val (.long vb), .second, .val .null, .val (.double ms), .second, .val (.int own_mk), .val (.int (own_i2 sx vb))] [(.long (x_slots (((3 : Int32) * (own_i2 sx vb))).toNatClampNeg))])) _
              refine XS.lconst X329.here hx rfl (hb hby d5_30) ?_
              show Steps p.tables e below (T329.setTop (mkF m 31 #[.val (.ref a1), .val (.int sx), .val (.long vb), .second, .val .null, .val (.double ms), .second, .val (.int own_mk), .val (.int (own_i2 sx vb))] [(.long (0 : Int64)), (.long (x_slots (((3 : Int32) * (own_i2 sx vb))).toNatClampNeg))])) _
              refine XS.lcmp X329.here hx rfl (hb hby d5_31) rfl ?_
              show Steps p.tables e below (T329.setTop (mkF m 32 #[.val (.ref a1), .val (.int sx), .val (.long vb), .second, .val .null, .val (.double ms), .second, .val (.int own_mk), .val (.int (own_i2 sx vb))] [(.int (lcmpW (x_slots (((3 : Int32) * (own_i2 sx vb))).toNatClampNeg) (0 : Int64)))])) _
              exact k
            by_cases hc332 : (lcmpW (x_slots (((3 : Int32) * (own_i2 sx vb))).toNatClampNeg) (0 : Int64)) = (0 : Int32)
            · obtain ⟨T333, X333, e333, st333⟩ := getF X329 hx hZ hown (host := "") (Or.inl (hw _ (List.mem_of_getElem? (i := 20) rfl))) Via.refl e329 F_size_a1 (g := (mkF m 124 #[.val (.ref a1), .val (.int sx), .val (.long vb), .second, .val .null, .val (.double ms), .second, .val (.int own_mk), .val (.int (own_i2 sx vb))] [(.ref a1)])) rfl rfl (hb hby d5_124)
              obtain ⟨T334, X334, e334, st334⟩ := getF X333 hx hZ hown (host := "") (Or.inl (hw _ (List.mem_of_getElem? (i := 13) rfl))) Via.refl e333 F_entrySlots_a1 (g := (mkF m 128 #[.val (.ref a1), .val (.int sx), .val (.long vb), .second, .val .null, .val (.double ms), .second, .val (.int own_mk), .val (.int (own_i2 sx vb))] [(.ref a1), (.int z_size)])) rfl rfl (hb hby d5_128)
              obtain ⟨cl335, Ar335, qa335, Sa335, Na335, Ha335, Ga335⟩ := id V_entrySlots
              obtain ⟨T336, X336, e336, st336⟩ := getF X334 hx hZ hown (host := "") (Or.inl (hw _ (List.mem_of_getElem? (i := 10) rfl))) Via.refl e334 F_slots_a1 (g := (mkF m 151 #[.val (.ref a1), .val (.int sx), .val (.long vb), .second, .val .null, .val (.double ms), .second, .val (.int own_mk), .val (.int (own_i2 sx vb))] [(.ref a1)])) rfl rfl (hb hby d5_151)
              obtain ⟨cl337, Ar337, qa337, Sa337, Na337, Ha337, Ga337⟩ := id V_slots
              have hin337 : ¬ (((3 : Int32) * (own_i2 sx vb)) < 0 ∨ cl337.slots.size ≤ (((3 : Int32) * (own_i2 sx vb))).toNatClampNeg) := inb_of Sa337 (own_b0 (own_r2 sx vb))
              obtain ⟨T338, h338, X338, e338, W338, st338⟩ := stJ X336 hx hZ e336 Ar337 (j := ((3 : Int32) * (own_i2 sx vb))) hin337 (g := (mkF m 162 #[.val (.ref a1), .val (.int sx), .val (.long vb), .second, .val .null, .val (.double ms), .second, .val (.int own_mk), .val (.int (own_i2 sx vb))] [(.long (sx.toInt64 + (1 : Int64))), (.int ((3 : Int32) * (own_i2 sx vb))), (.ref z_slots)])) rfl rfl (hb hby d5_162)
              have fa338 : Arv Z h338 z_slots k_slots .long (96 : Int32) (own_L (own_up x_slots (((3 : Int32) * (own_i2 sx vb))).toNatClampNeg (sx.toInt64 + (1 : Int64)))) (.long (0 : Int64)) := (Arv.set Ar337 qa337 Sa337 Na337 Ha337 Ga337 rfl W338 (((3 : Int32) * (own_i2 sx vb))).toNatClampNeg rfl (own_Ll x_slots (own_ix (own_b0 (own_r2 sx vb))))).pad (own_Lset x_slots (own_ix (own_b0 (own_r2 sx vb))) (sx.toInt64 + (1 : Int64)))
              have f339 : Exa Z h338 a1 "com/example/ketproof/ketproof/MassTable" := E1.wr W338
              have f340 : Fld Z h338 a1 "com/example/ketproof/ketproof/MassTable" "slots" "[J" (.ref z_slots) := F_slots_a1.other W338 (Or.inl ne_slots)
              have f341 : Fld Z h338 a1 "com/example/ketproof/ketproof/MassTable" "entrySlots" "[I" (.ref z_entrySlots) := F_entrySlots_a1.other W338 (Or.inl ne_slots)
              have f342 : Fld Z h338 a1 "com/example/ketproof/ketproof/MassTable" "size" "I" (.int z_size) := F_size_a1.other W338 (Or.inl ne_slots)
              have f343 : Fld Z h338 a1 "com/example/ketproof/ketproof/MassTable" "decimals" "[Ljava/math/BigDecimal;" .null := F_decimals_a1.other W338 (Or.inl ne_slots)
              have f344 : Arv Z h338 z_entrySlots k_entrySlots .int (16 : Int32) (own_E x_entrySlots) (.int (0 : Int32)) := V_entrySlots.other W338 ne_entrySlots_slots
              have N345 := Fr.snoc X338 N53 g_slots
              have K346 : Keep h0 h338 [a1, z_slots, z_entrySlots] := (Keep.refl h0 [a1, z_slots, z_entrySlots]).wr W338 (Or.inl (List.mem_of_getElem? (i := 1) rfl))
              have Z347 : n0 ≤ h338.size := Nat.le_trans Z0 (Keep.of_wr W338).1
              obtain ⟨T348, X348, e348, st348⟩ := getF X338 hx hZ hown (host := "") (Or.inl (hw _ (List.mem_of_getElem? (i := 10) rfl))) Via.refl e338 f340 (g := (mkF m 164 #[.val (.ref a1), .val (.int sx), .val (.long vb), .second, .val .null, .val (.double ms), .second, .val (.int own_mk), .val (.int (own_i2 sx vb))] [(.ref a1)])) rfl rfl (hb hby d5_164)
              obtain ⟨cl349, Ar349, qa349, Sa349, Na349, Ha349, Ga349⟩ := id fa338
              have hin349 : ¬ ((((3 : Int32) * (own_i2 sx vb)) + (1 : Int32)) < 0 ∨ cl349.slots.size ≤ ((((3 : Int32) * (own_i2 sx vb)) + (1 : Int32))).toNatClampNeg) := inb_of Sa349 (own_b1 (own_r2 sx vb))
              obtain ⟨T350, h350, X350, e350, W350, st350⟩ := stJ X348 hx hZ e348 Ar349 (j := (((3 : Int32) * (own_i2 sx vb)) + (1 : Int32))) hin349 (g := (mkF m 174 #[.val (.ref a1), .val (.int sx), .val (.long vb), .second, .val .null, .val (.double ms), .second, .val (.int own_mk), .val (.int (own_i2 sx vb))] [(.long vb), (.int (((3 : Int32) * (own_i2 sx vb)) + (1 : Int32))), (.ref z_slots)])) rfl rfl (hb hby d5_174)
              have fa350 : Arv Z h350 z_slots k_slots .long (96 : Int32) (own_L (own_up (own_up x_slots (((3 : Int32) * (own_i2 sx vb))).toNatClampNeg (sx.toInt64 + (1 : Int64))) ((((3 : Int32) * (own_i2 sx vb)) + (1 : Int32))).toNatClampNeg vb)) (.long (0 : Int64)) := (Arv.set Ar349 qa349 Sa349 Na349 Ha349 Ga349 rfl W350 ((((3 : Int32) * (own_i2 sx vb)) + (1 : Int32))).toNatClampNeg rfl (own_Ll (own_up x_slots (((3 : Int32) * (own_i2 sx vb))).toNatClampNeg (sx.toInt64 + (1 : Int64))) (own_ix (own_b1 (own_r2 sx vb))))).pad (own_Lset (own_up x_slots (((3 : Int32) * (own_i2 sx vb))).toNatClampNeg (sx.toInt64 + (1 : Int64))) (own_ix (own_b1 (own_r2 sx vb))) vb)
              have f351 : Exa Z h350 a1 "com/example/ketproof/ketproof/MassTable" := f339.wr W350
              have f352 : Fld Z h350 a1 "com/example/ketproof/ketproof/MassTable" "slots" "[J" (.ref z_slots) := f340.other W350 (Or.inl ne_slots)
              have f353 : Fld Z h350 a1 "com/example/ketproof/ketproof/MassTable" "entrySlots" "[I" (.ref z_entrySlots) := f341.other W350 (Or.inl ne_slots)
              have f354 : Fld Z h350 a1 "com/example/ketproof/ketproof/MassTable" "size" "I" (.int z_size) := f342.other W350 (Or.inl ne_slots)
              have f355 : Fld Z h350 a1 "com/example/ketproof/ketproof/MassTable" "decimals" "[Ljava/math/BigDecimal;" .null := f343.other W350 (Or.inl ne_slots)
              have f356 : Arv Z h350 z_entrySlots k_entrySlots .int (16 : Int32) (own_E x_entrySlots) (.int (0 : Int32)) := f344.other W350 ne_entrySlots_slots
              have N357 := Fr.snoc X350 N345 g_slots
              have K358 : Keep h0 h350 [a1, z_slots, z_entrySlots] := K346.wr W350 (Or.inl (List.mem_of_getElem? (i := 1) rfl))
              have Z359 : n0 ≤ h350.size := Nat.le_trans Z347 (Keep.of_wr W350).1
              obtain ⟨T360, X360, e360, st360⟩ := getF X350 hx hZ hown (host := "") (Or.inl (hw _ (List.mem_of_getElem? (i := 10) rfl))) Via.refl e350 f352 (g := (mkF m 176 #[.val (.ref a1), .val (.int sx), .val (.long vb), .second, .val .null, .val (.double ms), .second, .val (.int own_mk), .val (.int (own_i2 sx vb))] [(.ref a1)])) rfl rfl (hb hby d5_176)
              obtain ⟨vm361, X361, st361⟩ := X360.doubleToRawLongBits hx hown (mvT hZ (hw _ (List.mem_of_getElem? (i := 27) rfl))) (mvT hZ (hw _ (List.mem_of_getElem? (i := 30) rfl))) (mvT hZ (hw _ (List.mem_of_getElem? (i := 28) rfl))) (mvT hZ (hw _ (List.mem_of_getElem? (i := 29) rfl))) (g := (mkF m 187 #[.val (.ref a1), .val (.int sx), .val (.long vb), .second, .val .null, .val (.double ms), .second, .val (.int own_mk), .val (.int (own_i2 sx vb))] [(.double ms), (.int (((3 : Int32) * (own_i2 sx vb)) + (2 : Int32))), (.ref z_slots)])) rfl (by rw [hml]; rfl) (rest := [(.int (((3 : Int32) * (own_i2 sx vb)) + (2 : Int32))), (.ref z_slots)]) (b := ms) rfl (hb hby d5_187) (by decide) (by show 2 * 0 + 2 + (nativeFrameWords "java/lang/Double" "doubleToRawLongBits" 2 + 11) ≤ _; decide)
              obtain ⟨T361, hT361⟩ : ∃ z, z = T360.setVm vm361 := ⟨_, rfl⟩
              rw [← hT361] at X361 st361
              have e361 : T361.heap = h350 := by rw [hT361]; exact e360
              obtain ⟨cl362, Ar362, qa362, Sa362, Na362, Ha362, Ga362⟩ := id fa350
              have hin362 : ¬ ((((3 : Int32) * (own_i2 sx vb)) + (2 : Int32)) < 0 ∨ cl362.slots.size ≤ ((((3 : Int32) * (own_i2 sx vb)) + (2 : Int32))).toNatClampNeg) := inb_of Sa362 (own_b2 (own_r2 sx vb))
              obtain ⟨T363, h363, X363, e363, W363, st363⟩ := stJ X361 hx hZ e361 Ar362 (j := (((3 : Int32) * (own_i2 sx vb)) + (2 : Int32))) hin362 (g := (mkF m 190 #[.val (.ref a1), .val (.int sx), .val (.long vb), .second, .val .null, .val (.double ms), .second, .val (.int own_mk), .val (.int (own_i2 sx vb))] [(.long ((ms).toInt64)), (.int (((3 : Int32) * (own_i2 sx vb)) + (2 : Int32))), (.ref z_slots)])) rfl rfl (hb hby d5_190)
              have fa363 : Arv Z h363 z_slots k_slots .long (96 : Int32) (own_L (own_up (own_up (own_up x_slots (((3 : Int32) * (own_i2 sx vb))).toNatClampNeg (sx.toInt64 + (1 : Int64))) ((((3 : Int32) * (own_i2 sx vb)) + (1 : Int32))).toNatClampNeg vb) ((((3 : Int32) * (own_i2 sx vb)) + (2 : Int32))).toNatClampNeg ((ms).toInt64))) (.long (0 : Int64)) := (Arv.set Ar362 qa362 Sa362 Na362 Ha362 Ga362 rfl W363 ((((3 : Int32) * (own_i2 sx vb)) + (2 : Int32))).toNatClampNeg rfl (own_Ll (own_up (own_up x_slots (((3 : Int32) * (own_i2 sx vb))).toNatClampNeg (sx.toInt64 + (1 : Int64))) ((((3 : Int32) * (own_i2 sx vb)) + (1 : Int32))).toNatClampNeg vb) (own_ix (own_b2 (own_r2 sx vb))))).pad (own_Lset (own_up (own_up x_slots (((3 : Int32) * (own_i2 sx vb))).toNatClampNeg (sx.toInt64 + (1 : Int64))) ((((3 : Int32) * (own_i2 sx vb)) + (1 : Int32))).toNatClampNeg vb) (own_ix (own_b2 (own_r2 sx vb))) ((ms).toInt64))
              have f364 : Exa Z h363 a1 "com/example/ketproof/ketproof/MassTable" := f351.wr W363
              have f365 : Fld Z h363 a1 "com/example/ketproof/ketproof/MassTable" "slots" "[J" (.ref z_slots) := f352.other W363 (Or.inl ne_slots)
              have f366 : Fld Z h363 a1 "com/example/ketproof/ketproof/MassTable" "entrySlots" "[I" (.ref z_entrySlots) := f353.other W363 (Or.inl ne_slots)
              have f367 : Fld Z h363 a1 "com/example/ketproof/ketproof/MassTable" "size" "I" (.int z_size) := f354.other W363 (Or.inl ne_slots)
              have f368 : Fld Z h363 a1 "com/example/ketproof/ketproof/MassTable" "decimals" "[Ljava/math/BigDecimal;" .null := f355.other W363 (Or.inl ne_slots)
              have f369 : Arv Z h363 z_entrySlots k_entrySlots .int (16 : Int32) (own_E x_entrySlots) (.int (0 : Int32)) := f356.other W363 ne_entrySlots_slots
              have N370 := Fr.snoc X363 N357 g_slots
              have K371 : Keep h0 h363 [a1, z_slots, z_entrySlots] := K358.wr W363 (Or.inl (List.mem_of_getElem? (i := 1) rfl))
              have Z372 : n0 ≤ h363.size := Nat.le_trans Z359 (Keep.of_wr W363).1
              obtain ⟨T373, X373, e373, st373⟩ := getF X363 hx hZ hown (host := "") (Or.inl (hw _ (List.mem_of_getElem? (i := 13) rfl))) Via.refl e363 f366 (g := (mkF m 227 #[.val (.ref a1), .val (.int sx), .val (.long vb), .second, .val .null, .val (.double ms), .second, .val (.int own_mk), .val (.int (own_i2 sx vb))] [(.ref a1)])) rfl rfl (hb hby d5_227)
              obtain ⟨T374, X374, e374, st374⟩ := getF X373 hx hZ hown (host := "") (Or.inl (hw _ (List.mem_of_getElem? (i := 20) rfl))) Via.refl e373 f367 (g := (mkF m 232 #[.val (.ref a1), .val (.int sx), .val (.long vb), .second, .val .null, .val (.double ms), .second, .val (.int own_mk), .val (.int (own_i2 sx vb))] [(.ref a1), (.ref a1), (.ref z_entrySlots)])) rfl rfl (hb hby d5_232)
              obtain ⟨T375, h375, X375, e375, W375, st375⟩ := putF X374 hx hZ hown (host := "") (Or.inl (hw _ (List.mem_of_getElem? (i := 20) rfl))) Via.refl e374 f367 f364 (Or.inl (hw _ (List.mem_of_getElem? (i := 21) rfl))) (hw _ (List.mem_of_getElem? (i := 1) rfl)) (ty := .int) (by decide) rfl rfl (g := (mkF m 238 #[.val (.ref a1), .val (.int sx), .val (.long vb), .second, .val .null, .val (.double ms), .second, .val (.int own_mk), .val (.int (own_i2 sx vb))] [(.int (z_size + (1 : Int32))), (.ref a1), (.int z_size), (.ref z_entrySlots)])) rfl rfl (hb hby d5_238)
              have f376 : Exa Z h375 a1 "com/example/ketproof/ketproof/MassTable" := f364.wr W375
              have f377 : Fld Z h375 a1 "com/example/ketproof/ketproof/MassTable" "slots" "[J" (.ref z_slots) := f365.other W375 (Or.inr (slot_ne (Or.inl (hw _ (List.mem_of_getElem? (i := 11) rfl))) (Or.inl (hw _ (List.mem_of_getElem? (i := 21) rfl))) (by decide) (t := (.array .long)) (t' := .int) (by decide) (by decide)))
              have f378 : Fld Z h375 a1 "com/example/ketproof/ketproof/MassTable" "entrySlots" "[I" (.ref z_entrySlots) := f366.other W375 (Or.inr (slot_ne (Or.inl (hw _ (List.mem_of_getElem? (i := 14) rfl))) (Or.inl (hw _ (List.mem_of_getElem? (i := 21) rfl))) (by decide) (t := (.array .int)) (t' := .int) (by decide) (by decide)))
              have f379 : Fld Z h375 a1 "com/example/ketproof/ketproof/MassTable" "size" "I" (.int (z_size + (1 : Int32))) := f367.same W375
              have f380 : Fld Z h375 a1 "com/example/ketproof/ketproof/MassTable" "decimals" "[Ljava/math/BigDecimal;" .null := f368.other W375 (Or.inr (slot_ne (Or.inl (hw _ (List.mem_of_getElem? (i := 61) rfl))) (Or.inl (hw _ (List.mem_of_getElem? (i := 21) rfl))) (by decide) (t := (.array (.object "java/math/BigDecimal"))) (t' := .int) (by decide) (by decide)))
              have f381 : Arv Z h375 z_entrySlots k_entrySlots .int (16 : Int32) (own_E x_entrySlots) (.int (0 : Int32)) := f369.other W375 (Ne.symm ne_entrySlots)
              have f382 : Arv Z h375 z_slots k_slots .long (96 : Int32) (own_L (own_up (own_up (own_up x_slots (((3 : Int32) * (own_i2 sx vb))).toNatClampNeg (sx.toInt64 + (1 : Int64))) ((((3 : Int32) * (own_i2 sx vb)) + (1 : Int32))).toNatClampNeg vb) ((((3 : Int32) * (own_i2 sx vb)) + (2 : Int32))).toNatClampNeg ((ms).toInt64))) (.long (0 : Int64)) := fa363.other W375 (Ne.symm ne_slots)
              have N383 := Fr.snoc X375 N370 g1
              have K384 : Keep h0 h375 [a1, z_slots, z_entrySlots] := K371.wr W375 (Or.inl (List.mem_of_getElem? (i := 0) rfl))
              have Z385 : n0 ≤ h375.size := Nat.le_trans Z372 (Keep.of_wr W375).1
              obtain ⟨cl386, Ar386, qa386, Sa386, Na386, Ha386, Ga386⟩ := id f381
              have hin386 : ¬ (z_size < 0 ∨ cl386.slots.size ≤ (z_size).toNatClampNeg) := inb_of Sa386 (own_ine hsz)
              obtain ⟨T387, h387, X387, e387, W387, st387⟩ := stI X375 hx hZ e375 Ar386 (j := z_size) hin386 (g := (mkF m 243 #[.val (.ref a1), .val (.int sx), .val (.long vb), .second, .val .null, .val (.double ms), .second, .val (.int own_mk), .val (.int (own_i2 sx vb))] [(.int (own_i2 sx vb)), (.int z_size), (.ref z_entrySlots)])) rfl rfl (hb hby d5_243)
              have fa387 : Arv Z h387 z_entrySlots k_entrySlots .int (16 : Int32) (own_E (own_up x_entrySlots (z_size).toNatClampNeg (own_i2 sx vb))) (.int (0 : Int32)) := (Arv.set Ar386 qa386 Sa386 Na386 Ha386 Ga386 rfl W387 (z_size).toNatClampNeg rfl (own_El x_entrySlots (own_ixe (own_ine hsz)))).pad (own_Eset x_entrySlots (own_ixe (own_ine hsz)) (own_i2 sx vb))
              have f388 : Exa Z h387 a1 "com/example/ketproof/ketproof/MassTable" := f376.wr W387
              have f389 : Fld Z h387 a1 "com/example/ketproof/ketproof/MassTable" "slots" "[J" (.ref z_slots) := f377.other W387 (Or.inl ne_entrySlots)
              have f390 : Fld Z h387 a1 "com/example/ketproof/ketproof/MassTable" "entrySlots" "[I" (.ref z_entrySlots) := f378.other W387 (Or.inl ne_entrySlots)
              have f391 : Fld Z h387 a1 "com/example/ketproof/ketproof/MassTable" "size" "I" (.int (z_size + (1 : Int32))) := f379.other W387 (Or.inl ne_entrySlots)
              have f392 : Fld Z h387 a1 "com/example/ketproof/ketproof/MassTable" "decimals" "[Ljava/math/BigDecimal;" .null := f380.other W387 (Or.inl ne_entrySlots)
              have f393 : Arv Z h387 z_slots k_slots .long (96 : Int32) (own_L (own_up (own_up (own_up x_slots (((3 : Int32) * (own_i2 sx vb))).toNatClampNeg (sx.toInt64 + (1 : Int64))) ((((3 : Int32) * (own_i2 sx vb)) + (1 : Int32))).toNatClampNeg vb) ((((3 : Int32) * (own_i2 sx vb)) + (2 : Int32))).toNatClampNeg ((ms).toInt64))) (.long (0 : Int64)) := f382.other W387 (Ne.symm ne_entrySlots_slots)
              have N394 := Fr.snoc X387 N383 g_entrySlots
              have K395 : Keep h0 h387 [a1, z_slots, z_entrySlots] := K384.wr W387 (Or.inl (List.mem_of_getElem? (i := 2) rfl))
              have Z396 : n0 ≤ h387.size := Nat.le_trans Z385 (Keep.of_wr W387).1
              have hf_size : f5_size sx vb ms z_size x_slots x_entrySlots = (z_size + (1 : Int32)) := by
                unfold f5_size
                first | rfl | (rw [if_neg hc57, if_pos hc125, if_neg hc129, if_neg hc150, if_neg hc218, if_pos hc332])
              have hf_slots : f5_slots sx vb ms z_size x_slots x_entrySlots = (own_up (own_up (own_up x_slots (((3 : Int32) * (own_i2 sx vb))).toNatClampNeg (sx.toInt64 + (1 : Int64))) ((((3 : Int32) * (own_i2 sx vb)) + (1 : Int32))).toNatClampNeg vb) ((((3 : Int32) * (own_i2 sx vb)) + (2 : Int32))).toNatClampNeg ((ms).toInt64)) := by
                unfold f5_slots
                first | rfl | (rw [if_neg hc57, if_pos hc125, if_neg hc129, if_neg hc150, if_neg hc218, if_pos hc332])
              have hf_entrySlots : f5_entrySlots sx vb ms z_size x_slots x_entrySlots = (own_up x_entrySlots (z_size).toNatClampNeg (own_i2 sx vb)) := by
                unfold f5_entrySlots
                first | rfl | (rw [if_neg hc57, if_pos hc125, if_neg hc129, if_neg hc150, if_neg hc218, if_pos hc332])
              obtain ⟨fs, hr, hrun, hended, hW, hsame⟩ := X387.leave (v := none) (fun _ => rfl)
              refine ⟨_, _, S331 _ ?_, hrun, hended, _, _, rfl, ?_, ⟨_, rfl⟩, hW, hsame.mono (by decide) (by decide)⟩
              · refine XS.ifYes X329.here hx rfl (pc0 := 32) (pc' := 123) rfl (hb hby d5_32) rfl ((if0 _ _).trans (teq hc332).1) (by decide) (by decide) ?_
                show Steps p.tables e below (T329.setTop (mkF m 123 #[.val (.ref a1), .val (.int sx), .val (.long vb), .second, .val .null, .val (.double ms), .second, .val (.int own_mk), .val (.int (own_i2 sx vb))] [])) _
                refine XS.aloadN X329.here hx rfl (hb hby d5_123) rfl rfl ?_
                show Steps p.tables e below (T329.setTop (mkF m 124 #[.val (.ref a1), .val (.int sx), .val (.long vb), .second, .val .null, .val (.double ms), .second, .val (.int own_mk), .val (.int (own_i2 sx vb))] [(.ref a1)])) _
                refine st333 _ ?_
                show Steps p.tables e below (T333.setTop (mkF m 127 #[.val (.ref a1), .val (.int sx), .val (.long vb), .second, .val .null, .val (.double ms), .second, .val (.int own_mk), .val (.int (own_i2 sx vb))] [(.int z_size)])) _
                refine XS.aloadN X333.here hx rfl (hb hby d5_127) rfl rfl ?_
                show Steps p.tables e below (T333.setTop (mkF m 128 #[.val (.ref a1), .val (.int sx), .val (.long vb), .second, .val .null, .val (.double ms), .second, .val (.int own_mk), .val (.int (own_i2 sx vb))] [(.ref a1), (.int z_size)])) _
                refine st334 _ ?_
                show Steps p.tables e below (T334.setTop (mkF m 131 #[.val (.ref a1), .val (.int sx), .val (.long vb), .second, .val .null, .val (.double ms), .second, .val (.int own_mk), .val (.int (own_i2 sx vb))] [(.ref z_entrySlots), (.int z_size)])) _
                refine X334.arraylength hx (by rw [e334]; exact Ar335.1) (State.isArrayOf_alike hZ.alike Ar335.2.1) (g := (mkF m 131 #[.val (.ref a1), .val (.int sx), .val (.long vb), .second, .val .null, .val (.double ms), .second, .val (.int own_mk), .val (.int (own_i2 sx vb))] [(.ref z_entrySlots), (.int z_size)])) rfl rfl (hb hby d5_131) _ ?_
                rw [len_of Sa335 Na335]
                show Steps p.tables e below (T334.setTop (mkF m 132 #[.val (.ref a1), .val (.int sx), .val (.long vb), .second, .val .null, .val (.double ms), .second, .val (.int own_mk), .val (.int (own_i2 sx vb))] [(.int (16 : Int32)), (.int z_size)])) _
                refine XS.icmpYes X334.here hx rfl (pc0 := 132) (pc' := 150) rfl (hb hby d5_132) rfl (feq (own_full hsz)).2 (by decide) (by decide) ?_
                show Steps p.tables e below (T334.setTop (mkF m 150 #[.val (.ref a1), .val (.int sx), .val (.long vb), .second, .val .null, .val (.double ms), .second, .val (.int own_mk), .val (.int (own_i2 sx vb))] [])) _
                refine XS.aloadN X334.here hx rfl (hb hby d5_150) rfl rfl ?_
                show Steps p.tables e below (T334.setTop (mkF m 151 #[.val (.ref a1), .val (.int sx), .val (.long vb), .second, .val .null, .val (.double ms), .second, .val (.int own_mk), .val (.int (own_i2 sx vb))] [(.ref a1)])) _
                refine st336 _ ?_
                show Steps p.tables e below (T336.setTop (mkF m 154 #[.val (.ref a1), .val (.int sx), .val (.long vb), .second, .val .null, .val (.double ms), .second, .val (.int own_mk), .val (.int (own_i2 sx vb))] [(.ref z_slots)])) _
                refine XS.iconst X336.here hx rfl (hb hby d5_154) ?_
                show Steps p.tables e below (T336.setTop (mkF m 155 #[.val (.ref a1), .val (.int sx), .val (.long vb), .second, .val .null, .val (.double ms), .second, .val (.int own_mk), .val (.int (own_i2 sx vb))] [(.int (3 : Int32)), (.ref z_slots)])) _
                refine XS.iload X336.here hx rfl (hb hby d5_155) rfl ?_
                show Steps p.tables e below (T336.setTop (mkF m 157 #[.val (.ref a1), .val (.int sx), .val (.long vb), .second, .val .null, .val (.double ms), .second, .val (.int own_mk), .val (.int (own_i2 sx vb))] [(.int (own_i2 sx vb)), (.int (3 : Int32)), (.ref z_slots)])) _
                refine XS.imul X336.here hx rfl (hb hby d5_157) rfl ?_
                show Steps p.tables e below (T336.setTop (mkF m 158 #[.val (.ref a1), .val (.int sx), .val (.long vb), .second, .val .null, .val (.double ms), .second, .val (.int own_mk), .val (.int (own_i2 sx vb))] [(.int ((3 : Int32) * (own_i2 sx vb))), (.ref z_slots)])) _
                refine XS.iloadN X336.here hx rfl (hb hby d5_158) rfl ?_
                show Steps p.tables e below (T336.setTop (mkF m 159 #[.val (.ref a1), .val (.int sx), .val (.long vb), .second, .val .null, .val (.double ms), .second, .val (.int own_mk), .val (.int (own_i2 sx vb))] [(.int sx), (.int ((3 : Int32) * (own_i2 sx vb))), (.ref z_slots)])) _
                refine XS.i2l X336.here hx rfl (hb hby d5_159) rfl ?_
                show Steps p.tables e below (T336.setTop (mkF m 160 #[.val (.ref a1), .val (.int sx), .val (.long vb), .second, .val .null, .val (.double ms), .second, .val (.int own_mk), .val (.int (own_i2 sx vb))] [(.long sx.toInt64), (.int ((3 : Int32) * (own_i2 sx vb))), (.ref z_slots)])) _
                refine XS.lconst X336.here hx rfl (hb hby d5_160) ?_
                show Steps p.tables e below (T336.setTop (mkF m 161 #[.val (.ref a1), .val (.int sx), .val (.long vb), .second, .val .null, .val (.double ms), .second, .val (.int own_mk), .val (.int (own_i2 sx vb))] [(.long (1 : Int64)), (.long sx.toInt64), (.int ((3 : Int32) * (own_i2 sx vb))), (.ref z_slots)])) _
                refine XS.ladd X336.here hx rfl (hb hby d5_161) rfl ?_
                show Steps p.tables e below (T336.setTop (mkF m 162 #[.val (.ref a1), .val (.int sx), .val (.long vb), .second, .val .null, .val (.double ms), .second, .val (.int own_mk), .val (.int (own_i2 sx vb))] [(.long (sx.toInt64 + (1 : Int64))), (.int ((3 : Int32) * (own_i2 sx vb))), (.ref z_slots)])) _
                refine st338 _ ?_
                show Steps p.tables e below (T338.setTop (mkF m 163 #[.val (.ref a1), .val (.int sx), .val (.long vb), .second, .val .null, .val (.double ms), .second, .val (.int own_mk), .val (.int (own_i2 sx vb))] [])) _
                refine XS.aloadN X338.here hx rfl (hb hby d5_163) rfl rfl ?_
                show Steps p.tables e below (T338.setTop (mkF m 164 #[.val (.ref a1), .val (.int sx), .val (.long vb), .second, .val .null, .val (.double ms), .second, .val (.int own_mk), .val (.int (own_i2 sx vb))] [(.ref a1)])) _
                refine st348 _ ?_
                show Steps p.tables e below (T348.setTop (mkF m 167 #[.val (.ref a1), .val (.int sx), .val (.long vb), .second, .val .null, .val (.double ms), .second, .val (.int own_mk), .val (.int (own_i2 sx vb))] [(.ref z_slots)])) _
                refine XS.iconst X348.here hx rfl (hb hby d5_167) ?_
                show Steps p.tables e below (T348.setTop (mkF m 168 #[.val (.ref a1), .val (.int sx), .val (.long vb), .second, .val .null, .val (.double ms), .second, .val (.int own_mk), .val (.int (own_i2 sx vb))] [(.int (3 : Int32)), (.ref z_slots)])) _
                refine XS.iload X348.here hx rfl (hb hby d5_168) rfl ?_
                show Steps p.tables e below (T348.setTop (mkF m 170 #[.val (.ref a1), .val (.int sx), .val (.long vb), .second, .val .null, .val (.double ms), .second, .val (.int own_mk), .val (.int (own_i2 sx vb))] [(.int (own_i2 sx vb)), (.int (3 : Int32)), (.ref z_slots)])) _
                refine XS.imul X348.here hx rfl (hb hby d5_170) rfl ?_
                show Steps p.tables e below (T348.setTop (mkF m 171 #[.val (.ref a1), .val (.int sx), .val (.long vb), .second, .val .null, .val (.double ms), .second, .val (.int own_mk), .val (.int (own_i2 sx vb))] [(.int ((3 : Int32) * (own_i2 sx vb))), (.ref z_slots)])) _
                refine XS.iconst X348.here hx rfl (hb hby d5_171) ?_
                show Steps p.tables e below (T348.setTop (mkF m 172 #[.val (.ref a1), .val (.int sx), .val (.long vb), .second, .val .null, .val (.double ms), .second, .val (.int own_mk), .val (.int (own_i2 sx vb))] [(.int (1 : Int32)), (.int ((3 : Int32) * (own_i2 sx vb))), (.ref z_slots)])) _
                refine XS.iadd X348.here hx rfl (hb hby d5_172) rfl ?_
                show Steps p.tables e below (T348.setTop (mkF m 173 #[.val (.ref a1), .val (.int sx), .val (.long vb), .second, .val .null, .val (.double ms), .second, .val (.int own_mk), .val (.int (own_i2 sx vb))] [(.int (((3 : Int32) * (own_i2 sx vb)) + (1 : Int32))), (.ref z_slots)])) _
                refine XS.lloadN X348.here hx rfl (hb hby d5_173) rfl ?_
                show Steps p.tables e below (T348.setTop (mkF m 174 #[.val (.ref a1), .val (.int sx), .val (.long vb), .second, .val .null, .val (.double ms), .second, .val (.int own_mk), .val (.int (own_i2 sx vb))] [(.long vb), (.int (((3 : Int32) * (own_i2 sx vb)) + (1 : Int32))), (.ref z_slots)])) _
                refine st350 _ ?_
                show Steps p.tables e below (T350.setTop (mkF m 175 #[.val (.ref a1), .val (.int sx), .val (.long vb), .second, .val .null, .val (.double ms), .second, .val (.int own_mk), .val (.int (own_i2 sx vb))] [])) _
                refine XS.aloadN X350.here hx rfl (hb hby d5_175) rfl rfl ?_
                show Steps p.tables e below (T350.setTop (mkF m 176 #[.val (.ref a1), .val (.int sx), .val (.long vb), .second, .val .null, .val (.double ms), .second, .val (.int own_mk), .val (.int (own_i2 sx vb))] [(.ref a1)])) _
                refine st360 _ ?_
                show Steps p.tables e below (T360.setTop (mkF m 179 #[.val (.ref a1), .val (.int sx), .val (.long vb), .second, .val .null, .val (.double ms), .second, .val (.int own_mk), .val (.int (own_i2 sx vb))] [(.ref z_slots)])) _
                refine XS.iconst X360.here hx rfl (hb hby d5_179) ?_
                show Steps p.tables e below (T360.setTop (mkF m 180 #[.val (.ref a1), .val (.int sx), .val (.long vb), .second, .val .null, .val (.double ms), .second, .val (.int own_mk), .val (.int (own_i2 sx vb))] [(.int (3 : Int32)), (.ref z_slots)])) _
                refine XS.iload X360.here hx rfl (hb hby d5_180) rfl ?_
                show Steps p.tables e below (T360.setTop (mkF m 182 #[.val (.ref a1), .val (.int sx), .val (.long vb), .second, .val .null, .val (.double ms), .second, .val (.int own_mk), .val (.int (own_i2 sx vb))] [(.int (own_i2 sx vb)), (.int (3 : Int32)), (.ref z_slots)])) _
                refine XS.imul X360.here hx rfl (hb hby d5_182) rfl ?_
                show Steps p.tables e below (T360.setTop (mkF m 183 #[.val (.ref a1), .val (.int sx), .val (.long vb), .second, .val .null, .val (.double ms), .second, .val (.int own_mk), .val (.int (own_i2 sx vb))] [(.int ((3 : Int32) * (own_i2 sx vb))), (.ref z_slots)])) _
                refine XS.iconst X360.here hx rfl (hb hby d5_183) ?_
                show Steps p.tables e below (T360.setTop (mkF m 184 #[.val (.ref a1), .val (.int sx), .val (.long vb), .second, .val .null, .val (.double ms), .second, .val (.int own_mk), .val (.int (own_i2 sx vb))] [(.int (2 : Int32)), (.int ((3 : Int32) * (own_i2 sx vb))), (.ref z_slots)])) _
                refine XS.iadd X360.here hx rfl (hb hby d5_184) rfl ?_
                show Steps p.tables e below (T360.setTop (mkF m 185 #[.val (.ref a1), .val (.int sx), .val (.long vb), .second, .val .null, .val (.double ms), .second, .val (.int own_mk), .val (.int (own_i2 sx vb))] [(.int (((3 : Int32) * (own_i2 sx vb)) + (2 : Int32))), (.ref z_slots)])) _
                refine XS.dload X360.here hx rfl (hb hby d5_185) rfl ?_
                show Steps p.tables e below (T360.setTop (mkF m 187 #[.val (.ref a1), .val (.int sx), .val (.long vb), .second, .val .null, .val (.double ms), .second, .val (.int own_mk), .val (.int (own_i2 sx vb))] [(.double ms), (.int (((3 : Int32) * (own_i2 sx vb)) + (2 : Int32))), (.ref z_slots)])) _
                refine st361 _ ?_
                show Steps p.tables e below (T361.setTop (mkF m 190 #[.val (.ref a1), .val (.int sx), .val (.long vb), .second, .val .null, .val (.double ms), .second, .val (.int own_mk), .val (.int (own_i2 sx vb))] [(.long ((ms).toInt64)), (.int (((3 : Int32) * (own_i2 sx vb)) + (2 : Int32))), (.ref z_slots)])) _
                refine st363 _ ?_
                show Steps p.tables e below (T363.setTop (mkF m 191 #[.val (.ref a1), .val (.int sx), .val (.long vb), .second, .val .null, .val (.double ms), .second, .val (.int own_mk), .val (.int (own_i2 sx vb))] [])) _
                refine XS.aload X363.here hx rfl (hb hby d5_191) rfl rfl ?_
                show Steps p.tables e below (T363.setTop (mkF m 193 #[.val (.ref a1), .val (.int sx), .val (.long vb), .second, .val .null, .val (.double ms), .second, .val (.int own_mk), .val (.int (own_i2 sx vb))] [.null])) _
                refine XS.ifnullYes X363.here hx rfl (pc0 := 193) (pc' := 226) rfl (hb hby d5_193) rfl (by decide) (by decide) ?_
                show Steps p.tables e below (T363.setTop (mkF m 226 #[.val (.ref a1), .val (.int sx), .val (.long vb), .second, .val .null, .val (.double ms), .second, .val (.int own_mk), .val (.int (own_i2 sx vb))] [])) _
                refine XS.aloadN X363.here hx rfl (hb hby d5_226) rfl rfl ?_
                show Steps p.tables e below (T363.setTop (mkF m 227 #[.val (.ref a1), .val (.int sx), .val (.long vb), .second, .val .null, .val (.double ms), .second, .val (.int own_mk), .val (.int (own_i2 sx vb))] [(.ref a1)])) _
                refine st373 _ ?_
                show Steps p.tables e below (T373.setTop (mkF m 230 #[.val (.ref a1), .val (.int sx), .val (.long vb), .second, .val .null, .val (.double ms), .second, .val (.int own_mk), .val (.int (own_i2 sx vb))] [(.ref z_entrySlots)])) _
                refine XS.aloadN X373.here hx rfl (hb hby d5_230) rfl rfl ?_
                show Steps p.tables e below (T373.setTop (mkF m 231 #[.val (.ref a1), .val (.int sx), .val (.long vb), .second, .val .null, .val (.double ms), .second, .val (.int own_mk), .val (.int (own_i2 sx vb))] [(.ref a1), (.ref z_entrySlots)])) _
                refine XS.dup X373.here hx rfl (hb hby d5_231) rfl rfl ?_
                show Steps p.tables e below (T373.setTop (mkF m 232 #[.val (.ref a1), .val (.int sx), .val (.long vb), .second, .val .null, .val (.double ms), .second, .val (.int own_mk), .val (.int (own_i2 sx vb))] [(.ref a1), (.ref a1), (.ref z_entrySlots)])) _
                refine st374 _ ?_
                show Steps p.tables e below (T374.setTop (mkF m 235 #[.val (.ref a1), .val (.int sx), .val (.long vb), .second, .val .null, .val (.double ms), .second, .val (.int own_mk), .val (.int (own_i2 sx vb))] [(.int z_size), (.ref a1), (.ref z_entrySlots)])) _
                refine XS.dupX1 X374.here hx rfl (hb hby d5_235) rfl rfl rfl ?_
                show Steps p.tables e below (T374.setTop (mkF m 236 #[.val (.ref a1), .val (.int sx), .val (.long vb), .second, .val .null, .val (.double ms), .second, .val (.int own_mk), .val (.int (own_i2 sx vb))] [(.int z_size), (.ref a1), (.int z_size), (.ref z_entrySlots)])) _
                refine XS.iconst X374.here hx rfl (hb hby d5_236) ?_
                show Steps p.tables e below (T374.setTop (mkF m 237 #[.val (.ref a1), .val (.int sx), .val (.long vb), .second, .val .null, .val (.double ms), .second, .val (.int own_mk), .val (.int (own_i2 sx vb))] [(.int (1 : Int32)), (.int z_size), (.ref a1), (.int z_size), (.ref z_entrySlots)])) _
                refine XS.iadd X374.here hx rfl (hb hby d5_237) rfl ?_
                show Steps p.tables e below (T374.setTop (mkF m 238 #[.val (.ref a1), .val (.int sx), .val (.long vb), .second, .val .null, .val (.double ms), .second, .val (.int own_mk), .val (.int (own_i2 sx vb))] [(.int (z_size + (1 : Int32))), (.ref a1), (.int z_size), (.ref z_entrySlots)])) _
                refine st375 _ ?_
                show Steps p.tables e below (T375.setTop (mkF m 241 #[.val (.ref a1), .val (.int sx), .val (.long vb), .second, .val .null, .val (.double ms), .second, .val (.int own_mk), .val (.int (own_i2 sx vb))] [(.int z_size), (.ref z_entrySlots)])) _
                refine XS.iload X375.here hx rfl (hb hby d5_241) rfl ?_
                show Steps p.tables e below (T375.setTop (mkF m 243 #[.val (.ref a1), .val (.int sx), .val (.long vb), .second, .val .null, .val (.double ms), .second, .val (.int own_mk), .val (.int (own_i2 sx vb))] [(.int (own_i2 sx vb)), (.int z_size), (.ref z_entrySlots)])) _
                refine st387 _ ?_
                show Steps p.tables e below (T387.setTop (mkF m 244 #[.val (.ref a1), .val (.int sx), .val (.long vb), .second, .val .null, .val (.double ms), .second, .val (.int own_mk), .val (.int (own_i2 sx vb))] [])) _
                exact X387.returnOut hx Bd.returns (hb hby d5_244) hr
              · show Q5 Z a1 sx vb ms z_slots z_entrySlots z_size k_slots x_slots k_entrySlots x_entrySlots h0 n0 _ T387.heap _
                rw [e387]
                exact ⟨rfl, N394, K395, f388, f389, f390, by rw [hf_size]; exact f391, f392, by rw [hf_slots]; exact f393, by rw [hf_entrySlots]; exact fa387⟩
            · obtain ⟨T397, X397, e397, st397⟩ := getF X329 hx hZ hown (host := "") (Or.inl (hw _ (List.mem_of_getElem? (i := 10) rfl))) Via.refl e329 F_slots_a1 (g := (mkF m 36 #[.val (.ref a1), .val (.int sx), .val (.long vb), .second, .val .null, .val (.double ms), .second, .val (.int own_mk), .val (.int (own_i2 sx vb))] [(.ref a1)])) rfl rfl (hb hby d5_36)
              obtain ⟨cl398, Ar398, qa398, Sa398, Na398, Ha398, Ga398⟩ := id V_slots
              have hin398 : ¬ (((3 : Int32) * (own_i2 sx vb)) < 0 ∨ cl398.slots.size ≤ (((3 : Int32) * (own_i2 sx vb))).toNatClampNeg) := inb_of Sa398 (own_b0 (own_r2 sx vb))
              obtain ⟨T399, X399, e399, st399⟩ := getF X397 hx hZ hown (host := "") (Or.inl (hw _ (List.mem_of_getElem? (i := 10) rfl))) Via.refl e397 F_slots_a1 (g := (mkF m 53 #[.val (.ref a1), .val (.int sx), .val (.long vb), .second, .val .null, .val (.double ms), .second, .val (.int own_mk), .val (.int (own_i2 sx vb))] [(.ref a1)])) rfl rfl (hb hby d5_53)
              obtain ⟨cl400, Ar400, qa400, Sa400, Na400, Ha400, Ga400⟩ := id V_slots
              have hin400 : ¬ ((((3 : Int32) * (own_i2 sx vb)) + (1 : Int32)) < 0 ∨ cl400.slots.size ≤ ((((3 : Int32) * (own_i2 sx vb)) + (1 : Int32))).toNatClampNeg) := inb_of Sa400 (own_b1 (own_r2 sx vb))
              obtain ⟨cq401, q401, q401'⟩ := E1.cell
              obtain ⟨_, _, ⟨T401, L401, k401, n401⟩, -, X401, ⟨Lc401, hQ401, l401, y401, z401⟩, st401⟩ := X399.privateBack hx (y := (⟨"com/example/ketproof/ketproof/MassTable", "holds", "(ILjava/math/BigDecimal;)Z"⟩ : MethodName)) hown (mvT hZ (hw _ (List.mem_of_getElem? (i := 70) rfl))) (mvT hZ (hw _ (List.mem_of_getElem? (i := 71) rfl))) (mvT hZ (Jvm.Kit.selects_private (by decide) (hw _ (List.mem_of_getElem? (i := 1) rfl)) (hw _ (List.mem_of_getElem? (i := 72) rfl)) (hw _ (List.mem_of_getElem? (i := 71) rfl)))) (Cond.privateMethod_at (mvP hZ (hw _ (List.mem_of_getElem? (i := 72) rfl)) (args := #[]))) (mvT hZ (hw _ (List.mem_of_getElem? (i := 73) rfl))) (by decide) (backOf (W := 0) (rm12 l Z a0 hw [] a1 (own_i2 sx vb) h0 n0 Z0 F_decimals_a1) hZ (hw _ (List.mem_of_getElem? (i := 73) rfl)) (hw _ (List.mem_of_getElem? (i := 2) rfl)) (by decide) (by decide)) (g := (mkF m 73 #[.val (.ref a1), .val (.int sx), .val (.long vb), .second, .val .null, .val (.double ms), .second, .val (.int own_mk), .val (.int (own_i2 sx vb))] [.null, (.int (own_i2 sx vb)), (.ref a1)])) rfl (by rw [hml]; rfl) (Steps.refl _) (a := a1) (by rw [e399]; exact q401) q401' (argsL := [(.int (own_i2 sx vb)), .null]) (rest := []) (lenOf pd_1 rfl) rfl (by show 2 * 0 + _ ≤ _; exact Nat.le_of_eq rfl) (hb hby d5_73) (fun _ _ => ⟨rfl, e399, (by decide : 0 + 0 ≤ _), (by decide : 0 + 0 ≤ _)⟩)
              dsimp only [Pt.U, Pt.locs, Pt.cells, Pt.slots] at X401 l401 y401 z401 st401 hQ401
              subst l401 y401 z401
              obtain ⟨rfl, N401q, e401⟩ := hQ401
              have N401 := Fr.app N53 N401q
              obtain ⟨T402, X402, e402, st402⟩ := getF X401 hx hZ hown (host := "") (Or.inl (hw _ (List.mem_of_getElem? (i := 10) rfl))) Via.refl e401 F_slots_a1 (g := (mkF m 80 #[.val (.ref a1), .val (.int sx), .val (.long vb), .second, .val .null, .val (.double ms), .second, .val (.int own_mk), .val (.int (own_i2 sx vb))] [(.ref a1)])) rfl rfl (hb hby d5_80)
              obtain ⟨T403, X403, e403, st403⟩ := getF X402 hx hZ hown (host := "") (Or.inl (hw _ (List.mem_of_getElem? (i := 10) rfl))) Via.refl e402 F_slots_a1 (g := (mkF m 90 #[.val (.ref a1), .val (.int sx), .val (.long vb), .second, .val .null, .val (.double ms), .second, .val (.int own_mk), .val (.int (own_i2 sx vb))] [(.ref a1), (.int (((3 : Int32) * (own_i2 sx vb)) + (2 : Int32))), (.ref z_slots)])) rfl rfl (hb hby d5_90)
              obtain ⟨cl404, Ar404, qa404, Sa404, Na404, Ha404, Ga404⟩ := id V_slots
              have hin404 : ¬ ((((3 : Int32) * (own_i2 sx vb)) + (2 : Int32)) < 0 ∨ cl404.slots.size ≤ ((((3 : Int32) * (own_i2 sx vb)) + (2 : Int32))).toNatClampNeg) := inb_of Sa404 (own_b2 (own_r2 sx vb))
              obtain ⟨vm405, X405, st405⟩ := X403.longBitsToDouble hx hown (mvT hZ (hw _ (List.mem_of_getElem? (i := 62) rfl))) (mvT hZ (hw _ (List.mem_of_getElem? (i := 64) rfl))) (mvT hZ (hw _ (List.mem_of_getElem? (i := 63) rfl))) (mvT hZ (hw _ (List.mem_of_getElem? (i := 29) rfl))) (g := (mkF m 100 #[.val (.ref a1), .val (.int sx), .val (.long vb), .second, .val .null, .val (.double ms), .second, .val (.int own_mk), .val (.int (own_i2 sx vb))] [(.long (x_slots ((((3 : Int32) * (own_i2 sx vb)) + (2 : Int32))).toNatClampNeg)), (.int (((3 : Int32) * (own_i2 sx vb)) + (2 : Int32))), (.ref z_slots)])) rfl (by rw [hml]; rfl) (rest := [(.int (((3 : Int32) * (own_i2 sx vb)) + (2 : Int32))), (.ref z_slots)]) (b := (x_slots ((((3 : Int32) * (own_i2 sx vb)) + (2 : Int32))).toNatClampNeg)) (own_lb (hM _ (own_md (own_r2 sx vb)))) rfl (hb hby d5_100) (by decide) (by show 2 * 0 + 2 + (nativeFrameWords "java/lang/Double" "longBitsToDouble" 2 + 11) ≤ _; decide)
              obtain ⟨T405, hT405⟩ : ∃ z, z = T403.setVm vm405 := ⟨_, rfl⟩
              rw [← hT405] at X405 st405
              have e405 : T405.heap = h0 := by rw [hT405]; exact e403
              obtain ⟨vm406, X406, st406⟩ := X405.doubleToRawLongBits hx hown (mvT hZ (hw _ (List.mem_of_getElem? (i := 27) rfl))) (mvT hZ (hw _ (List.mem_of_getElem? (i := 30) rfl))) (mvT hZ (hw _ (List.mem_of_getElem? (i := 28) rfl))) (mvT hZ (hw _ (List.mem_of_getElem? (i := 29) rfl))) (g := (mkF m 106 #[.val (.ref a1), .val (.int sx), .val (.long vb), .second, .val .null, .val (.double ms), .second, .val (.int own_mk), .val (.int (own_i2 sx vb))] [(.double (FP.dadd (((x_slots ((((3 : Int32) * (own_i2 sx vb)) + (2 : Int32))).toNatClampNeg)).toUInt64) ms)), (.int (((3 : Int32) * (own_i2 sx vb)) + (2 : Int32))), (.ref z_slots)])) rfl (by rw [hml]; rfl) (rest := [(.int (((3 : Int32) * (own_i2 sx vb)) + (2 : Int32))), (.ref z_slots)]) (b := (FP.dadd (((x_slots ((((3 : Int32) * (own_i2 sx vb)) + (2 : Int32))).toNatClampNeg)).toUInt64) ms)) rfl (hb hby d5_106) (by decide) (by show 2 * 0 + 2 + (nativeFrameWords "java/lang/Double" "doubleToRawLongBits" 2 + 11) ≤ _; decide)
              obtain ⟨T406, hT406⟩ : ∃ z, z = T405.setVm vm406 := ⟨_, rfl⟩
              rw [← hT406] at X406 st406
              have e406 : T406.heap = h0 := by rw [hT406]; exact e405
              obtain ⟨cl407, Ar407, qa407, Sa407, Na407, Ha407, Ga407⟩ := id V_slots
              have hin407 : ¬ ((((3 : Int32) * (own_i2 sx vb)) + (2 : Int32)) < 0 ∨ cl407.slots.size ≤ ((((3 : Int32) * (own_i2 sx vb)) + (2 : Int32))).toNatClampNeg) := inb_of Sa407 (own_b2 (own_r2 sx vb))
              obtain ⟨T408, h408, X408, e408, W408, st408⟩ := stJ X406 hx hZ e406 Ar407 (j := (((3 : Int32) * (own_i2 sx vb)) + (2 : Int32))) hin407 (g := (mkF m 109 #[.val (.ref a1), .val (.int sx), .val (.long vb), .second, .val .null, .val (.double ms), .second, .val (.int own_mk), .val (.int (own_i2 sx vb))] [(.long (((FP.dadd (((x_slots ((((3 : Int32) * (own_i2 sx vb)) + (2 : Int32))).toNatClampNeg)).toUInt64) ms)).toInt64)), (.int (((3 : Int32) * (own_i2 sx vb)) + (2 : Int32))), (.ref z_slots)])) rfl rfl (hb hby d5_109)
              have fa408 : Arv Z h408 z_slots k_slots .long (96 : Int32) (own_L (own_up x_slots ((((3 : Int32) * (own_i2 sx vb)) + (2 : Int32))).toNatClampNeg (((FP.dadd (((x_slots ((((3 : Int32) * (own_i2 sx vb)) + (2 : Int32))).toNatClampNeg)).toUInt64) ms)).toInt64))) (.long (0 : Int64)) := (Arv.set Ar407 qa407 Sa407 Na407 Ha407 Ga407 rfl W408 ((((3 : Int32) * (own_i2 sx vb)) + (2 : Int32))).toNatClampNeg rfl (own_Ll x_slots (own_ix (own_b2 (own_r2 sx vb))))).pad (own_Lset x_slots (own_ix (own_b2 (own_r2 sx vb))) (((FP.dadd (((x_slots ((((3 : Int32) * (own_i2 sx vb)) + (2 : Int32))).toNatClampNeg)).toUInt64) ms)).toInt64))
              have f409 : Exa Z h408 a1 "com/example/ketproof/ketproof/MassTable" := E1.wr W408
              have f410 : Fld Z h408 a1 "com/example/ketproof/ketproof/MassTable" "slots" "[J" (.ref z_slots) := F_slots_a1.other W408 (Or.inl ne_slots)
              have f411 : Fld Z h408 a1 "com/example/ketproof/ketproof/MassTable" "entrySlots" "[I" (.ref z_entrySlots) := F_entrySlots_a1.other W408 (Or.inl ne_slots)
              have f412 : Fld Z h408 a1 "com/example/ketproof/ketproof/MassTable" "size" "I" (.int z_size) := F_size_a1.other W408 (Or.inl ne_slots)
              have f413 : Fld Z h408 a1 "com/example/ketproof/ketproof/MassTable" "decimals" "[Ljava/math/BigDecimal;" .null := F_decimals_a1.other W408 (Or.inl ne_slots)
              have f414 : Arv Z h408 z_entrySlots k_entrySlots .int (16 : Int32) (own_E x_entrySlots) (.int (0 : Int32)) := V_entrySlots.other W408 ne_entrySlots_slots
              have N415 := Fr.snoc X408 N401 g_slots
              have K416 : Keep h0 h408 [a1, z_slots, z_entrySlots] := (Keep.refl h0 [a1, z_slots, z_entrySlots]).wr W408 (Or.inl (List.mem_of_getElem? (i := 1) rfl))
              have Z417 : n0 ≤ h408.size := Nat.le_trans Z0 (Keep.of_wr W408).1
              have hf_size : f5_size sx vb ms z_size x_slots x_entrySlots = z_size := by
                unfold f5_size
                first | rfl | (rw [if_neg hc57, if_pos hc125, if_neg hc129, if_neg hc150, if_neg hc218, if_neg hc332])
              have hf_slots : f5_slots sx vb ms z_size x_slots x_entrySlots = (own_up x_slots ((((3 : Int32) * (own_i2 sx vb)) + (2 : Int32))).toNatClampNeg (((FP.dadd (((x_slots ((((3 : Int32) * (own_i2 sx vb)) + (2 : Int32))).toNatClampNeg)).toUInt64) ms)).toInt64)) := by
                unfold f5_slots
                first | rfl | (rw [if_neg hc57, if_pos hc125, if_neg hc129, if_neg hc150, if_neg hc218, if_neg hc332])
              have hf_entrySlots : f5_entrySlots sx vb ms z_size x_slots x_entrySlots = x_entrySlots := by
                unfold f5_entrySlots
                first | rfl | (rw [if_neg hc57, if_pos hc125, if_neg hc129, if_neg hc150, if_neg hc218, if_neg hc332])
              obtain ⟨fs, hr, hrun, hended, hW, hsame⟩ := X408.leave (v := none) (fun _ => rfl)
              refine ⟨_, _, S331 _ ?_, hrun, hended, _, _, rfl, ?_, ⟨_, rfl⟩, hW, hsame.mono (by decide) (by decide)⟩
              · refine XS.ifNo X329.here hx rfl (hb hby d5_32) rfl ((if0 _ _).trans (feq hc332).1) ?_
                show Steps p.tables e below (T329.setTop (mkF m 35 #[.val (.ref a1), .val (.int sx), .val (.long vb), .second, .val .null, .val (.double ms), .second, .val (.int own_mk), .val (.int (own_i2 sx vb))] [])) _
                refine XS.aloadN X329.here hx rfl (hb hby d5_35) rfl rfl ?_
                show Steps p.tables e below (T329.setTop (mkF m 36 #[.val (.ref a1), .val (.int sx), .val (.long vb), .second, .val .null, .val (.double ms), .second, .val (.int own_mk), .val (.int (own_i2 sx vb))] [(.ref a1)])) _
                refine st397 _ ?_
                show Steps p.tables e below (T397.setTop (mkF m 39 #[.val (.ref a1), .val (.int sx), .val (.long vb), .second, .val .null, .val (.double ms), .second, .val (.int own_mk), .val (.int (own_i2 sx vb))] [(.ref z_slots)])) _
                refine XS.iconst X397.here hx rfl (hb hby d5_39) ?_
                show Steps p.tables e below (T397.setTop (mkF m 40 #[.val (.ref a1), .val (.int sx), .val (.long vb), .second, .val .null, .val (.double ms), .second, .val (.int own_mk), .val (.int (own_i2 sx vb))] [(.int (3 : Int32)), (.ref z_slots)])) _
                refine XS.iload X397.here hx rfl (hb hby d5_40) rfl ?_
                show Steps p.tables e below (T397.setTop (mkF m 42 #[.val (.ref a1), .val (.int sx), .val (.long vb), .second, .val .null, .val (.double ms), .second, .val (.int own_mk), .val (.int (own_i2 sx vb))] [(.int (own_i2 sx vb)), (.int (3 : Int32)), (.ref z_slots)])) _
                refine XS.imul X397.here hx rfl (hb hby d5_42) rfl ?_
                show Steps p.tables e below (T397.setTop (mkF m 43 #[.val (.ref a1), .val (.int sx), .val (.long vb), .second, .val .null, .val (.double ms), .second, .val (.int own_mk), .val (.int (own_i2 sx vb))] [(.int ((3 : Int32) * (own_i2 sx vb))), (.ref z_slots)])) _
                refine X397.laload hx (j := ((3 : Int32) * (own_i2 sx vb))) (v := (.long (x_slots (((3 : Int32) * (own_i2 sx vb))).toNatClampNeg))) (by rw [e397]; exact Ar398.1) (State.isArrayOf_alike hZ.alike Ar398.2.1) Ar398.2.2 hin398 (Has.at Ha398 hin398 (own_rd x_slots (own_b0 (own_r2 sx vb)))) (g := (mkF m 43 #[.val (.ref a1), .val (.int sx), .val (.long vb), .second, .val .null, .val (.double ms), .second, .val (.int own_mk), .val (.int (own_i2 sx vb))] [(.int ((3 : Int32) * (own_i2 sx vb))), (.ref z_slots)])) rfl rfl (hb hby d5_43) _ ?_
                show Steps p.tables e below (T397.setTop (mkF m 44 #[.val (.ref a1), .val (.int sx), .val (.long vb), .second, .val .null, .val (.double ms), .second, .val (.int own_mk), .val (.int (own_i2 sx vb))] [(.long (x_slots (((3 : Int32) * (own_i2 sx vb))).toNatClampNeg))])) _
                refine XS.iloadN X397.here hx rfl (hb hby d5_44) rfl ?_
                show Steps p.tables e below (T397.setTop (mkF m 45 #[.val (.ref a1), .val (.int sx), .val (.long vb), .second, .val .null, .val (.double ms), .second, .val (.int own_mk), .val (.int (own_i2 sx vb))] [(.int sx), (.long (x_slots (((3 : Int32) * (own_i2 sx vb))).toNatClampNeg))])) _
                refine XS.i2l X397.here hx rfl (hb hby d5_45) rfl ?_
                show Steps p.tables e below (T397.setTop (mkF m 46 #[.val (.ref a1), .val (.int sx), .val (.long vb), .second, .val .null, .val (.double ms), .second, .val (.int own_mk), .val (.int (own_i2 sx vb))] [(.long sx.toInt64), (.long (x_slots (((3 : Int32) * (own_i2 sx vb))).toNatClampNeg))])) _
                refine XS.lconst X397.here hx rfl (hb hby d5_46) ?_
                show Steps p.tables e below (T397.setTop (mkF m 47 #[.val (.ref a1), .val (.int sx), .val (.long vb), .second, .val .null, .val (.double ms), .second, .val (.int own_mk), .val (.int (own_i2 sx vb))] [(.long (1 : Int64)), (.long sx.toInt64), (.long (x_slots (((3 : Int32) * (own_i2 sx vb))).toNatClampNeg))])) _
                refine XS.ladd X397.here hx rfl (hb hby d5_47) rfl ?_
                show Steps p.tables e below (T397.setTop (mkF m 48 #[.val (.ref a1), .val (.int sx), .val (.long vb), .second, .val .null, .val (.double ms), .second, .val (.int own_mk), .val (.int (own_i2 sx vb))] [(.long (sx.toInt64 + (1 : Int64))), (.long (x_slots (((3 : Int32) * (own_i2 sx vb))).toNatClampNeg))])) _
                refine XS.lcmp X397.here hx rfl (hb hby d5_48) rfl ?_
                show Steps p.tables e below (T397.setTop (mkF m 49 #[.val (.ref a1), .val (.int sx), .val (.long vb), .second, .val .null, .val (.double ms), .second, .val (.int own_mk), .val (.int (own_i2 sx vb))] [(.int (lcmpW (x_slots (((3 : Int32) * (own_i2 sx vb))).toNatClampNeg) (sx.toInt64 + (1 : Int64))))])) _
                refine XS.ifNo X397.here hx rfl (hb hby d5_49) rfl ((if0 _ _).trans (teq (own_third hst (own_nst hc57 (Or.inr hc129)) (own_nst hc150 (Or.inl hc218)) hc332).1).2) ?_
                show Steps p.tables e below (T397.setTop (mkF m 52 #[.val (.ref a1), .val (.int sx), .val (.long vb), .second, .val .null, .val (.double ms), .second, .val (.int own_mk), .val (.int (own_i2 sx vb))] [])) _
                refine XS.aloadN X397.here hx rfl (hb hby d5_52) rfl rfl ?_
                show Steps p.tables e below (T397.setTop (mkF m 53 #[.val (.ref a1), .val (.int sx), .val (.long vb), .second, .val .null, .val (.double ms), .second, .val (.int own_mk), .val (.int (own_i2 sx vb))] [(.ref a1)])) _
                refine st399 _ ?_
                show Steps p.tables e below (T399.setTop (mkF m 56 #[.val (.ref a1), .val (.int sx), .val (.long vb), .second, .val .null, .val (.double ms), .second, .val (.int own_mk), .val (.int (own_i2 sx vb))] [(.ref z_slots)])) _
                refine XS.iconst X399.here hx rfl (hb hby d5_56) ?_
                show Steps p.tables e below (T399.setTop (mkF m 57 #[.val (.ref a1), .val (.int sx), .val (.long vb), .second, .val .null, .val (.double ms), .second, .val (.int own_mk), .val (.int (own_i2 sx vb))] [(.int (3 : Int32)), (.ref z_slots)])) _
                refine XS.iload X399.here hx rfl (hb hby d5_57) rfl ?_
                show Steps p.tables e below (T399.setTop (mkF m 59 #[.val (.ref a1), .val (.int sx), .val (.long vb), .second, .val .null, .val (.double ms), .second, .val (.int own_mk), .val (.int (own_i2 sx vb))] [(.int (own_i2 sx vb)), (.int (3 : Int32)), (.ref z_slots)])) _
                refine XS.imul X399.here hx rfl (hb hby d5_59) rfl ?_
                show Steps p.tables e below (T399.setTop (mkF m 60 #[.val (.ref a1), .val (.int sx), .val (.long vb), .second, .val .null, .val (.double ms), .second, .val (.int own_mk), .val (.int (own_i2 sx vb))] [(.int ((3 : Int32) * (own_i2 sx vb))), (.ref z_slots)])) _
                refine XS.iconst X399.here hx rfl (hb hby d5_60) ?_
                show Steps p.tables e below (T399.setTop (mkF m 61 #[.val (.ref a1), .val (.int sx), .val (.long vb), .second, .val .null, .val (.double ms), .second, .val (.int own_mk), .val (.int (own_i2 sx vb))] [(.int (1 : Int32)), (.int ((3 : Int32) * (own_i2 sx vb))), (.ref z_slots)])) _
                refine XS.iadd X399.here hx rfl (hb hby d5_61) rfl ?_
                show Steps p.tables e below (T399.setTop (mkF m 62 #[.val (.ref a1), .val (.int sx), .val (.long vb), .second, .val .null, .val (.double ms), .second, .val (.int own_mk), .val (.int (own_i2 sx vb))] [(.int (((3 : Int32) * (own_i2 sx vb)) + (1 : Int32))), (.ref z_slots)])) _
                refine X399.laload hx (j := (((3 : Int32) * (own_i2 sx vb)) + (1 : Int32))) (v := (.long (x_slots ((((3 : Int32) * (own_i2 sx vb)) + (1 : Int32))).toNatClampNeg))) (by rw [e399]; exact Ar400.1) (State.isArrayOf_alike hZ.alike Ar400.2.1) Ar400.2.2 hin400 (Has.at Ha400 hin400 (own_rd x_slots (own_b1 (own_r2 sx vb)))) (g := (mkF m 62 #[.val (.ref a1), .val (.int sx), .val (.long vb), .second, .val .null, .val (.double ms), .second, .val (.int own_mk), .val (.int (own_i2 sx vb))] [(.int (((3 : Int32) * (own_i2 sx vb)) + (1 : Int32))), (.ref z_slots)])) rfl rfl (hb hby d5_62) _ ?_
                show Steps p.tables e below (T399.setTop (mkF m 63 #[.val (.ref a1), .val (.int sx), .val (.long vb), .second, .val .null, .val (.double ms), .second, .val (.int own_mk), .val (.int (own_i2 sx vb))] [(.long (x_slots ((((3 : Int32) * (own_i2 sx vb)) + (1 : Int32))).toNatClampNeg))])) _
                refine XS.lloadN X399.here hx rfl (hb hby d5_63) rfl ?_
                show Steps p.tables e below (T399.setTop (mkF m 64 #[.val (.ref a1), .val (.int sx), .val (.long vb), .second, .val .null, .val (.double ms), .second, .val (.int own_mk), .val (.int (own_i2 sx vb))] [(.long vb), (.long (x_slots ((((3 : Int32) * (own_i2 sx vb)) + (1 : Int32))).toNatClampNeg))])) _
                refine XS.lcmp X399.here hx rfl (hb hby d5_64) rfl ?_
                show Steps p.tables e below (T399.setTop (mkF m 65 #[.val (.ref a1), .val (.int sx), .val (.long vb), .second, .val .null, .val (.double ms), .second, .val (.int own_mk), .val (.int (own_i2 sx vb))] [(.int (lcmpW (x_slots ((((3 : Int32) * (own_i2 sx vb)) + (1 : Int32))).toNatClampNeg) vb))])) _
                refine XS.ifNo X399.here hx rfl (hb hby d5_65) rfl ((if0 _ _).trans (teq (own_third hst (own_nst hc57 (Or.inr hc129)) (own_nst hc150 (Or.inl hc218)) hc332).2).2) ?_
                show Steps p.tables e below (T399.setTop (mkF m 68 #[.val (.ref a1), .val (.int sx), .val (.long vb), .second, .val .null, .val (.double ms), .second, .val (.int own_mk), .val (.int (own_i2 sx vb))] [])) _
                refine XS.aloadN X399.here hx rfl (hb hby d5_68) rfl rfl ?_
                show Steps p.tables e below (T399.setTop (mkF m 69 #[.val (.ref a1), .val (.int sx), .val (.long vb), .second, .val .null, .val (.double ms), .second, .val (.int own_mk), .val (.int (own_i2 sx vb))] [(.ref a1)])) _
                refine XS.iload X399.here hx rfl (hb hby d5_69) rfl ?_
                show Steps p.tables e below (T399.setTop (mkF m 71 #[.val (.ref a1), .val (.int sx), .val (.long vb), .second, .val .null, .val (.double ms), .second, .val (.int own_mk), .val (.int (own_i2 sx vb))] [(.int (own_i2 sx vb)), (.ref a1)])) _
                refine XS.aload X399.here hx rfl (hb hby d5_71) rfl rfl ?_
                show Steps p.tables e below (T399.setTop (mkF m 73 #[.val (.ref a1), .val (.int sx), .val (.long vb), .second, .val .null, .val (.double ms), .second, .val (.int own_mk), .val (.int (own_i2 sx vb))] [.null, (.int (own_i2 sx vb)), (.ref a1)])) _
                refine st401.trans ?_
                show Steps p.tables e below (T401.setTop (mkF m 76 #[.val (.ref a1), .val (.int sx), .val (.long vb), .second, .val .null, .val (.double ms), .second, .val (.int own_mk), .val (.int (own_i2 sx vb))] [(.int (f12 (own_i2 sx vb)))])) _
                refine XS.ifNo X401.here hx rfl (hb hby d5_76) rfl ((if0 _ _).trans (feq (own_f12 _)).1) ?_
                show Steps p.tables e below (T401.setTop (mkF m 79 #[.val (.ref a1), .val (.int sx), .val (.long vb), .second, .val .null, .val (.double ms), .second, .val (.int own_mk), .val (.int (own_i2 sx vb))] [])) _
                refine XS.aloadN X401.here hx rfl (hb hby d5_79) rfl rfl ?_
                show Steps p.tables e below (T401.setTop (mkF m 80 #[.val (.ref a1), .val (.int sx), .val (.long vb), .second, .val .null, .val (.double ms), .second, .val (.int own_mk), .val (.int (own_i2 sx vb))] [(.ref a1)])) _
                refine st402 _ ?_
                show Steps p.tables e below (T402.setTop (mkF m 83 #[.val (.ref a1), .val (.int sx), .val (.long vb), .second, .val .null, .val (.double ms), .second, .val (.int own_mk), .val (.int (own_i2 sx vb))] [(.ref z_slots)])) _
                refine XS.iconst X402.here hx rfl (hb hby d5_83) ?_
                show Steps p.tables e below (T402.setTop (mkF m 84 #[.val (.ref a1), .val (.int sx), .val (.long vb), .second, .val .null, .val (.double ms), .second, .val (.int own_mk), .val (.int (own_i2 sx vb))] [(.int (3 : Int32)), (.ref z_slots)])) _
                refine XS.iload X402.here hx rfl (hb hby d5_84) rfl ?_
                show Steps p.tables e below (T402.setTop (mkF m 86 #[.val (.ref a1), .val (.int sx), .val (.long vb), .second, .val .null, .val (.double ms), .second, .val (.int own_mk), .val (.int (own_i2 sx vb))] [(.int (own_i2 sx vb)), (.int (3 : Int32)), (.ref z_slots)])) _
                refine XS.imul X402.here hx rfl (hb hby d5_86) rfl ?_
                show Steps p.tables e below (T402.setTop (mkF m 87 #[.val (.ref a1), .val (.int sx), .val (.long vb), .second, .val .null, .val (.double ms), .second, .val (.int own_mk), .val (.int (own_i2 sx vb))] [(.int ((3 : Int32) * (own_i2 sx vb))), (.ref z_slots)])) _
                refine XS.iconst X402.here hx rfl (hb hby d5_87) ?_
                show Steps p.tables e below (T402.setTop (mkF m 88 #[.val (.ref a1), .val (.int sx), .val (.long vb), .second, .val .null, .val (.double ms), .second, .val (.int own_mk), .val (.int (own_i2 sx vb))] [(.int (2 : Int32)), (.int ((3 : Int32) * (own_i2 sx vb))), (.ref z_slots)])) _
                refine XS.iadd X402.here hx rfl (hb hby d5_88) rfl ?_
                show Steps p.tables e below (T402.setTop (mkF m 89 #[.val (.ref a1), .val (.int sx), .val (.long vb), .second, .val .null, .val (.double ms), .second, .val (.int own_mk), .val (.int (own_i2 sx vb))] [(.int (((3 : Int32) * (own_i2 sx vb)) + (2 : Int32))), (.ref z_slots)])) _
                refine XS.aloadN X402.here hx rfl (hb hby d5_89) rfl rfl ?_
                show Steps p.tables e below (T402.setTop (mkF m 90 #[.val (.ref a1), .val (.int sx), .val (.long vb), .second, .val .null, .val (.double ms), .second, .val (.int own_mk), .val (.int (own_i2 sx vb))] [(.ref a1), (.int (((3 : Int32) * (own_i2 sx vb)) + (2 : Int32))), (.ref z_slots)])) _
                refine st403 _ ?_
                show Steps p.tables e below (T403.setTop (mkF m 93 #[.val (.ref a1), .val (.int sx), .val (.long vb), .second, .val .null, .val (.double ms), .second, .val (.int own_mk), .val (.int (own_i2 sx vb))] [(.ref z_slots), (.int (((3 : Int32) * (own_i2 sx vb)) + (2 : Int32))), (.ref z_slots)])) _
                refine XS.iconst X403.here hx rfl (hb hby d5_93) ?_
                show Steps p.tables e below (T403.setTop (mkF m 94 #[.val (.ref a1), .val (.int sx), .val (.long vb), .second, .val .null, .val (.double ms), .second, .val (.int own_mk), .val (.int (own_i2 sx vb))] [(.int (3 : Int32)), (.ref z_slots), (.int (((3 : Int32) * (own_i2 sx vb)) + (2 : Int32))), (.ref z_slots)])) _
                refine XS.iload X403.here hx rfl (hb hby d5_94) rfl ?_
                show Steps p.tables e below (T403.setTop (mkF m 96 #[.val (.ref a1), .val (.int sx), .val (.long vb), .second, .val .null, .val (.double ms), .second, .val (.int own_mk), .val (.int (own_i2 sx vb))] [(.int (own_i2 sx vb)), (.int (3 : Int32)), (.ref z_slots), (.int (((3 : Int32) * (own_i2 sx vb)) + (2 : Int32))), (.ref z_slots)])) _
                refine XS.imul X403.here hx rfl (hb hby d5_96) rfl ?_
                show Steps p.tables e below (T403.setTop (mkF m 97 #[.val (.ref a1), .val (.int sx), .val (.long vb), .second, .val .null, .val (.double ms), .second, .val (.int own_mk), .val (.int (own_i2 sx vb))] [(.int ((3 : Int32) * (own_i2 sx vb))), (.ref z_slots), (.int (((3 : Int32) * (own_i2 sx vb)) + (2 : Int32))), (.ref z_slots)])) _
                refine XS.iconst X403.here hx rfl (hb hby d5_97) ?_
                show Steps p.tables e below (T403.setTop (mkF m 98 #[.val (.ref a1), .val (.int sx), .val (.long vb), .second, .val .null, .val (.double ms), .second, .val (.int own_mk), .val (.int (own_i2 sx vb))] [(.int (2 : Int32)), (.int ((3 : Int32) * (own_i2 sx vb))), (.ref z_slots), (.int (((3 : Int32) * (own_i2 sx vb)) + (2 : Int32))), (.ref z_slots)])) _
                refine XS.iadd X403.here hx rfl (hb hby d5_98) rfl ?_
                show Steps p.tables e below (T403.setTop (mkF m 99 #[.val (.ref a1), .val (.int sx), .val (.long vb), .second, .val .null, .val (.double ms), .second, .val (.int own_mk), .val (.int (own_i2 sx vb))] [(.int (((3 : Int32) * (own_i2 sx vb)) + (2 : Int32))), (.ref z_slots), (.int (((3 : Int32) * (own_i2 sx vb)) + (2 : Int32))), (.ref z_slots)])) _
                refine X403.laload hx (j := (((3 : Int32) * (own_i2 sx vb)) + (2 : Int32))) (v := (.long (x_slots ((((3 : Int32) * (own_i2 sx vb)) + (2 : Int32))).toNatClampNeg))) (by rw [e403]; exact Ar404.1) (State.isArrayOf_alike hZ.alike Ar404.2.1) Ar404.2.2 hin404 (Has.at Ha404 hin404 (own_rd x_slots (own_b2 (own_r2 sx vb)))) (g := (mkF m 99 #[.val (.ref a1), .val (.int sx), .val (.long vb), .second, .val .null, .val (.double ms), .second, .val (.int own_mk), .val (.int (own_i2 sx vb))] [(.int (((3 : Int32) * (own_i2 sx vb)) + (2 : Int32))), (.ref z_slots), (.int (((3 : Int32) * (own_i2 sx vb)) + (2 : Int32))), (.ref z_slots)])) rfl rfl (hb hby d5_99) _ ?_
                show Steps p.tables e below (T403.setTop (mkF m 100 #[.val (.ref a1), .val (.int sx), .val (.long vb), .second, .val .null, .val (.double ms), .second, .val (.int own_mk), .val (.int (own_i2 sx vb))] [(.long (x_slots ((((3 : Int32) * (own_i2 sx vb)) + (2 : Int32))).toNatClampNeg)), (.int (((3 : Int32) * (own_i2 sx vb)) + (2 : Int32))), (.ref z_slots)])) _
                refine st405 _ ?_
                show Steps p.tables e below (T405.setTop (mkF m 103 #[.val (.ref a1), .val (.int sx), .val (.long vb), .second, .val .null, .val (.double ms), .second, .val (.int own_mk), .val (.int (own_i2 sx vb))] [(.double (((x_slots ((((3 : Int32) * (own_i2 sx vb)) + (2 : Int32))).toNatClampNeg)).toUInt64)), (.int (((3 : Int32) * (own_i2 sx vb)) + (2 : Int32))), (.ref z_slots)])) _
                refine XS.dload X405.here hx rfl (hb hby d5_103) rfl ?_
                show Steps p.tables e below (T405.setTop (mkF m 105 #[.val (.ref a1), .val (.int sx), .val (.long vb), .second, .val .null, .val (.double ms), .second, .val (.int own_mk), .val (.int (own_i2 sx vb))] [(.double ms), (.double (((x_slots ((((3 : Int32) * (own_i2 sx vb)) + (2 : Int32))).toNatClampNeg)).toUInt64)), (.int (((3 : Int32) * (own_i2 sx vb)) + (2 : Int32))), (.ref z_slots)])) _
                refine XS.daddS X405.here hx rfl (hb hby d5_105) rfl (Jvm.Free.Fl.dadd_out (hM _ (own_md (own_r2 sx vb))) hms) rfl ?_
                show Steps p.tables e below (T405.setTop (mkF m 106 #[.val (.ref a1), .val (.int sx), .val (.long vb), .second, .val .null, .val (.double ms), .second, .val (.int own_mk), .val (.int (own_i2 sx vb))] [(.double (FP.dadd (((x_slots ((((3 : Int32) * (own_i2 sx vb)) + (2 : Int32))).toNatClampNeg)).toUInt64) ms)), (.int (((3 : Int32) * (own_i2 sx vb)) + (2 : Int32))), (.ref z_slots)])) _
                refine st406 _ ?_
                show Steps p.tables e below (T406.setTop (mkF m 109 #[.val (.ref a1), .val (.int sx), .val (.long vb), .second, .val .null, .val (.double ms), .second, .val (.int own_mk), .val (.int (own_i2 sx vb))] [(.long (((FP.dadd (((x_slots ((((3 : Int32) * (own_i2 sx vb)) + (2 : Int32))).toNatClampNeg)).toUInt64) ms)).toInt64)), (.int (((3 : Int32) * (own_i2 sx vb)) + (2 : Int32))), (.ref z_slots)])) _
                refine st408 _ ?_
                show Steps p.tables e below (T408.setTop (mkF m 110 #[.val (.ref a1), .val (.int sx), .val (.long vb), .second, .val .null, .val (.double ms), .second, .val (.int own_mk), .val (.int (own_i2 sx vb))] [])) _
                exact X408.returnOut hx Bd.returns (hb hby d5_110) hr
              · show Q5 Z a1 sx vb ms z_slots z_entrySlots z_size k_slots x_slots k_entrySlots x_entrySlots h0 n0 _ T408.heap _
                rw [e408]
                exact ⟨rfl, N415, K416, f409, f410, f411, by rw [hf_size]; exact f412, f413, by rw [hf_slots]; exact fa408, by rw [hf_entrySlots]; exact f414⟩
    · obtain ⟨T418, X418, e418, st418⟩ := getF X122 hx hZ hown (host := "") (Or.inl (hw _ (List.mem_of_getElem? (i := 10) rfl))) Via.refl e122 F_slots_a1 (g := (mkF m 22 #[.val (.ref a1), .val (.int sx), .val (.long vb), .second, .val .null, .val (.double ms), .second, .val (.int own_mk), .val (.int (own_i1 sx vb))] [(.ref a1)])) rfl rfl (hb hby d5_22)
      obtain ⟨cl419, Ar419, qa419, Sa419, Na419, Ha419, Ga419⟩ := id V_slots
      have hin419 : ¬ (((3 : Int32) * (own_i1 sx vb)) < 0 ∨ cl419.slots.size ≤ (((3 : Int32) * (own_i1 sx vb))).toNatClampNeg) := inb_of Sa419 (own_b0 (own_r1 sx vb))
      have S420 : ∀ t, Steps p.tables e below (T418.setTop (mkF m 32 #[.val (.ref a1), .val (.int sx), .val (.long vb), .second, .val .null, .val (.double ms), .second, .val (.int own_mk), .val (.int (own_i1 sx vb))] [(.int (lcmpW (x_slots (((3 : Int32) * (own_i1 sx vb))).toNatClampNeg) (0 : Int64)))])) t → Steps p.tables e below (s₁.setTop (entryFrame m #[(.ref a1), (.int sx), (.long vb), .null, (.double ms)] 9)) t := by
        intro t k
        refine S124 t ?_
        refine XS.ifYes X122.here hx rfl (pc0 := 49) (pc' := 111) rfl (hb hby d5_49) rfl ((if0 _ _).trans (feq hc125).2) (by decide) (by decide) ?_
        show Steps p.tables e below (T122.setTop (mkF m 111 #[.val (.ref a1), .val (.int sx), .val (.long vb), .second, .val .null, .val (.double ms), .second, .val (.int own_mk), .val (.int (own_i0 sx vb))] [])) _
        refine XS.iload X122.here hx rfl (hb hby d5_111) rfl ?_
        show Steps p.tables e below (T122.setTop (mkF m 113 #[.val (.ref a1), .val (.int sx), .val (.long vb), .second, .val .null, .val (.double ms), .second, .val (.int own_mk), .val (.int (own_i0 sx vb))] [(.int (own_i0 sx vb))])) _
        refine XS.iconst X122.here hx rfl (hb hby d5_113) ?_
        show Steps p.tables e below (T122.setTop (mkF m 114 #[.val (.ref a1), .val (.int sx), .val (.long vb), .second, .val .null, .val (.double ms), .second, .val (.int own_mk), .val (.int (own_i0 sx vb))] [(.int (1 : Int32)), (.int (own_i0 sx vb))])) _
        refine XS.iadd X122.here hx rfl (hb hby d5_114) rfl ?_
        show Steps p.tables e below (T122.setTop (mkF m 115 #[.val (.ref a1), .val (.int sx), .val (.long vb), .second, .val .null, .val (.double ms), .second, .val (.int own_mk), .val (.int (own_i0 sx vb))] [(.int ((own_i0 sx vb) + (1 : Int32)))])) _
        refine XS.iload X122.here hx rfl (hb hby d5_115) rfl ?_
        show Steps p.tables e below (T122.setTop (mkF m 117 #[.val (.ref a1), .val (.int sx), .val (.long vb), .second, .val .null, .val (.double ms), .second, .val (.int own_mk), .val (.int (own_i0 sx vb))] [(.int own_mk), (.int ((own_i0 sx vb) + (1 : Int32)))])) _
        refine XS.iand X122.here hx rfl (hb hby d5_117) rfl ?_
        show Steps p.tables e below (T122.setTop (mkF m 118 #[.val (.ref a1), .val (.int sx), .val (.long vb), .second, .val .null, .val (.double ms), .second, .val (.int own_mk), .val (.int (own_i0 sx vb))] [(.int (own_i1 sx vb))])) _
        refine XS.istore X122.here hx rfl (hb hby d5_118) rfl (l' := #[.val (.ref a1), .val (.int sx), .val (.long vb), .second, .val .null, .val (.double ms), .second, .val (.int own_mk), .val (.int (own_i1 sx vb))]) rfl ?_
        show Steps p.tables e below (T122.setTop (mkF m 120 #[.val (.ref a1), .val (.int sx), .val (.long vb), .second, .val .null, .val (.double ms), .second, .val (.int own_mk), .val (.int (own_i1 sx vb))] [])) _
        refine XS.goto X122.here hx rfl (pc0 := 120) (pc' := 21) rfl (hb hby d5_120) (by decide) (by decide) ?_
        show Steps p.tables e below (T122.setTop (mkF m 21 #[.val (.ref a1), .val (.int sx), .val (.long vb), .second, .val .null, .val (.double ms), .second, .val (.int own_mk), .val (.int (own_i1 sx vb))] [])) _
        refine XS.aloadN X122.here hx rfl (hb hby d5_21) rfl rfl ?_
        show Steps p.tables e below (T122.setTop (mkF m 22 #[.val (.ref a1), .val (.int sx), .val (.long vb), .second, .val .null, .val (.double ms), .second, .val (.int own_mk), .val (.int (own_i1 sx vb))] [(.ref a1)])) _
        refine st418 _ ?_
        show Steps p.tables e below (T418.setTop (mkF m 25 #[.val (.ref a1), .val (.int sx), .val (.long vb), .second, .val .null, .val (.double ms), .second, .val (.int own_mk), .val (.int (own_i1 sx vb))] [(.ref z_slots)])) _
        refine XS.iconst X418.here hx rfl (hb hby d5_25) ?_
        show Steps p.tables e below (T418.setTop (mkF m 26 #[.val (.ref a1), .val (.int sx), .val (.long vb), .second, .val .null, .val (.double ms), .second, .val (.int own_mk), .val (.int (own_i1 sx vb))] [(.int (3 : Int32)), (.ref z_slots)])) _
        refine XS.iload X418.here hx rfl (hb hby d5_26) rfl ?_
        show Steps p.tables e below (T418.setTop (mkF m 28 #[.val (.ref a1), .val (.int sx), .val (.long vb), .second, .val .null, .val (.double ms), .second, .val (.int own_mk), .val (.int (own_i1 sx vb))] [(.int (own_i1 sx vb)), (.int (3 : Int32)), (.ref z_slots)])) _
        refine XS.imul X418.here hx rfl (hb hby d5_28) rfl ?_
        show Steps p.tables e below (T418.setTop (mkF m 29 #[.val (.ref a1), .val (.int sx), .val (.long vb), .second, .val .null, .val (.double ms), .second, .val (.int own_mk), .val (.int (own_i1 sx vb))] [(.int ((3 : Int32) * (own_i1 sx vb))), (.ref z_slots)])) _
        refine X418.laload hx (j := ((3 : Int32) * (own_i1 sx vb))) (v := (.long (x_slots (((3 : Int32) * (own_i1 sx vb))).toNatClampNeg))) (by rw [e418]; exact Ar419.1) (State.isArrayOf_alike hZ.alike Ar419.2.1) Ar419.2.2 hin419 (Has.at Ha419 hin419 (own_rd x_slots (own_b0 (own_r1 sx vb)))) (g := (mkF m 29 #[.val (.ref a1), .val (.int sx), .val (.long vb), .second, .val .null, .val (.double ms), .second, .val (.int own_mk), .val (.int (own_i1 sx vb))] [(.int ((3 : Int32) * (own_i1 sx vb))), (.ref z_slots)])) rfl rfl (hb hby d5_29) _ ?_
        show Steps p.tables e below (T418.setTop (mkF m 30 #[.val (.ref a1), .val (.int sx), .val (.long vb), .second, .val .null, .val (.double ms), .second, .val (.int own_mk), .val (.int (own_i1 sx vb))] [(.long (x_slots (((3 : Int32) * (own_i1 sx vb))).toNatClampNeg))])) _
        refine XS.lconst X418.here hx rfl (hb hby d5_30) ?_
        show Steps p.tables e below (T418.setTop (mkF m 31 #[.val (.ref a1), .val (.int sx), .val (.long vb), .second, .val .null, .val (.double ms), .second, .val (.int own_mk), .val (.int (own_i1 sx vb))] [(.long (0 : Int64)), (.long (x_slots (((3 : Int32) * (own_i1 sx vb))).toNatClampNeg))])) _
        refine XS.lcmp X418.here hx rfl (hb hby d5_31) rfl ?_
        show Steps p.tables e below (T418.setTop (mkF m 32 #[.val (.ref a1), .val (.int sx), .val (.long vb), .second, .val .null, .val (.double ms), .second, .val (.int own_mk), .val (.int (own_i1 sx vb))] [(.int (lcmpW (x_slots (((3 : Int32) * (own_i1 sx vb))).toNatClampNeg) (0 : Int64)))])) _
        exact k
      by_cases hc421 : (lcmpW (x_slots (((3 : Int32) * (own_i1 sx vb))).toNatClampNeg) (0 : Int64)) = (0 : Int32)
      · obtain ⟨T422, X422, e422, st422⟩ := getF X418 hx hZ hown (host := "") (Or.inl (hw _ (List.mem_of_getElem? (i := 20) rfl))) Via.refl e418 F_size_a1 (g := (mkF m 124 #[.val (.ref a1), .val (.int sx), .val (.long vb), .second, .val .null, .val (.double ms), .second, .val (.int own_mk), .val (.int (own_i1 sx vb))] [(.ref a1)])) rfl rfl (hb hby d5_124)
        obtain ⟨T423, X423, e423, st423⟩ := getF X422 hx hZ hown (host := "") (Or.inl (hw _ (List.mem_of_getElem? (i := 13) rfl))) Via.refl e422 F_entrySlots_a1 (g := (mkF m 128 #[.val (.ref a1), .val (.int sx), .val (.long vb), .second, .val .null, .val (.double ms), .second, .val (.int own_mk), .val (.int (own_i1 sx vb))] [(.ref a1), (.int z_size)])) rfl rfl (hb hby d5_128)
        obtain ⟨cl424, Ar424, qa424, Sa424, Na424, Ha424, Ga424⟩ := id V_entrySlots
        obtain ⟨T425, X425, e425, st425⟩ := getF X423 hx hZ hown (host := "") (Or.inl (hw _ (List.mem_of_getElem? (i := 10) rfl))) Via.refl e423 F_slots_a1 (g := (mkF m 151 #[.val (.ref a1), .val (.int sx), .val (.long vb), .second, .val .null, .val (.double ms), .second, .val (.int own_mk), .val (.int (own_i1 sx vb))] [(.ref a1)])) rfl rfl (hb hby d5_151)
        obtain ⟨cl426, Ar426, qa426, Sa426, Na426, Ha426, Ga426⟩ := id V_slots
        have hin426 : ¬ (((3 : Int32) * (own_i1 sx vb)) < 0 ∨ cl426.slots.size ≤ (((3 : Int32) * (own_i1 sx vb))).toNatClampNeg) := inb_of Sa426 (own_b0 (own_r1 sx vb))
        obtain ⟨T427, h427, X427, e427, W427, st427⟩ := stJ X425 hx hZ e425 Ar426 (j := ((3 : Int32) * (own_i1 sx vb))) hin426 (g := (mkF m 162 #[.val (.ref a1), .val (.int sx), .val (.long vb), .second, .val .null, .val (.double ms), .second, .val (.int own_mk), .val (.int (own_i1 sx vb))] [(.long (sx.toInt64 + (1 : Int64))), (.int ((3 : Int32) * (own_i1 sx vb))), (.ref z_slots)])) rfl rfl (hb hby d5_162)
        have fa427 : Arv Z h427 z_slots k_slots .long (96 : Int32) (own_L (own_up x_slots (((3 : Int32) * (own_i1 sx vb))).toNatClampNeg (sx.toInt64 + (1 : Int64)))) (.long (0 : Int64)) := (Arv.set Ar426 qa426 Sa426 Na426 Ha426 Ga426 rfl W427 (((3 : Int32) * (own_i1 sx vb))).toNatClampNeg rfl (own_Ll x_slots (own_ix (own_b0 (own_r1 sx vb))))).pad (own_Lset x_slots (own_ix (own_b0 (own_r1 sx vb))) (sx.toInt64 + (1 : Int64)))
        have f428 : Exa Z h427 a1 "com/example/ketproof/ketproof/MassTable" := E1.wr W427
        have f429 : Fld Z h427 a1 "com/example/ketproof/ketproof/MassTable" "slots" "[J" (.ref z_slots) := F_slots_a1.other W427 (Or.inl ne_slots)
        have f430 : Fld Z h427 a1 "com/example/ketproof/ketproof/MassTable" "entrySlots" "[I" (.ref z_entrySlots) := F_entrySlots_a1.other W427 (Or.inl ne_slots)
        have f431 : Fld Z h427 a1 "com/example/ketproof/ketproof/MassTable" "size" "I" (.int z_size) := F_size_a1.other W427 (Or.inl ne_slots)
        have f432 : Fld Z h427 a1 "com/example/ketproof/ketproof/MassTable" "decimals" "[Ljava/math/BigDecimal;" .null := F_decimals_a1.other W427 (Or.inl ne_slots)
        have f433 : Arv Z h427 z_entrySlots k_entrySlots .int (16 : Int32) (own_E x_entrySlots) (.int (0 : Int32)) := V_entrySlots.other W427 ne_entrySlots_slots
        have N434 := Fr.snoc X427 N53 g_slots
        have K435 : Keep h0 h427 [a1, z_slots, z_entrySlots] := (Keep.refl h0 [a1, z_slots, z_entrySlots]).wr W427 (Or.inl (List.mem_of_getElem? (i := 1) rfl))
        have Z436 : n0 ≤ h427.size := Nat.le_trans Z0 (Keep.of_wr W427).1
        obtain ⟨T437, X437, e437, st437⟩ := getF X427 hx hZ hown (host := "") (Or.inl (hw _ (List.mem_of_getElem? (i := 10) rfl))) Via.refl e427 f429 (g := (mkF m 164 #[.val (.ref a1), .val (.int sx), .val (.long vb), .second, .val .null, .val (.double ms), .second, .val (.int own_mk), .val (.int (own_i1 sx vb))] [(.ref a1)])) rfl rfl (hb hby d5_164)
        obtain ⟨cl438, Ar438, qa438, Sa438, Na438, Ha438, Ga438⟩ := id fa427
        have hin438 : ¬ ((((3 : Int32) * (own_i1 sx vb)) + (1 : Int32)) < 0 ∨ cl438.slots.size ≤ ((((3 : Int32) * (own_i1 sx vb)) + (1 : Int32))).toNatClampNeg) := inb_of Sa438 (own_b1 (own_r1 sx vb))
        obtain ⟨T439, h439, X439, e439, W439, st439⟩ := stJ X437 hx hZ e437 Ar438 (j := (((3 : Int32) * (own_i1 sx vb)) + (1 : Int32))) hin438 (g := (mkF m 174 #[.val (.ref a1), .val (.int sx), .val (.long vb), .second, .val .null, .val (.double ms), .second, .val (.int own_mk), .val (.int (own_i1 sx vb))] [(.long vb), (.int (((3 : Int32) * (own_i1 sx vb)) + (1 : Int32))), (.ref z_slots)])) rfl rfl (hb hby d5_174)
        have fa439 : Arv Z h439 z_slots k_slots .long (96 : Int32) (own_L (own_up (own_up x_slots (((3 : Int32) * (own_i1 sx vb))).toNatClampNeg (sx.toInt64 + (1 : Int64))) ((((3 : Int32) * (own_i1 sx vb)) + (1 : Int32))).toNatClampNeg vb)) (.long (0 : Int64)) := (Arv.set Ar438 qa438 Sa438 Na438 Ha438 Ga438 rfl W439 ((((3 : Int32) * (own_i1 sx vb)) + (1 : Int32))).toNatClampNeg rfl (own_Ll (own_up x_slots (((3 : Int32) * (own_i1 sx vb))).toNatClampNeg (sx.toInt64 + (1 : Int64))) (own_ix (own_b1 (own_r1 sx vb))))).pad (own_Lset (own_up x_slots (((3 : Int32) * (own_i1 sx vb))).toNatClampNeg (sx.toInt64 + (1 : Int64))) (own_ix (own_b1 (own_r1 sx vb))) vb)
        have f440 : Exa Z h439 a1 "com/example/ketproof/ketproof/MassTable" := f428.wr W439
        have f441 : Fld Z h439 a1 "com/example/ketproof/ketproof/MassTable" "slots" "[J" (.ref z_slots) := f429.other W439 (Or.inl ne_slots)
        have f442 : Fld Z h439 a1 "com/example/ketproof/ketproof/MassTable" "entrySlots" "[I" (.ref z_entrySlots) := f430.other W439 (Or.inl ne_slots)
        have f443 : Fld Z h439 a1 "com/example/ketproof/ketproof/MassTable" "size" "I" (.int z_size) := f431.other W439 (Or.inl ne_slots)
        have f444 : Fld Z h439 a1 "com/example/ketproof/ketproof/MassTable" "decimals" "[Ljava/math/BigDecimal;" .null := f432.other W439 (Or.inl ne_slots)
        have f445 : Arv Z h439 z_entrySlots k_entrySlots .int (16 : Int32) (own_E x_entrySlots) (.int (0 : Int32)) := f433.other W439 ne_entrySlots_slots
        have N446 := Fr.snoc X439 N434 g_slots
        have K447 : Keep h0 h439 [a1, z_slots, z_entrySlots] := K435.wr W439 (Or.inl (List.mem_of_getElem? (i := 1) rfl))
        have Z448 : n0 ≤ h439.size := Nat.le_trans Z436 (Keep.of_wr W439).1
        obtain ⟨T449, X449, e449, st449⟩ := getF X439 hx hZ hown (host := "") (Or.inl (hw _ (List.mem_of_getElem? (i := 10) rfl))) Via.refl e439 f441 (g := (mkF m 176 #[.val (.ref a1), .val (.int sx), .val (.long vb), .second, .val .null, .val (.double ms), .second, .val (.int own_mk), .val (.int (own_i1 sx vb))] [(.ref a1)])) rfl rfl (hb hby d5_176)
        obtain ⟨vm450, X450, st450⟩ := X449.doubleToRawLongBits hx hown (mvT hZ (hw _ (List.mem_of_getElem? (i := 27) rfl))) (mvT hZ (hw _ (List.mem_of_getElem? (i := 30) rfl))) (mvT hZ (hw _ (List.mem_of_getElem? (i := 28) rfl))) (mvT hZ (hw _ (List.mem_of_getElem? (i := 29) rfl))) (g := (mkF m 187 #[.val (.ref a1), .val (.int sx), .val (.long vb), .second, .val .null, .val (.double ms), .second, .val (.int own_mk), .val (.int (own_i1 sx vb))] [(.double ms), (.int (((3 : Int32) * (own_i1 sx vb)) + (2 : Int32))), (.ref z_slots)])) rfl (by rw [hml]; rfl) (rest := [(.int (((3 : Int32) * (own_i1 sx vb)) + (2 : Int32))), (.ref z_slots)]) (b := ms) rfl (hb hby d5_187) (by decide) (by show 2 * 0 + 2 + (nativeFrameWords "java/lang/Double" "doubleToRawLongBits" 2 + 11) ≤ _; decide)
        obtain ⟨T450, hT450⟩ : ∃ z, z = T449.setVm vm450 := ⟨_, rfl⟩
        rw [← hT450] at X450 st450
        have e450 : T450.heap = h439 := by rw [hT450]; exact e449
        obtain ⟨cl451, Ar451, qa451, Sa451, Na451, Ha451, Ga451⟩ := id fa439
        have hin451 : ¬ ((((3 : Int32) * (own_i1 sx vb)) + (2 : Int32)) < 0 ∨ cl451.slots.size ≤ ((((3 : Int32) * (own_i1 sx vb)) + (2 : Int32))).toNatClampNeg) := inb_of Sa451 (own_b2 (own_r1 sx vb))
        obtain ⟨T452, h452, X452, e452, W452, st452⟩ := stJ X450 hx hZ e450 Ar451 (j := (((3 : Int32) * (own_i1 sx vb)) + (2 : Int32))) hin451 (g := (mkF m 190 #[.val (.ref a1), .val (.int sx), .val (.long vb), .second, .val .null, .val (.double ms), .second, .val (.int own_mk), .val (.int (own_i1 sx vb))] [(.long ((ms).toInt64)), (.int (((3 : Int32) * (own_i1 sx vb)) + (2 : Int32))), (.ref z_slots)])) rfl rfl (hb hby d5_190)
        have fa452 : Arv Z h452 z_slots k_slots .long (96 : Int32) (own_L (own_up (own_up (own_up x_slots (((3 : Int32) * (own_i1 sx vb))).toNatClampNeg (sx.toInt64 + (1 : Int64))) ((((3 : Int32) * (own_i1 sx vb)) + (1 : Int32))).toNatClampNeg vb) ((((3 : Int32) * (own_i1 sx vb)) + (2 : Int32))).toNatClampNeg ((ms).toInt64))) (.long (0 : Int64)) := (Arv.set Ar451 qa451 Sa451 Na451 Ha451 Ga451 rfl W452 ((((3 : Int32) * (own_i1 sx vb)) + (2 : Int32))).toNatClampNeg rfl (own_Ll (own_up (own_up x_slots (((3 : Int32) * (own_i1 sx vb))).toNatClampNeg (sx.toInt64 + (1 : Int64))) ((((3 : Int32) * (own_i1 sx vb)) + (1 : Int32))).toNatClampNeg vb) (own_ix (own_b2 (own_r1 sx vb))))).pad (own_Lset (own_up (own_up x_slots (((3 : Int32) * (own_i1 sx vb))).toNatClampNeg (sx.toInt64 + (1 : Int64))) ((((3 : Int32) * (own_i1 sx vb)) + (1 : Int32))).toNatClampNeg vb) (own_ix (own_b2 (own_r1 sx vb))) ((ms).toInt64))
        have f453 : Exa Z h452 a1 "com/example/ketproof/ketproof/MassTable" := f440.wr W452
        have f454 : Fld Z h452 a1 "com/example/ketproof/ketproof/MassTable" "slots" "[J" (.ref z_slots) := f441.other W452 (Or.inl ne_slots)
        have f455 : Fld Z h452 a1 "com/example/ketproof/ketproof/MassTable" "entrySlots" "[I" (.ref z_entrySlots) := f442.other W452 (Or.inl ne_slots)
        have f456 : Fld Z h452 a1 "com/example/ketproof/ketproof/MassTable" "size" "I" (.int z_size) := f443.other W452 (Or.inl ne_slots)
        have f457 : Fld Z h452 a1 "com/example/ketproof/ketproof/MassTable" "decimals" "[Ljava/math/BigDecimal;" .null := f444.other W452 (Or.inl ne_slots)
        have f458 : Arv Z h452 z_entrySlots k_entrySlots .int (16 : Int32) (own_E x_entrySlots) (.int (0 : Int32)) := f445.other W452 ne_entrySlots_slots
        have N459 := Fr.snoc X452 N446 g_slots
        have K460 : Keep h0 h452 [a1, z_slots, z_entrySlots] := K447.wr W452 (Or.inl (List.mem_of_getElem? (i := 1) rfl))
        have Z461 : n0 ≤ h452.size := Nat.le_trans Z448 (Keep.of_wr W452).1
        obtain ⟨T462, X462, e462, st462⟩ := getF X452 hx hZ hown (host := "") (Or.inl (hw _ (List.mem_of_getElem? (i := 13) rfl))) Via.refl e452 f455 (g := (mkF m 227 #[.val (.ref a1), .val (.int sx), .val (.long vb), .second, .val .null, .val (.double ms), .second, .val (.int own_mk), .val (.int (own_i1 sx vb))] [(.ref a1)])) rfl rfl (hb hby d5_227)
        obtain ⟨T463, X463, e463, st463⟩ := getF X462 hx hZ hown (host := "") (Or.inl (hw _ (List.mem_of_getElem? (i := 20) rfl))) Via.refl e462 f456 (g := (mkF m 232 #[.val (.ref a1), .val (.int sx), .val (.long vb), .second, .val .null, .val (.double ms), .second, .val (.int own_mk), .val (.int (own_i1 sx vb))] [(.ref a1), (.ref a1), (.ref z_entrySlots)])) rfl rfl (hb hby d5_232)
        obtain ⟨T464, h464, X464, e464, W464, st464⟩ := putF X463 hx hZ hown (host := "") (Or.inl (hw _ (List.mem_of_getElem? (i := 20) rfl))) Via.refl e463 f456 f453 (Or.inl (hw _ (List.mem_of_getElem? (i := 21) rfl))) (hw _ (List.mem_of_getElem? (i := 1) rfl)) (ty := .int) (by decide) rfl rfl (g := (mkF m 238 #[.val (.ref a1), .val (.int sx), .val (.long vb), .second, .val .null, .val (.double ms), .second, .val (.int own_mk), .val (.int (own_i1 sx vb))] [(.int (z_size + (1 : Int32))), (.ref a1), (.int z_size), (.ref z_entrySlots)])) rfl rfl (hb hby d5_238)
        have f465 : Exa Z h464 a1 "com/example/ketproof/ketproof/MassTable" := f453.wr W464
        have f466 : Fld Z h464 a1 "com/example/ketproof/ketproof/MassTable" "slots" "[J" (.ref z_slots) := f454.other W464 (Or.inr (slot_ne (Or.inl (hw _ (List.mem_of_getElem? (i := 11) rfl))) (Or.inl (hw _ (List.mem_of_getElem? (i := 21) rfl))) (by decide) (t := (.array .long)) (t' := .int) (by decide) (by decide)))
        have f467 : Fld Z h464 a1 "com/example/ketproof/ketproof/MassTable" "entrySlots" "[I" (.ref z_entrySlots) := f455.other W464 (Or.inr (slot_ne (Or.inl (hw _ (List.mem_of_getElem? (i := 14) rfl))) (Or.inl (hw _ (List.mem_of_getElem? (i := 21) rfl))) (by decide) (t := (.array .int)) (t' := .int) (by decide) (by decide)))
        have f468 : Fld Z h464 a1 "com/example/ketproof/ketproof/MassTable" "size" "I" (.int (z_size + (1 : Int32))) := f456.same W464
        have f469 : Fld Z h464 a1 "com/example/ketproof/ketproof/MassTable" "decimals" "[Ljava/math/BigDecimal;" .null := f457.other W464 (Or.inr (slot_ne (Or.inl (hw _ (List.mem_of_getElem? (i := 61) rfl))) (Or.inl (hw _ (List.mem_of_getElem? (i := 21) rfl))) (by decide) (t := (.array (.object "java/math/BigDecimal"))) (t' := .int) (by decide) (by decide)))
        have f470 : Arv Z h464 z_entrySlots k_entrySlots .int (16 : Int32) (own_E x_entrySlots) (.int (0 : Int32)) := f458.other W464 (Ne.symm ne_entrySlots)
        have f471 : Arv Z h464 z_slots k_slots .long (96 : Int32) (own_L (own_up (own_up (own_up x_slots (((3 : Int32) * (own_i1 sx vb))).toNatClampNeg (sx.toInt64 + (1 : Int64))) ((((3 : Int32) * (own_i1 sx vb)) + (1 : Int32))).toNatClampNeg vb) ((((3 : Int32) * (own_i1 sx vb)) + (2 : Int32))).toNatClampNeg ((ms).toInt64))) (.long (0 : Int64)) := fa452.other W464 (Ne.symm ne_slots)
        have N472 := Fr.snoc X464 N459 g1
        have K473 : Keep h0 h464 [a1, z_slots, z_entrySlots] := K460.wr W464 (Or.inl (List.mem_of_getElem? (i := 0) rfl))
        have Z474 : n0 ≤ h464.size := Nat.le_trans Z461 (Keep.of_wr W464).1
        obtain ⟨cl475, Ar475, qa475, Sa475, Na475, Ha475, Ga475⟩ := id f470
        have hin475 : ¬ (z_size < 0 ∨ cl475.slots.size ≤ (z_size).toNatClampNeg) := inb_of Sa475 (own_ine hsz)
        obtain ⟨T476, h476, X476, e476, W476, st476⟩ := stI X464 hx hZ e464 Ar475 (j := z_size) hin475 (g := (mkF m 243 #[.val (.ref a1), .val (.int sx), .val (.long vb), .second, .val .null, .val (.double ms), .second, .val (.int own_mk), .val (.int (own_i1 sx vb))] [(.int (own_i1 sx vb)), (.int z_size), (.ref z_entrySlots)])) rfl rfl (hb hby d5_243)
        have fa476 : Arv Z h476 z_entrySlots k_entrySlots .int (16 : Int32) (own_E (own_up x_entrySlots (z_size).toNatClampNeg (own_i1 sx vb))) (.int (0 : Int32)) := (Arv.set Ar475 qa475 Sa475 Na475 Ha475 Ga475 rfl W476 (z_size).toNatClampNeg rfl (own_El x_entrySlots (own_ixe (own_ine hsz)))).pad (own_Eset x_entrySlots (own_ixe (own_ine hsz)) (own_i1 sx vb))
        have f477 : Exa Z h476 a1 "com/example/ketproof/ketproof/MassTable" := f465.wr W476
        have f478 : Fld Z h476 a1 "com/example/ketproof/ketproof/MassTable" "slots" "[J" (.ref z_slots) := f466.other W476 (Or.inl ne_entrySlots)
        have f479 : Fld Z h476 a1 "com/example/ketproof/ketproof/MassTable" "entrySlots" "[I" (.ref z_entrySlots) := f467.other W476 (Or.inl ne_entrySlots)
        have f480 : Fld Z h476 a1 "com/example/ketproof/ketproof/MassTable" "size" "I" (.int (z_size + (1 : Int32))) := f468.other W476 (Or.inl ne_entrySlots)
        have f481 : Fld Z h476 a1 "com/example/ketproof/ketproof/MassTable" "decimals" "[Ljava/math/BigDecimal;" .null := f469.other W476 (Or.inl ne_entrySlots)
        have f482 : Arv Z h476 z_slots k_slots .long (96 : Int32) (own_L (own_up (own_up (own_up x_slots (((3 : Int32) * (own_i1 sx vb))).toNatClampNeg (sx.toInt64 + (1 : Int64))) ((((3 : Int32) * (own_i1 sx vb)) + (1 : Int32))).toNatClampNeg vb) ((((3 : Int32) * (own_i1 sx vb)) + (2 : Int32))).toNatClampNeg ((ms).toInt64))) (.long (0 : Int64)) := f471.other W476 (Ne.symm ne_entrySlots_slots)
        have N483 := Fr.snoc X476 N472 g_entrySlots
        have K484 : Keep h0 h476 [a1, z_slots, z_entrySlots] := K473.wr W476 (Or.inl (List.mem_of_getElem? (i := 2) rfl))
        have Z485 : n0 ≤ h476.size := Nat.le_trans Z474 (Keep.of_wr W476).1
        have hf_size : f5_size sx vb ms z_size x_slots x_entrySlots = (z_size + (1 : Int32)) := by
          unfold f5_size
          first | rfl | (rw [if_neg hc57, if_neg hc125, if_pos hc421])
        have hf_slots : f5_slots sx vb ms z_size x_slots x_entrySlots = (own_up (own_up (own_up x_slots (((3 : Int32) * (own_i1 sx vb))).toNatClampNeg (sx.toInt64 + (1 : Int64))) ((((3 : Int32) * (own_i1 sx vb)) + (1 : Int32))).toNatClampNeg vb) ((((3 : Int32) * (own_i1 sx vb)) + (2 : Int32))).toNatClampNeg ((ms).toInt64)) := by
          unfold f5_slots
          first | rfl | (rw [if_neg hc57, if_neg hc125, if_pos hc421])
        have hf_entrySlots : f5_entrySlots sx vb ms z_size x_slots x_entrySlots = (own_up x_entrySlots (z_size).toNatClampNeg (own_i1 sx vb)) := by
          unfold f5_entrySlots
          first | rfl | (rw [if_neg hc57, if_neg hc125, if_pos hc421])
        obtain ⟨fs, hr, hrun, hended, hW, hsame⟩ := X476.leave (v := none) (fun _ => rfl)
        refine ⟨_, _, S420 _ ?_, hrun, hended, _, _, rfl, ?_, ⟨_, rfl⟩, hW, hsame.mono (by decide) (by decide)⟩
        · refine XS.ifYes X418.here hx rfl (pc0 := 32) (pc' := 123) rfl (hb hby d5_32) rfl ((if0 _ _).trans (teq hc421).1) (by decide) (by decide) ?_
          show Steps p.tables e below (T418.setTop (mkF m 123 #[.val (.ref a1), .val (.int sx), .val (.long vb), .second, .val .null, .val (.double ms), .second, .val (.int own_mk), .val (.int (own_i1 sx vb))] [])) _
          refine XS.aloadN X418.here hx rfl (hb hby d5_123) rfl rfl ?_
          show Steps p.tables e below (T418.setTop (mkF m 124 #[.val (.ref a1), .val (.int sx), .val (.long vb), .second, .val .null, .val (.double ms), .second, .val (.int own_mk), .val (.int (own_i1 sx vb))] [(.ref a1)])) _
          refine st422 _ ?_
          show Steps p.tables e below (T422.setTop (mkF m 127 #[.val (.ref a1), .val (.int sx), .val (.long vb), .second, .val .null, .val (.double ms), .second, .val (.int own_mk), .val (.int (own_i1 sx vb))] [(.int z_size)])) _
          refine XS.aloadN X422.here hx rfl (hb hby d5_127) rfl rfl ?_
          show Steps p.tables e below (T422.setTop (mkF m 128 #[.val (.ref a1), .val (.int sx), .val (.long vb), .second, .val .null, .val (.double ms), .second, .val (.int own_mk), .val (.int (own_i1 sx vb))] [(.ref a1), (.int z_size)])) _
          refine st423 _ ?_
          show Steps p.tables e below (T423.setTop (mkF m 131 #[.val (.ref a1), .val (.int sx), .val (.long vb), .second, .val .null, .val (.double ms), .second, .val (.int own_mk), .val (.int (own_i1 sx vb))] [(.ref z_entrySlots), (.int z_size)])) _
          refine X423.arraylength hx (by rw [e423]; exact Ar424.1) (State.isArrayOf_alike hZ.alike Ar424.2.1) (g := (mkF m 131 #[.val (.ref a1), .val (.int sx), .val (.long vb), .second, .val .null, .val (.double ms), .second, .val (.int own_mk), .val (.int (own_i1 sx vb))] [(.ref z_entrySlots), (.int z_size)])) rfl rfl (hb hby d5_131) _ ?_
          rw [len_of Sa424 Na424]
          show Steps p.tables e below (T423.setTop (mkF m 132 #[.val (.ref a1), .val (.int sx), .val (.long vb), .second, .val .null, .val (.double ms), .second, .val (.int own_mk), .val (.int (own_i1 sx vb))] [(.int (16 : Int32)), (.int z_size)])) _
          refine XS.icmpYes X423.here hx rfl (pc0 := 132) (pc' := 150) rfl (hb hby d5_132) rfl (feq (own_full hsz)).2 (by decide) (by decide) ?_
          show Steps p.tables e below (T423.setTop (mkF m 150 #[.val (.ref a1), .val (.int sx), .val (.long vb), .second, .val .null, .val (.double ms), .second, .val (.int own_mk), .val (.int (own_i1 sx vb))] [])) _
          refine XS.aloadN X423.here hx rfl (hb hby d5_150) rfl rfl ?_
          show Steps p.tables e below (T423.setTop (mkF m 151 #[.val (.ref a1), .val (.int sx), .val (.long vb), .second, .val .null, .val (.double ms), .second, .val (.int own_mk), .val (.int (own_i1 sx vb))] [(.ref a1)])) _
          refine st425 _ ?_
          show Steps p.tables e below (T425.setTop (mkF m 154 #[.val (.ref a1), .val (.int sx), .val (.long vb), .second, .val .null, .val (.double ms), .second, .val (.int own_mk), .val (.int (own_i1 sx vb))] [(.ref z_slots)])) _
          refine XS.iconst X425.here hx rfl (hb hby d5_154) ?_
          show Steps p.tables e below (T425.setTop (mkF m 155 #[.val (.ref a1), .val (.int sx), .val (.long vb), .second, .val .null, .val (.double ms), .second, .val (.int own_mk), .val (.int (own_i1 sx vb))] [(.int (3 : Int32)), (.ref z_slots)])) _
          refine XS.iload X425.here hx rfl (hb hby d5_155) rfl ?_
          show Steps p.tables e below (T425.setTop (mkF m 157 #[.val (.ref a1), .val (.int sx), .val (.long vb), .second, .val .null, .val (.double ms), .second, .val (.int own_mk), .val (.int (own_i1 sx vb))] [(.int (own_i1 sx vb)), (.int (3 : Int32)), (.ref z_slots)])) _
          refine XS.imul X425.here hx rfl (hb hby d5_157) rfl ?_
          show Steps p.tables e below (T425.setTop (mkF m 158 #[.val (.ref a1), .val (.int sx), .val (.long vb), .second, .val .null, .val (.double ms), .second, .val (.int own_mk), .val (.int (own_i1 sx vb))] [(.int ((3 : Int32) * (own_i1 sx vb))), (.ref z_slots)])) _
          refine XS.iloadN X425.here hx rfl (hb hby d5_158) rfl ?_
          show Steps p.tables e below (T425.setTop (mkF m 159 #[.val (.ref a1), .val (.int sx), .val (.long vb), .second, .val .null, .val (.double ms), .second, .val (.int own_mk), .val (.int (own_i1 sx vb))] [(.int sx), (.int ((3 : Int32) * (own_i1 sx vb))), (.ref z_slots)])) _
          refine XS.i2l X425.here hx rfl (hb hby d5_159) rfl ?_
          show Steps p.tables e below (T425.setTop (mkF m 160 #[.val (.ref a1), .val (.int sx), .val (.long vb), .second, .val .null, .val (.double ms), .second, .val (.int own_mk), .val (.int (own_i1 sx vb))] [(.long sx.toInt64), (.int ((3 : Int32) * (own_i1 sx vb))), (.ref z_slots)])) _
          refine XS.lconst X425.here hx rfl (hb hby d5_160) ?_
          show Steps p.tables e below (T425.setTop (mkF m 161 #[.val (.ref a1), .val (.int sx), .val (.long vb), .second, .val .null, .val (.double ms), .second, .val (.int own_mk), .val (.int (own_i1 sx vb))] [(.long (1 : Int64)), (.long sx.toInt64), (.int ((3 : Int32) * (own_i1 sx vb))), (.ref z_slots)])) _
          refine XS.ladd X425.here hx rfl (hb hby d5_161) rfl ?_
          show Steps p.tables e below (T425.setTop (mkF m 162 #[.val (.ref a1), .val (.int sx), .val (.long vb), .second, .val .null, .val (.double ms), .second, .val (.int own_mk), .val (.int (own_i1 sx vb))] [(.long (sx.toInt64 + (1 : Int64))), (.int ((3 : Int32) * (own_i1 sx vb))), (.ref z_slots)])) _
          refine st427 _ ?_
          show Steps p.tables e below (T427.setTop (mkF m 163 #[.val (.ref a1), .val (.int sx), .val (.long vb), .second, .val .null, .val (.double ms), .second, .val (.int own_mk), .val (.int (own_i1 sx vb))] [])) _
          refine XS.aloadN X427.here hx rfl (hb hby d5_163) rfl rfl ?_
          show Steps p.tables e below (T427.setTop (mkF m 164 #[.val (.ref a1), .val (.int sx), .val (.long vb), .second, .val .null, .val (.double ms), .second, .val (.int own_mk), .val (.int (own_i1 sx vb))] [(.ref a1)])) _
          refine st437 _ ?_
          show Steps p.tables e below (T437.setTop (mkF m 167 #[.val (.ref a1), .val (.int sx), .val (.long vb), .second, .val .null, .val (.double ms), .second, .val (.int own_mk), .val (.int (own_i1 sx vb))] [(.ref z_slots)])) _
          refine XS.iconst X437.here hx rfl (hb hby d5_167) ?_
          show Steps p.tables e below (T437.setTop (mkF m 168 #[.val (.ref a1), .val (.int sx), .val (.long vb), .second, .val .null, .val (.double ms), .second, .val (.int own_mk), .val (.int (own_i1 sx vb))] [(.int (3 : Int32)), (.ref z_slots)])) _
          refine XS.iload X437.here hx rfl (hb hby d5_168) rfl ?_
          show Steps p.tables e below (T437.setTop (mkF m 170 #[.val (.ref a1), .val (.int sx), .val (.long vb), .second, .val .null, .val (.double ms), .second, .val (.int own_mk), .val (.int (own_i1 sx vb))] [(.int (own_i1 sx vb)), (.int (3 : Int32)), (.ref z_slots)])) _
          refine XS.imul X437.here hx rfl (hb hby d5_170) rfl ?_
          show Steps p.tables e below (T437.setTop (mkF m 171 #[.val (.ref a1), .val (.int sx), .val (.long vb), .second, .val .null, .val (.double ms), .second, .val (.int own_mk), .val (.int (own_i1 sx vb))] [(.int ((3 : Int32) * (own_i1 sx vb))), (.ref z_slots)])) _
          refine XS.iconst X437.here hx rfl (hb hby d5_171) ?_
          show Steps p.tables e below (T437.setTop (mkF m 172 #[.val (.ref a1), .val (.int sx), .val (.long vb), .second, .val .null, .val (.double ms), .second, .val (.int own_mk), .val (.int (own_i1 sx vb))] [(.int (1 : Int32)), (.int ((3 : Int32) * (own_i1 sx vb))), (.ref z_slots)])) _
          refine XS.iadd X437.here hx rfl (hb hby d5_172) rfl ?_
          show Steps p.tables e below (T437.setTop (mkF m 173 #[.val (.ref a1), .val (.int sx), .val (.long vb), .second, .val .null, .val (.double ms), .second, .val (.int own_mk), .val (.int (own_i1 sx vb))] [(.int (((3 : Int32) * (own_i1 sx vb)) + (1 : Int32))), (.ref z_slots)])) _
          refine XS.lloadN X437.here hx rfl (hb hby d5_173) rfl ?_
          show Steps p.tables e below (T437.setTop (mkF m 174 #[.val (.ref a1), .val (.int sx), .val (.long vb), .second, .val .null, .val (.double ms), .second, .val (.int own_mk), .val (.int (own_i1 sx vb))] [(.long vb), (.int (((3 : Int32) * (own_i1 sx vb)) + (1 : Int32))), (.ref z_slots)])) _
          refine st439 _ ?_
          show Steps p.tables e below (T439.setTop (mkF m 175 #[.val (.ref a1), .val (.int sx), .val (.long vb), .second, .val .null, .val (.double ms), .second, .val (.int own_mk), .val (.int (own_i1 sx vb))] [])) _
          refine XS.aloadN X439.here hx rfl (hb hby d5_175) rfl rfl ?_
          show Steps p.tables e below (T439.setTop (mkF m 176 #[.val (.ref a1), .val (.int sx), .val (.long vb), .second, .val .null, .val (.double ms), .second, .val (.int own_mk), .val (.int (own_i1 sx vb))] [(.ref a1)])) _
          refine st449 _ ?_
          show Steps p.tables e below (T449.setTop (mkF m 179 #[.val (.ref a1), .val (.int sx), .val (.long vb), .second, .val .null, .val (.double ms), .second, .val (.int own_mk), .val (.int (own_i1 sx vb))] [(.ref z_slots)])) _
          refine XS.iconst X449.here hx rfl (hb hby d5_179) ?_
          show Steps p.tables e below (T449.setTop (mkF m 180 #[.val (.ref a1), .val (.int sx), .val (.long vb), .second, .val .null, .val (.double ms), .second, .val (.int own_mk), .val (.int (own_i1 sx vb))] [(.int (3 : Int32)), (.ref z_slots)])) _
          refine XS.iload X449.here hx rfl (hb hby d5_180) rfl ?_
          show Steps p.tables e below (T449.setTop (mkF m 182 #[.val (.ref a1), .val (.int sx), .val (.long vb), .second, .val .null, .val (.double ms), .second, .val (.int own_mk), .val (.int (own_i1 sx vb))] [(.int (own_i1 sx vb)), (.int (3 : Int32)), (.ref z_slots)])) _
          refine XS.imul X449.here hx rfl (hb hby d5_182) rfl ?_
          show Steps p.tables e below (T449.setTop (mkF m 183 #[.val (.ref a1), .val (.int sx), .val (.long vb), .second, .val .null, .val (.double ms), .second, .val (.int own_mk), .val (.int (own_i1 sx vb))] [(.int ((3 : Int32) * (own_i1 sx vb))), (.ref z_slots)])) _
          refine XS.iconst X449.here hx rfl (hb hby d5_183) ?_
          show Steps p.tables e below (T449.setTop (mkF m 184 #[.val (.ref a1), .val (.int sx), .val (.long vb), .second, .val .null, .val (.double ms), .second, .val (.int own_mk), .val (.int (own_i1 sx vb))] [(.int (2 : Int32)), (.int ((3 : Int32) * (own_i1 sx vb))), (.ref z_slots)])) _
          refine XS.iadd X449.here hx rfl (hb hby d5_184) rfl ?_
          show Steps p.tables e below (T449.setTop (mkF m 185 #[.val (.ref a1), .val (.int sx), .val (.long vb), .second, .val .null, .val (.double ms), .second, .val (.int own_mk), .val (.int (own_i1 sx vb))] [(.int (((3 : Int32) * (own_i1 sx vb)) + (2 : Int32))), (.ref z_slots)])) _
          refine XS.dload X449.here hx rfl (hb hby d5_185) rfl ?_
          show Steps p.tables e below (T449.setTop (mkF m 187 #[.val (.ref a1), .val (.int sx), .val (.long vb), .second, .val .null, .val (.double ms), .second, .val (.int own_mk), .val (.int (own_i1 sx vb))] [(.double ms), (.int (((3 : Int32) * (own_i1 sx vb)) + (2 : Int32))), (.ref z_slots)])) _
          refine st450 _ ?_
          show Steps p.tables e below (T450.setTop (mkF m 190 #[.val (.ref a1), .val (.int sx), .val (.long vb), .second, .val .null, .val (.double ms), .second, .val (.int own_mk), .val (.int (own_i1 sx vb))] [(.long ((ms).toInt64)), (.int (((3 : Int32) * (own_i1 sx vb)) + (2 : Int32))), (.ref z_slots)])) _
          refine st452 _ ?_
          show Steps p.tables e below (T452.setTop (mkF m 191 #[.val (.ref a1), .val (.int sx), .val (.long vb), .second, .val .null, .val (.double ms), .second, .val (.int own_mk), .val (.int (own_i1 sx vb))] [])) _
          refine XS.aload X452.here hx rfl (hb hby d5_191) rfl rfl ?_
          show Steps p.tables e below (T452.setTop (mkF m 193 #[.val (.ref a1), .val (.int sx), .val (.long vb), .second, .val .null, .val (.double ms), .second, .val (.int own_mk), .val (.int (own_i1 sx vb))] [.null])) _
          refine XS.ifnullYes X452.here hx rfl (pc0 := 193) (pc' := 226) rfl (hb hby d5_193) rfl (by decide) (by decide) ?_
          show Steps p.tables e below (T452.setTop (mkF m 226 #[.val (.ref a1), .val (.int sx), .val (.long vb), .second, .val .null, .val (.double ms), .second, .val (.int own_mk), .val (.int (own_i1 sx vb))] [])) _
          refine XS.aloadN X452.here hx rfl (hb hby d5_226) rfl rfl ?_
          show Steps p.tables e below (T452.setTop (mkF m 227 #[.val (.ref a1), .val (.int sx), .val (.long vb), .second, .val .null, .val (.double ms), .second, .val (.int own_mk), .val (.int (own_i1 sx vb))] [(.ref a1)])) _
          refine st462 _ ?_
          show Steps p.tables e below (T462.setTop (mkF m 230 #[.val (.ref a1), .val (.int sx), .val (.long vb), .second, .val .null, .val (.double ms), .second, .val (.int own_mk), .val (.int (own_i1 sx vb))] [(.ref z_entrySlots)])) _
          refine XS.aloadN X462.here hx rfl (hb hby d5_230) rfl rfl ?_
          show Steps p.tables e below (T462.setTop (mkF m 231 #[.val (.ref a1), .val (.int sx), .val (.long vb), .second, .val .null, .val (.double ms), .second, .val (.int own_mk), .val (.int (own_i1 sx vb))] [(.ref a1), (.ref z_entrySlots)])) _
          refine XS.dup X462.here hx rfl (hb hby d5_231) rfl rfl ?_
          show Steps p.tables e below (T462.setTop (mkF m 232 #[.val (.ref a1), .val (.int sx), .val (.long vb), .second, .val .null, .val (.double ms), .second, .val (.int own_mk), .val (.int (own_i1 sx vb))] [(.ref a1), (.ref a1), (.ref z_entrySlots)])) _
          refine st463 _ ?_
          show Steps p.tables e below (T463.setTop (mkF m 235 #[.val (.ref a1), .val (.int sx), .val (.long vb), .second, .val .null, .val (.double ms), .second, .val (.int own_mk), .val (.int (own_i1 sx vb))] [(.int z_size), (.ref a1), (.ref z_entrySlots)])) _
          refine XS.dupX1 X463.here hx rfl (hb hby d5_235) rfl rfl rfl ?_
          show Steps p.tables e below (T463.setTop (mkF m 236 #[.val (.ref a1), .val (.int sx), .val (.long vb), .second, .val .null, .val (.double ms), .second, .val (.int own_mk), .val (.int (own_i1 sx vb))] [(.int z_size), (.ref a1), (.int z_size), (.ref z_entrySlots)])) _
          refine XS.iconst X463.here hx rfl (hb hby d5_236) ?_
          show Steps p.tables e below (T463.setTop (mkF m 237 #[.val (.ref a1), .val (.int sx), .val (.long vb), .second, .val .null, .val (.double ms), .second, .val (.int own_mk), .val (.int (own_i1 sx vb))] [(.int (1 : Int32)), (.int z_size), (.ref a1), (.int z_size), (.ref z_entrySlots)])) _
          refine XS.iadd X463.here hx rfl (hb hby d5_237) rfl ?_
          show Steps p.tables e below (T463.setTop (mkF m 238 #[.val (.ref a1), .val (.int sx), .val (.long vb), .second, .val .null, .val (.double ms), .second, .val (.int own_mk), .val (.int (own_i1 sx vb))] [(.int (z_size + (1 : Int32))), (.ref a1), (.int z_size), (.ref z_entrySlots)])) _
          refine st464 _ ?_
          show Steps p.tables e below (T464.setTop (mkF m 241 #[.val (.ref a1), .val (.int sx), .val (.long vb), .second, .val .null, .val (.double ms), .second, .val (.int own_mk), .val (.int (own_i1 sx vb))] [(.int z_size), (.ref z_entrySlots)])) _
          refine XS.iload X464.here hx rfl (hb hby d5_241) rfl ?_
          show Steps p.tables e below (T464.setTop (mkF m 243 #[.val (.ref a1), .val (.int sx), .val (.long vb), .second, .val .null, .val (.double ms), .second, .val (.int own_mk), .val (.int (own_i1 sx vb))] [(.int (own_i1 sx vb)), (.int z_size), (.ref z_entrySlots)])) _
          refine st476 _ ?_
          show Steps p.tables e below (T476.setTop (mkF m 244 #[.val (.ref a1), .val (.int sx), .val (.long vb), .second, .val .null, .val (.double ms), .second, .val (.int own_mk), .val (.int (own_i1 sx vb))] [])) _
          exact X476.returnOut hx Bd.returns (hb hby d5_244) hr
        · show Q5 Z a1 sx vb ms z_slots z_entrySlots z_size k_slots x_slots k_entrySlots x_entrySlots h0 n0 _ T476.heap _
          rw [e476]
          exact ⟨rfl, N483, K484, f477, f478, f479, by rw [hf_size]; exact f480, f481, by rw [hf_slots]; exact f482, by rw [hf_entrySlots]; exact fa476⟩
      · obtain ⟨T486, X486, e486, st486⟩ := getF X418 hx hZ hown (host := "") (Or.inl (hw _ (List.mem_of_getElem? (i := 10) rfl))) Via.refl e418 F_slots_a1 (g := (mkF m 36 #[.val (.ref a1), .val (.int sx), .val (.long vb), .second, .val .null, .val (.double ms), .second, .val (.int own_mk), .val (.int (own_i1 sx vb))] [(.ref a1)])) rfl rfl (hb hby d5_36)
        obtain ⟨cl487, Ar487, qa487, Sa487, Na487, Ha487, Ga487⟩ := id V_slots
        have hin487 : ¬ (((3 : Int32) * (own_i1 sx vb)) < 0 ∨ cl487.slots.size ≤ (((3 : Int32) * (own_i1 sx vb))).toNatClampNeg) := inb_of Sa487 (own_b0 (own_r1 sx vb))
        have S488 : ∀ t, Steps p.tables e below (T486.setTop (mkF m 49 #[.val (.ref a1), .val (.int sx), .val (.long vb), .second, .val .null, .val (.double ms), .second, .val (.int own_mk), .val (.int (own_i1 sx vb))] [(.int (lcmpW (x_slots (((3 : Int32) * (own_i1 sx vb))).toNatClampNeg) (sx.toInt64 + (1 : Int64))))])) t → Steps p.tables e below (s₁.setTop (entryFrame m #[(.ref a1), (.int sx), (.long vb), .null, (.double ms)] 9)) t := by
          intro t k
          refine S420 t ?_
          refine XS.ifNo X418.here hx rfl (hb hby d5_32) rfl ((if0 _ _).trans (feq hc421).1) ?_
          show Steps p.tables e below (T418.setTop (mkF m 35 #[.val (.ref a1), .val (.int sx), .val (.long vb), .second, .val .null, .val (.double ms), .second, .val (.int own_mk), .val (.int (own_i1 sx vb))] [])) _
          refine XS.aloadN X418.here hx rfl (hb hby d5_35) rfl rfl ?_
          show Steps p.tables e below (T418.setTop (mkF m 36 #[.val (.ref a1), .val (.int sx), .val (.long vb), .second, .val .null, .val (.double ms), .second, .val (.int own_mk), .val (.int (own_i1 sx vb))] [(.ref a1)])) _
          refine st486 _ ?_
          show Steps p.tables e below (T486.setTop (mkF m 39 #[.val (.ref a1), .val (.int sx), .val (.long vb), .second, .val .null, .val (.double ms), .second, .val (.int own_mk), .val (.int (own_i1 sx vb))] [(.ref z_slots)])) _
          refine XS.iconst X486.here hx rfl (hb hby d5_39) ?_
          show Steps p.tables e below (T486.setTop (mkF m 40 #[.val (.ref a1), .val (.int sx), .val (.long vb), .second, .val .null, .val (.double ms), .second, .val (.int own_mk), .val (.int (own_i1 sx vb))] [(.int (3 : Int32)), (.ref z_slots)])) _
          refine XS.iload X486.here hx rfl (hb hby d5_40) rfl ?_
          show Steps p.tables e below (T486.setTop (mkF m 42 #[.val (.ref a1), .val (.int sx), .val (.long vb), .second, .val .null, .val (.double ms), .second, .val (.int own_mk), .val (.int (own_i1 sx vb))] [(.int (own_i1 sx vb)), (.int (3 : Int32)), (.ref z_slots)])) _
          refine XS.imul X486.here hx rfl (hb hby d5_42) rfl ?_
          show Steps p.tables e below (T486.setTop (mkF m 43 #[.val (.ref a1), .val (.int sx), .val (.long vb), .second, .val .null, .val (.double ms), .second, .val (.int own_mk), .val (.int (own_i1 sx vb))] [(.int ((3 : Int32) * (own_i1 sx vb))), (.ref z_slots)])) _
          refine X486.laload hx (j := ((3 : Int32) * (own_i1 sx vb))) (v := (.long (x_slots (((3 : Int32) * (own_i1 sx vb))).toNatClampNeg))) (by rw [e486]; exact Ar487.1) (State.isArrayOf_alike hZ.alike Ar487.2.1) Ar487.2.2 hin487 (Has.at Ha487 hin487 (own_rd x_slots (own_b0 (own_r1 sx vb)))) (g := (mkF m 43 #[.val (.ref a1), .val (.int sx), .val (.long vb), .second, .val .null, .val (.double ms), .second, .val (.int own_mk), .val (.int (own_i1 sx vb))] [(.int ((3 : Int32) * (own_i1 sx vb))), (.ref z_slots)])) rfl rfl (hb hby d5_43) _ ?_
          show Steps p.tables e below (T486.setTop (mkF m 44 #[.val (.ref a1), .val (.int sx), .val (.long vb), .second, .val .null, .val (.double ms), .second, .val (.int own_mk), .val (.int (own_i1 sx vb))] [(.long (x_slots (((3 : Int32) * (own_i1 sx vb))).toNatClampNeg))])) _
          refine XS.iloadN X486.here hx rfl (hb hby d5_44) rfl ?_
          show Steps p.tables e below (T486.setTop (mkF m 45 #[.val (.ref a1), .val (.int sx), .val (.long vb), .second, .val .null, .val (.double ms), .second, .val (.int own_mk), .val (.int (own_i1 sx vb))] [(.int sx), (.long (x_slots (((3 : Int32) * (own_i1 sx vb))).toNatClampNeg))])) _
          refine XS.i2l X486.here hx rfl (hb hby d5_45) rfl ?_
          show Steps p.tables e below (T486.setTop (mkF m 46 #[.val (.ref a1), .val (.int sx), .val (.long vb), .second, .val .null, .val (.double ms), .second, .val (.int own_mk), .val (.int (own_i1 sx vb))] [(.long sx.toInt64), (.long (x_slots (((3 : Int32) * (own_i1 sx vb))).toNatClampNeg))])) _
          refine XS.lconst X486.here hx rfl (hb hby d5_46) ?_
          show Steps p.tables e below (T486.setTop (mkF m 47 #[.val (.ref a1), .val (.int sx), .val (.long vb), .second, .val .null, .val (.double ms), .second, .val (.int own_mk), .val (.int (own_i1 sx vb))] [(.long (1 : Int64)), (.long sx.toInt64), (.long (x_slots (((3 : Int32) * (own_i1 sx vb))).toNatClampNeg))])) _
          refine XS.ladd X486.here hx rfl (hb hby d5_47) rfl ?_
          show Steps p.tables e below (T486.setTop (mkF m 48 #[.val (.ref a1), .val (.int sx), .val (.long vb), .second, .val .null, .val (.double ms), .second, .val (.int own_mk), .val (.int (own_i1 sx vb))] [(.long (sx.toInt64 + (1 : Int64))), (.long (x_slots (((3 : Int32) * (own_i1 sx vb))).toNatClampNeg))])) _
          refine XS.lcmp X486.here hx rfl (hb hby d5_48) rfl ?_
          show Steps p.tables e below (T486.setTop (mkF m 49 #[.val (.ref a1), .val (.int sx), .val (.long vb), .second, .val .null, .val (.double ms), .second, .val (.int own_mk), .val (.int (own_i1 sx vb))] [(.int (lcmpW (x_slots (((3 : Int32) * (own_i1 sx vb))).toNatClampNeg) (sx.toInt64 + (1 : Int64))))])) _
          exact k
        by_cases hc489 : (lcmpW (x_slots (((3 : Int32) * (own_i1 sx vb))).toNatClampNeg) (sx.toInt64 + (1 : Int64))) = (0 : Int32)
        · obtain ⟨T490, X490, e490, st490⟩ := getF X486 hx hZ hown (host := "") (Or.inl (hw _ (List.mem_of_getElem? (i := 10) rfl))) Via.refl e486 F_slots_a1 (g := (mkF m 53 #[.val (.ref a1), .val (.int sx), .val (.long vb), .second, .val .null, .val (.double ms), .second, .val (.int own_mk), .val (.int (own_i1 sx vb))] [(.ref a1)])) rfl rfl (hb hby d5_53)
          obtain ⟨cl491, Ar491, qa491, Sa491, Na491, Ha491, Ga491⟩ := id V_slots
          have hin491 : ¬ ((((3 : Int32) * (own_i1 sx vb)) + (1 : Int32)) < 0 ∨ cl491.slots.size ≤ ((((3 : Int32) * (own_i1 sx vb)) + (1 : Int32))).toNatClampNeg) := inb_of Sa491 (own_b1 (own_r1 sx vb))
          have S492 : ∀ t, Steps p.tables e below (T490.setTop (mkF m 65 #[.val (.ref a1), .val (.int sx), .val (.long vb), .second, .val .null, .val (.double ms), .second, .val (.int own_mk), .val (.int (own_i1 sx vb))] [(.int (lcmpW (x_slots ((((3 : Int32) * (own_i1 sx vb)) + (1 : Int32))).toNatClampNeg) vb))])) t → Steps p.tables e below (s₁.setTop (entryFrame m #[(.ref a1), (.int sx), (.long vb), .null, (.double ms)] 9)) t := by
            intro t k
            refine S488 t ?_
            refine XS.ifNo X486.here hx rfl (hb hby d5_49) rfl ((if0 _ _).trans (teq hc489).2) ?_
            show Steps p.tables e below (T486.setTop (mkF m 52 #[.val (.ref a1), .val (.int sx), .val (.long vb), .second, .val .null, .val (.double ms), .second, .val (.int own_mk), .val (.int (own_i1 sx vb))] [])) _
            refine XS.aloadN X486.here hx rfl (hb hby d5_52) rfl rfl ?_
            show Steps p.tables e below (T486.setTop (mkF m 53 #[.val (.ref a1), .val (.int sx), .val (.long vb), .second, .val .null, .val (.double ms), .second, .val (.int own_mk), .val (.int (own_i1 sx vb))] [(.ref a1)])) _
            refine st490 _ ?_
            show Steps p.tables e below (T490.setTop (mkF m 56 #[.val (.ref a1), .val (.int sx), .val (.long vb), .second, .val .null, .val (.double ms), .second, .val (.int own_mk), .val (.int (own_i1 sx vb))] [(.ref z_slots)])) _
            refine XS.iconst X490.here hx rfl (hb hby d5_56) ?_
            show Steps p.tables e below (T490.setTop (mkF m 57 #[.val (.ref a1), .val (.int sx), .val (.long vb), .second, .val .null, .val (.double ms), .second, .val (.int own_mk), .val (.int (own_i1 sx vb))] [(.int (3 : Int32)), (.ref z_slots)])) _
            refine XS.iload X490.here hx rfl (hb hby d5_57) rfl ?_
            show Steps p.tables e below (T490.setTop (mkF m 59 #[.val (.ref a1), .val (.int sx), .val (.long vb), .second, .val .null, .val (.double ms), .second, .val (.int own_mk), .val (.int (own_i1 sx vb))] [(.int (own_i1 sx vb)), (.int (3 : Int32)), (.ref z_slots)])) _
            refine XS.imul X490.here hx rfl (hb hby d5_59) rfl ?_
            show Steps p.tables e below (T490.setTop (mkF m 60 #[.val (.ref a1), .val (.int sx), .val (.long vb), .second, .val .null, .val (.double ms), .second, .val (.int own_mk), .val (.int (own_i1 sx vb))] [(.int ((3 : Int32) * (own_i1 sx vb))), (.ref z_slots)])) _
            refine XS.iconst X490.here hx rfl (hb hby d5_60) ?_
            show Steps p.tables e below (T490.setTop (mkF m 61 #[.val (.ref a1), .val (.int sx), .val (.long vb), .second, .val .null, .val (.double ms), .second, .val (.int own_mk), .val (.int (own_i1 sx vb))] [(.int (1 : Int32)), (.int ((3 : Int32) * (own_i1 sx vb))), (.ref z_slots)])) _
            refine XS.iadd X490.here hx rfl (hb hby d5_61) rfl ?_
            show Steps p.tables e below (T490.setTop (mkF m 62 #[.val (.ref a1), .val (.int sx), .val (.long vb), .second, .val .null, .val (.double ms), .second, .val (.int own_mk), .val (.int (own_i1 sx vb))] [(.int (((3 : Int32) * (own_i1 sx vb)) + (1 : Int32))), (.ref z_slots)])) _
            refine X490.laload hx (j := (((3 : Int32) * (own_i1 sx vb)) + (1 : Int32))) (v := (.long (x_slots ((((3 : Int32) * (own_i1 sx vb)) + (1 : Int32))).toNatClampNeg))) (by rw [e490]; exact Ar491.1) (State.isArrayOf_alike hZ.alike Ar491.2.1) Ar491.2.2 hin491 (Has.at Ha491 hin491 (own_rd x_slots (own_b1 (own_r1 sx vb)))) (g := (mkF m 62 #[.val (.ref a1), .val (.int sx), .val (.long vb), .second, .val .null, .val (.double ms), .second, .val (.int own_mk), .val (.int (own_i1 sx vb))] [(.int (((3 : Int32) * (own_i1 sx vb)) + (1 : Int32))), (.ref z_slots)])) rfl rfl (hb hby d5_62) _ ?_
            show Steps p.tables e below (T490.setTop (mkF m 63 #[.val (.ref a1), .val (.int sx), .val (.long vb), .second, .val .null, .val (.double ms), .second, .val (.int own_mk), .val (.int (own_i1 sx vb))] [(.long (x_slots ((((3 : Int32) * (own_i1 sx vb)) + (1 : Int32))).toNatClampNeg))])) _
            refine XS.lloadN X490.here hx rfl (hb hby d5_63) rfl ?_
            show Steps p.tables e below (T490.setTop (mkF m 64 #[.val (.ref a1), .val (.int sx), .val (.long vb), .second, .val .null, .val (.double ms), .second, .val (.int own_mk), .val (.int (own_i1 sx vb))] [(.long vb), (.long (x_slots ((((3 : Int32) * (own_i1 sx vb)) + (1 : Int32))).toNatClampNeg))])) _
            refine XS.lcmp X490.here hx rfl (hb hby d5_64) rfl ?_
            show Steps p.tables e below (T490.setTop (mkF m 65 #[.val (.ref a1), .val (.int sx), .val (.long vb), .second, .val .null, .val (.double ms), .second, .val (.int own_mk), .val (.int (own_i1 sx vb))] [(.int (lcmpW (x_slots ((((3 : Int32) * (own_i1 sx vb)) + (1 : Int32))).toNatClampNeg) vb))])) _
            exact k
          by_cases hc493 : (lcmpW (x_slots ((((3 : Int32) * (own_i1 sx vb)) + (1 : Int32))).toNatClampNeg) vb) = (0 : Int32)
          · obtain ⟨cq494, q494, q494'⟩ := E1.cell
            obtain ⟨_, _, ⟨T494, L494, k494, n494⟩, -, X494, ⟨Lc494, hQ494, l494, y494, z494⟩, st494⟩ := X490.privateBack hx (y := (⟨"com/example/ketproof/ketproof/MassTable", "holds", "(ILjava/math/BigDecimal;)Z"⟩ : MethodName)) hown (mvT hZ (hw _ (List.mem_of_getElem? (i := 70) rfl))) (mvT hZ (hw _ (List.mem_of_getElem? (i := 71) rfl))) (mvT hZ (Jvm.Kit.selects_private (by decide) (hw _ (List.mem_of_getElem? (i := 1) rfl)) (hw _ (List.mem_of_getElem? (i := 72) rfl)) (hw _ (List.mem_of_getElem? (i := 71) rfl)))) (Cond.privateMethod_at (mvP hZ (hw _ (List.mem_of_getElem? (i := 72) rfl)) (args := #[]))) (mvT hZ (hw _ (List.mem_of_getElem? (i := 73) rfl))) (by decide) (backOf (W := 0) (rm12 l Z a0 hw [] a1 (own_i1 sx vb) h0 n0 Z0 F_decimals_a1) hZ (hw _ (List.mem_of_getElem? (i := 73) rfl)) (hw _ (List.mem_of_getElem? (i := 2) rfl)) (by decide) (by decide)) (g := (mkF m 73 #[.val (.ref a1), .val (.int sx), .val (.long vb), .second, .val .null, .val (.double ms), .second, .val (.int own_mk), .val (.int (own_i1 sx vb))] [.null, (.int (own_i1 sx vb)), (.ref a1)])) rfl (by rw [hml]; rfl) (Steps.refl _) (a := a1) (by rw [e490]; exact q494) q494' (argsL := [(.int (own_i1 sx vb)), .null]) (rest := []) (lenOf pd_1 rfl) rfl (by show 2 * 0 + _ ≤ _; exact Nat.le_of_eq rfl) (hb hby d5_73) (fun _ _ => ⟨rfl, e490, (by decide : 0 + 0 ≤ _), (by decide : 0 + 0 ≤ _)⟩)
            dsimp only [Pt.U, Pt.locs, Pt.cells, Pt.slots] at X494 l494 y494 z494 st494 hQ494
            subst l494 y494 z494
            obtain ⟨rfl, N494q, e494⟩ := hQ494
            have N494 := Fr.app N53 N494q
            obtain ⟨T495, X495, e495, st495⟩ := getF X494 hx hZ hown (host := "") (Or.inl (hw _ (List.mem_of_getElem? (i := 10) rfl))) Via.refl e494 F_slots_a1 (g := (mkF m 80 #[.val (.ref a1), .val (.int sx), .val (.long vb), .second, .val .null, .val (.double ms), .second, .val (.int own_mk), .val (.int (own_i1 sx vb))] [(.ref a1)])) rfl rfl (hb hby d5_80)
            obtain ⟨T496, X496, e496, st496⟩ := getF X495 hx hZ hown (host := "") (Or.inl (hw _ (List.mem_of_getElem? (i := 10) rfl))) Via.refl e495 F_slots_a1 (g := (mkF m 90 #[.val (.ref a1), .val (.int sx), .val (.long vb), .second, .val .null, .val (.double ms), .second, .val (.int own_mk), .val (.int (own_i1 sx vb))] [(.ref a1), (.int (((3 : Int32) * (own_i1 sx vb)) + (2 : Int32))), (.ref z_slots)])) rfl rfl (hb hby d5_90)
            obtain ⟨cl497, Ar497, qa497, Sa497, Na497, Ha497, Ga497⟩ := id V_slots
            have hin497 : ¬ ((((3 : Int32) * (own_i1 sx vb)) + (2 : Int32)) < 0 ∨ cl497.slots.size ≤ ((((3 : Int32) * (own_i1 sx vb)) + (2 : Int32))).toNatClampNeg) := inb_of Sa497 (own_b2 (own_r1 sx vb))
            obtain ⟨vm498, X498, st498⟩ := X496.longBitsToDouble hx hown (mvT hZ (hw _ (List.mem_of_getElem? (i := 62) rfl))) (mvT hZ (hw _ (List.mem_of_getElem? (i := 64) rfl))) (mvT hZ (hw _ (List.mem_of_getElem? (i := 63) rfl))) (mvT hZ (hw _ (List.mem_of_getElem? (i := 29) rfl))) (g := (mkF m 100 #[.val (.ref a1), .val (.int sx), .val (.long vb), .second, .val .null, .val (.double ms), .second, .val (.int own_mk), .val (.int (own_i1 sx vb))] [(.long (x_slots ((((3 : Int32) * (own_i1 sx vb)) + (2 : Int32))).toNatClampNeg)), (.int (((3 : Int32) * (own_i1 sx vb)) + (2 : Int32))), (.ref z_slots)])) rfl (by rw [hml]; rfl) (rest := [(.int (((3 : Int32) * (own_i1 sx vb)) + (2 : Int32))), (.ref z_slots)]) (b := (x_slots ((((3 : Int32) * (own_i1 sx vb)) + (2 : Int32))).toNatClampNeg)) (own_lb (hM _ (own_md (own_r1 sx vb)))) rfl (hb hby d5_100) (by decide) (by show 2 * 0 + 2 + (nativeFrameWords "java/lang/Double" "longBitsToDouble" 2 + 11) ≤ _; decide)
            obtain ⟨T498, hT498⟩ : ∃ z, z = T496.setVm vm498 := ⟨_, rfl⟩
            rw [← hT498] at X498 st498
            have e498 : T498.heap = h0 := by rw [hT498]; exact e496
            obtain ⟨vm499, X499, st499⟩ := X498.doubleToRawLongBits hx hown (mvT hZ (hw _ (List.mem_of_getElem? (i := 27) rfl))) (mvT hZ (hw _ (List.mem_of_getElem? (i := 30) rfl))) (mvT hZ (hw _ (List.mem_of_getElem? (i := 28) rfl))) (mvT hZ (hw _ (List.mem_of_getElem? (i := 29) rfl))) (g := (mkF m 106 #[.val (.ref a1), .val (.int sx), .val (.long vb), .second, .val .null, .val (.double ms), .second, .val (.int own_mk), .val (.int (own_i1 sx vb))] [(.double (FP.dadd (((x_slots ((((3 : Int32) * (own_i1 sx vb)) + (2 : Int32))).toNatClampNeg)).toUInt64) ms)), (.int (((3 : Int32) * (own_i1 sx vb)) + (2 : Int32))), (.ref z_slots)])) rfl (by rw [hml]; rfl) (rest := [(.int (((3 : Int32) * (own_i1 sx vb)) + (2 : Int32))), (.ref z_slots)]) (b := (FP.dadd (((x_slots ((((3 : Int32) * (own_i1 sx vb)) + (2 : Int32))).toNatClampNeg)).toUInt64) ms)) rfl (hb hby d5_106) (by decide) (by show 2 * 0 + 2 + (nativeFrameWords "java/lang/Double" "doubleToRawLongBits" 2 + 11) ≤ _; decide)
            obtain ⟨T499, hT499⟩ : ∃ z, z = T498.setVm vm499 := ⟨_, rfl⟩
            rw [← hT499] at X499 st499
            have e499 : T499.heap = h0 := by rw [hT499]; exact e498
            obtain ⟨cl500, Ar500, qa500, Sa500, Na500, Ha500, Ga500⟩ := id V_slots
            have hin500 : ¬ ((((3 : Int32) * (own_i1 sx vb)) + (2 : Int32)) < 0 ∨ cl500.slots.size ≤ ((((3 : Int32) * (own_i1 sx vb)) + (2 : Int32))).toNatClampNeg) := inb_of Sa500 (own_b2 (own_r1 sx vb))
            obtain ⟨T501, h501, X501, e501, W501, st501⟩ := stJ X499 hx hZ e499 Ar500 (j := (((3 : Int32) * (own_i1 sx vb)) + (2 : Int32))) hin500 (g := (mkF m 109 #[.val (.ref a1), .val (.int sx), .val (.long vb), .second, .val .null, .val (.double ms), .second, .val (.int own_mk), .val (.int (own_i1 sx vb))] [(.long (((FP.dadd (((x_slots ((((3 : Int32) * (own_i1 sx vb)) + (2 : Int32))).toNatClampNeg)).toUInt64) ms)).toInt64)), (.int (((3 : Int32) * (own_i1 sx vb)) + (2 : Int32))), (.ref z_slots)])) rfl rfl (hb hby d5_109)
            have fa501 : Arv Z h501 z_slots k_slots .long (96 : Int32) (own_L (own_up x_slots ((((3 : Int32) * (own_i1 sx vb)) + (2 : Int32))).toNatClampNeg (((FP.dadd (((x_slots ((((3 : Int32) * (own_i1 sx vb)) + (2 : Int32))).toNatClampNeg)).toUInt64) ms)).toInt64))) (.long (0 : Int64)) := (Arv.set Ar500 qa500 Sa500 Na500 Ha500 Ga500 rfl W501 ((((3 : Int32) * (own_i1 sx vb)) + (2 : Int32))).toNatClampNeg rfl (own_Ll x_slots (own_ix (own_b2 (own_r1 sx vb))))).pad (own_Lset x_slots (own_ix (own_b2 (own_r1 sx vb))) (((FP.dadd (((x_slots ((((3 : Int32) * (own_i1 sx vb)) + (2 : Int32))).toNatClampNeg)).toUInt64) ms)).toInt64))
            have f502 : Exa Z h501 a1 "com/example/ketproof/ketproof/MassTable" := E1.wr W501
            have f503 : Fld Z h501 a1 "com/example/ketproof/ketproof/MassTable" "slots" "[J" (.ref z_slots) := F_slots_a1.other W501 (Or.inl ne_slots)
            have f504 : Fld Z h501 a1 "com/example/ketproof/ketproof/MassTable" "entrySlots" "[I" (.ref z_entrySlots) := F_entrySlots_a1.other W501 (Or.inl ne_slots)
            have f505 : Fld Z h501 a1 "com/example/ketproof/ketproof/MassTable" "size" "I" (.int z_size) := F_size_a1.other W501 (Or.inl ne_slots)
            have f506 : Fld Z h501 a1 "com/example/ketproof/ketproof/MassTable" "decimals" "[Ljava/math/BigDecimal;" .null := F_decimals_a1.other W501 (Or.inl ne_slots)
            have f507 : Arv Z h501 z_entrySlots k_entrySlots .int (16 : Int32) (own_E x_entrySlots) (.int (0 : Int32)) := V_entrySlots.other W501 ne_entrySlots_slots
            have N508 := Fr.snoc X501 N494 g_slots
            have K509 : Keep h0 h501 [a1, z_slots, z_entrySlots] := (Keep.refl h0 [a1, z_slots, z_entrySlots]).wr W501 (Or.inl (List.mem_of_getElem? (i := 1) rfl))
            have Z510 : n0 ≤ h501.size := Nat.le_trans Z0 (Keep.of_wr W501).1
            have hf_size : f5_size sx vb ms z_size x_slots x_entrySlots = z_size := by
              unfold f5_size
              first | rfl | (rw [if_neg hc57, if_neg hc125, if_neg hc421, if_pos hc489, if_pos hc493])
            have hf_slots : f5_slots sx vb ms z_size x_slots x_entrySlots = (own_up x_slots ((((3 : Int32) * (own_i1 sx vb)) + (2 : Int32))).toNatClampNeg (((FP.dadd (((x_slots ((((3 : Int32) * (own_i1 sx vb)) + (2 : Int32))).toNatClampNeg)).toUInt64) ms)).toInt64)) := by
              unfold f5_slots
              first | rfl | (rw [if_neg hc57, if_neg hc125, if_neg hc421, if_pos hc489, if_pos hc493])
            have hf_entrySlots : f5_entrySlots sx vb ms z_size x_slots x_entrySlots = x_entrySlots := by
              unfold f5_entrySlots
              first | rfl | (rw [if_neg hc57, if_neg hc125, if_neg hc421, if_pos hc489, if_pos hc493])
            obtain ⟨fs, hr, hrun, hended, hW, hsame⟩ := X501.leave (v := none) (fun _ => rfl)
            refine ⟨_, _, S492 _ ?_, hrun, hended, _, _, rfl, ?_, ⟨_, rfl⟩, hW, hsame.mono (by decide) (by decide)⟩
            · refine XS.ifNo X490.here hx rfl (hb hby d5_65) rfl ((if0 _ _).trans (teq hc493).2) ?_
              show Steps p.tables e below (T490.setTop (mkF m 68 #[.val (.ref a1), .val (.int sx), .val (.long vb), .second, .val .null, .val (.double ms), .second, .val (.int own_mk), .val (.int (own_i1 sx vb))] [])) _
              refine XS.aloadN X490.here hx rfl (hb hby d5_68) rfl rfl ?_
              show Steps p.tables e below (T490.setTop (mkF m 69 #[.val (.ref a1), .val (.int sx), .val (.long vb), .second, .val .null, .val (.double ms), .second, .val (.int own_mk), .val (.int (own_i1 sx vb))] [(.ref a1)])) _
              refine XS.iload X490.here hx rfl (hb hby d5_69) rfl ?_
              show Steps p.tables e below (T490.setTop (mkF m 71 #[.val (.ref a1), .val (.int sx), .val (.long vb), .second, .val .null, .val (.double ms), .second, .val (.int own_mk), .val (.int (own_i1 sx vb))] [(.int (own_i1 sx vb)), (.ref a1)])) _
              refine XS.aload X490.here hx rfl (hb hby d5_71) rfl rfl ?_
              show Steps p.tables e below (T490.setTop (mkF m 73 #[.val (.ref a1), .val (.int sx), .val (.long vb), .second, .val .null, .val (.double ms), .second, .val (.int own_mk), .val (.int (own_i1 sx vb))] [.null, (.int (own_i1 sx vb)), (.ref a1)])) _
              refine st494.trans ?_
              show Steps p.tables e below (T494.setTop (mkF m 76 #[.val (.ref a1), .val (.int sx), .val (.long vb), .second, .val .null, .val (.double ms), .second, .val (.int own_mk), .val (.int (own_i1 sx vb))] [(.int (f12 (own_i1 sx vb)))])) _
              refine XS.ifNo X494.here hx rfl (hb hby d5_76) rfl ((if0 _ _).trans (feq (own_f12 _)).1) ?_
              show Steps p.tables e below (T494.setTop (mkF m 79 #[.val (.ref a1), .val (.int sx), .val (.long vb), .second, .val .null, .val (.double ms), .second, .val (.int own_mk), .val (.int (own_i1 sx vb))] [])) _
              refine XS.aloadN X494.here hx rfl (hb hby d5_79) rfl rfl ?_
              show Steps p.tables e below (T494.setTop (mkF m 80 #[.val (.ref a1), .val (.int sx), .val (.long vb), .second, .val .null, .val (.double ms), .second, .val (.int own_mk), .val (.int (own_i1 sx vb))] [(.ref a1)])) _
              refine st495 _ ?_
              show Steps p.tables e below (T495.setTop (mkF m 83 #[.val (.ref a1), .val (.int sx), .val (.long vb), .second, .val .null, .val (.double ms), .second, .val (.int own_mk), .val (.int (own_i1 sx vb))] [(.ref z_slots)])) _
              refine XS.iconst X495.here hx rfl (hb hby d5_83) ?_
              show Steps p.tables e below (T495.setTop (mkF m 84 #[.val (.ref a1), .val (.int sx), .val (.long vb), .second, .val .null, .val (.double ms), .second, .val (.int own_mk), .val (.int (own_i1 sx vb))] [(.int (3 : Int32)), (.ref z_slots)])) _
              refine XS.iload X495.here hx rfl (hb hby d5_84) rfl ?_
              show Steps p.tables e below (T495.setTop (mkF m 86 #[.val (.ref a1), .val (.int sx), .val (.long vb), .second, .val .null, .val (.double ms), .second, .val (.int own_mk), .val (.int (own_i1 sx vb))] [(.int (own_i1 sx vb)), (.int (3 : Int32)), (.ref z_slots)])) _
              refine XS.imul X495.here hx rfl (hb hby d5_86) rfl ?_
              show Steps p.tables e below (T495.setTop (mkF m 87 #[.val (.ref a1), .val (.int sx), .val (.long vb), .second, .val .null, .val (.double ms), .second, .val (.int own_mk), .val (.int (own_i1 sx vb))] [(.int ((3 : Int32) * (own_i1 sx vb))), (.ref z_slots)])) _
              refine XS.iconst X495.here hx rfl (hb hby d5_87) ?_
              show Steps p.tables e below (T495.setTop (mkF m 88 #[.val (.ref a1), .val (.int sx), .val (.long vb), .second, .val .null, .val (.double ms), .second, .val (.int own_mk), .val (.int (own_i1 sx vb))] [(.int (2 : Int32)), (.int ((3 : Int32) * (own_i1 sx vb))), (.ref z_slots)])) _
              refine XS.iadd X495.here hx rfl (hb hby d5_88) rfl ?_
              show Steps p.tables e below (T495.setTop (mkF m 89 #[.val (.ref a1), .val (.int sx), .val (.long vb), .second, .val .null, .val (.double ms), .second, .val (.int own_mk), .val (.int (own_i1 sx vb))] [(.int (((3 : Int32) * (own_i1 sx vb)) + (2 : Int32))), (.ref z_slots)])) _
              refine XS.aloadN X495.here hx rfl (hb hby d5_89) rfl rfl ?_
              show Steps p.tables e below (T495.setTop (mkF m 90 #[.val (.ref a1), .val (.int sx), .val (.long vb), .second, .val .null, .val (.double ms), .second, .val (.int own_mk), .val (.int (own_i1 sx vb))] [(.ref a1), (.int (((3 : Int32) * (own_i1 sx vb)) + (2 : Int32))), (.ref z_slots)])) _
              refine st496 _ ?_
              show Steps p.tables e below (T496.setTop (mkF m 93 #[.val (.ref a1), .val (.int sx), .val (.long vb), .second, .val .null, .val (.double ms), .second, .val (.int own_mk), .val (.int (own_i1 sx vb))] [(.ref z_slots), (.int (((3 : Int32) * (own_i1 sx vb)) + (2 : Int32))), (.ref z_slots)])) _
              refine XS.iconst X496.here hx rfl (hb hby d5_93) ?_
              show Steps p.tables e below (T496.setTop (mkF m 94 #[.val (.ref a1), .val (.int sx), .val (.long vb), .second, .val .null, .val (.double ms), .second, .val (.int own_mk), .val (.int (own_i1 sx vb))] [(.int (3 : Int32)), (.ref z_slots), (.int (((3 : Int32) * (own_i1 sx vb)) + (2 : Int32))), (.ref z_slots)])) _
              refine XS.iload X496.here hx rfl (hb hby d5_94) rfl ?_
              show Steps p.tables e below (T496.setTop (mkF m 96 #[.val (.ref a1), .val (.int sx), .val (.long vb), .second, .val .null, .val (.double ms), .second, .val (.int own_mk), .val (.int (own_i1 sx vb))] [(.int (own_i1 sx vb)), (.int (3 : Int32)), (.ref z_slots), (.int (((3 : Int32) * (own_i1 sx vb)) + (2 : Int32))), (.ref z_slots)])) _
              refine XS.imul X496.here hx rfl (hb hby d5_96) rfl ?_
              show Steps p.tables e below (T496.setTop (mkF m 97 #[.val (.ref a1), .val (.int sx), .val (.long vb), .second, .val .null, .val (.double ms), .second, .val (.int own_mk), .val (.int (own_i1 sx vb))] [(.int ((3 : Int32) * (own_i1 sx vb))), (.ref z_slots), (.int (((3 : Int32) * (own_i1 sx vb)) + (2 : Int32))), (.ref z_slots)])) _
              refine XS.iconst X496.here hx rfl (hb hby d5_97) ?_
              show Steps p.tables e below (T496.setTop (mkF m 98 #[.val (.ref a1), .val (.int sx), .val (.long vb), .second, .val .null, .val (.double ms), .second, .val (.int own_mk), .val (.int (own_i1 sx vb))] [(.int (2 : Int32)), (.int ((3 : Int32) * (own_i1 sx vb))), (.ref z_slots), (.int (((3 : Int32) * (own_i1 sx vb)) + (2 : Int32))), (.ref z_slots)])) _
              refine XS.iadd X496.here hx rfl (hb hby d5_98) rfl ?_
              show Steps p.tables e below (T496.setTop (mkF m 99 #[.val (.ref a1), .val (.int sx), .val (.long vb), .second, .val .null, .val (.double ms), .second, .val (.int own_mk), .val (.int (own_i1 sx vb))] [(.int (((3 : Int32) * (own_i1 sx vb)) + (2 : Int32))), (.ref z_slots), (.int (((3 : Int32) * (own_i1 sx vb)) + (2 : Int32))), (.ref z_slots)])) _
              refine X496.laload hx (j := (((3 : Int32) * (own_i1 sx vb)) + (2 : Int32))) (v := (.long (x_slots ((((3 : Int32) * (own_i1 sx vb)) + (2 : Int32))).toNatClampNeg))) (by rw [e496]; exact Ar497.1) (State.isArrayOf_alike hZ.alike Ar497.2.1) Ar497.2.2 hin497 (Has.at Ha497 hin497 (own_rd x_slots (own_b2 (own_r1 sx vb)))) (g := (mkF m 99 #[.val (.ref a1), .val (.int sx), .val (.long vb), .second, .val .null, .val (.double ms), .second, .val (.int own_mk), .val (.int (own_i1 sx vb))] [(.int (((3 : Int32) * (own_i1 sx vb)) + (2 : Int32))), (.ref z_slots), (.int (((3 : Int32) * (own_i1 sx vb)) + (2 : Int32))), (.ref z_slots)])) rfl rfl (hb hby d5_99) _ ?_
              show Steps p.tables e below (T496.setTop (mkF m 100 #[.val (.ref a1), .val (.int sx), .val (.long vb), .second, .val .null, .val (.double ms), .second, .val (.int own_mk), .val (.int (own_i1 sx vb))] [(.long (x_slots ((((3 : Int32) * (own_i1 sx vb)) + (2 : Int32))).toNatClampNeg)), (.int (((3 : Int32) * (own_i1 sx vb)) + (2 : Int32))), (.ref z_slots)])) _
              refine st498 _ ?_
              show Steps p.tables e below (T498.setTop (mkF m 103 #[.val (.ref a1), .val (.int sx), .val (.long vb), .second, .val .null, .val (.double ms), .second, .val (.int own_mk), .val (.int (own_i1 sx vb))] [(.double (((x_slots ((((3 : Int32) * (own_i1 sx vb)) + (2 : Int32))).toNatClampNeg)).toUInt64)), (.int (((3 : Int32) * (own_i1 sx vb)) + (2 : Int32))), (.ref z_slots)])) _
              refine XS.dload X498.here hx rfl (hb hby d5_103) rfl ?_
              show Steps p.tables e below (T498.setTop (mkF m 105 #[.val (.ref a1), .val (.int sx), .val (.long vb), .second, .val .null, .val (.double ms), .second, .val (.int own_mk), .val (.int (own_i1 sx vb))] [(.double ms), (.double (((x_slots ((((3 : Int32) * (own_i1 sx vb)) + (2 : Int32))).toNatClampNeg)).toUInt64)), (.int (((3 : Int32) * (own_i1 sx vb)) + (2 : Int32))), (.ref z_slots)])) _
              refine XS.daddS X498.here hx rfl (hb hby d5_105) rfl (Jvm.Free.Fl.dadd_out (hM _ (own_md (own_r1 sx vb))) hms) rfl ?_
              show Steps p.tables e below (T498.setTop (mkF m 106 #[.val (.ref a1), .val (.int sx), .val (.long vb), .second, .val .null, .val (.double ms), .second, .val (.int own_mk), .val (.int (own_i1 sx vb))] [(.double (FP.dadd (((x_slots ((((3 : Int32) * (own_i1 sx vb)) + (2 : Int32))).toNatClampNeg)).toUInt64) ms)), (.int (((3 : Int32) * (own_i1 sx vb)) + (2 : Int32))), (.ref z_slots)])) _
              refine st499 _ ?_
              show Steps p.tables e below (T499.setTop (mkF m 109 #[.val (.ref a1), .val (.int sx), .val (.long vb), .second, .val .null, .val (.double ms), .second, .val (.int own_mk), .val (.int (own_i1 sx vb))] [(.long (((FP.dadd (((x_slots ((((3 : Int32) * (own_i1 sx vb)) + (2 : Int32))).toNatClampNeg)).toUInt64) ms)).toInt64)), (.int (((3 : Int32) * (own_i1 sx vb)) + (2 : Int32))), (.ref z_slots)])) _
              refine st501 _ ?_
              show Steps p.tables e below (T501.setTop (mkF m 110 #[.val (.ref a1), .val (.int sx), .val (.long vb), .second, .val .null, .val (.double ms), .second, .val (.int own_mk), .val (.int (own_i1 sx vb))] [])) _
              exact X501.returnOut hx Bd.returns (hb hby d5_110) hr
            · show Q5 Z a1 sx vb ms z_slots z_entrySlots z_size k_slots x_slots k_entrySlots x_entrySlots h0 n0 _ T501.heap _
              rw [e501]
              exact ⟨rfl, N508, K509, f502, f503, f504, by rw [hf_size]; exact f505, f506, by rw [hf_slots]; exact fa501, by rw [hf_entrySlots]; exact f507⟩
          · obtain ⟨T511, X511, e511, st511⟩ := getF X490 hx hZ hown (host := "") (Or.inl (hw _ (List.mem_of_getElem? (i := 10) rfl))) Via.refl e490 F_slots_a1 (g := (mkF m 22 #[.val (.ref a1), .val (.int sx), .val (.long vb), .second, .val .null, .val (.double ms), .second, .val (.int own_mk), .val (.int (own_i2 sx vb))] [(.ref a1)])) rfl rfl (hb hby d5_22)
            obtain ⟨cl512, Ar512, qa512, Sa512, Na512, Ha512, Ga512⟩ := id V_slots
            have hin512 : ¬ (((3 : Int32) * (own_i2 sx vb)) < 0 ∨ cl512.slots.size ≤ (((3 : Int32) * (own_i2 sx vb))).toNatClampNeg) := inb_of Sa512 (own_b0 (own_r2 sx vb))
            have S513 : ∀ t, Steps p.tables e below (T511.setTop (mkF m 32 #[.val (.ref a1), .val (.int sx), .val (.long vb), .second, .val .null, .val (.double ms), .second, .val (.int own_mk), .val (.int (own_i2 sx vb))] [(.int (lcmpW (x_slots (((3 : Int32) * (own_i2 sx vb))).toNatClampNeg) (0 : Int64)))])) t → Steps p.tables e below (s₁.setTop (entryFrame m #[(.ref a1), (.int sx), (.long vb), .null, (.double ms)] 9)) t := by
              intro t k
              refine S492 t ?_
              refine XS.ifYes X490.here hx rfl (pc0 := 65) (pc' := 111) rfl (hb hby d5_65) rfl ((if0 _ _).trans (feq hc493).2) (by decide) (by decide) ?_
              show Steps p.tables e below (T490.setTop (mkF m 111 #[.val (.ref a1), .val (.int sx), .val (.long vb), .second, .val .null, .val (.double ms), .second, .val (.int own_mk), .val (.int (own_i1 sx vb))] [])) _
              refine XS.iload X490.here hx rfl (hb hby d5_111) rfl ?_
              show Steps p.tables e below (T490.setTop (mkF m 113 #[.val (.ref a1), .val (.int sx), .val (.long vb), .second, .val .null, .val (.double ms), .second, .val (.int own_mk), .val (.int (own_i1 sx vb))] [(.int (own_i1 sx vb))])) _
              refine XS.iconst X490.here hx rfl (hb hby d5_113) ?_
              show Steps p.tables e below (T490.setTop (mkF m 114 #[.val (.ref a1), .val (.int sx), .val (.long vb), .second, .val .null, .val (.double ms), .second, .val (.int own_mk), .val (.int (own_i1 sx vb))] [(.int (1 : Int32)), (.int (own_i1 sx vb))])) _
              refine XS.iadd X490.here hx rfl (hb hby d5_114) rfl ?_
              show Steps p.tables e below (T490.setTop (mkF m 115 #[.val (.ref a1), .val (.int sx), .val (.long vb), .second, .val .null, .val (.double ms), .second, .val (.int own_mk), .val (.int (own_i1 sx vb))] [(.int ((own_i1 sx vb) + (1 : Int32)))])) _
              refine XS.iload X490.here hx rfl (hb hby d5_115) rfl ?_
              show Steps p.tables e below (T490.setTop (mkF m 117 #[.val (.ref a1), .val (.int sx), .val (.long vb), .second, .val .null, .val (.double ms), .second, .val (.int own_mk), .val (.int (own_i1 sx vb))] [(.int own_mk), (.int ((own_i1 sx vb) + (1 : Int32)))])) _
              refine XS.iand X490.here hx rfl (hb hby d5_117) rfl ?_
              show Steps p.tables e below (T490.setTop (mkF m 118 #[.val (.ref a1), .val (.int sx), .val (.long vb), .second, .val .null, .val (.double ms), .second, .val (.int own_mk), .val (.int (own_i1 sx vb))] [(.int (own_i2 sx vb))])) _
              refine XS.istore X490.here hx rfl (hb hby d5_118) rfl (l' := #[.val (.ref a1), .val (.int sx), .val (.long vb), .second, .val .null, .val (.double ms), .second, .val (.int own_mk), .val (.int (own_i2 sx vb))]) rfl ?_
              show Steps p.tables e below (T490.setTop (mkF m 120 #[.val (.ref a1), .val (.int sx), .val (.long vb), .second, .val .null, .val (.double ms), .second, .val (.int own_mk), .val (.int (own_i2 sx vb))] [])) _
              refine XS.goto X490.here hx rfl (pc0 := 120) (pc' := 21) rfl (hb hby d5_120) (by decide) (by decide) ?_
              show Steps p.tables e below (T490.setTop (mkF m 21 #[.val (.ref a1), .val (.int sx), .val (.long vb), .second, .val .null, .val (.double ms), .second, .val (.int own_mk), .val (.int (own_i2 sx vb))] [])) _
              refine XS.aloadN X490.here hx rfl (hb hby d5_21) rfl rfl ?_
              show Steps p.tables e below (T490.setTop (mkF m 22 #[.val (.ref a1), .val (.int sx), .val (.long vb), .second, .val .null, .val (.double ms), .second, .val (.int own_mk), .val (.int (own_i2 sx vb))] [(.ref a1)])) _
              refine st511 _ ?_
              show Steps p.tables e below (T511.setTop (mkF m 25 #[.val (.ref a1), .val (.int sx), .val (.long vb), .second, .val .null, .val (.double ms), .second, .val (.int own_mk), .val (.int (own_i2 sx vb))] [(.ref z_slots)])) _
              refine XS.iconst X511.here hx rfl (hb hby d5_25) ?_
              show Steps p.tables e below (T511.setTop (mkF m 26 #[.val (.ref a1), .val (.int sx), .val (.long vb), .second, .val .null, .val (.double ms), .second, .val (.int own_mk), .val (.int (own_i2 sx vb))] [(.int (3 : Int32)), (.ref z_slots)])) _
              refine XS.iload X511.here hx rfl (hb hby d5_26) rfl ?_
              show Steps p.tables e below (T511.setTop (mkF m 28 #[.val (.ref a1), .val (.int sx), .val (.long vb), .second, .val .null, .val (.double ms), .second, .val (.int own_mk), .val (.int (own_i2 sx vb))] [(.int (own_i2 sx vb)), (.int (3 : Int32)), (.ref z_slots)])) _
              refine XS.imul X511.here hx rfl (hb hby d5_28) rfl ?_
              show Steps p.tables e below (T511.setTop (mkF m 29 #[.val (.ref a1), .val (.int sx), .val (.long vb), .second, .val .null, .val (.double ms), .second, .val (.int own_mk), .val (.int (own_i2 sx vb))] [(.int ((3 : Int32) * (own_i2 sx vb))), (.ref z_slots)])) _
              refine X511.laload hx (j := ((3 : Int32) * (own_i2 sx vb))) (v := (.long (x_slots (((3 : Int32) * (own_i2 sx vb))).toNatClampNeg))) (by rw [e511]; exact Ar512.1) (State.isArrayOf_alike hZ.alike Ar512.2.1) Ar512.2.2 hin512 (Has.at Ha512 hin512 (own_rd x_slots (own_b0 (own_r2 sx vb)))) (g := (mkF m 29 #[.val (.ref a1), .val (.int sx), .val (.long vb), .second, .val .null, .val (.double ms), .second, .val (.int own_mk), .val (.int (own_i2 sx vb))] [(.int ((3 : Int32) * (own_i2 sx vb))), (.ref z_slots)])) rfl rfl (hb hby d5_29) _ ?_
              show Steps p.tables e below (T511.setTop (mkF m 30 #[.val (.ref a1), .val (.int sx), .val (.long vb), .second, .val .null, .val (.double ms), .second, .val (.int own_mk), .val (.int (own_i2 sx vb))] [(.long (x_slots (((3 : Int32) * (own_i2 sx vb))).toNatClampNeg))])) _
              refine XS.lconst X511.here hx rfl (hb hby d5_30) ?_
              show Steps p.tables e below (T511.setTop (mkF m 31 #[.val (.ref a1), .val (.int sx), .val (.long vb), .second, .val .null, .val (.double ms), .second, .val (.int own_mk), .val (.int (own_i2 sx vb))] [(.long (0 : Int64)), (.long (x_slots (((3 : Int32) * (own_i2 sx vb))).toNatClampNeg))])) _
              refine XS.lcmp X511.here hx rfl (hb hby d5_31) rfl ?_
              show Steps p.tables e below (T511.setTop (mkF m 32 #[.val (.ref a1), .val (.int sx), .val (.long vb), .second, .val .null, .val (.double ms), .second, .val (.int own_mk), .val (.int (own_i2 sx vb))] [(.int (lcmpW (x_slots (((3 : Int32) * (own_i2 sx vb))).toNatClampNeg) (0 : Int64)))])) _
              exact k
            by_cases hc514 : (lcmpW (x_slots (((3 : Int32) * (own_i2 sx vb))).toNatClampNeg) (0 : Int64)) = (0 : Int32)
            · obtain ⟨T515, X515, e515, st515⟩ := getF X511 hx hZ hown (host := "") (Or.inl (hw _ (List.mem_of_getElem? (i := 20) rfl))) Via.refl e511 F_size_a1 (g := (mkF m 124 #[.val (.ref a1), .val (.int sx), .val (.long vb), .second, .val .null, .val (.double ms), .second, .val (.int own_mk), .val (.int (own_i2 sx vb))] [(.ref a1)])) rfl rfl (hb hby d5_124)
              obtain ⟨T516, X516, e516, st516⟩ := getF X515 hx hZ hown (host := "") (Or.inl (hw _ (List.mem_of_getElem? (i := 13) rfl))) Via.refl e515 F_entrySlots_a1 (g := (mkF m 128 #[.val (.ref a1), .val (.int sx), .val (.long vb), .second, .val .null, .val (.double ms), .second, .val (.int own_mk), .val (.int (own_i2 sx vb))] [(.ref a1), (.int z_size)])) rfl rfl (hb hby d5_128)
              obtain ⟨cl517, Ar517, qa517, Sa517, Na517, Ha517, Ga517⟩ := id V_entrySlots
              obtain ⟨T518, X518, e518, st518⟩ := getF X516 hx hZ hown (host := "") (Or.inl (hw _ (List.mem_of_getElem? (i := 10) rfl))) Via.refl e516 F_slots_a1 (g := (mkF m 151 #[.val (.ref a1), .val (.int sx), .val (.long vb), .second, .val .null, .val (.double ms), .second, .val (.int own_mk), .val (.int (own_i2 sx vb))] [(.ref a1)])) rfl rfl (hb hby d5_151)
              obtain ⟨cl519, Ar519, qa519, Sa519, Na519, Ha519, Ga519⟩ := id V_slots
              have hin519 : ¬ (((3 : Int32) * (own_i2 sx vb)) < 0 ∨ cl519.slots.size ≤ (((3 : Int32) * (own_i2 sx vb))).toNatClampNeg) := inb_of Sa519 (own_b0 (own_r2 sx vb))
              obtain ⟨T520, h520, X520, e520, W520, st520⟩ := stJ X518 hx hZ e518 Ar519 (j := ((3 : Int32) * (own_i2 sx vb))) hin519 (g := (mkF m 162 #[.val (.ref a1), .val (.int sx), .val (.long vb), .second, .val .null, .val (.double ms), .second, .val (.int own_mk), .val (.int (own_i2 sx vb))] [(.long (sx.toInt64 + (1 : Int64))), (.int ((3 : Int32) * (own_i2 sx vb))), (.ref z_slots)])) rfl rfl (hb hby d5_162)
              have fa520 : Arv Z h520 z_slots k_slots .long (96 : Int32) (own_L (own_up x_slots (((3 : Int32) * (own_i2 sx vb))).toNatClampNeg (sx.toInt64 + (1 : Int64)))) (.long (0 : Int64)) := (Arv.set Ar519 qa519 Sa519 Na519 Ha519 Ga519 rfl W520 (((3 : Int32) * (own_i2 sx vb))).toNatClampNeg rfl (own_Ll x_slots (own_ix (own_b0 (own_r2 sx vb))))).pad (own_Lset x_slots (own_ix (own_b0 (own_r2 sx vb))) (sx.toInt64 + (1 : Int64)))
              have f521 : Exa Z h520 a1 "com/example/ketproof/ketproof/MassTable" := E1.wr W520
              have f522 : Fld Z h520 a1 "com/example/ketproof/ketproof/MassTable" "slots" "[J" (.ref z_slots) := F_slots_a1.other W520 (Or.inl ne_slots)
              have f523 : Fld Z h520 a1 "com/example/ketproof/ketproof/MassTable" "entrySlots" "[I" (.ref z_entrySlots) := F_entrySlots_a1.other W520 (Or.inl ne_slots)
              have f524 : Fld Z h520 a1 "com/example/ketproof/ketproof/MassTable" "size" "I" (.int z_size) := F_size_a1.other W520 (Or.inl ne_slots)
              have f525 : Fld Z h520 a1 "com/example/ketproof/ketproof/MassTable" "decimals" "[Ljava/math/BigDecimal;" .null := F_decimals_a1.other W520 (Or.inl ne_slots)
              have f526 : Arv Z h520 z_entrySlots k_entrySlots .int (16 : Int32) (own_E x_entrySlots) (.int (0 : Int32)) := V_entrySlots.other W520 ne_entrySlots_slots
              have N527 := Fr.snoc X520 N53 g_slots
              have K528 : Keep h0 h520 [a1, z_slots, z_entrySlots] := (Keep.refl h0 [a1, z_slots, z_entrySlots]).wr W520 (Or.inl (List.mem_of_getElem? (i := 1) rfl))
              have Z529 : n0 ≤ h520.size := Nat.le_trans Z0 (Keep.of_wr W520).1
              obtain ⟨T530, X530, e530, st530⟩ := getF X520 hx hZ hown (host := "") (Or.inl (hw _ (List.mem_of_getElem? (i := 10) rfl))) Via.refl e520 f522 (g := (mkF m 164 #[.val (.ref a1), .val (.int sx), .val (.long vb), .second, .val .null, .val (.double ms), .second, .val (.int own_mk), .val (.int (own_i2 sx vb))] [(.ref a1)])) rfl rfl (hb hby d5_164)
              obtain ⟨cl531, Ar531, qa531, Sa531, Na531, Ha531, Ga531⟩ := id fa520
              have hin531 : ¬ ((((3 : Int32) * (own_i2 sx vb)) + (1 : Int32)) < 0 ∨ cl531.slots.size ≤ ((((3 : Int32) * (own_i2 sx vb)) + (1 : Int32))).toNatClampNeg) := inb_of Sa531 (own_b1 (own_r2 sx vb))
              obtain ⟨T532, h532, X532, e532, W532, st532⟩ := stJ X530 hx hZ e530 Ar531 (j := (((3 : Int32) * (own_i2 sx vb)) + (1 : Int32))) hin531 (g := (mkF m 174 #[.val (.ref a1), .val (.int sx), .val (.long vb), .second, .val .null, .val (.double ms), .second, .val (.int own_mk), .val (.int (own_i2 sx vb))] [(.long vb), (.int (((3 : Int32) * (own_i2 sx vb)) + (1 : Int32))), (.ref z_slots)])) rfl rfl (hb hby d5_174)
              have fa532 : Arv Z h532 z_slots k_slots .long (96 : Int32) (own_L (own_up (own_up x_slots (((3 : Int32) * (own_i2 sx vb))).toNatClampNeg (sx.toInt64 + (1 : Int64))) ((((3 : Int32) * (own_i2 sx vb)) + (1 : Int32))).toNatClampNeg vb)) (.long (0 : Int64)) := (Arv.set Ar531 qa531 Sa531 Na531 Ha531 Ga531 rfl W532 ((((3 : Int32) * (own_i2 sx vb)) + (1 : Int32))).toNatClampNeg rfl (own_Ll (own_up x_slots (((3 : Int32) * (own_i2 sx vb))).toNatClampNeg (sx.toInt64 + (1 : Int64))) (own_ix (own_b1 (own_r2 sx vb))))).pad (own_Lset (own_up x_slots (((3 : Int32) * (own_i2 sx vb))).toNatClampNeg (sx.toInt64 + (1 : Int64))) (own_ix (own_b1 (own_r2 sx vb))) vb)
              have f533 : Exa Z h532 a1 "com/example/ketproof/ketproof/MassTable" := f521.wr W532
              have f534 : Fld Z h532 a1 "com/example/ketproof/ketproof/MassTable" "slots" "[J" (.ref z_slots) := f522.other W532 (Or.inl ne_slots)
              have f535 : Fld Z h532 a1 "com/example/ketproof/ketproof/MassTable" "entrySlots" "[I" (.ref z_entrySlots) := f523.other W532 (Or.inl ne_slots)
              have f536 : Fld Z h532 a1 "com/example/ketproof/ketproof/MassTable" "size" "I" (.int z_size) := f524.other W532 (Or.inl ne_slots)
              have f537 : Fld Z h532 a1 "com/example/ketproof/ketproof/MassTable" "decimals" "[Ljava/math/BigDecimal;" .null := f525.other W532 (Or.inl ne_slots)
              have f538 : Arv Z h532 z_entrySlots k_entrySlots .int (16 : Int32) (own_E x_entrySlots) (.int (0 : Int32)) := f526.other W532 ne_entrySlots_slots
              have N539 := Fr.snoc X532 N527 g_slots
              have K540 : Keep h0 h532 [a1, z_slots, z_entrySlots] := K528.wr W532 (Or.inl (List.mem_of_getElem? (i := 1) rfl))
              have Z541 : n0 ≤ h532.size := Nat.le_trans Z529 (Keep.of_wr W532).1
              obtain ⟨T542, X542, e542, st542⟩ := getF X532 hx hZ hown (host := "") (Or.inl (hw _ (List.mem_of_getElem? (i := 10) rfl))) Via.refl e532 f534 (g := (mkF m 176 #[.val (.ref a1), .val (.int sx), .val (.long vb), .second, .val .null, .val (.double ms), .second, .val (.int own_mk), .val (.int (own_i2 sx vb))] [(.ref a1)])) rfl rfl (hb hby d5_176)
              obtain ⟨vm543, X543, st543⟩ := X542.doubleToRawLongBits hx hown (mvT hZ (hw _ (List.mem_of_getElem? (i := 27) rfl))) (mvT hZ (hw _ (List.mem_of_getElem? (i := 30) rfl))) (mvT hZ (hw _ (List.mem_of_getElem? (i := 28) rfl))) (mvT hZ (hw _ (List.mem_of_getElem? (i := 29) rfl))) (g := (mkF m 187 #[.val (.ref a1), .val (.int sx), .val (.long vb), .second, .val .null, .val (.double ms), .second, .val (.int own_mk), .val (.int (own_i2 sx vb))] [(.double ms), (.int (((3 : Int32) * (own_i2 sx vb)) + (2 : Int32))), (.ref z_slots)])) rfl (by rw [hml]; rfl) (rest := [(.int (((3 : Int32) * (own_i2 sx vb)) + (2 : Int32))), (.ref z_slots)]) (b := ms) rfl (hb hby d5_187) (by decide) (by show 2 * 0 + 2 + (nativeFrameWords "java/lang/Double" "doubleToRawLongBits" 2 + 11) ≤ _; decide)
              obtain ⟨T543, hT543⟩ : ∃ z, z = T542.setVm vm543 := ⟨_, rfl⟩
              rw [← hT543] at X543 st543
              have e543 : T543.heap = h532 := by rw [hT543]; exact e542
              obtain ⟨cl544, Ar544, qa544, Sa544, Na544, Ha544, Ga544⟩ := id fa532
              have hin544 : ¬ ((((3 : Int32) * (own_i2 sx vb)) + (2 : Int32)) < 0 ∨ cl544.slots.size ≤ ((((3 : Int32) * (own_i2 sx vb)) + (2 : Int32))).toNatClampNeg) := inb_of Sa544 (own_b2 (own_r2 sx vb))
              obtain ⟨T545, h545, X545, e545, W545, st545⟩ := stJ X543 hx hZ e543 Ar544 (j := (((3 : Int32) * (own_i2 sx vb)) + (2 : Int32))) hin544 (g := (mkF m 190 #[.val (.ref a1), .val (.int sx), .val (.long vb), .second, .val .null, .val (.double ms), .second, .val (.int own_mk), .val (.int (own_i2 sx vb))] [(.long ((ms).toInt64)), (.int (((3 : Int32) * (own_i2 sx vb)) + (2 : Int32))), (.ref z_slots)])) rfl rfl (hb hby d5_190)
              have fa545 : Arv Z h545 z_slots k_slots .long (96 : Int32) (own_L (own_up (own_up (own_up x_slots (((3 : Int32) * (own_i2 sx vb))).toNatClampNeg (sx.toInt64 + (1 : Int64))) ((((3 : Int32) * (own_i2 sx vb)) + (1 : Int32))).toNatClampNeg vb) ((((3 : Int32) * (own_i2 sx vb)) + (2 : Int32))).toNatClampNeg ((ms).toInt64))) (.long (0 : Int64)) := (Arv.set Ar544 qa544 Sa544 Na544 Ha544 Ga544 rfl W545 ((((3 : Int32) * (own_i2 sx vb)) + (2 : Int32))).toNatClampNeg rfl (own_Ll (own_up (own_up x_slots (((3 : Int32) * (own_i2 sx vb))).toNatClampNeg (sx.toInt64 + (1 : Int64))) ((((3 : Int32) * (own_i2 sx vb)) + (1 : Int32))).toNatClampNeg vb) (own_ix (own_b2 (own_r2 sx vb))))).pad (own_Lset (own_up (own_up x_slots (((3 : Int32) * (own_i2 sx vb))).toNatClampNeg (sx.toInt64 + (1 : Int64))) ((((3 : Int32) * (own_i2 sx vb)) + (1 : Int32))).toNatClampNeg vb) (own_ix (own_b2 (own_r2 sx vb))) ((ms).toInt64))
              have f546 : Exa Z h545 a1 "com/example/ketproof/ketproof/MassTable" := f533.wr W545
              have f547 : Fld Z h545 a1 "com/example/ketproof/ketproof/MassTable" "slots" "[J" (.ref z_slots) := f534.other W545 (Or.inl ne_slots)
              have f548 : Fld Z h545 a1 "com/example/ketproof/ketproof/MassTable" "entrySlots" "[I" (.ref z_entrySlots) := f535.other W545 (Or.inl ne_slots)
              have f549 : Fld Z h545 a1 "com/example/ketproof/ketproof/MassTable" "size" "I" (.int z_size) := f536.other W545 (Or.inl ne_slots)
              have f550 : Fld Z h545 a1 "com/example/ketproof/ketproof/MassTable" "decimals" "[Ljava/math/BigDecimal;" .null := f537.other W545 (Or.inl ne_slots)
              have f551 : Arv Z h545 z_entrySlots k_entrySlots .int (16 : Int32) (own_E x_entrySlots) (.int (0 : Int32)) := f538.other W545 ne_entrySlots_slots
              have N552 := Fr.snoc X545 N539 g_slots
              have K553 : Keep h0 h545 [a1, z_slots, z_entrySlots] := K540.wr W545 (Or.inl (List.mem_of_getElem? (i := 1) rfl))
              have Z554 : n0 ≤ h545.size := Nat.le_trans Z541 (Keep.of_wr W545).1
              obtain ⟨T555, X555, e555, st555⟩ := getF X545 hx hZ hown (host := "") (Or.inl (hw _ (List.mem_of_getElem? (i := 13) rfl))) Via.refl e545 f548 (g := (mkF m 227 #[.val (.ref a1), .val (.int sx), .val (.long vb), .second, .val .null, .val (.double ms), .second, .val (.int own_mk), .val (.int (own_i2 sx vb))] [(.ref a1)])) rfl rfl (hb hby d5_227)
              obtain ⟨T556, X556, e556, st556⟩ := getF X555 hx hZ hown (host := "") (Or.inl (hw _ (List.mem_of_getElem? (i := 20) rfl))) Via.refl e555 f549 (g := (mkF m 232 #[.val (.ref a1), .val (.int sx), .val (.long vb), .second, .val .null, .val (.double ms), .second, .val (.int own_mk), .val (.int (own_i2 sx vb))] [(.ref a1), (.ref a1), (.ref z_entrySlots)])) rfl rfl (hb hby d5_232)
              obtain ⟨T557, h557, X557, e557, W557, st557⟩ := putF X556 hx hZ hown (host := "") (Or.inl (hw _ (List.mem_of_getElem? (i := 20) rfl))) Via.refl e556 f549 f546 (Or.inl (hw _ (List.mem_of_getElem? (i := 21) rfl))) (hw _ (List.mem_of_getElem? (i := 1) rfl)) (ty := .int) (by decide) rfl rfl (g := (mkF m 238 #[.val (.ref a1), .val (.int sx), .val (.long vb), .second, .val .null, .val (.double ms), .second, .val (.int own_mk), .val (.int (own_i2 sx vb))] [(.int (z_size + (1 : Int32))), (.ref a1), (.int z_size), (.ref z_entrySlots)])) rfl rfl (hb hby d5_238)
              have f558 : Exa Z h557 a1 "com/example/ketproof/ketproof/MassTable" := f546.wr W557
              have f559 : Fld Z h557 a1 "com/example/ketproof/ketproof/MassTable" "slots" "[J" (.ref z_slots) := f547.other W557 (Or.inr (slot_ne (Or.inl (hw _ (List.mem_of_getElem? (i := 11) rfl))) (Or.inl (hw _ (List.mem_of_getElem? (i := 21) rfl))) (by decide) (t := (.array .long)) (t' := .int) (by decide) (by decide)))
              have f560 : Fld Z h557 a1 "com/example/ketproof/ketproof/MassTable" "entrySlots" "[I" (.ref z_entrySlots) := f548.other W557 (Or.inr (slot_ne (Or.inl (hw _ (List.mem_of_getElem? (i := 14) rfl))) (Or.inl (hw _ (List.mem_of_getElem? (i := 21) rfl))) (by decide) (t := (.array .int)) (t' := .int) (by decide) (by decide)))
              have f561 : Fld Z h557 a1 "com/example/ketproof/ketproof/MassTable" "size" "I" (.int (z_size + (1 : Int32))) := f549.same W557
              have f562 : Fld Z h557 a1 "com/example/ketproof/ketproof/MassTable" "decimals" "[Ljava/math/BigDecimal;" .null := f550.other W557 (Or.inr (slot_ne (Or.inl (hw _ (List.mem_of_getElem? (i := 61) rfl))) (Or.inl (hw _ (List.mem_of_getElem? (i := 21) rfl))) (by decide) (t := (.array (.object "java/math/BigDecimal"))) (t' := .int) (by decide) (by decide)))
              have f563 : Arv Z h557 z_entrySlots k_entrySlots .int (16 : Int32) (own_E x_entrySlots) (.int (0 : Int32)) := f551.other W557 (Ne.symm ne_entrySlots)
              have f564 : Arv Z h557 z_slots k_slots .long (96 : Int32) (own_L (own_up (own_up (own_up x_slots (((3 : Int32) * (own_i2 sx vb))).toNatClampNeg (sx.toInt64 + (1 : Int64))) ((((3 : Int32) * (own_i2 sx vb)) + (1 : Int32))).toNatClampNeg vb) ((((3 : Int32) * (own_i2 sx vb)) + (2 : Int32))).toNatClampNeg ((ms).toInt64))) (.long (0 : Int64)) := fa545.other W557 (Ne.symm ne_slots)
              have N565 := Fr.snoc X557 N552 g1
              have K566 : Keep h0 h557 [a1, z_slots, z_entrySlots] := K553.wr W557 (Or.inl (List.mem_of_getElem? (i := 0) rfl))
              have Z567 : n0 ≤ h557.size := Nat.le_trans Z554 (Keep.of_wr W557).1
              obtain ⟨cl568, Ar568, qa568, Sa568, Na568, Ha568, Ga568⟩ := id f563
              have hin568 : ¬ (z_size < 0 ∨ cl568.slots.size ≤ (z_size).toNatClampNeg) := inb_of Sa568 (own_ine hsz)
              obtain ⟨T569, h569, X569, e569, W569, st569⟩ := stI X557 hx hZ e557 Ar568 (j := z_size) hin568 (g := (mkF m 243 #[.val (.ref a1), .val (.int sx), .val (.long vb), .second, .val .null, .val (.double ms), .second, .val (.int own_mk), .val (.int (own_i2 sx vb))] [(.int (own_i2 sx vb)), (.int z_size), (.ref z_entrySlots)])) rfl rfl (hb hby d5_243)
              have fa569 : Arv Z h569 z_entrySlots k_entrySlots .int (16 : Int32) (own_E (own_up x_entrySlots (z_size).toNatClampNeg (own_i2 sx vb))) (.int (0 : Int32)) := (Arv.set Ar568 qa568 Sa568 Na568 Ha568 Ga568 rfl W569 (z_size).toNatClampNeg rfl (own_El x_entrySlots (own_ixe (own_ine hsz)))).pad (own_Eset x_entrySlots (own_ixe (own_ine hsz)) (own_i2 sx vb))
              have f570 : Exa Z h569 a1 "com/example/ketproof/ketproof/MassTable" := f558.wr W569
              have f571 : Fld Z h569 a1 "com/example/ketproof/ketproof/MassTable" "slots" "[J" (.ref z_slots) := f559.other W569 (Or.inl ne_entrySlots)
              have f572 : Fld Z h569 a1 "com/example/ketproof/ketproof/MassTable" "entrySlots" "[I" (.ref z_entrySlots) := f560.other W569 (Or.inl ne_entrySlots)
              have f573 : Fld Z h569 a1 "com/example/ketproof/ketproof/MassTable" "size" "I" (.int (z_size + (1 : Int32))) := f561.other W569 (Or.inl ne_entrySlots)
              have f574 : Fld Z h569 a1 "com/example/ketproof/ketproof/MassTable" "decimals" "[Ljava/math/BigDecimal;" .null := f562.other W569 (Or.inl ne_entrySlots)
              have f575 : Arv Z h569 z_slots k_slots .long (96 : Int32) (own_L (own_up (own_up (own_up x_slots (((3 : Int32) * (own_i2 sx vb))).toNatClampNeg (sx.toInt64 + (1 : Int64))) ((((3 : Int32) * (own_i2 sx vb)) + (1 : Int32))).toNatClampNeg vb) ((((3 : Int32) * (own_i2 sx vb)) + (2 : Int32))).toNatClampNeg ((ms).toInt64))) (.long (0 : Int64)) := f564.other W569 (Ne.symm ne_entrySlots_slots)
              have N576 := Fr.snoc X569 N565 g_entrySlots
              have K577 : Keep h0 h569 [a1, z_slots, z_entrySlots] := K566.wr W569 (Or.inl (List.mem_of_getElem? (i := 2) rfl))
              have Z578 : n0 ≤ h569.size := Nat.le_trans Z567 (Keep.of_wr W569).1
              have hf_size : f5_size sx vb ms z_size x_slots x_entrySlots = (z_size + (1 : Int32)) := by
                unfold f5_size
                first | rfl | (rw [if_neg hc57, if_neg hc125, if_neg hc421, if_pos hc489, if_neg hc493, if_pos hc514])
              have hf_slots : f5_slots sx vb ms z_size x_slots x_entrySlots = (own_up (own_up (own_up x_slots (((3 : Int32) * (own_i2 sx vb))).toNatClampNeg (sx.toInt64 + (1 : Int64))) ((((3 : Int32) * (own_i2 sx vb)) + (1 : Int32))).toNatClampNeg vb) ((((3 : Int32) * (own_i2 sx vb)) + (2 : Int32))).toNatClampNeg ((ms).toInt64)) := by
                unfold f5_slots
                first | rfl | (rw [if_neg hc57, if_neg hc125, if_neg hc421, if_pos hc489, if_neg hc493, if_pos hc514])
              have hf_entrySlots : f5_entrySlots sx vb ms z_size x_slots x_entrySlots = (own_up x_entrySlots (z_size).toNatClampNeg (own_i2 sx vb)) := by
                unfold f5_entrySlots
                first | rfl | (rw [if_neg hc57, if_neg hc125, if_neg hc421, if_pos hc489, if_neg hc493, if_pos hc514])
              obtain ⟨fs, hr, hrun, hended, hW, hsame⟩ := X569.leave (v := none) (fun _ => rfl)
              refine ⟨_, _, S513 _ ?_, hrun, hended, _, _, rfl, ?_, ⟨_, rfl⟩, hW, hsame.mono (by decide) (by decide)⟩
              · refine XS.ifYes X511.here hx rfl (pc0 := 32) (pc' := 123) rfl (hb hby d5_32) rfl ((if0 _ _).trans (teq hc514).1) (by decide) (by decide) ?_
                show Steps p.tables e below (T511.setTop (mkF m 123 #[.val (.ref a1), .val (.int sx), .val (.long vb), .second, .val .null, .val (.double ms), .second, .val (.int own_mk), .val (.int (own_i2 sx vb))] [])) _
                refine XS.aloadN X511.here hx rfl (hb hby d5_123) rfl rfl ?_
                show Steps p.tables e below (T511.setTop (mkF m 124 #[.val (.ref a1), .val (.int sx), .val (.long vb), .second, .val .null, .val (.double ms), .second, .val (.int own_mk), .val (.int (own_i2 sx vb))] [(.ref a1)])) _
                refine st515 _ ?_
                show Steps p.tables e below (T515.setTop (mkF m 127 #[.val (.ref a1), .val (.int sx), .val (.long vb), .second, .val .null, .val (.double ms), .second, .val (.int own_mk), .val (.int (own_i2 sx vb))] [(.int z_size)])) _
                refine XS.aloadN X515.here hx rfl (hb hby d5_127) rfl rfl ?_
                show Steps p.tables e below (T515.setTop (mkF m 128 #[.val (.ref a1), .val (.int sx), .val (.long vb), .second, .val .null, .val (.double ms), .second, .val (.int own_mk), .val (.int (own_i2 sx vb))] [(.ref a1), (.int z_size)])) _
                refine st516 _ ?_
                show Steps p.tables e below (T516.setTop (mkF m 131 #[.val (.ref a1), .val (.int sx), .val (.long vb), .second, .val .null, .val (.double ms), .second, .val (.int own_mk), .val (.int (own_i2 sx vb))] [(.ref z_entrySlots), (.int z_size)])) _
                refine X516.arraylength hx (by rw [e516]; exact Ar517.1) (State.isArrayOf_alike hZ.alike Ar517.2.1) (g := (mkF m 131 #[.val (.ref a1), .val (.int sx), .val (.long vb), .second, .val .null, .val (.double ms), .second, .val (.int own_mk), .val (.int (own_i2 sx vb))] [(.ref z_entrySlots), (.int z_size)])) rfl rfl (hb hby d5_131) _ ?_
                rw [len_of Sa517 Na517]
                show Steps p.tables e below (T516.setTop (mkF m 132 #[.val (.ref a1), .val (.int sx), .val (.long vb), .second, .val .null, .val (.double ms), .second, .val (.int own_mk), .val (.int (own_i2 sx vb))] [(.int (16 : Int32)), (.int z_size)])) _
                refine XS.icmpYes X516.here hx rfl (pc0 := 132) (pc' := 150) rfl (hb hby d5_132) rfl (feq (own_full hsz)).2 (by decide) (by decide) ?_
                show Steps p.tables e below (T516.setTop (mkF m 150 #[.val (.ref a1), .val (.int sx), .val (.long vb), .second, .val .null, .val (.double ms), .second, .val (.int own_mk), .val (.int (own_i2 sx vb))] [])) _
                refine XS.aloadN X516.here hx rfl (hb hby d5_150) rfl rfl ?_
                show Steps p.tables e below (T516.setTop (mkF m 151 #[.val (.ref a1), .val (.int sx), .val (.long vb), .second, .val .null, .val (.double ms), .second, .val (.int own_mk), .val (.int (own_i2 sx vb))] [(.ref a1)])) _
                refine st518 _ ?_
                show Steps p.tables e below (T518.setTop (mkF m 154 #[.val (.ref a1), .val (.int sx), .val (.long vb), .second, .val .null, .val (.double ms), .second, .val (.int own_mk), .val (.int (own_i2 sx vb))] [(.ref z_slots)])) _
                refine XS.iconst X518.here hx rfl (hb hby d5_154) ?_
                show Steps p.tables e below (T518.setTop (mkF m 155 #[.val (.ref a1), .val (.int sx), .val (.long vb), .second, .val .null, .val (.double ms), .second, .val (.int own_mk), .val (.int (own_i2 sx vb))] [(.int (3 : Int32)), (.ref z_slots)])) _
                refine XS.iload X518.here hx rfl (hb hby d5_155) rfl ?_
                show Steps p.tables e below (T518.setTop (mkF m 157 #[.val (.ref a1), .val (.int sx), .val (.long vb), .second, .val .null, .val (.double ms), .second, .val (.int own_mk), .val (.int (own_i2 sx vb))] [(.int (own_i2 sx vb)), (.int (3 : Int32)), (.ref z_slots)])) _
                refine XS.imul X518.here hx rfl (hb hby d5_157) rfl ?_
                show Steps p.tables e below (T518.setTop (mkF m 158 #[.val (.ref a1), .val (.int sx), .val (.long vb), .second, .val .null, .val (.double ms), .second, .val (.int own_mk), .val (.int (own_i2 sx vb))] [(.int ((3 : Int32) * (own_i2 sx vb))), (.ref z_slots)])) _
                refine XS.iloadN X518.here hx rfl (hb hby d5_158) rfl ?_
                show Steps p.tables e below (T518.setTop (mkF m 159 #[.val (.ref a1), .val (.int sx), .val (.long vb), .second, .val .null, .val (.double ms), .second, .val (.int own_mk), .val (.int (own_i2 sx vb))] [(.int sx), (.int ((3 : Int32) * (own_i2 sx vb))), (.ref z_slots)])) _
                refine XS.i2l X518.here hx rfl (hb hby d5_159) rfl ?_
                show Steps p.tables e below (T518.setTop (mkF m 160 #[.val (.ref a1), .val (.int sx), .val (.long vb), .second, .val .null, .val (.double ms), .second, .val (.int own_mk), .val (.int (own_i2 sx vb))] [(.long sx.toInt64), (.int ((3 : Int32) * (own_i2 sx vb))), (.ref z_slots)])) _
                refine XS.lconst X518.here hx rfl (hb hby d5_160) ?_
                show Steps p.tables e below (T518.setTop (mkF m 161 #[.val (.ref a1), .val (.int sx), .val (.long vb), .second, .val .null, .val (.double ms), .second, .val (.int own_mk), .val (.int (own_i2 sx vb))] [(.long (1 : Int64)), (.long sx.toInt64), (.int ((3 : Int32) * (own_i2 sx vb))), (.ref z_slots)])) _
                refine XS.ladd X518.here hx rfl (hb hby d5_161) rfl ?_
                show Steps p.tables e below (T518.setTop (mkF m 162 #[.val (.ref a1), .val (.int sx), .val (.long vb), .second, .val .null, .val (.double ms), .second, .val (.int own_mk), .val (.int (own_i2 sx vb))] [(.long (sx.toInt64 + (1 : Int64))), (.int ((3 : Int32) * (own_i2 sx vb))), (.ref z_slots)])) _
                refine st520 _ ?_
                show Steps p.tables e below (T520.setTop (mkF m 163 #[.val (.ref a1), .val (.int sx), .val (.long vb), .second, .val .null, .val (.double ms), .second, .val (.int own_mk), .val (.int (own_i2 sx vb))] [])) _
                refine XS.aloadN X520.here hx rfl (hb hby d5_163) rfl rfl ?_
                show Steps p.tables e below (T520.setTop (mkF m 164 #[.val (.ref a1), .val (.int sx), .val (.long vb), .second, .val .null, .val (.double ms), .second, .val (.int own_mk), .val (.int (own_i2 sx vb))] [(.ref a1)])) _
                refine st530 _ ?_
                show Steps p.tables e below (T530.setTop (mkF m 167 #[.val (.ref a1), .val (.int sx), .val (.long vb), .second, .val .null, .val (.double ms), .second, .val (.int own_mk), .val (.int (own_i2 sx vb))] [(.ref z_slots)])) _
                refine XS.iconst X530.here hx rfl (hb hby d5_167) ?_
                show Steps p.tables e below (T530.setTop (mkF m 168 #[.val (.ref a1), .val (.int sx), .val (.long vb), .second, .val .null, .val (.double ms), .second, .val (.int own_mk), .val (.int (own_i2 sx vb))] [(.int (3 : Int32)), (.ref z_slots)])) _
                refine XS.iload X530.here hx rfl (hb hby d5_168) rfl ?_
                show Steps p.tables e below (T530.setTop (mkF m 170 #[.val (.ref a1), .val (.int sx), .val (.long vb), .second, .val .null, .val (.double ms), .second, .val (.int own_mk), .val (.int (own_i2 sx vb))] [(.int (own_i2 sx vb)), (.int (3 : Int32)), (.ref z_slots)])) _
                refine XS.imul X530.here hx rfl (hb hby d5_170) rfl ?_
                show Steps p.tables e below (T530.setTop (mkF m 171 #[.val (.ref a1), .val (.int sx), .val (.long vb), .second, .val .null, .val (.double ms), .second, .val (.int own_mk), .val (.int (own_i2 sx vb))] [(.int ((3 : Int32) * (own_i2 sx vb))), (.ref z_slots)])) _
                refine XS.iconst X530.here hx rfl (hb hby d5_171) ?_
                show Steps p.tables e below (T530.setTop (mkF m 172 #[.val (.ref a1), .val (.int sx), .val (.long vb), .second, .val .null, .val (.double ms), .second, .val (.int own_mk), .val (.int (own_i2 sx vb))] [(.int (1 : Int32)), (.int ((3 : Int32) * (own_i2 sx vb))), (.ref z_slots)])) _
                refine XS.iadd X530.here hx rfl (hb hby d5_172) rfl ?_
                show Steps p.tables e below (T530.setTop (mkF m 173 #[.val (.ref a1), .val (.int sx), .val (.long vb), .second, .val .null, .val (.double ms), .second, .val (.int own_mk), .val (.int (own_i2 sx vb))] [(.int (((3 : Int32) * (own_i2 sx vb)) + (1 : Int32))), (.ref z_slots)])) _
                refine XS.lloadN X530.here hx rfl (hb hby d5_173) rfl ?_
                show Steps p.tables e below (T530.setTop (mkF m 174 #[.val (.ref a1), .val (.int sx), .val (.long vb), .second, .val .null, .val (.double ms), .second, .val (.int own_mk), .val (.int (own_i2 sx vb))] [(.long vb), (.int (((3 : Int32) * (own_i2 sx vb)) + (1 : Int32))), (.ref z_slots)])) _
                refine st532 _ ?_
                show Steps p.tables e below (T532.setTop (mkF m 175 #[.val (.ref a1), .val (.int sx), .val (.long vb), .second, .val .null, .val (.double ms), .second, .val (.int own_mk), .val (.int (own_i2 sx vb))] [])) _
                refine XS.aloadN X532.here hx rfl (hb hby d5_175) rfl rfl ?_
                show Steps p.tables e below (T532.setTop (mkF m 176 #[.val (.ref a1), .val (.int sx), .val (.long vb), .second, .val .null, .val (.double ms), .second, .val (.int own_mk), .val (.int (own_i2 sx vb))] [(.ref a1)])) _
                refine st542 _ ?_
                show Steps p.tables e below (T542.setTop (mkF m 179 #[.val (.ref a1), .val (.int sx), .val (.long vb), .second, .val .null, .val (.double ms), .second, .val (.int own_mk), .val (.int (own_i2 sx vb))] [(.ref z_slots)])) _
                refine XS.iconst X542.here hx rfl (hb hby d5_179) ?_
                show Steps p.tables e below (T542.setTop (mkF m 180 #[.val (.ref a1), .val (.int sx), .val (.long vb), .second, .val .null, .val (.double ms), .second, .val (.int own_mk), .val (.int (own_i2 sx vb))] [(.int (3 : Int32)), (.ref z_slots)])) _
                refine XS.iload X542.here hx rfl (hb hby d5_180) rfl ?_
                show Steps p.tables e below (T542.setTop (mkF m 182 #[.val (.ref a1), .val (.int sx), .val (.long vb), .second, .val .null, .val (.double ms), .second, .val (.int own_mk), .val (.int (own_i2 sx vb))] [(.int (own_i2 sx vb)), (.int (3 : Int32)), (.ref z_slots)])) _
                refine XS.imul X542.here hx rfl (hb hby d5_182) rfl ?_
                show Steps p.tables e below (T542.setTop (mkF m 183 #[.val (.ref a1), .val (.int sx), .val (.long vb), .second, .val .null, .val (.double ms), .second, .val (.int own_mk), .val (.int (own_i2 sx vb))] [(.int ((3 : Int32) * (own_i2 sx vb))), (.ref z_slots)])) _
                refine XS.iconst X542.here hx rfl (hb hby d5_183) ?_
                show Steps p.tables e below (T542.setTop (mkF m 184 #[.val (.ref a1), .val (.int sx), .val (.long vb), .second, .val .null, .val (.double ms), .second, .val (.int own_mk), .val (.int (own_i2 sx vb))] [(.int (2 : Int32)), (.int ((3 : Int32) * (own_i2 sx vb))), (.ref z_slots)])) _
                refine XS.iadd X542.here hx rfl (hb hby d5_184) rfl ?_
                show Steps p.tables e below (T542.setTop (mkF m 185 #[.val (.ref a1), .val (.int sx), .val (.long vb), .second, .val .null, .val (.double ms), .second, .val (.int own_mk), .val (.int (own_i2 sx vb))] [(.int (((3 : Int32) * (own_i2 sx vb)) + (2 : Int32))), (.ref z_slots)])) _
                refine XS.dload X542.here hx rfl (hb hby d5_185) rfl ?_
                show Steps p.tables e below (T542.setTop (mkF m 187 #[.val (.ref a1), .val (.int sx), .val (.long vb), .second, .val .null, .val (.double ms), .second, .val (.int own_mk), .val (.int (own_i2 sx vb))] [(.double ms), (.int (((3 : Int32) * (own_i2 sx vb)) + (2 : Int32))), (.ref z_slots)])) _
                refine st543 _ ?_
                show Steps p.tables e below (T543.setTop (mkF m 190 #[.val (.ref a1), .val (.int sx), .val (.long vb), .second, .val .null, .val (.double ms), .second, .val (.int own_mk), .val (.int (own_i2 sx vb))] [(.long ((ms).toInt64)), (.int (((3 : Int32) * (own_i2 sx vb)) + (2 : Int32))), (.ref z_slots)])) _
                refine st545 _ ?_
                show Steps p.tables e below (T545.setTop (mkF m 191 #[.val (.ref a1), .val (.int sx), .val (.long vb), .second, .val .null, .val (.double ms), .second, .val (.int own_mk), .val (.int (own_i2 sx vb))] [])) _
                refine XS.aload X545.here hx rfl (hb hby d5_191) rfl rfl ?_
                show Steps p.tables e below (T545.setTop (mkF m 193 #[.val (.ref a1), .val (.int sx), .val (.long vb), .second, .val .null, .val (.double ms), .second, .val (.int own_mk), .val (.int (own_i2 sx vb))] [.null])) _
                refine XS.ifnullYes X545.here hx rfl (pc0 := 193) (pc' := 226) rfl (hb hby d5_193) rfl (by decide) (by decide) ?_
                show Steps p.tables e below (T545.setTop (mkF m 226 #[.val (.ref a1), .val (.int sx), .val (.long vb), .second, .val .null, .val (.double ms), .second, .val (.int own_mk), .val (.int (own_i2 sx vb))] [])) _
                refine XS.aloadN X545.here hx rfl (hb hby d5_226) rfl rfl ?_
                show Steps p.tables e below (T545.setTop (mkF m 227 #[.val (.ref a1), .val (.int sx), .val (.long vb), .second, .val .null, .val (.double ms), .second, .val (.int own_mk), .val (.int (own_i2 sx vb))] [(.ref a1)])) _
                refine st555 _ ?_
                show Steps p.tables e below (T555.setTop (mkF m 230 #[.val (.ref a1), .val (.int sx), .val (.long vb), .second, .val .null, .val (.double ms), .second, .val (.int own_mk), .val (.int (own_i2 sx vb))] [(.ref z_entrySlots)])) _
                refine XS.aloadN X555.here hx rfl (hb hby d5_230) rfl rfl ?_
                show Steps p.tables e below (T555.setTop (mkF m 231 #[.val (.ref a1), .val (.int sx), .val (.long vb), .second, .val .null, .val (.double ms), .second, .val (.int own_mk), .val (.int (own_i2 sx vb))] [(.ref a1), (.ref z_entrySlots)])) _
                refine XS.dup X555.here hx rfl (hb hby d5_231) rfl rfl ?_
                show Steps p.tables e below (T555.setTop (mkF m 232 #[.val (.ref a1), .val (.int sx), .val (.long vb), .second, .val .null, .val (.double ms), .second, .val (.int own_mk), .val (.int (own_i2 sx vb))] [(.ref a1), (.ref a1), (.ref z_entrySlots)])) _
                refine st556 _ ?_
                show Steps p.tables e below (T556.setTop (mkF m 235 #[.val (.ref a1), .val (.int sx), .val (.long vb), .second, .val .null, .val (.double ms), .second, .val (.int own_mk), .val (.int (own_i2 sx vb))] [(.int z_size), (.ref a1), (.ref z_entrySlots)])) _
                refine XS.dupX1 X556.here hx rfl (hb hby d5_235) rfl rfl rfl ?_
                show Steps p.tables e below (T556.setTop (mkF m 236 #[.val (.ref a1), .val (.int sx), .val (.long vb), .second, .val .null, .val (.double ms), .second, .val (.int own_mk), .val (.int (own_i2 sx vb))] [(.int z_size), (.ref a1), (.int z_size), (.ref z_entrySlots)])) _
                refine XS.iconst X556.here hx rfl (hb hby d5_236) ?_
                show Steps p.tables e below (T556.setTop (mkF m 237 #[.val (.ref a1), .val (.int sx), .val (.long vb), .second, .val .null, .val (.double ms), .second, .val (.int own_mk), .val (.int (own_i2 sx vb))] [(.int (1 : Int32)), (.int z_size), (.ref a1), (.int z_size), (.ref z_entrySlots)])) _
                refine XS.iadd X556.here hx rfl (hb hby d5_237) rfl ?_
                show Steps p.tables e below (T556.setTop (mkF m 238 #[.val (.ref a1), .val (.int sx), .val (.long vb), .second, .val .null, .val (.double ms), .second, .val (.int own_mk), .val (.int (own_i2 sx vb))] [(.int (z_size + (1 : Int32))), (.ref a1), (.int z_size), (.ref z_entrySlots)])) _
                refine st557 _ ?_
                show Steps p.tables e below (T557.setTop (mkF m 241 #[.val (.ref a1), .val (.int sx), .val (.long vb), .second, .val .null, .val (.double ms), .second, .val (.int own_mk), .val (.int (own_i2 sx vb))] [(.int z_size), (.ref z_entrySlots)])) _
                refine XS.iload X557.here hx rfl (hb hby d5_241) rfl ?_
                show Steps p.tables e below (T557.setTop (mkF m 243 #[.val (.ref a1), .val (.int sx), .val (.long vb), .second, .val .null, .val (.double ms), .second, .val (.int own_mk), .val (.int (own_i2 sx vb))] [(.int (own_i2 sx vb)), (.int z_size), (.ref z_entrySlots)])) _
                refine st569 _ ?_
                show Steps p.tables e below (T569.setTop (mkF m 244 #[.val (.ref a1), .val (.int sx), .val (.long vb), .second, .val .null, .val (.double ms), .second, .val (.int own_mk), .val (.int (own_i2 sx vb))] [])) _
                exact X569.returnOut hx Bd.returns (hb hby d5_244) hr
              · show Q5 Z a1 sx vb ms z_slots z_entrySlots z_size k_slots x_slots k_entrySlots x_entrySlots h0 n0 _ T569.heap _
                rw [e569]
                exact ⟨rfl, N576, K577, f570, f571, f572, by rw [hf_size]; exact f573, f574, by rw [hf_slots]; exact f575, by rw [hf_entrySlots]; exact fa569⟩
            · obtain ⟨T579, X579, e579, st579⟩ := getF X511 hx hZ hown (host := "") (Or.inl (hw _ (List.mem_of_getElem? (i := 10) rfl))) Via.refl e511 F_slots_a1 (g := (mkF m 36 #[.val (.ref a1), .val (.int sx), .val (.long vb), .second, .val .null, .val (.double ms), .second, .val (.int own_mk), .val (.int (own_i2 sx vb))] [(.ref a1)])) rfl rfl (hb hby d5_36)
              obtain ⟨cl580, Ar580, qa580, Sa580, Na580, Ha580, Ga580⟩ := id V_slots
              have hin580 : ¬ (((3 : Int32) * (own_i2 sx vb)) < 0 ∨ cl580.slots.size ≤ (((3 : Int32) * (own_i2 sx vb))).toNatClampNeg) := inb_of Sa580 (own_b0 (own_r2 sx vb))
              obtain ⟨T581, X581, e581, st581⟩ := getF X579 hx hZ hown (host := "") (Or.inl (hw _ (List.mem_of_getElem? (i := 10) rfl))) Via.refl e579 F_slots_a1 (g := (mkF m 53 #[.val (.ref a1), .val (.int sx), .val (.long vb), .second, .val .null, .val (.double ms), .second, .val (.int own_mk), .val (.int (own_i2 sx vb))] [(.ref a1)])) rfl rfl (hb hby d5_53)
              obtain ⟨cl582, Ar582, qa582, Sa582, Na582, Ha582, Ga582⟩ := id V_slots
              have hin582 : ¬ ((((3 : Int32) * (own_i2 sx vb)) + (1 : Int32)) < 0 ∨ cl582.slots.size ≤ ((((3 : Int32) * (own_i2 sx vb)) + (1 : Int32))).toNatClampNeg) := inb_of Sa582 (own_b1 (own_r2 sx vb))
              obtain ⟨cq583, q583, q583'⟩ := E1.cell
              obtain ⟨_, _, ⟨T583, L583, k583, n583⟩, -, X583, ⟨Lc583, hQ583, l583, y583, z583⟩, st583⟩ := X581.privateBack hx (y := (⟨"com/example/ketproof/ketproof/MassTable", "holds", "(ILjava/math/BigDecimal;)Z"⟩ : MethodName)) hown (mvT hZ (hw _ (List.mem_of_getElem? (i := 70) rfl))) (mvT hZ (hw _ (List.mem_of_getElem? (i := 71) rfl))) (mvT hZ (Jvm.Kit.selects_private (by decide) (hw _ (List.mem_of_getElem? (i := 1) rfl)) (hw _ (List.mem_of_getElem? (i := 72) rfl)) (hw _ (List.mem_of_getElem? (i := 71) rfl)))) (Cond.privateMethod_at (mvP hZ (hw _ (List.mem_of_getElem? (i := 72) rfl)) (args := #[]))) (mvT hZ (hw _ (List.mem_of_getElem? (i := 73) rfl))) (by decide) (backOf (W := 0) (rm12 l Z a0 hw [] a1 (own_i2 sx vb) h0 n0 Z0 F_decimals_a1) hZ (hw _ (List.mem_of_getElem? (i := 73) rfl)) (hw _ (List.mem_of_getElem? (i := 2) rfl)) (by decide) (by decide)) (g := (mkF m 73 #[.val (.ref a1), .val (.int sx), .val (.long vb), .second, .val .null, .val (.double ms), .second, .val (.int own_mk), .val (.int (own_i2 sx vb))] [.null, (.int (own_i2 sx vb)), (.ref a1)])) rfl (by rw [hml]; rfl) (Steps.refl _) (a := a1) (by rw [e581]; exact q583) q583' (argsL := [(.int (own_i2 sx vb)), .null]) (rest := []) (lenOf pd_1 rfl) rfl (by show 2 * 0 + _ ≤ _; exact Nat.le_of_eq rfl) (hb hby d5_73) (fun _ _ => ⟨rfl, e581, (by decide : 0 + 0 ≤ _), (by decide : 0 + 0 ≤ _)⟩)
              dsimp only [Pt.U, Pt.locs, Pt.cells, Pt.slots] at X583 l583 y583 z583 st583 hQ583
              subst l583 y583 z583
              obtain ⟨rfl, N583q, e583⟩ := hQ583
              have N583 := Fr.app N53 N583q
              obtain ⟨T584, X584, e584, st584⟩ := getF X583 hx hZ hown (host := "") (Or.inl (hw _ (List.mem_of_getElem? (i := 10) rfl))) Via.refl e583 F_slots_a1 (g := (mkF m 80 #[.val (.ref a1), .val (.int sx), .val (.long vb), .second, .val .null, .val (.double ms), .second, .val (.int own_mk), .val (.int (own_i2 sx vb))] [(.ref a1)])) rfl rfl (hb hby d5_80)
              obtain ⟨T585, X585, e585, st585⟩ := getF X584 hx hZ hown (host := "") (Or.inl (hw _ (List.mem_of_getElem? (i := 10) rfl))) Via.refl e584 F_slots_a1 (g := (mkF m 90 #[.val (.ref a1), .val (.int sx), .val (.long vb), .second, .val .null, .val (.double ms), .second, .val (.int own_mk), .val (.int (own_i2 sx vb))] [(.ref a1), (.int (((3 : Int32) * (own_i2 sx vb)) + (2 : Int32))), (.ref z_slots)])) rfl rfl (hb hby d5_90)
              obtain ⟨cl586, Ar586, qa586, Sa586, Na586, Ha586, Ga586⟩ := id V_slots
              have hin586 : ¬ ((((3 : Int32) * (own_i2 sx vb)) + (2 : Int32)) < 0 ∨ cl586.slots.size ≤ ((((3 : Int32) * (own_i2 sx vb)) + (2 : Int32))).toNatClampNeg) := inb_of Sa586 (own_b2 (own_r2 sx vb))
              obtain ⟨vm587, X587, st587⟩ := X585.longBitsToDouble hx hown (mvT hZ (hw _ (List.mem_of_getElem? (i := 62) rfl))) (mvT hZ (hw _ (List.mem_of_getElem? (i := 64) rfl))) (mvT hZ (hw _ (List.mem_of_getElem? (i := 63) rfl))) (mvT hZ (hw _ (List.mem_of_getElem? (i := 29) rfl))) (g := (mkF m 100 #[.val (.ref a1), .val (.int sx), .val (.long vb), .second, .val .null, .val (.double ms), .second, .val (.int own_mk), .val (.int (own_i2 sx vb))] [(.long (x_slots ((((3 : Int32) * (own_i2 sx vb)) + (2 : Int32))).toNatClampNeg)), (.int (((3 : Int32) * (own_i2 sx vb)) + (2 : Int32))), (.ref z_slots)])) rfl (by rw [hml]; rfl) (rest := [(.int (((3 : Int32) * (own_i2 sx vb)) + (2 : Int32))), (.ref z_slots)]) (b := (x_slots ((((3 : Int32) * (own_i2 sx vb)) + (2 : Int32))).toNatClampNeg)) (own_lb (hM _ (own_md (own_r2 sx vb)))) rfl (hb hby d5_100) (by decide) (by show 2 * 0 + 2 + (nativeFrameWords "java/lang/Double" "longBitsToDouble" 2 + 11) ≤ _; decide)
              obtain ⟨T587, hT587⟩ : ∃ z, z = T585.setVm vm587 := ⟨_, rfl⟩
              rw [← hT587] at X587 st587
              have e587 : T587.heap = h0 := by rw [hT587]; exact e585
              obtain ⟨vm588, X588, st588⟩ := X587.doubleToRawLongBits hx hown (mvT hZ (hw _ (List.mem_of_getElem? (i := 27) rfl))) (mvT hZ (hw _ (List.mem_of_getElem? (i := 30) rfl))) (mvT hZ (hw _ (List.mem_of_getElem? (i := 28) rfl))) (mvT hZ (hw _ (List.mem_of_getElem? (i := 29) rfl))) (g := (mkF m 106 #[.val (.ref a1), .val (.int sx), .val (.long vb), .second, .val .null, .val (.double ms), .second, .val (.int own_mk), .val (.int (own_i2 sx vb))] [(.double (FP.dadd (((x_slots ((((3 : Int32) * (own_i2 sx vb)) + (2 : Int32))).toNatClampNeg)).toUInt64) ms)), (.int (((3 : Int32) * (own_i2 sx vb)) + (2 : Int32))), (.ref z_slots)])) rfl (by rw [hml]; rfl) (rest := [(.int (((3 : Int32) * (own_i2 sx vb)) + (2 : Int32))), (.ref z_slots)]) (b := (FP.dadd (((x_slots ((((3 : Int32) * (own_i2 sx vb)) + (2 : Int32))).toNatClampNeg)).toUInt64) ms)) rfl (hb hby d5_106) (by decide) (by show 2 * 0 + 2 + (nativeFrameWords "java/lang/Double" "doubleToRawLongBits" 2 + 11) ≤ _; decide)
              obtain ⟨T588, hT588⟩ : ∃ z, z = T587.setVm vm588 := ⟨_, rfl⟩
              rw [← hT588] at X588 st588
              have e588 : T588.heap = h0 := by rw [hT588]; exact e587
              obtain ⟨cl589, Ar589, qa589, Sa589, Na589, Ha589, Ga589⟩ := id V_slots
              have hin589 : ¬ ((((3 : Int32) * (own_i2 sx vb)) + (2 : Int32)) < 0 ∨ cl589.slots.size ≤ ((((3 : Int32) * (own_i2 sx vb)) + (2 : Int32))).toNatClampNeg) := inb_of Sa589 (own_b2 (own_r2 sx vb))
              obtain ⟨T590, h590, X590, e590, W590, st590⟩ := stJ X588 hx hZ e588 Ar589 (j := (((3 : Int32) * (own_i2 sx vb)) + (2 : Int32))) hin589 (g := (mkF m 109 #[.val (.ref a1), .val (.int sx), .val (.long vb), .second, .val .null, .val (.double ms), .second, .val (.int own_mk), .val (.int (own_i2 sx vb))] [(.long (((FP.dadd (((x_slots ((((3 : Int32) * (own_i2 sx vb)) + (2 : Int32))).toNatClampNeg)).toUInt64) ms)).toInt64)), (.int (((3 : Int32) * (own_i2 sx vb)) + (2 : Int32))), (.ref z_slots)])) rfl rfl (hb hby d5_109)
              have fa590 : Arv Z h590 z_slots k_slots .long (96 : Int32) (own_L (own_up x_slots ((((3 : Int32) * (own_i2 sx vb)) + (2 : Int32))).toNatClampNeg (((FP.dadd (((x_slots ((((3 : Int32) * (own_i2 sx vb)) + (2 : Int32))).toNatClampNeg)).toUInt64) ms)).toInt64))) (.long (0 : Int64)) := (Arv.set Ar589 qa589 Sa589 Na589 Ha589 Ga589 rfl W590 ((((3 : Int32) * (own_i2 sx vb)) + (2 : Int32))).toNatClampNeg rfl (own_Ll x_slots (own_ix (own_b2 (own_r2 sx vb))))).pad (own_Lset x_slots (own_ix (own_b2 (own_r2 sx vb))) (((FP.dadd (((x_slots ((((3 : Int32) * (own_i2 sx vb)) + (2 : Int32))).toNatClampNeg)).toUInt64) ms)).toInt64))
              have f591 : Exa Z h590 a1 "com/example/ketproof/ketproof/MassTable" := E1.wr W590
              have f592 : Fld Z h590 a1 "com/example/ketproof/ketproof/MassTable" "slots" "[J" (.ref z_slots) := F_slots_a1.other W590 (Or.inl ne_slots)
              have f593 : Fld Z h590 a1 "com/example/ketproof/ketproof/MassTable" "entrySlots" "[I" (.ref z_entrySlots) := F_entrySlots_a1.other W590 (Or.inl ne_slots)
              have f594 : Fld Z h590 a1 "com/example/ketproof/ketproof/MassTable" "size" "I" (.int z_size) := F_size_a1.other W590 (Or.inl ne_slots)
              have f595 : Fld Z h590 a1 "com/example/ketproof/ketproof/MassTable" "decimals" "[Ljava/math/BigDecimal;" .null := F_decimals_a1.other W590 (Or.inl ne_slots)
              have f596 : Arv Z h590 z_entrySlots k_entrySlots .int (16 : Int32) (own_E x_entrySlots) (.int (0 : Int32)) := V_entrySlots.other W590 ne_entrySlots_slots
              have N597 := Fr.snoc X590 N583 g_slots
              have K598 : Keep h0 h590 [a1, z_slots, z_entrySlots] := (Keep.refl h0 [a1, z_slots, z_entrySlots]).wr W590 (Or.inl (List.mem_of_getElem? (i := 1) rfl))
              have Z599 : n0 ≤ h590.size := Nat.le_trans Z0 (Keep.of_wr W590).1
              have hf_size : f5_size sx vb ms z_size x_slots x_entrySlots = z_size := by
                unfold f5_size
                first | rfl | (rw [if_neg hc57, if_neg hc125, if_neg hc421, if_pos hc489, if_neg hc493, if_neg hc514])
              have hf_slots : f5_slots sx vb ms z_size x_slots x_entrySlots = (own_up x_slots ((((3 : Int32) * (own_i2 sx vb)) + (2 : Int32))).toNatClampNeg (((FP.dadd (((x_slots ((((3 : Int32) * (own_i2 sx vb)) + (2 : Int32))).toNatClampNeg)).toUInt64) ms)).toInt64)) := by
                unfold f5_slots
                first | rfl | (rw [if_neg hc57, if_neg hc125, if_neg hc421, if_pos hc489, if_neg hc493, if_neg hc514])
              have hf_entrySlots : f5_entrySlots sx vb ms z_size x_slots x_entrySlots = x_entrySlots := by
                unfold f5_entrySlots
                first | rfl | (rw [if_neg hc57, if_neg hc125, if_neg hc421, if_pos hc489, if_neg hc493, if_neg hc514])
              obtain ⟨fs, hr, hrun, hended, hW, hsame⟩ := X590.leave (v := none) (fun _ => rfl)
              refine ⟨_, _, S513 _ ?_, hrun, hended, _, _, rfl, ?_, ⟨_, rfl⟩, hW, hsame.mono (by decide) (by decide)⟩
              · refine XS.ifNo X511.here hx rfl (hb hby d5_32) rfl ((if0 _ _).trans (feq hc514).1) ?_
                show Steps p.tables e below (T511.setTop (mkF m 35 #[.val (.ref a1), .val (.int sx), .val (.long vb), .second, .val .null, .val (.double ms), .second, .val (.int own_mk), .val (.int (own_i2 sx vb))] [])) _
                refine XS.aloadN X511.here hx rfl (hb hby d5_35) rfl rfl ?_
                show Steps p.tables e below (T511.setTop (mkF m 36 #[.val (.ref a1), .val (.int sx), .val (.long vb), .second, .val .null, .val (.double ms), .second, .val (.int own_mk), .val (.int (own_i2 sx vb))] [(.ref a1)])) _
                refine st579 _ ?_
                show Steps p.tables e below (T579.setTop (mkF m 39 #[.val (.ref a1), .val (.int sx), .val (.long vb), .second, .val .null, .val (.double ms), .second, .val (.int own_mk), .val (.int (own_i2 sx vb))] [(.ref z_slots)])) _
                refine XS.iconst X579.here hx rfl (hb hby d5_39) ?_
                show Steps p.tables e below (T579.setTop (mkF m 40 #[.val (.ref a1), .val (.int sx), .val (.long vb), .second, .val .null, .val (.double ms), .second, .val (.int own_mk), .val (.int (own_i2 sx vb))] [(.int (3 : Int32)), (.ref z_slots)])) _
                refine XS.iload X579.here hx rfl (hb hby d5_40) rfl ?_
                show Steps p.tables e below (T579.setTop (mkF m 42 #[.val (.ref a1), .val (.int sx), .val (.long vb), .second, .val .null, .val (.double ms), .second, .val (.int own_mk), .val (.int (own_i2 sx vb))] [(.int (own_i2 sx vb)), (.int (3 : Int32)), (.ref z_slots)])) _
                refine XS.imul X579.here hx rfl (hb hby d5_42) rfl ?_
                show Steps p.tables e below (T579.setTop (mkF m 43 #[.val (.ref a1), .val (.int sx), .val (.long vb), .second, .val .null, .val (.double ms), .second, .val (.int own_mk), .val (.int (own_i2 sx vb))] [(.int ((3 : Int32) * (own_i2 sx vb))), (.ref z_slots)])) _
                refine X579.laload hx (j := ((3 : Int32) * (own_i2 sx vb))) (v := (.long (x_slots (((3 : Int32) * (own_i2 sx vb))).toNatClampNeg))) (by rw [e579]; exact Ar580.1) (State.isArrayOf_alike hZ.alike Ar580.2.1) Ar580.2.2 hin580 (Has.at Ha580 hin580 (own_rd x_slots (own_b0 (own_r2 sx vb)))) (g := (mkF m 43 #[.val (.ref a1), .val (.int sx), .val (.long vb), .second, .val .null, .val (.double ms), .second, .val (.int own_mk), .val (.int (own_i2 sx vb))] [(.int ((3 : Int32) * (own_i2 sx vb))), (.ref z_slots)])) rfl rfl (hb hby d5_43) _ ?_
                show Steps p.tables e below (T579.setTop (mkF m 44 #[.val (.ref a1), .val (.int sx), .val (.long vb), .second, .val .null, .val (.double ms), .second, .val (.int own_mk), .val (.int (own_i2 sx vb))] [(.long (x_slots (((3 : Int32) * (own_i2 sx vb))).toNatClampNeg))])) _
                refine XS.iloadN X579.here hx rfl (hb hby d5_44) rfl ?_
                show Steps p.tables e below (T579.setTop (mkF m 45 #[.val (.ref a1), .val (.int sx), .val (.long vb), .second, .val .null, .val (.double ms), .second, .val (.int own_mk), .val (.int (own_i2 sx vb))] [(.int sx), (.long (x_slots (((3 : Int32) * (own_i2 sx vb))).toNatClampNeg))])) _
                refine XS.i2l X579.here hx rfl (hb hby d5_45) rfl ?_
                show Steps p.tables e below (T579.setTop (mkF m 46 #[.val (.ref a1), .val (.int sx), .val (.long vb), .second, .val .null, .val (.double ms), .second, .val (.int own_mk), .val (.int (own_i2 sx vb))] [(.long sx.toInt64), (.long (x_slots (((3 : Int32) * (own_i2 sx vb))).toNatClampNeg))])) _
                refine XS.lconst X579.here hx rfl (hb hby d5_46) ?_
                show Steps p.tables e below (T579.setTop (mkF m 47 #[.val (.ref a1), .val (.int sx), .val (.long vb), .second, .val .null, .val (.double ms), .second, .val (.int own_mk), .val (.int (own_i2 sx vb))] [(.long (1 : Int64)), (.long sx.toInt64), (.long (x_slots (((3 : Int32) * (own_i2 sx vb))).toNatClampNeg))])) _
                refine XS.ladd X579.here hx rfl (hb hby d5_47) rfl ?_
                show Steps p.tables e below (T579.setTop (mkF m 48 #[.val (.ref a1), .val (.int sx), .val (.long vb), .second, .val .null, .val (.double ms), .second, .val (.int own_mk), .val (.int (own_i2 sx vb))] [(.long (sx.toInt64 + (1 : Int64))), (.long (x_slots (((3 : Int32) * (own_i2 sx vb))).toNatClampNeg))])) _
                refine XS.lcmp X579.here hx rfl (hb hby d5_48) rfl ?_
                show Steps p.tables e below (T579.setTop (mkF m 49 #[.val (.ref a1), .val (.int sx), .val (.long vb), .second, .val .null, .val (.double ms), .second, .val (.int own_mk), .val (.int (own_i2 sx vb))] [(.int (lcmpW (x_slots (((3 : Int32) * (own_i2 sx vb))).toNatClampNeg) (sx.toInt64 + (1 : Int64))))])) _
                refine XS.ifNo X579.here hx rfl (hb hby d5_49) rfl ((if0 _ _).trans (teq (own_third hst (own_nst hc57 (Or.inl hc125)) (own_nst hc421 (Or.inr hc493)) hc514).1).2) ?_
                show Steps p.tables e below (T579.setTop (mkF m 52 #[.val (.ref a1), .val (.int sx), .val (.long vb), .second, .val .null, .val (.double ms), .second, .val (.int own_mk), .val (.int (own_i2 sx vb))] [])) _
                refine XS.aloadN X579.here hx rfl (hb hby d5_52) rfl rfl ?_
                show Steps p.tables e below (T579.setTop (mkF m 53 #[.val (.ref a1), .val (.int sx), .val (.long vb), .second, .val .null, .val (.double ms), .second, .val (.int own_mk), .val (.int (own_i2 sx vb))] [(.ref a1)])) _
                refine st581 _ ?_
                show Steps p.tables e below (T581.setTop (mkF m 56 #[.val (.ref a1), .val (.int sx), .val (.long vb), .second, .val .null, .val (.double ms), .second, .val (.int own_mk), .val (.int (own_i2 sx vb))] [(.ref z_slots)])) _
                refine XS.iconst X581.here hx rfl (hb hby d5_56) ?_
                show Steps p.tables e below (T581.setTop (mkF m 57 #[.val (.ref a1), .val (.int sx), .val (.long vb), .second, .val .null, .val (.double ms), .second, .val (.int own_mk), .val (.int (own_i2 sx vb))] [(.int (3 : Int32)), (.ref z_slots)])) _
                refine XS.iload X581.here hx rfl (hb hby d5_57) rfl ?_
                show Steps p.tables e below (T581.setTop (mkF m 59 #[.val (.ref a1), .val (.int sx), .val (.long vb), .second, .val .null, .val (.double ms), .second, .val (.int own_mk), .val (.int (own_i2 sx vb))] [(.int (own_i2 sx vb)), (.int (3 : Int32)), (.ref z_slots)])) _
                refine XS.imul X581.here hx rfl (hb hby d5_59) rfl ?_
                show Steps p.tables e below (T581.setTop (mkF m 60 #[.val (.ref a1), .val (.int sx), .val (.long vb), .second, .val .null, .val (.double ms), .second, .val (.int own_mk), .val (.int (own_i2 sx vb))] [(.int ((3 : Int32) * (own_i2 sx vb))), (.ref z_slots)])) _
                refine XS.iconst X581.here hx rfl (hb hby d5_60) ?_
                show Steps p.tables e below (T581.setTop (mkF m 61 #[.val (.ref a1), .val (.int sx), .val (.long vb), .second, .val .null, .val (.double ms), .second, .val (.int own_mk), .val (.int (own_i2 sx vb))] [(.int (1 : Int32)), (.int ((3 : Int32) * (own_i2 sx vb))), (.ref z_slots)])) _
                refine XS.iadd X581.here hx rfl (hb hby d5_61) rfl ?_
                show Steps p.tables e below (T581.setTop (mkF m 62 #[.val (.ref a1), .val (.int sx), .val (.long vb), .second, .val .null, .val (.double ms), .second, .val (.int own_mk), .val (.int (own_i2 sx vb))] [(.int (((3 : Int32) * (own_i2 sx vb)) + (1 : Int32))), (.ref z_slots)])) _
                refine X581.laload hx (j := (((3 : Int32) * (own_i2 sx vb)) + (1 : Int32))) (v := (.long (x_slots ((((3 : Int32) * (own_i2 sx vb)) + (1 : Int32))).toNatClampNeg))) (by rw [e581]; exact Ar582.1) (State.isArrayOf_alike hZ.alike Ar582.2.1) Ar582.2.2 hin582 (Has.at Ha582 hin582 (own_rd x_slots (own_b1 (own_r2 sx vb)))) (g := (mkF m 62 #[.val (.ref a1), .val (.int sx), .val (.long vb), .second, .val .null, .val (.double ms), .second, .val (.int own_mk), .val (.int (own_i2 sx vb))] [(.int (((3 : Int32) * (own_i2 sx vb)) + (1 : Int32))), (.ref z_slots)])) rfl rfl (hb hby d5_62) _ ?_
                show Steps p.tables e below (T581.setTop (mkF m 63 #[.val (.ref a1), .val (.int sx), .val (.long vb), .second, .val .null, .val (.double ms), .second, .val (.int own_mk), .val (.int (own_i2 sx vb))] [(.long (x_slots ((((3 : Int32) * (own_i2 sx vb)) + (1 : Int32))).toNatClampNeg))])) _
                refine XS.lloadN X581.here hx rfl (hb hby d5_63) rfl ?_
                show Steps p.tables e below (T581.setTop (mkF m 64 #[.val (.ref a1), .val (.int sx), .val (.long vb), .second, .val .null, .val (.double ms), .second, .val (.int own_mk), .val (.int (own_i2 sx vb))] [(.long vb), (.long (x_slots ((((3 : Int32) * (own_i2 sx vb)) + (1 : Int32))).toNatClampNeg))])) _
                refine XS.lcmp X581.here hx rfl (hb hby d5_64) rfl ?_
                show Steps p.tables e below (T581.setTop (mkF m 65 #[.val (.ref a1), .val (.int sx), .val (.long vb), .second, .val .null, .val (.double ms), .second, .val (.int own_mk), .val (.int (own_i2 sx vb))] [(.int (lcmpW (x_slots ((((3 : Int32) * (own_i2 sx vb)) + (1 : Int32))).toNatClampNeg) vb))])) _
                refine XS.ifNo X581.here hx rfl (hb hby d5_65) rfl ((if0 _ _).trans (teq (own_third hst (own_nst hc57 (Or.inl hc125)) (own_nst hc421 (Or.inr hc493)) hc514).2).2) ?_
                show Steps p.tables e below (T581.setTop (mkF m 68 #[.val (.ref a1), .val (.int sx), .val (.long vb), .second, .val .null, .val (.double ms), .second, .val (.int own_mk), .val (.int (own_i2 sx vb))] [])) _
                refine XS.aloadN X581.here hx rfl (hb hby d5_68) rfl rfl ?_
                show Steps p.tables e below (T581.setTop (mkF m 69 #[.val (.ref a1), .val (.int sx), .val (.long vb), .second, .val .null, .val (.double ms), .second, .val (.int own_mk), .val (.int (own_i2 sx vb))] [(.ref a1)])) _
                refine XS.iload X581.here hx rfl (hb hby d5_69) rfl ?_
                show Steps p.tables e below (T581.setTop (mkF m 71 #[.val (.ref a1), .val (.int sx), .val (.long vb), .second, .val .null, .val (.double ms), .second, .val (.int own_mk), .val (.int (own_i2 sx vb))] [(.int (own_i2 sx vb)), (.ref a1)])) _
                refine XS.aload X581.here hx rfl (hb hby d5_71) rfl rfl ?_
                show Steps p.tables e below (T581.setTop (mkF m 73 #[.val (.ref a1), .val (.int sx), .val (.long vb), .second, .val .null, .val (.double ms), .second, .val (.int own_mk), .val (.int (own_i2 sx vb))] [.null, (.int (own_i2 sx vb)), (.ref a1)])) _
                refine st583.trans ?_
                show Steps p.tables e below (T583.setTop (mkF m 76 #[.val (.ref a1), .val (.int sx), .val (.long vb), .second, .val .null, .val (.double ms), .second, .val (.int own_mk), .val (.int (own_i2 sx vb))] [(.int (f12 (own_i2 sx vb)))])) _
                refine XS.ifNo X583.here hx rfl (hb hby d5_76) rfl ((if0 _ _).trans (feq (own_f12 _)).1) ?_
                show Steps p.tables e below (T583.setTop (mkF m 79 #[.val (.ref a1), .val (.int sx), .val (.long vb), .second, .val .null, .val (.double ms), .second, .val (.int own_mk), .val (.int (own_i2 sx vb))] [])) _
                refine XS.aloadN X583.here hx rfl (hb hby d5_79) rfl rfl ?_
                show Steps p.tables e below (T583.setTop (mkF m 80 #[.val (.ref a1), .val (.int sx), .val (.long vb), .second, .val .null, .val (.double ms), .second, .val (.int own_mk), .val (.int (own_i2 sx vb))] [(.ref a1)])) _
                refine st584 _ ?_
                show Steps p.tables e below (T584.setTop (mkF m 83 #[.val (.ref a1), .val (.int sx), .val (.long vb), .second, .val .null, .val (.double ms), .second, .val (.int own_mk), .val (.int (own_i2 sx vb))] [(.ref z_slots)])) _
                refine XS.iconst X584.here hx rfl (hb hby d5_83) ?_
                show Steps p.tables e below (T584.setTop (mkF m 84 #[.val (.ref a1), .val (.int sx), .val (.long vb), .second, .val .null, .val (.double ms), .second, .val (.int own_mk), .val (.int (own_i2 sx vb))] [(.int (3 : Int32)), (.ref z_slots)])) _
                refine XS.iload X584.here hx rfl (hb hby d5_84) rfl ?_
                show Steps p.tables e below (T584.setTop (mkF m 86 #[.val (.ref a1), .val (.int sx), .val (.long vb), .second, .val .null, .val (.double ms), .second, .val (.int own_mk), .val (.int (own_i2 sx vb))] [(.int (own_i2 sx vb)), (.int (3 : Int32)), (.ref z_slots)])) _
                refine XS.imul X584.here hx rfl (hb hby d5_86) rfl ?_
                show Steps p.tables e below (T584.setTop (mkF m 87 #[.val (.ref a1), .val (.int sx), .val (.long vb), .second, .val .null, .val (.double ms), .second, .val (.int own_mk), .val (.int (own_i2 sx vb))] [(.int ((3 : Int32) * (own_i2 sx vb))), (.ref z_slots)])) _
                refine XS.iconst X584.here hx rfl (hb hby d5_87) ?_
                show Steps p.tables e below (T584.setTop (mkF m 88 #[.val (.ref a1), .val (.int sx), .val (.long vb), .second, .val .null, .val (.double ms), .second, .val (.int own_mk), .val (.int (own_i2 sx vb))] [(.int (2 : Int32)), (.int ((3 : Int32) * (own_i2 sx vb))), (.ref z_slots)])) _
                refine XS.iadd X584.here hx rfl (hb hby d5_88) rfl ?_
                show Steps p.tables e below (T584.setTop (mkF m 89 #[.val (.ref a1), .val (.int sx), .val (.long vb), .second, .val .null, .val (.double ms), .second, .val (.int own_mk), .val (.int (own_i2 sx vb))] [(.int (((3 : Int32) * (own_i2 sx vb)) + (2 : Int32))), (.ref z_slots)])) _
                refine XS.aloadN X584.here hx rfl (hb hby d5_89) rfl rfl ?_
                show Steps p.tables e below (T584.setTop (mkF m 90 #[.val (.ref a1), .val (.int sx), .val (.long vb), .second, .val .null, .val (.double ms), .second, .val (.int own_mk), .val (.int (own_i2 sx vb))] [(.ref a1), (.int (((3 : Int32) * (own_i2 sx vb)) + (2 : Int32))), (.ref z_slots)])) _
                refine st585 _ ?_
                show Steps p.tables e below (T585.setTop (mkF m 93 #[.val (.ref a1), .val (.int sx), .val (.long vb), .second, .val .null, .val (.double ms), .second, .val (.int own_mk), .val (.int (own_i2 sx vb))] [(.ref z_slots), (.int (((3 : Int32) * (own_i2 sx vb)) + (2 : Int32))), (.ref z_slots)])) _
                refine XS.iconst X585.here hx rfl (hb hby d5_93) ?_
                show Steps p.tables e below (T585.setTop (mkF m 94 #[.val (.ref a1), .val (.int sx), .val (.long vb), .second, .val .null, .val (.double ms), .second, .val (.int own_mk), .val (.int (own_i2 sx vb))] [(.int (3 : Int32)), (.ref z_slots), (.int (((3 : Int32) * (own_i2 sx vb)) + (2 : Int32))), (.ref z_slots)])) _
                refine XS.iload X585.here hx rfl (hb hby d5_94) rfl ?_
                show Steps p.tables e below (T585.setTop (mkF m 96 #[.val (.ref a1), .val (.int sx), .val (.long vb), .second, .val .null, .val (.double ms), .second, .val (.int own_mk), .val (.int (own_i2 sx vb))] [(.int (own_i2 sx vb)), (.int (3 : Int32)), (.ref z_slots), (.int (((3 : Int32) * (own_i2 sx vb)) + (2 : Int32))), (.ref z_slots)])) _
                refine XS.imul X585.here hx rfl (hb hby d5_96) rfl ?_
                show Steps p.tables e below (T585.setTop (mkF m 97 #[.val (.ref a1), .val (.int sx), .val (.long vb), .second, .val .null, .val (.double ms), .second, .val (.int own_mk), .val (.int (own_i2 sx vb))] [(.int ((3 : Int32) * (own_i2 sx vb))), (.ref z_slots), (.int (((3 : Int32) * (own_i2 sx vb)) + (2 : Int32))), (.ref z_slots)])) _
                refine XS.iconst X585.here hx rfl (hb hby d5_97) ?_
                show Steps p.tables e below (T585.setTop (mkF m 98 #[.val (.ref a1), .val (.int sx), .val (.long vb), .second, .val .null, .val (.double ms), .second, .val (.int own_mk), .val (.int (own_i2 sx vb))] [(.int (2 : Int32)), (.int ((3 : Int32) * (own_i2 sx vb))), (.ref z_slots), (.int (((3 : Int32) * (own_i2 sx vb)) + (2 : Int32))), (.ref z_slots)])) _
                refine XS.iadd X585.here hx rfl (hb hby d5_98) rfl ?_
                show Steps p.tables e below (T585.setTop (mkF m 99 #[.val (.ref a1), .val (.int sx), .val (.long vb), .second, .val .null, .val (.double ms), .second, .val (.int own_mk), .val (.int (own_i2 sx vb))] [(.int (((3 : Int32) * (own_i2 sx vb)) + (2 : Int32))), (.ref z_slots), (.int (((3 : Int32) * (own_i2 sx vb)) + (2 : Int32))), (.ref z_slots)])) _
                refine X585.laload hx (j := (((3 : Int32) * (own_i2 sx vb)) + (2 : Int32))) (v := (.long (x_slots ((((3 : Int32) * (own_i2 sx vb)) + (2 : Int32))).toNatClampNeg))) (by rw [e585]; exact Ar586.1) (State.isArrayOf_alike hZ.alike Ar586.2.1) Ar586.2.2 hin586 (Has.at Ha586 hin586 (own_rd x_slots (own_b2 (own_r2 sx vb)))) (g := (mkF m 99 #[.val (.ref a1), .val (.int sx), .val (.long vb), .second, .val .null, .val (.double ms), .second, .val (.int own_mk), .val (.int (own_i2 sx vb))] [(.int (((3 : Int32) * (own_i2 sx vb)) + (2 : Int32))), (.ref z_slots), (.int (((3 : Int32) * (own_i2 sx vb)) + (2 : Int32))), (.ref z_slots)])) rfl rfl (hb hby d5_99) _ ?_
                show Steps p.tables e below (T585.setTop (mkF m 100 #[.val (.ref a1), .val (.int sx), .val (.long vb), .second, .val .null, .val (.double ms), .second, .val (.int own_mk), .val (.int (own_i2 sx vb))] [(.long (x_slots ((((3 : Int32) * (own_i2 sx vb)) + (2 : Int32))).toNatClampNeg)), (.int (((3 : Int32) * (own_i2 sx vb)) + (2 : Int32))), (.ref z_slots)])) _
                refine st587 _ ?_
                show Steps p.tables e below (T587.setTop (mkF m 103 #[.val (.ref a1), .val (.int sx), .val (.long vb), .second, .val .null, .val (.double ms), .second, .val (.int own_mk), .val (.int (own_i2 sx vb))] [(.double (((x_slots ((((3 : Int32) * (own_i2 sx vb)) + (2 : Int32))).toNatClampNeg)).toUInt64)), (.int (((3 : Int32) * (own_i2 sx vb)) + (2 : Int32))), (.ref z_slots)])) _
                refine XS.dload X587.here hx rfl (hb hby d5_103) rfl ?_
                show Steps p.tables e below (T587.setTop (mkF m 105 #[.val (.ref a1), .val (.int sx), .val (.long vb), .second, .val .null, .val (.double ms), .second, .val (.int own_mk), .val (.int (own_i2 sx vb))] [(.double ms), (.double (((x_slots ((((3 : Int32) * (own_i2 sx vb)) + (2 : Int32))).toNatClampNeg)).toUInt64)), (.int (((3 : Int32) * (own_i2 sx vb)) + (2 : Int32))), (.ref z_slots)])) _
                refine XS.daddS X587.here hx rfl (hb hby d5_105) rfl (Jvm.Free.Fl.dadd_out (hM _ (own_md (own_r2 sx vb))) hms) rfl ?_
                show Steps p.tables e below (T587.setTop (mkF m 106 #[.val (.ref a1), .val (.int sx), .val (.long vb), .second, .val .null, .val (.double ms), .second, .val (.int own_mk), .val (.int (own_i2 sx vb))] [(.double (FP.dadd (((x_slots ((((3 : Int32) * (own_i2 sx vb)) + (2 : Int32))).toNatClampNeg)).toUInt64) ms)), (.int (((3 : Int32) * (own_i2 sx vb)) + (2 : Int32))), (.ref z_slots)])) _
                refine st588 _ ?_
                show Steps p.tables e below (T588.setTop (mkF m 109 #[.val (.ref a1), .val (.int sx), .val (.long vb), .second, .val .null, .val (.double ms), .second, .val (.int own_mk), .val (.int (own_i2 sx vb))] [(.long (((FP.dadd (((x_slots ((((3 : Int32) * (own_i2 sx vb)) + (2 : Int32))).toNatClampNeg)).toUInt64) ms)).toInt64)), (.int (((3 : Int32) * (own_i2 sx vb)) + (2 : Int32))), (.ref z_slots)])) _
                refine st590 _ ?_
                show Steps p.tables e below (T590.setTop (mkF m 110 #[.val (.ref a1), .val (.int sx), .val (.long vb), .second, .val .null, .val (.double ms), .second, .val (.int own_mk), .val (.int (own_i2 sx vb))] [])) _
                exact X590.returnOut hx Bd.returns (hb hby d5_110) hr
              · show Q5 Z a1 sx vb ms z_slots z_entrySlots z_size k_slots x_slots k_entrySlots x_entrySlots h0 n0 _ T590.heap _
                rw [e590]
                exact ⟨rfl, N597, K598, f591, f592, f593, by rw [hf_size]; exact f594, f595, by rw [hf_slots]; exact fa590, by rw [hf_entrySlots]; exact f596⟩
        · obtain ⟨T600, X600, e600, st600⟩ := getF X486 hx hZ hown (host := "") (Or.inl (hw _ (List.mem_of_getElem? (i := 10) rfl))) Via.refl e486 F_slots_a1 (g := (mkF m 22 #[.val (.ref a1), .val (.int sx), .val (.long vb), .second, .val .null, .val (.double ms), .second, .val (.int own_mk), .val (.int (own_i2 sx vb))] [(.ref a1)])) rfl rfl (hb hby d5_22)
          obtain ⟨cl601, Ar601, qa601, Sa601, Na601, Ha601, Ga601⟩ := id V_slots
          have hin601 : ¬ (((3 : Int32) * (own_i2 sx vb)) < 0 ∨ cl601.slots.size ≤ (((3 : Int32) * (own_i2 sx vb))).toNatClampNeg) := inb_of Sa601 (own_b0 (own_r2 sx vb))
          have S602 : ∀ t, Steps p.tables e below (T600.setTop (mkF m 32 #[.val (.ref a1), .val (.int sx), .val (.long vb), .second, .val .null, .val (.double ms), .second, .val (.int own_mk), .val (.int (own_i2 sx vb))] [(.int (lcmpW (x_slots (((3 : Int32) * (own_i2 sx vb))).toNatClampNeg) (0 : Int64)))])) t → Steps p.tables e below (s₁.setTop (entryFrame m #[(.ref a1), (.int sx), (.long vb), .null, (.double ms)] 9)) t := by
            intro t k
            refine S488 t ?_
            refine XS.ifYes X486.here hx rfl (pc0 := 49) (pc' := 111) rfl (hb hby d5_49) rfl ((if0 _ _).trans (feq hc489).2) (by decide) (by decide) ?_
            show Steps p.tables e below (T486.setTop (mkF m 111 #[.val (.ref a1), .val (.int sx), .val (.long vb), .second, .val .null, .val (.double ms), .second, .val (.int own_mk), .val (.int (own_i1 sx vb))] [])) _
            refine XS.iload X486.here hx rfl (hb hby d5_111) rfl ?_
            show Steps p.tables e below (T486.setTop (mkF m 113 #[.val (.ref a1), .val (.int sx), .val (.long vb), .second, .val .null, .val (.double ms), .second, .val (.int own_mk), .val (.int (own_i1 sx vb))] [(.int (own_i1 sx vb))])) _
            refine XS.iconst X486.here hx rfl (hb hby d5_113) ?_
            show Steps p.tables e below (T486.setTop (mkF m 114 #[.val (.ref a1), .val (.int sx), .val (.long vb), .second, .val .null, .val (.double ms), .second, .val (.int own_mk), .val (.int (own_i1 sx vb))] [(.int (1 : Int32)), (.int (own_i1 sx vb))])) _
            refine XS.iadd X486.here hx rfl (hb hby d5_114) rfl ?_
            show Steps p.tables e below (T486.setTop (mkF m 115 #[.val (.ref a1), .val (.int sx), .val (.long vb), .second, .val .null, .val (.double ms), .second, .val (.int own_mk), .val (.int (own_i1 sx vb))] [(.int ((own_i1 sx vb) + (1 : Int32)))])) _
            refine XS.iload X486.here hx rfl (hb hby d5_115) rfl ?_
            show Steps p.tables e below (T486.setTop (mkF m 117 #[.val (.ref a1), .val (.int sx), .val (.long vb), .second, .val .null, .val (.double ms), .second, .val (.int own_mk), .val (.int (own_i1 sx vb))] [(.int own_mk), (.int ((own_i1 sx vb) + (1 : Int32)))])) _
            refine XS.iand X486.here hx rfl (hb hby d5_117) rfl ?_
            show Steps p.tables e below (T486.setTop (mkF m 118 #[.val (.ref a1), .val (.int sx), .val (.long vb), .second, .val .null, .val (.double ms), .second, .val (.int own_mk), .val (.int (own_i1 sx vb))] [(.int (own_i2 sx vb))])) _
            refine XS.istore X486.here hx rfl (hb hby d5_118) rfl (l' := #[.val (.ref a1), .val (.int sx), .val (.long vb), .second, .val .null, .val (.double ms), .second, .val (.int own_mk), .val (.int (own_i2 sx vb))]) rfl ?_
            show Steps p.tables e below (T486.setTop (mkF m 120 #[.val (.ref a1), .val (.int sx), .val (.long vb), .second, .val .null, .val (.double ms), .second, .val (.int own_mk), .val (.int (own_i2 sx vb))] [])) _
            refine XS.goto X486.here hx rfl (pc0 := 120) (pc' := 21) rfl (hb hby d5_120) (by decide) (by decide) ?_
            show Steps p.tables e below (T486.setTop (mkF m 21 #[.val (.ref a1), .val (.int sx), .val (.long vb), .second, .val .null, .val (.double ms), .second, .val (.int own_mk), .val (.int (own_i2 sx vb))] [])) _
            refine XS.aloadN X486.here hx rfl (hb hby d5_21) rfl rfl ?_
            show Steps p.tables e below (T486.setTop (mkF m 22 #[.val (.ref a1), .val (.int sx), .val (.long vb), .second, .val .null, .val (.double ms), .second, .val (.int own_mk), .val (.int (own_i2 sx vb))] [(.ref a1)])) _
            refine st600 _ ?_
            show Steps p.tables e below (T600.setTop (mkF m 25 #[.val (.ref a1), .val (.int sx), .val (.long vb), .second, .val .null, .val (.double ms), .second, .val (.int own_mk), .val (.int (own_i2 sx vb))] [(.ref z_slots)])) _
            refine XS.iconst X600.here hx rfl (hb hby d5_25) ?_
            show Steps p.tables e below (T600.setTop (mkF m 26 #[.val (.ref a1), .val (.int sx), .val (.long vb), .second, .val .null, .val (.double ms), .second, .val (.int own_mk), .val (.int (own_i2 sx vb))] [(.int (3 : Int32)), (.ref z_slots)])) _
            refine XS.iload X600.here hx rfl (hb hby d5_26) rfl ?_
            show Steps p.tables e below (T600.setTop (mkF m 28 #[.val (.ref a1), .val (.int sx), .val (.long vb), .second, .val .null, .val (.double ms), .second, .val (.int own_mk), .val (.int (own_i2 sx vb))] [(.int (own_i2 sx vb)), (.int (3 : Int32)), (.ref z_slots)])) _
            refine XS.imul X600.here hx rfl (hb hby d5_28) rfl ?_
            show Steps p.tables e below (T600.setTop (mkF m 29 #[.val (.ref a1), .val (.int sx), .val (.long vb), .second, .val .null, .val (.double ms), .second, .val (.int own_mk), .val (.int (own_i2 sx vb))] [(.int ((3 : Int32) * (own_i2 sx vb))), (.ref z_slots)])) _
            refine X600.laload hx (j := ((3 : Int32) * (own_i2 sx vb))) (v := (.long (x_slots (((3 : Int32) * (own_i2 sx vb))).toNatClampNeg))) (by rw [e600]; exact Ar601.1) (State.isArrayOf_alike hZ.alike Ar601.2.1) Ar601.2.2 hin601 (Has.at Ha601 hin601 (own_rd x_slots (own_b0 (own_r2 sx vb)))) (g := (mkF m 29 #[.val (.ref a1), .val (.int sx), .val (.long vb), .second, .val .null, .val (.double ms), .second, .val (.int own_mk), .val (.int (own_i2 sx vb))] [(.int ((3 : Int32) * (own_i2 sx vb))), (.ref z_slots)])) rfl rfl (hb hby d5_29) _ ?_
            show Steps p.tables e below (T600.setTop (mkF m 30 #[.val (.ref a1), .val (.int sx), .val (.long vb), .second, .val .null, .val (.double ms), .second, .val (.int own_mk), .val (.int (own_i2 sx vb))] [(.long (x_slots (((3 : Int32) * (own_i2 sx vb))).toNatClampNeg))])) _
            refine XS.lconst X600.here hx rfl (hb hby d5_30) ?_
            show Steps p.tables e below (T600.setTop (mkF m 31 #[.val (.ref a1), .val (.int sx), .val (.long vb), .second, .val .null, .val (.double ms), .second, .val (.int own_mk), .val (.int (own_i2 sx vb))] [(.long (0 : Int64)), (.long (x_slots (((3 : Int32) * (own_i2 sx vb))).toNatClampNeg))])) _
            refine XS.lcmp X600.here hx rfl (hb hby d5_31) rfl ?_
            show Steps p.tables e below (T600.setTop (mkF m 32 #[.val (.ref a1), .val (.int sx), .val (.long vb), .second, .val .null, .val (.double ms), .second, .val (.int own_mk), .val (.int (own_i2 sx vb))] [(.int (lcmpW (x_slots (((3 : Int32) * (own_i2 sx vb))).toNatClampNeg) (0 : Int64)))])) _
            exact k
          by_cases hc603 : (lcmpW (x_slots (((3 : Int32) * (own_i2 sx vb))).toNatClampNeg) (0 : Int64)) = (0 : Int32)
          · obtain ⟨T604, X604, e604, st604⟩ := getF X600 hx hZ hown (host := "") (Or.inl (hw _ (List.mem_of_getElem? (i := 20) rfl))) Via.refl e600 F_size_a1 (g := (mkF m 124 #[.val (.ref a1), .val (.int sx), .val (.long vb), .second, .val .null, .val (.double ms), .second, .val (.int own_mk), .val (.int (own_i2 sx vb))] [(.ref a1)])) rfl rfl (hb hby d5_124)
            obtain ⟨T605, X605, e605, st605⟩ := getF X604 hx hZ hown (host := "") (Or.inl (hw _ (List.mem_of_getElem? (i := 13) rfl))) Via.refl e604 F_entrySlots_a1 (g := (mkF m 128 #[.val (.ref a1), .val (.int sx), .val (.long vb), .second, .val .null, .val (.double ms), .second, .val (.int own_mk), .val (.int (own_i2 sx vb))] [(.ref a1), (.int z_size)])) rfl rfl (hb hby d5_128)
            obtain ⟨cl606, Ar606, qa606, Sa606, Na606, Ha606, Ga606⟩ := id V_entrySlots
            obtain ⟨T607, X607, e607, st607⟩ := getF X605 hx hZ hown (host := "") (Or.inl (hw _ (List.mem_of_getElem? (i := 10) rfl))) Via.refl e605 F_slots_a1 (g := (mkF m 151 #[.val (.ref a1), .val (.int sx), .val (.long vb), .second, .val .null, .val (.double ms), .second, .val (.int own_mk), .val (.int (own_i2 sx vb))] [(.ref a1)])) rfl rfl (hb hby d5_151)
            obtain ⟨cl608, Ar608, qa608, Sa608, Na608, Ha608, Ga608⟩ := id V_slots
            have hin608 : ¬ (((3 : Int32) * (own_i2 sx vb)) < 0 ∨ cl608.slots.size ≤ (((3 : Int32) * (own_i2 sx vb))).toNatClampNeg) := inb_of Sa608 (own_b0 (own_r2 sx vb))
            obtain ⟨T609, h609, X609, e609, W609, st609⟩ := stJ X607 hx hZ e607 Ar608 (j := ((3 : Int32) * (own_i2 sx vb))) hin608 (g := (mkF m 162 #[.val (.ref a1), .val (.int sx), .val (.long vb), .second, .val .null, .val (.double ms), .second, .val (.int own_mk), .val (.int (own_i2 sx vb))] [(.long (sx.toInt64 + (1 : Int64))), (.int ((3 : Int32) * (own_i2 sx vb))), (.ref z_slots)])) rfl rfl (hb hby d5_162)
            have fa609 : Arv Z h609 z_slots k_slots .long (96 : Int32) (own_L (own_up x_slots (((3 : Int32) * (own_i2 sx vb))).toNatClampNeg (sx.toInt64 + (1 : Int64)))) (.long (0 : Int64)) := (Arv.set Ar608 qa608 Sa608 Na608 Ha608 Ga608 rfl W609 (((3 : Int32) * (own_i2 sx vb))).toNatClampNeg rfl (own_Ll x_slots (own_ix (own_b0 (own_r2 sx vb))))).pad (own_Lset x_slots (own_ix (own_b0 (own_r2 sx vb))) (sx.toInt64 + (1 : Int64)))
            have f610 : Exa Z h609 a1 "com/example/ketproof/ketproof/MassTable" := E1.wr W609
            have f611 : Fld Z h609 a1 "com/example/ketproof/ketproof/MassTable" "slots" "[J" (.ref z_slots) := F_slots_a1.other W609 (Or.inl ne_slots)
            have f612 : Fld Z h609 a1 "com/example/ketproof/ketproof/MassTable" "entrySlots" "[I" (.ref z_entrySlots) := F_entrySlots_a1.other W609 (Or.inl ne_slots)
            have f613 : Fld Z h609 a1 "com/example/ketproof/ketproof/MassTable" "size" "I" (.int z_size) := F_size_a1.other W609 (Or.inl ne_slots)
            have f614 : Fld Z h609 a1 "com/example/ketproof/ketproof/MassTable" "decimals" "[Ljava/math/BigDecimal;" .null := F_decimals_a1.other W609 (Or.inl ne_slots)
            have f615 : Arv Z h609 z_entrySlots k_entrySlots .int (16 : Int32) (own_E x_entrySlots) (.int (0 : Int32)) := V_entrySlots.other W609 ne_entrySlots_slots
            have N616 := Fr.snoc X609 N53 g_slots
            have K617 : Keep h0 h609 [a1, z_slots, z_entrySlots] := (Keep.refl h0 [a1, z_slots, z_entrySlots]).wr W609 (Or.inl (List.mem_of_getElem? (i := 1) rfl))
            have Z618 : n0 ≤ h609.size := Nat.le_trans Z0 (Keep.of_wr W609).1
            obtain ⟨T619, X619, e619, st619⟩ := getF X609 hx hZ hown (host := "") (Or.inl (hw _ (List.mem_of_getElem? (i := 10) rfl))) Via.refl e609 f611 (g := (mkF m 164 #[.val (.ref a1), .val (.int sx), .val (.long vb), .second, .val .null, .val (.double ms), .second, .val (.int own_mk), .val (.int (own_i2 sx vb))] [(.ref a1)])) rfl rfl (hb hby d5_164)
            obtain ⟨cl620, Ar620, qa620, Sa620, Na620, Ha620, Ga620⟩ := id fa609
            have hin620 : ¬ ((((3 : Int32) * (own_i2 sx vb)) + (1 : Int32)) < 0 ∨ cl620.slots.size ≤ ((((3 : Int32) * (own_i2 sx vb)) + (1 : Int32))).toNatClampNeg) := inb_of Sa620 (own_b1 (own_r2 sx vb))
            obtain ⟨T621, h621, X621, e621, W621, st621⟩ := stJ X619 hx hZ e619 Ar620 (j := (((3 : Int32) * (own_i2 sx vb)) + (1 : Int32))) hin620 (g := (mkF m 174 #[.val (.ref a1), .val (.int sx), .val (.long vb), .second, .val .null, .val (.double ms), .second, .val (.int own_mk), .val (.int (own_i2 sx vb))] [(.long vb), (.int (((3 : Int32) * (own_i2 sx vb)) + (1 : Int32))), (.ref z_slots)])) rfl rfl (hb hby d5_174)
            have fa621 : Arv Z h621 z_slots k_slots .long (96 : Int32) (own_L (own_up (own_up x_slots (((3 : Int32) * (own_i2 sx vb))).toNatClampNeg (sx.toInt64 + (1 : Int64))) ((((3 : Int32) * (own_i2 sx vb)) + (1 : Int32))).toNatClampNeg vb)) (.long (0 : Int64)) := (Arv.set Ar620 qa620 Sa620 Na620 Ha620 Ga620 rfl W621 ((((3 : Int32) * (own_i2 sx vb)) + (1 : Int32))).toNatClampNeg rfl (own_Ll (own_up x_slots (((3 : Int32) * (own_i2 sx vb))).toNatClampNeg (sx.toInt64 + (1 : Int64))) (own_ix (own_b1 (own_r2 sx vb))))).pad (own_Lset (own_up x_slots (((3 : Int32) * (own_i2 sx vb))).toNatClampNeg (sx.toInt64 + (1 : Int64))) (own_ix (own_b1 (own_r2 sx vb))) vb)
            have f622 : Exa Z h621 a1 "com/example/ketproof/ketproof/MassTable" := f610.wr W621
            have f623 : Fld Z h621 a1 "com/example/ketproof/ketproof/MassTable" "slots" "[J" (.ref z_slots) := f611.other W621 (Or.inl ne_slots)
            have f624 : Fld Z h621 a1 "com/example/ketproof/ketproof/MassTable" "entrySlots" "[I" (.ref z_entrySlots) := f612.other W621 (Or.inl ne_slots)
            have f625 : Fld Z h621 a1 "com/example/ketproof/ketproof/MassTable" "size" "I" (.int z_size) := f613.other W621 (Or.inl ne_slots)
            have f626 : Fld Z h621 a1 "com/example/ketproof/ketproof/MassTable" "decimals" "[Ljava/math/BigDecimal;" .null := f614.other W621 (Or.inl ne_slots)
            have f627 : Arv Z h621 z_entrySlots k_entrySlots .int (16 : Int32) (own_E x_entrySlots) (.int (0 : Int32)) := f615.other W621 ne_entrySlots_slots
            have N628 := Fr.snoc X621 N616 g_slots
            have K629 : Keep h0 h621 [a1, z_slots, z_entrySlots] := K617.wr W621 (Or.inl (List.mem_of_getElem? (i := 1) rfl))
            have Z630 : n0 ≤ h621.size := Nat.le_trans Z618 (Keep.of_wr W621).1
            obtain ⟨T631, X631, e631, st631⟩ := getF X621 hx hZ hown (host := "") (Or.inl (hw _ (List.mem_of_getElem? (i := 10) rfl))) Via.refl e621 f623 (g := (mkF m 176 #[.val (.ref a1), .val (.int sx), .val (.long vb), .second, .val .null, .val (.double ms), .second, .val (.int own_mk), .val (.int (own_i2 sx vb))] [(.ref a1)])) rfl rfl (hb hby d5_176)
            obtain ⟨vm632, X632, st632⟩ := X631.doubleToRawLongBits hx hown (mvT hZ (hw _ (List.mem_of_getElem? (i := 27) rfl))) (mvT hZ (hw _ (List.mem_of_getElem? (i := 30) rfl))) (mvT hZ (hw _ (List.mem_of_getElem? (i := 28) rfl))) (mvT hZ (hw _ (List.mem_of_getElem? (i := 29) rfl))) (g := (mkF m 187 #[.val (.ref a1), .val (.int sx), .val (.long vb), .second, .val .null, .val (.double ms), .second, .val (.int own_mk), .val (.int (own_i2 sx vb))] [(.double ms), (.int (((3 : Int32) * (own_i2 sx vb)) + (2 : Int32))), (.ref z_slots)])) rfl (by rw [hml]; rfl) (rest := [(.int (((3 : Int32) * (own_i2 sx vb)) + (2 : Int32))), (.ref z_slots)]) (b := ms) rfl (hb hby d5_187) (by decide) (by show 2 * 0 + 2 + (nativeFrameWords "java/lang/Double" "doubleToRawLongBits" 2 + 11) ≤ _; decide)
            obtain ⟨T632, hT632⟩ : ∃ z, z = T631.setVm vm632 := ⟨_, rfl⟩
            rw [← hT632] at X632 st632
            have e632 : T632.heap = h621 := by rw [hT632]; exact e631
            obtain ⟨cl633, Ar633, qa633, Sa633, Na633, Ha633, Ga633⟩ := id fa621
            have hin633 : ¬ ((((3 : Int32) * (own_i2 sx vb)) + (2 : Int32)) < 0 ∨ cl633.slots.size ≤ ((((3 : Int32) * (own_i2 sx vb)) + (2 : Int32))).toNatClampNeg) := inb_of Sa633 (own_b2 (own_r2 sx vb))
            obtain ⟨T634, h634, X634, e634, W634, st634⟩ := stJ X632 hx hZ e632 Ar633 (j := (((3 : Int32) * (own_i2 sx vb)) + (2 : Int32))) hin633 (g := (mkF m 190 #[.val (.ref a1), .val (.int sx), .val (.long vb), .second, .val .null, .val (.double ms), .second, .val (.int own_mk), .val (.int (own_i2 sx vb))] [(.long ((ms).toInt64)), (.int (((3 : Int32) * (own_i2 sx vb)) + (2 : Int32))), (.ref z_slots)])) rfl rfl (hb hby d5_190)
            have fa634 : Arv Z h634 z_slots k_slots .long (96 : Int32) (own_L (own_up (own_up (own_up x_slots (((3 : Int32) * (own_i2 sx vb))).toNatClampNeg (sx.toInt64 + (1 : Int64))) ((((3 : Int32) * (own_i2 sx vb)) + (1 : Int32))).toNatClampNeg vb) ((((3 : Int32) * (own_i2 sx vb)) + (2 : Int32))).toNatClampNeg ((ms).toInt64))) (.long (0 : Int64)) := (Arv.set Ar633 qa633 Sa633 Na633 Ha633 Ga633 rfl W634 ((((3 : Int32) * (own_i2 sx vb)) + (2 : Int32))).toNatClampNeg rfl (own_Ll (own_up (own_up x_slots (((3 : Int32) * (own_i2 sx vb))).toNatClampNeg (sx.toInt64 + (1 : Int64))) ((((3 : Int32) * (own_i2 sx vb)) + (1 : Int32))).toNatClampNeg vb) (own_ix (own_b2 (own_r2 sx vb))))).pad (own_Lset (own_up (own_up x_slots (((3 : Int32) * (own_i2 sx vb))).toNatClampNeg (sx.toInt64 + (1 : Int64))) ((((3 : Int32) * (own_i2 sx vb)) + (1 : Int32))).toNatClampNeg vb) (own_ix (own_b2 (own_r2 sx vb))) ((ms).toInt64))
            have f635 : Exa Z h634 a1 "com/example/ketproof/ketproof/MassTable" := f622.wr W634
            have f636 : Fld Z h634 a1 "com/example/ketproof/ketproof/MassTable" "slots" "[J" (.ref z_slots) := f623.other W634 (Or.inl ne_slots)
            have f637 : Fld Z h634 a1 "com/example/ketproof/ketproof/MassTable" "entrySlots" "[I" (.ref z_entrySlots) := f624.other W634 (Or.inl ne_slots)
            have f638 : Fld Z h634 a1 "com/example/ketproof/ketproof/MassTable" "size" "I" (.int z_size) := f625.other W634 (Or.inl ne_slots)
            have f639 : Fld Z h634 a1 "com/example/ketproof/ketproof/MassTable" "decimals" "[Ljava/math/BigDecimal;" .null := f626.other W634 (Or.inl ne_slots)
            have f640 : Arv Z h634 z_entrySlots k_entrySlots .int (16 : Int32) (own_E x_entrySlots) (.int (0 : Int32)) := f627.other W634 ne_entrySlots_slots
            have N641 := Fr.snoc X634 N628 g_slots
            have K642 : Keep h0 h634 [a1, z_slots, z_entrySlots] := K629.wr W634 (Or.inl (List.mem_of_getElem? (i := 1) rfl))
            have Z643 : n0 ≤ h634.size := Nat.le_trans Z630 (Keep.of_wr W634).1
            obtain ⟨T644, X644, e644, st644⟩ := getF X634 hx hZ hown (host := "") (Or.inl (hw _ (List.mem_of_getElem? (i := 13) rfl))) Via.refl e634 f637 (g := (mkF m 227 #[.val (.ref a1), .val (.int sx), .val (.long vb), .second, .val .null, .val (.double ms), .second, .val (.int own_mk), .val (.int (own_i2 sx vb))] [(.ref a1)])) rfl rfl (hb hby d5_227)
            obtain ⟨T645, X645, e645, st645⟩ := getF X644 hx hZ hown (host := "") (Or.inl (hw _ (List.mem_of_getElem? (i := 20) rfl))) Via.refl e644 f638 (g := (mkF m 232 #[.val (.ref a1), .val (.int sx), .val (.long vb), .second, .val .null, .val (.double ms), .second, .val (.int own_mk), .val (.int (own_i2 sx vb))] [(.ref a1), (.ref a1), (.ref z_entrySlots)])) rfl rfl (hb hby d5_232)
            obtain ⟨T646, h646, X646, e646, W646, st646⟩ := putF X645 hx hZ hown (host := "") (Or.inl (hw _ (List.mem_of_getElem? (i := 20) rfl))) Via.refl e645 f638 f635 (Or.inl (hw _ (List.mem_of_getElem? (i := 21) rfl))) (hw _ (List.mem_of_getElem? (i := 1) rfl)) (ty := .int) (by decide) rfl rfl (g := (mkF m 238 #[.val (.ref a1), .val (.int sx), .val (.long vb), .second, .val .null, .val (.double ms), .second, .val (.int own_mk), .val (.int (own_i2 sx vb))] [(.int (z_size + (1 : Int32))), (.ref a1), (.int z_size), (.ref z_entrySlots)])) rfl rfl (hb hby d5_238)
            have f647 : Exa Z h646 a1 "com/example/ketproof/ketproof/MassTable" := f635.wr W646
            have f648 : Fld Z h646 a1 "com/example/ketproof/ketproof/MassTable" "slots" "[J" (.ref z_slots) := f636.other W646 (Or.inr (slot_ne (Or.inl (hw _ (List.mem_of_getElem? (i := 11) rfl))) (Or.inl (hw _ (List.mem_of_getElem? (i := 21) rfl))) (by decide) (t := (.array .long)) (t' := .int) (by decide) (by decide)))
            have f649 : Fld Z h646 a1 "com/example/ketproof/ketproof/MassTable" "entrySlots" "[I" (.ref z_entrySlots) := f637.other W646 (Or.inr (slot_ne (Or.inl (hw _ (List.mem_of_getElem? (i := 14) rfl))) (Or.inl (hw _ (List.mem_of_getElem? (i := 21) rfl))) (by decide) (t := (.array .int)) (t' := .int) (by decide) (by decide)))
            have f650 : Fld Z h646 a1 "com/example/ketproof/ketproof/MassTable" "size" "I" (.int (z_size + (1 : Int32))) := f638.same W646
            have f651 : Fld Z h646 a1 "com/example/ketproof/ketproof/MassTable" "decimals" "[Ljava/math/BigDecimal;" .null := f639.other W646 (Or.inr (slot_ne (Or.inl (hw _ (List.mem_of_getElem? (i := 61) rfl))) (Or.inl (hw _ (List.mem_of_getElem? (i := 21) rfl))) (by decide) (t := (.array (.object "java/math/BigDecimal"))) (t' := .int) (by decide) (by decide)))
            have f652 : Arv Z h646 z_entrySlots k_entrySlots .int (16 : Int32) (own_E x_entrySlots) (.int (0 : Int32)) := f640.other W646 (Ne.symm ne_entrySlots)
            have f653 : Arv Z h646 z_slots k_slots .long (96 : Int32) (own_L (own_up (own_up (own_up x_slots (((3 : Int32) * (own_i2 sx vb))).toNatClampNeg (sx.toInt64 + (1 : Int64))) ((((3 : Int32) * (own_i2 sx vb)) + (1 : Int32))).toNatClampNeg vb) ((((3 : Int32) * (own_i2 sx vb)) + (2 : Int32))).toNatClampNeg ((ms).toInt64))) (.long (0 : Int64)) := fa634.other W646 (Ne.symm ne_slots)
            have N654 := Fr.snoc X646 N641 g1
            have K655 : Keep h0 h646 [a1, z_slots, z_entrySlots] := K642.wr W646 (Or.inl (List.mem_of_getElem? (i := 0) rfl))
            have Z656 : n0 ≤ h646.size := Nat.le_trans Z643 (Keep.of_wr W646).1
            obtain ⟨cl657, Ar657, qa657, Sa657, Na657, Ha657, Ga657⟩ := id f652
            have hin657 : ¬ (z_size < 0 ∨ cl657.slots.size ≤ (z_size).toNatClampNeg) := inb_of Sa657 (own_ine hsz)
            obtain ⟨T658, h658, X658, e658, W658, st658⟩ := stI X646 hx hZ e646 Ar657 (j := z_size) hin657 (g := (mkF m 243 #[.val (.ref a1), .val (.int sx), .val (.long vb), .second, .val .null, .val (.double ms), .second, .val (.int own_mk), .val (.int (own_i2 sx vb))] [(.int (own_i2 sx vb)), (.int z_size), (.ref z_entrySlots)])) rfl rfl (hb hby d5_243)
            have fa658 : Arv Z h658 z_entrySlots k_entrySlots .int (16 : Int32) (own_E (own_up x_entrySlots (z_size).toNatClampNeg (own_i2 sx vb))) (.int (0 : Int32)) := (Arv.set Ar657 qa657 Sa657 Na657 Ha657 Ga657 rfl W658 (z_size).toNatClampNeg rfl (own_El x_entrySlots (own_ixe (own_ine hsz)))).pad (own_Eset x_entrySlots (own_ixe (own_ine hsz)) (own_i2 sx vb))
            have f659 : Exa Z h658 a1 "com/example/ketproof/ketproof/MassTable" := f647.wr W658
            have f660 : Fld Z h658 a1 "com/example/ketproof/ketproof/MassTable" "slots" "[J" (.ref z_slots) := f648.other W658 (Or.inl ne_entrySlots)
            have f661 : Fld Z h658 a1 "com/example/ketproof/ketproof/MassTable" "entrySlots" "[I" (.ref z_entrySlots) := f649.other W658 (Or.inl ne_entrySlots)
            have f662 : Fld Z h658 a1 "com/example/ketproof/ketproof/MassTable" "size" "I" (.int (z_size + (1 : Int32))) := f650.other W658 (Or.inl ne_entrySlots)
            have f663 : Fld Z h658 a1 "com/example/ketproof/ketproof/MassTable" "decimals" "[Ljava/math/BigDecimal;" .null := f651.other W658 (Or.inl ne_entrySlots)
            have f664 : Arv Z h658 z_slots k_slots .long (96 : Int32) (own_L (own_up (own_up (own_up x_slots (((3 : Int32) * (own_i2 sx vb))).toNatClampNeg (sx.toInt64 + (1 : Int64))) ((((3 : Int32) * (own_i2 sx vb)) + (1 : Int32))).toNatClampNeg vb) ((((3 : Int32) * (own_i2 sx vb)) + (2 : Int32))).toNatClampNeg ((ms).toInt64))) (.long (0 : Int64)) := f653.other W658 (Ne.symm ne_entrySlots_slots)
            have N665 := Fr.snoc X658 N654 g_entrySlots
            have K666 : Keep h0 h658 [a1, z_slots, z_entrySlots] := K655.wr W658 (Or.inl (List.mem_of_getElem? (i := 2) rfl))
            have Z667 : n0 ≤ h658.size := Nat.le_trans Z656 (Keep.of_wr W658).1
            have hf_size : f5_size sx vb ms z_size x_slots x_entrySlots = (z_size + (1 : Int32)) := by
              unfold f5_size
              first | rfl | (rw [if_neg hc57, if_neg hc125, if_neg hc421, if_neg hc489, if_pos hc603])
            have hf_slots : f5_slots sx vb ms z_size x_slots x_entrySlots = (own_up (own_up (own_up x_slots (((3 : Int32) * (own_i2 sx vb))).toNatClampNeg (sx.toInt64 + (1 : Int64))) ((((3 : Int32) * (own_i2 sx vb)) + (1 : Int32))).toNatClampNeg vb) ((((3 : Int32) * (own_i2 sx vb)) + (2 : Int32))).toNatClampNeg ((ms).toInt64)) := by
              unfold f5_slots
              first | rfl | (rw [if_neg hc57, if_neg hc125, if_neg hc421, if_neg hc489, if_pos hc603])
            have hf_entrySlots : f5_entrySlots sx vb ms z_size x_slots x_entrySlots = (own_up x_entrySlots (z_size).toNatClampNeg (own_i2 sx vb)) := by
              unfold f5_entrySlots
              first | rfl | (rw [if_neg hc57, if_neg hc125, if_neg hc421, if_neg hc489, if_pos hc603])
            obtain ⟨fs, hr, hrun, hended, hW, hsame⟩ := X658.leave (v := none) (fun _ => rfl)
            refine ⟨_, _, S602 _ ?_, hrun, hended, _, _, rfl, ?_, ⟨_, rfl⟩, hW, hsame.mono (by decide) (by decide)⟩
            · refine XS.ifYes X600.here hx rfl (pc0 := 32) (pc' := 123) rfl (hb hby d5_32) rfl ((if0 _ _).trans (teq hc603).1) (by decide) (by decide) ?_
              show Steps p.tables e below (T600.setTop (mkF m 123 #[.val (.ref a1), .val (.int sx), .val (.long vb), .second, .val .null, .val (.double ms), .second, .val (.int own_mk), .val (.int (own_i2 sx vb))] [])) _
              refine XS.aloadN X600.here hx rfl (hb hby d5_123) rfl rfl ?_
              show Steps p.tables e below (T600.setTop (mkF m 124 #[.val (.ref a1), .val (.int sx), .val (.long vb), .second, .val .null, .val (.double ms), .second, .val (.int own_mk), .val (.int (own_i2 sx vb))] [(.ref a1)])) _
              refine st604 _ ?_
              show Steps p.tables e below (T604.setTop (mkF m 127 #[.val (.ref a1), .val (.int sx), .val (.long vb), .second, .val .null, .val (.double ms), .second, .val (.int own_mk), .val (.int (own_i2 sx vb))] [(.int z_size)])) _
              refine XS.aloadN X604.here hx rfl (hb hby d5_127) rfl rfl ?_
              show Steps p.tables e below (T604.setTop (mkF m 128 #[.val (.ref a1), .val (.int sx), .val (.long vb), .second, .val .null, .val (.double ms), .second, .val (.int own_mk), .val (.int (own_i2 sx vb))] [(.ref a1), (.int z_size)])) _
              refine st605 _ ?_
              show Steps p.tables e below (T605.setTop (mkF m 131 #[.val (.ref a1), .val (.int sx), .val (.long vb), .second, .val .null, .val (.double ms), .second, .val (.int own_mk), .val (.int (own_i2 sx vb))] [(.ref z_entrySlots), (.int z_size)])) _
              refine X605.arraylength hx (by rw [e605]; exact Ar606.1) (State.isArrayOf_alike hZ.alike Ar606.2.1) (g := (mkF m 131 #[.val (.ref a1), .val (.int sx), .val (.long vb), .second, .val .null, .val (.double ms), .second, .val (.int own_mk), .val (.int (own_i2 sx vb))] [(.ref z_entrySlots), (.int z_size)])) rfl rfl (hb hby d5_131) _ ?_
              rw [len_of Sa606 Na606]
              show Steps p.tables e below (T605.setTop (mkF m 132 #[.val (.ref a1), .val (.int sx), .val (.long vb), .second, .val .null, .val (.double ms), .second, .val (.int own_mk), .val (.int (own_i2 sx vb))] [(.int (16 : Int32)), (.int z_size)])) _
              refine XS.icmpYes X605.here hx rfl (pc0 := 132) (pc' := 150) rfl (hb hby d5_132) rfl (feq (own_full hsz)).2 (by decide) (by decide) ?_
              show Steps p.tables e below (T605.setTop (mkF m 150 #[.val (.ref a1), .val (.int sx), .val (.long vb), .second, .val .null, .val (.double ms), .second, .val (.int own_mk), .val (.int (own_i2 sx vb))] [])) _
              refine XS.aloadN X605.here hx rfl (hb hby d5_150) rfl rfl ?_
              show Steps p.tables e below (T605.setTop (mkF m 151 #[.val (.ref a1), .val (.int sx), .val (.long vb), .second, .val .null, .val (.double ms), .second, .val (.int own_mk), .val (.int (own_i2 sx vb))] [(.ref a1)])) _
              refine st607 _ ?_
              show Steps p.tables e below (T607.setTop (mkF m 154 #[.val (.ref a1), .val (.int sx), .val (.long vb), .second, .val .null, .val (.double ms), .second, .val (.int own_mk), .val (.int (own_i2 sx vb))] [(.ref z_slots)])) _
              refine XS.iconst X607.here hx rfl (hb hby d5_154) ?_
              show Steps p.tables e below (T607.setTop (mkF m 155 #[.val (.ref a1), .val (.int sx), .val (.long vb), .second, .val .null, .val (.double ms), .second, .val (.int own_mk), .val (.int (own_i2 sx vb))] [(.int (3 : Int32)), (.ref z_slots)])) _
              refine XS.iload X607.here hx rfl (hb hby d5_155) rfl ?_
              show Steps p.tables e below (T607.setTop (mkF m 157 #[.val (.ref a1), .val (.int sx), .val (.long vb), .second, .val .null, .val (.double ms), .second, .val (.int own_mk), .val (.int (own_i2 sx vb))] [(.int (own_i2 sx vb)), (.int (3 : Int32)), (.ref z_slots)])) _
              refine XS.imul X607.here hx rfl (hb hby d5_157) rfl ?_
              show Steps p.tables e below (T607.setTop (mkF m 158 #[.val (.ref a1), .val (.int sx), .val (.long vb), .second, .val .null, .val (.double ms), .second, .val (.int own_mk), .val (.int (own_i2 sx vb))] [(.int ((3 : Int32) * (own_i2 sx vb))), (.ref z_slots)])) _
              refine XS.iloadN X607.here hx rfl (hb hby d5_158) rfl ?_
              show Steps p.tables e below (T607.setTop (mkF m 159 #[.val (.ref a1), .val (.int sx), .val (.long vb), .second, .val .null, .val (.double ms), .second, .val (.int own_mk), .val (.int (own_i2 sx vb))] [(.int sx), (.int ((3 : Int32) * (own_i2 sx vb))), (.ref z_slots)])) _
              refine XS.i2l X607.here hx rfl (hb hby d5_159) rfl ?_
              show Steps p.tables e below (T607.setTop (mkF m 160 #[.val (.ref a1), .val (.int sx), .val (.long vb), .second, .val .null, .val (.double ms), .second, .val (.int own_mk), .val (.int (own_i2 sx vb))] [(.long sx.toInt64), (.int ((3 : Int32) * (own_i2 sx vb))), (.ref z_slots)])) _
              refine XS.lconst X607.here hx rfl (hb hby d5_160) ?_
              show Steps p.tables e below (T607.setTop (mkF m 161 #[.val (.ref a1), .val (.int sx), .val (.long vb), .second, .val .null, .val (.double ms), .second, .val (.int own_mk), .val (.int (own_i2 sx vb))] [(.long (1 : Int64)), (.long sx.toInt64), (.int ((3 : Int32) * (own_i2 sx vb))), (.ref z_slots)])) _
              refine XS.ladd X607.here hx rfl (hb hby d5_161) rfl ?_
              show Steps p.tables e below (T607.setTop (mkF m 162 #[.val (.ref a1), .val (.int sx), .val (.long vb), .second, .val .null, .val (.double ms), .second, .val (.int own_mk), .val (.int (own_i2 sx vb))] [(.long (sx.toInt64 + (1 : Int64))), (.int ((3 : Int32) * (own_i2 sx vb))), (.ref z_slots)])) _
              refine st609 _ ?_
              show Steps p.tables e below (T609.setTop (mkF m 163 #[.val (.ref a1), .val (.int sx), .val (.long vb), .second, .val .null, .val (.double ms), .second, .val (.int own_mk), .val (.int (own_i2 sx vb))] [])) _
              refine XS.aloadN X609.here hx rfl (hb hby d5_163) rfl rfl ?_
              show Steps p.tables e below (T609.setTop (mkF m 164 #[.val (.ref a1), .val (.int sx), .val (.long vb), .second, .val .null, .val (.double ms), .second, .val (.int own_mk), .val (.int (own_i2 sx vb))] [(.ref a1)])) _
              refine st619 _ ?_
              show Steps p.tables e below (T619.setTop (mkF m 167 #[.val (.ref a1), .val (.int sx), .val (.long vb), .second, .val .null, .val (.double ms), .second, .val (.int own_mk), .val (.int (own_i2 sx vb))] [(.ref z_slots)])) _
              refine XS.iconst X619.here hx rfl (hb hby d5_167) ?_
              show Steps p.tables e below (T619.setTop (mkF m 168 #[.val (.ref a1), .val (.int sx), .val (.long vb), .second, .val .null, .val (.double ms), .second, .val (.int own_mk), .val (.int (own_i2 sx vb))] [(.int (3 : Int32)), (.ref z_slots)])) _
              refine XS.iload X619.here hx rfl (hb hby d5_168) rfl ?_
              show Steps p.tables e below (T619.setTop (mkF m 170 #[.val (.ref a1), .val (.int sx), .val (.long vb), .second, .val .null, .val (.double ms), .second, .val (.int own_mk), .val (.int (own_i2 sx vb))] [(.int (own_i2 sx vb)), (.int (3 : Int32)), (.ref z_slots)])) _
              refine XS.imul X619.here hx rfl (hb hby d5_170) rfl ?_
              show Steps p.tables e below (T619.setTop (mkF m 171 #[.val (.ref a1), .val (.int sx), .val (.long vb), .second, .val .null, .val (.double ms), .second, .val (.int own_mk), .val (.int (own_i2 sx vb))] [(.int ((3 : Int32) * (own_i2 sx vb))), (.ref z_slots)])) _
              refine XS.iconst X619.here hx rfl (hb hby d5_171) ?_
              show Steps p.tables e below (T619.setTop (mkF m 172 #[.val (.ref a1), .val (.int sx), .val (.long vb), .second, .val .null, .val (.double ms), .second, .val (.int own_mk), .val (.int (own_i2 sx vb))] [(.int (1 : Int32)), (.int ((3 : Int32) * (own_i2 sx vb))), (.ref z_slots)])) _
              refine XS.iadd X619.here hx rfl (hb hby d5_172) rfl ?_
              show Steps p.tables e below (T619.setTop (mkF m 173 #[.val (.ref a1), .val (.int sx), .val (.long vb), .second, .val .null, .val (.double ms), .second, .val (.int own_mk), .val (.int (own_i2 sx vb))] [(.int (((3 : Int32) * (own_i2 sx vb)) + (1 : Int32))), (.ref z_slots)])) _
              refine XS.lloadN X619.here hx rfl (hb hby d5_173) rfl ?_
              show Steps p.tables e below (T619.setTop (mkF m 174 #[.val (.ref a1), .val (.int sx), .val (.long vb), .second, .val .null, .val (.double ms), .second, .val (.int own_mk), .val (.int (own_i2 sx vb))] [(.long vb), (.int (((3 : Int32) * (own_i2 sx vb)) + (1 : Int32))), (.ref z_slots)])) _
              refine st621 _ ?_
              show Steps p.tables e below (T621.setTop (mkF m 175 #[.val (.ref a1), .val (.int sx), .val (.long vb), .second, .val .null, .val (.double ms), .second, .val (.int own_mk), .val (.int (own_i2 sx vb))] [])) _
              refine XS.aloadN X621.here hx rfl (hb hby d5_175) rfl rfl ?_
              show Steps p.tables e below (T621.setTop (mkF m 176 #[.val (.ref a1), .val (.int sx), .val (.long vb), .second, .val .null, .val (.double ms), .second, .val (.int own_mk), .val (.int (own_i2 sx vb))] [(.ref a1)])) _
              refine st631 _ ?_
              show Steps p.tables e below (T631.setTop (mkF m 179 #[.val (.ref a1), .val (.int sx), .val (.long vb), .second, .val .null, .val (.double ms), .second, .val (.int own_mk), .val (.int (own_i2 sx vb))] [(.ref z_slots)])) _
              refine XS.iconst X631.here hx rfl (hb hby d5_179) ?_
              show Steps p.tables e below (T631.setTop (mkF m 180 #[.val (.ref a1), .val (.int sx), .val (.long vb), .second, .val .null, .val (.double ms), .second, .val (.int own_mk), .val (.int (own_i2 sx vb))] [(.int (3 : Int32)), (.ref z_slots)])) _
              refine XS.iload X631.here hx rfl (hb hby d5_180) rfl ?_
              show Steps p.tables e below (T631.setTop (mkF m 182 #[.val (.ref a1), .val (.int sx), .val (.long vb), .second, .val .null, .val (.double ms), .second, .val (.int own_mk), .val (.int (own_i2 sx vb))] [(.int (own_i2 sx vb)), (.int (3 : Int32)), (.ref z_slots)])) _
              refine XS.imul X631.here hx rfl (hb hby d5_182) rfl ?_
              show Steps p.tables e below (T631.setTop (mkF m 183 #[.val (.ref a1), .val (.int sx), .val (.long vb), .second, .val .null, .val (.double ms), .second, .val (.int own_mk), .val (.int (own_i2 sx vb))] [(.int ((3 : Int32) * (own_i2 sx vb))), (.ref z_slots)])) _
              refine XS.iconst X631.here hx rfl (hb hby d5_183) ?_
              show Steps p.tables e below (T631.setTop (mkF m 184 #[.val (.ref a1), .val (.int sx), .val (.long vb), .second, .val .null, .val (.double ms), .second, .val (.int own_mk), .val (.int (own_i2 sx vb))] [(.int (2 : Int32)), (.int ((3 : Int32) * (own_i2 sx vb))), (.ref z_slots)])) _
              refine XS.iadd X631.here hx rfl (hb hby d5_184) rfl ?_
              show Steps p.tables e below (T631.setTop (mkF m 185 #[.val (.ref a1), .val (.int sx), .val (.long vb), .second, .val .null, .val (.double ms), .second, .val (.int own_mk), .val (.int (own_i2 sx vb))] [(.int (((3 : Int32) * (own_i2 sx vb)) + (2 : Int32))), (.ref z_slots)])) _
              refine XS.dload X631.here hx rfl (hb hby d5_185) rfl ?_
              show Steps p.tables e below (T631.setTop (mkF m 187 #[.val (.ref a1), .val (.int sx), .val (.long vb), .second, .val .null, .val (.double ms), .second, .val (.int own_mk), .val (.int (own_i2 sx vb))] [(.double ms), (.int (((3 : Int32) * (own_i2 sx vb)) + (2 : Int32))), (.ref z_slots)])) _
              refine st632 _ ?_
              show Steps p.tables e below (T632.setTop (mkF m 190 #[.val (.ref a1), .val (.int sx), .val (.long vb), .second, .val .null, .val (.double ms), .second, .val (.int own_mk), .val (.int (own_i2 sx vb))] [(.long ((ms).toInt64)), (.int (((3 : Int32) * (own_i2 sx vb)) + (2 : Int32))), (.ref z_slots)])) _
              refine st634 _ ?_
              show Steps p.tables e below (T634.setTop (mkF m 191 #[.val (.ref a1), .val (.int sx), .val (.long vb), .second, .val .null, .val (.double ms), .second, .val (.int own_mk), .val (.int (own_i2 sx vb))] [])) _
              refine XS.aload X634.here hx rfl (hb hby d5_191) rfl rfl ?_
              show Steps p.tables e below (T634.setTop (mkF m 193 #[.val (.ref a1), .val (.int sx), .val (.long vb), .second, .val .null, .val (.double ms), .second, .val (.int own_mk), .val (.int (own_i2 sx vb))] [.null])) _
              refine XS.ifnullYes X634.here hx rfl (pc0 := 193) (pc' := 226) rfl (hb hby d5_193) rfl (by decide) (by decide) ?_
              show Steps p.tables e below (T634.setTop (mkF m 226 #[.val (.ref a1), .val (.int sx), .val (.long vb), .second, .val .null, .val (.double ms), .second, .val (.int own_mk), .val (.int (own_i2 sx vb))] [])) _
              refine XS.aloadN X634.here hx rfl (hb hby d5_226) rfl rfl ?_
              show Steps p.tables e below (T634.setTop (mkF m 227 #[.val (.ref a1), .val (.int sx), .val (.long vb), .second, .val .null, .val (.double ms), .second, .val (.int own_mk), .val (.int (own_i2 sx vb))] [(.ref a1)])) _
              refine st644 _ ?_
              show Steps p.tables e below (T644.setTop (mkF m 230 #[.val (.ref a1), .val (.int sx), .val (.long vb), .second, .val .null, .val (.double ms), .second, .val (.int own_mk), .val (.int (own_i2 sx vb))] [(.ref z_entrySlots)])) _
              refine XS.aloadN X644.here hx rfl (hb hby d5_230) rfl rfl ?_
              show Steps p.tables e below (T644.setTop (mkF m 231 #[.val (.ref a1), .val (.int sx), .val (.long vb), .second, .val .null, .val (.double ms), .second, .val (.int own_mk), .val (.int (own_i2 sx vb))] [(.ref a1), (.ref z_entrySlots)])) _
              refine XS.dup X644.here hx rfl (hb hby d5_231) rfl rfl ?_
              show Steps p.tables e below (T644.setTop (mkF m 232 #[.val (.ref a1), .val (.int sx), .val (.long vb), .second, .val .null, .val (.double ms), .second, .val (.int own_mk), .val (.int (own_i2 sx vb))] [(.ref a1), (.ref a1), (.ref z_entrySlots)])) _
              refine st645 _ ?_
              show Steps p.tables e below (T645.setTop (mkF m 235 #[.val (.ref a1), .val (.int sx), .val (.long vb), .second, .val .null, .val (.double ms), .second, .val (.int own_mk), .val (.int (own_i2 sx vb))] [(.int z_size), (.ref a1), (.ref z_entrySlots)])) _
              refine XS.dupX1 X645.here hx rfl (hb hby d5_235) rfl rfl rfl ?_
              show Steps p.tables e below (T645.setTop (mkF m 236 #[.val (.ref a1), .val (.int sx), .val (.long vb), .second, .val .null, .val (.double ms), .second, .val (.int own_mk), .val (.int (own_i2 sx vb))] [(.int z_size), (.ref a1), (.int z_size), (.ref z_entrySlots)])) _
              refine XS.iconst X645.here hx rfl (hb hby d5_236) ?_
              show Steps p.tables e below (T645.setTop (mkF m 237 #[.val (.ref a1), .val (.int sx), .val (.long vb), .second, .val .null, .val (.double ms), .second, .val (.int own_mk), .val (.int (own_i2 sx vb))] [(.int (1 : Int32)), (.int z_size), (.ref a1), (.int z_size), (.ref z_entrySlots)])) _
              refine XS.iadd X645.here hx rfl (hb hby d5_237) rfl ?_
              show Steps p.tables e below (T645.setTop (mkF m 238 #[.val (.ref a1), .val (.int sx), .val (.long vb), .second, .val .null, .val (.double ms), .second, .val (.int own_mk), .val (.int (own_i2 sx vb))] [(.int (z_size + (1 : Int32))), (.ref a1), (.int z_size), (.ref z_entrySlots)])) _
              refine st646 _ ?_
              show Steps p.tables e below (T646.setTop (mkF m 241 #[.val (.ref a1), .val (.int sx), .val (.long vb), .second, .val .null, .val (.double ms), .second, .val (.int own_mk), .val (.int (own_i2 sx vb))] [(.int z_size), (.ref z_entrySlots)])) _
              refine XS.iload X646.here hx rfl (hb hby d5_241) rfl ?_
              show Steps p.tables e below (T646.setTop (mkF m 243 #[.val (.ref a1), .val (.int sx), .val (.long vb), .second, .val .null, .val (.double ms), .second, .val (.int own_mk), .val (.int (own_i2 sx vb))] [(.int (own_i2 sx vb)), (.int z_size), (.ref z_entrySlots)])) _
              refine st658 _ ?_
              show Steps p.tables e below (T658.setTop (mkF m 244 #[.val (.ref a1), .val (.int sx), .val (.long vb), .second, .val .null, .val (.double ms), .second, .val (.int own_mk), .val (.int (own_i2 sx vb))] [])) _
              exact X658.returnOut hx Bd.returns (hb hby d5_244) hr
            · show Q5 Z a1 sx vb ms z_slots z_entrySlots z_size k_slots x_slots k_entrySlots x_entrySlots h0 n0 _ T658.heap _
              rw [e658]
              exact ⟨rfl, N665, K666, f659, f660, f661, by rw [hf_size]; exact f662, f663, by rw [hf_slots]; exact f664, by rw [hf_entrySlots]; exact fa658⟩
          · obtain ⟨T668, X668, e668, st668⟩ := getF X600 hx hZ hown (host := "") (Or.inl (hw _ (List.mem_of_getElem? (i := 10) rfl))) Via.refl e600 F_slots_a1 (g := (mkF m 36 #[.val (.ref a1), .val (.int sx), .val (.long vb), .second, .val .null, .val (.double ms), .second, .val (.int own_mk), .val (.int (own_i2 sx vb))] [(.ref a1)])) rfl rfl (hb hby d5_36)
            obtain ⟨cl669, Ar669, qa669, Sa669, Na669, Ha669, Ga669⟩ := id V_slots
            have hin669 : ¬ (((3 : Int32) * (own_i2 sx vb)) < 0 ∨ cl669.slots.size ≤ (((3 : Int32) * (own_i2 sx vb))).toNatClampNeg) := inb_of Sa669 (own_b0 (own_r2 sx vb))
            obtain ⟨T670, X670, e670, st670⟩ := getF X668 hx hZ hown (host := "") (Or.inl (hw _ (List.mem_of_getElem? (i := 10) rfl))) Via.refl e668 F_slots_a1 (g := (mkF m 53 #[.val (.ref a1), .val (.int sx), .val (.long vb), .second, .val .null, .val (.double ms), .second, .val (.int own_mk), .val (.int (own_i2 sx vb))] [(.ref a1)])) rfl rfl (hb hby d5_53)
            obtain ⟨cl671, Ar671, qa671, Sa671, Na671, Ha671, Ga671⟩ := id V_slots
            have hin671 : ¬ ((((3 : Int32) * (own_i2 sx vb)) + (1 : Int32)) < 0 ∨ cl671.slots.size ≤ ((((3 : Int32) * (own_i2 sx vb)) + (1 : Int32))).toNatClampNeg) := inb_of Sa671 (own_b1 (own_r2 sx vb))
            obtain ⟨cq672, q672, q672'⟩ := E1.cell
            obtain ⟨_, _, ⟨T672, L672, k672, n672⟩, -, X672, ⟨Lc672, hQ672, l672, y672, z672⟩, st672⟩ := X670.privateBack hx (y := (⟨"com/example/ketproof/ketproof/MassTable", "holds", "(ILjava/math/BigDecimal;)Z"⟩ : MethodName)) hown (mvT hZ (hw _ (List.mem_of_getElem? (i := 70) rfl))) (mvT hZ (hw _ (List.mem_of_getElem? (i := 71) rfl))) (mvT hZ (Jvm.Kit.selects_private (by decide) (hw _ (List.mem_of_getElem? (i := 1) rfl)) (hw _ (List.mem_of_getElem? (i := 72) rfl)) (hw _ (List.mem_of_getElem? (i := 71) rfl)))) (Cond.privateMethod_at (mvP hZ (hw _ (List.mem_of_getElem? (i := 72) rfl)) (args := #[]))) (mvT hZ (hw _ (List.mem_of_getElem? (i := 73) rfl))) (by decide) (backOf (W := 0) (rm12 l Z a0 hw [] a1 (own_i2 sx vb) h0 n0 Z0 F_decimals_a1) hZ (hw _ (List.mem_of_getElem? (i := 73) rfl)) (hw _ (List.mem_of_getElem? (i := 2) rfl)) (by decide) (by decide)) (g := (mkF m 73 #[.val (.ref a1), .val (.int sx), .val (.long vb), .second, .val .null, .val (.double ms), .second, .val (.int own_mk), .val (.int (own_i2 sx vb))] [.null, (.int (own_i2 sx vb)), (.ref a1)])) rfl (by rw [hml]; rfl) (Steps.refl _) (a := a1) (by rw [e670]; exact q672) q672' (argsL := [(.int (own_i2 sx vb)), .null]) (rest := []) (lenOf pd_1 rfl) rfl (by show 2 * 0 + _ ≤ _; exact Nat.le_of_eq rfl) (hb hby d5_73) (fun _ _ => ⟨rfl, e670, (by decide : 0 + 0 ≤ _), (by decide : 0 + 0 ≤ _)⟩)
            dsimp only [Pt.U, Pt.locs, Pt.cells, Pt.slots] at X672 l672 y672 z672 st672 hQ672
            subst l672 y672 z672
            obtain ⟨rfl, N672q, e672⟩ := hQ672
            have N672 := Fr.app N53 N672q
            obtain ⟨T673, X673, e673, st673⟩ := getF X672 hx hZ hown (host := "") (Or.inl (hw _ (List.mem_of_getElem? (i := 10) rfl))) Via.refl e672 F_slots_a1 (g := (mkF m 80 #[.val (.ref a1), .val (.int sx), .val (.long vb), .second, .val .null, .val (.double ms), .second, .val (.int own_mk), .val (.int (own_i2 sx vb))] [(.ref a1)])) rfl rfl (hb hby d5_80)
            obtain ⟨T674, X674, e674, st674⟩ := getF X673 hx hZ hown (host := "") (Or.inl (hw _ (List.mem_of_getElem? (i := 10) rfl))) Via.refl e673 F_slots_a1 (g := (mkF m 90 #[.val (.ref a1), .val (.int sx), .val (.long vb), .second, .val .null, .val (.double ms), .second, .val (.int own_mk), .val (.int (own_i2 sx vb))] [(.ref a1), (.int (((3 : Int32) * (own_i2 sx vb)) + (2 : Int32))), (.ref z_slots)])) rfl rfl (hb hby d5_90)
            obtain ⟨cl675, Ar675, qa675, Sa675, Na675, Ha675, Ga675⟩ := id V_slots
            have hin675 : ¬ ((((3 : Int32) * (own_i2 sx vb)) + (2 : Int32)) < 0 ∨ cl675.slots.size ≤ ((((3 : Int32) * (own_i2 sx vb)) + (2 : Int32))).toNatClampNeg) := inb_of Sa675 (own_b2 (own_r2 sx vb))
            obtain ⟨vm676, X676, st676⟩ := X674.longBitsToDouble hx hown (mvT hZ (hw _ (List.mem_of_getElem? (i := 62) rfl))) (mvT hZ (hw _ (List.mem_of_getElem? (i := 64) rfl))) (mvT hZ (hw _ (List.mem_of_getElem? (i := 63) rfl))) (mvT hZ (hw _ (List.mem_of_getElem? (i := 29) rfl))) (g := (mkF m 100 #[.val (.ref a1), .val (.int sx), .val (.long vb), .second, .val .null, .val (.double ms), .second, .val (.int own_mk), .val (.int (own_i2 sx vb))] [(.long (x_slots ((((3 : Int32) * (own_i2 sx vb)) + (2 : Int32))).toNatClampNeg)), (.int (((3 : Int32) * (own_i2 sx vb)) + (2 : Int32))), (.ref z_slots)])) rfl (by rw [hml]; rfl) (rest := [(.int (((3 : Int32) * (own_i2 sx vb)) + (2 : Int32))), (.ref z_slots)]) (b := (x_slots ((((3 : Int32) * (own_i2 sx vb)) + (2 : Int32))).toNatClampNeg)) (own_lb (hM _ (own_md (own_r2 sx vb)))) rfl (hb hby d5_100) (by decide) (by show 2 * 0 + 2 + (nativeFrameWords "java/lang/Double" "longBitsToDouble" 2 + 11) ≤ _; decide)
            obtain ⟨T676, hT676⟩ : ∃ z, z = T674.setVm vm676 := ⟨_, rfl⟩
            rw [← hT676] at X676 st676
            have e676 : T676.heap = h0 := by rw [hT676]; exact e674
            obtain ⟨vm677, X677, st677⟩ := X676.doubleToRawLongBits hx hown (mvT hZ (hw _ (List.mem_of_getElem? (i := 27) rfl))) (mvT hZ (hw _ (List.mem_of_getElem? (i := 30) rfl))) (mvT hZ (hw _ (List.mem_of_getElem? (i := 28) rfl))) (mvT hZ (hw _ (List.mem_of_getElem? (i := 29) rfl))) (g := (mkF m 106 #[.val (.ref a1), .val (.int sx), .val (.long vb), .second, .val .null, .val (.double ms), .second, .val (.int own_mk), .val (.int (own_i2 sx vb))] [(.double (FP.dadd (((x_slots ((((3 : Int32) * (own_i2 sx vb)) + (2 : Int32))).toNatClampNeg)).toUInt64) ms)), (.int (((3 : Int32) * (own_i2 sx vb)) + (2 : Int32))), (.ref z_slots)])) rfl (by rw [hml]; rfl) (rest := [(.int (((3 : Int32) * (own_i2 sx vb)) + (2 : Int32))), (.ref z_slots)]) (b := (FP.dadd (((x_slots ((((3 : Int32) * (own_i2 sx vb)) + (2 : Int32))).toNatClampNeg)).toUInt64) ms)) rfl (hb hby d5_106) (by decide) (by show 2 * 0 + 2 + (nativeFrameWords "java/lang/Double" "doubleToRawLongBits" 2 + 11) ≤ _; decide)
            obtain ⟨T677, hT677⟩ : ∃ z, z = T676.setVm vm677 := ⟨_, rfl⟩
            rw [← hT677] at X677 st677
            have e677 : T677.heap = h0 := by rw [hT677]; exact e676
            obtain ⟨cl678, Ar678, qa678, Sa678, Na678, Ha678, Ga678⟩ := id V_slots
            have hin678 : ¬ ((((3 : Int32) * (own_i2 sx vb)) + (2 : Int32)) < 0 ∨ cl678.slots.size ≤ ((((3 : Int32) * (own_i2 sx vb)) + (2 : Int32))).toNatClampNeg) := inb_of Sa678 (own_b2 (own_r2 sx vb))
            obtain ⟨T679, h679, X679, e679, W679, st679⟩ := stJ X677 hx hZ e677 Ar678 (j := (((3 : Int32) * (own_i2 sx vb)) + (2 : Int32))) hin678 (g := (mkF m 109 #[.val (.ref a1), .val (.int sx), .val (.long vb), .second, .val .null, .val (.double ms), .second, .val (.int own_mk), .val (.int (own_i2 sx vb))] [(.long (((FP.dadd (((x_slots ((((3 : Int32) * (own_i2 sx vb)) + (2 : Int32))).toNatClampNeg)).toUInt64) ms)).toInt64)), (.int (((3 : Int32) * (own_i2 sx vb)) + (2 : Int32))), (.ref z_slots)])) rfl rfl (hb hby d5_109)
            have fa679 : Arv Z h679 z_slots k_slots .long (96 : Int32) (own_L (own_up x_slots ((((3 : Int32) * (own_i2 sx vb)) + (2 : Int32))).toNatClampNeg (((FP.dadd (((x_slots ((((3 : Int32) * (own_i2 sx vb)) + (2 : Int32))).toNatClampNeg)).toUInt64) ms)).toInt64))) (.long (0 : Int64)) := (Arv.set Ar678 qa678 Sa678 Na678 Ha678 Ga678 rfl W679 ((((3 : Int32) * (own_i2 sx vb)) + (2 : Int32))).toNatClampNeg rfl (own_Ll x_slots (own_ix (own_b2 (own_r2 sx vb))))).pad (own_Lset x_slots (own_ix (own_b2 (own_r2 sx vb))) (((FP.dadd (((x_slots ((((3 : Int32) * (own_i2 sx vb)) + (2 : Int32))).toNatClampNeg)).toUInt64) ms)).toInt64))
            have f680 : Exa Z h679 a1 "com/example/ketproof/ketproof/MassTable" := E1.wr W679
            have f681 : Fld Z h679 a1 "com/example/ketproof/ketproof/MassTable" "slots" "[J" (.ref z_slots) := F_slots_a1.other W679 (Or.inl ne_slots)
            have f682 : Fld Z h679 a1 "com/example/ketproof/ketproof/MassTable" "entrySlots" "[I" (.ref z_entrySlots) := F_entrySlots_a1.other W679 (Or.inl ne_slots)
            have f683 : Fld Z h679 a1 "com/example/ketproof/ketproof/MassTable" "size" "I" (.int z_size) := F_size_a1.other W679 (Or.inl ne_slots)
            have f684 : Fld Z h679 a1 "com/example/ketproof/ketproof/MassTable" "decimals" "[Ljava/math/BigDecimal;" .null := F_decimals_a1.other W679 (Or.inl ne_slots)
            have f685 : Arv Z h679 z_entrySlots k_entrySlots .int (16 : Int32) (own_E x_entrySlots) (.int (0 : Int32)) := V_entrySlots.other W679 ne_entrySlots_slots
            have N686 := Fr.snoc X679 N672 g_slots
            have K687 : Keep h0 h679 [a1, z_slots, z_entrySlots] := (Keep.refl h0 [a1, z_slots, z_entrySlots]).wr W679 (Or.inl (List.mem_of_getElem? (i := 1) rfl))
            have Z688 : n0 ≤ h679.size := Nat.le_trans Z0 (Keep.of_wr W679).1
            have hf_size : f5_size sx vb ms z_size x_slots x_entrySlots = z_size := by
              unfold f5_size
              first | rfl | (rw [if_neg hc57, if_neg hc125, if_neg hc421, if_neg hc489, if_neg hc603])
            have hf_slots : f5_slots sx vb ms z_size x_slots x_entrySlots = (own_up x_slots ((((3 : Int32) * (own_i2 sx vb)) + (2 : Int32))).toNatClampNeg (((FP.dadd (((x_slots ((((3 : Int32) * (own_i2 sx vb)) + (2 : Int32))).toNatClampNeg)).toUInt64) ms)).toInt64)) := by
              unfold f5_slots
              first | rfl | (rw [if_neg hc57, if_neg hc125, if_neg hc421, if_neg hc489, if_neg hc603])
            have hf_entrySlots : f5_entrySlots sx vb ms z_size x_slots x_entrySlots = x_entrySlots := by
              unfold f5_entrySlots
              first | rfl | (rw [if_neg hc57, if_neg hc125, if_neg hc421, if_neg hc489, if_neg hc603])
            obtain ⟨fs, hr, hrun, hended, hW, hsame⟩ := X679.leave (v := none) (fun _ => rfl)
            refine ⟨_, _, S602 _ ?_, hrun, hended, _, _, rfl, ?_, ⟨_, rfl⟩, hW, hsame.mono (by decide) (by decide)⟩
            · refine XS.ifNo X600.here hx rfl (hb hby d5_32) rfl ((if0 _ _).trans (feq hc603).1) ?_
              show Steps p.tables e below (T600.setTop (mkF m 35 #[.val (.ref a1), .val (.int sx), .val (.long vb), .second, .val .null, .val (.double ms), .second, .val (.int own_mk), .val (.int (own_i2 sx vb))] [])) _
              refine XS.aloadN X600.here hx rfl (hb hby d5_35) rfl rfl ?_
              show Steps p.tables e below (T600.setTop (mkF m 36 #[.val (.ref a1), .val (.int sx), .val (.long vb), .second, .val .null, .val (.double ms), .second, .val (.int own_mk), .val (.int (own_i2 sx vb))] [(.ref a1)])) _
              refine st668 _ ?_
              show Steps p.tables e below (T668.setTop (mkF m 39 #[.val (.ref a1), .val (.int sx), .val (.long vb), .second, .val .null, .val (.double ms), .second, .val (.int own_mk), .val (.int (own_i2 sx vb))] [(.ref z_slots)])) _
              refine XS.iconst X668.here hx rfl (hb hby d5_39) ?_
              show Steps p.tables e below (T668.setTop (mkF m 40 #[.val (.ref a1), .val (.int sx), .val (.long vb), .second, .val .null, .val (.double ms), .second, .val (.int own_mk), .val (.int (own_i2 sx vb))] [(.int (3 : Int32)), (.ref z_slots)])) _
              refine XS.iload X668.here hx rfl (hb hby d5_40) rfl ?_
              show Steps p.tables e below (T668.setTop (mkF m 42 #[.val (.ref a1), .val (.int sx), .val (.long vb), .second, .val .null, .val (.double ms), .second, .val (.int own_mk), .val (.int (own_i2 sx vb))] [(.int (own_i2 sx vb)), (.int (3 : Int32)), (.ref z_slots)])) _
              refine XS.imul X668.here hx rfl (hb hby d5_42) rfl ?_
              show Steps p.tables e below (T668.setTop (mkF m 43 #[.val (.ref a1), .val (.int sx), .val (.long vb), .second, .val .null, .val (.double ms), .second, .val (.int own_mk), .val (.int (own_i2 sx vb))] [(.int ((3 : Int32) * (own_i2 sx vb))), (.ref z_slots)])) _
              refine X668.laload hx (j := ((3 : Int32) * (own_i2 sx vb))) (v := (.long (x_slots (((3 : Int32) * (own_i2 sx vb))).toNatClampNeg))) (by rw [e668]; exact Ar669.1) (State.isArrayOf_alike hZ.alike Ar669.2.1) Ar669.2.2 hin669 (Has.at Ha669 hin669 (own_rd x_slots (own_b0 (own_r2 sx vb)))) (g := (mkF m 43 #[.val (.ref a1), .val (.int sx), .val (.long vb), .second, .val .null, .val (.double ms), .second, .val (.int own_mk), .val (.int (own_i2 sx vb))] [(.int ((3 : Int32) * (own_i2 sx vb))), (.ref z_slots)])) rfl rfl (hb hby d5_43) _ ?_
              show Steps p.tables e below (T668.setTop (mkF m 44 #[.val (.ref a1), .val (.int sx), .val (.long vb), .second, .val .null, .val (.double ms), .second, .val (.int own_mk), .val (.int (own_i2 sx vb))] [(.long (x_slots (((3 : Int32) * (own_i2 sx vb))).toNatClampNeg))])) _
              refine XS.iloadN X668.here hx rfl (hb hby d5_44) rfl ?_
              show Steps p.tables e below (T668.setTop (mkF m 45 #[.val (.ref a1), .val (.int sx), .val (.long vb), .second, .val .null, .val (.double ms), .second, .val (.int own_mk), .val (.int (own_i2 sx vb))] [(.int sx), (.long (x_slots (((3 : Int32) * (own_i2 sx vb))).toNatClampNeg))])) _
              refine XS.i2l X668.here hx rfl (hb hby d5_45) rfl ?_
              show Steps p.tables e below (T668.setTop (mkF m 46 #[.val (.ref a1), .val (.int sx), .val (.long vb), .second, .val .null, .val (.double ms), .second, .val (.int own_mk), .val (.int (own_i2 sx vb))] [(.long sx.toInt64), (.long (x_slots (((3 : Int32) * (own_i2 sx vb))).toNatClampNeg))])) _
              refine XS.lconst X668.here hx rfl (hb hby d5_46) ?_
              show Steps p.tables e below (T668.setTop (mkF m 47 #[.val (.ref a1), .val (.int sx), .val (.long vb), .second, .val .null, .val (.double ms), .second, .val (.int own_mk), .val (.int (own_i2 sx vb))] [(.long (1 : Int64)), (.long sx.toInt64), (.long (x_slots (((3 : Int32) * (own_i2 sx vb))).toNatClampNeg))])) _
              refine XS.ladd X668.here hx rfl (hb hby d5_47) rfl ?_
              show Steps p.tables e below (T668.setTop (mkF m 48 #[.val (.ref a1), .val (.int sx), .val (.long vb), .second, .val .null, .val (.double ms), .second, .val (.int own_mk), .val (.int (own_i2 sx vb))] [(.long (sx.toInt64 + (1 : Int64))), (.long (x_slots (((3 : Int32) * (own_i2 sx vb))).toNatClampNeg))])) _
              refine XS.lcmp X668.here hx rfl (hb hby d5_48) rfl ?_
              show Steps p.tables e below (T668.setTop (mkF m 49 #[.val (.ref a1), .val (.int sx), .val (.long vb), .second, .val .null, .val (.double ms), .second, .val (.int own_mk), .val (.int (own_i2 sx vb))] [(.int (lcmpW (x_slots (((3 : Int32) * (own_i2 sx vb))).toNatClampNeg) (sx.toInt64 + (1 : Int64))))])) _
              refine XS.ifNo X668.here hx rfl (hb hby d5_49) rfl ((if0 _ _).trans (teq (own_third hst (own_nst hc57 (Or.inl hc125)) (own_nst hc421 (Or.inl hc489)) hc603).1).2) ?_
              show Steps p.tables e below (T668.setTop (mkF m 52 #[.val (.ref a1), .val (.int sx), .val (.long vb), .second, .val .null, .val (.double ms), .second, .val (.int own_mk), .val (.int (own_i2 sx vb))] [])) _
              refine XS.aloadN X668.here hx rfl (hb hby d5_52) rfl rfl ?_
              show Steps p.tables e below (T668.setTop (mkF m 53 #[.val (.ref a1), .val (.int sx), .val (.long vb), .second, .val .null, .val (.double ms), .second, .val (.int own_mk), .val (.int (own_i2 sx vb))] [(.ref a1)])) _
              refine st670 _ ?_
              show Steps p.tables e below (T670.setTop (mkF m 56 #[.val (.ref a1), .val (.int sx), .val (.long vb), .second, .val .null, .val (.double ms), .second, .val (.int own_mk), .val (.int (own_i2 sx vb))] [(.ref z_slots)])) _
              refine XS.iconst X670.here hx rfl (hb hby d5_56) ?_
              show Steps p.tables e below (T670.setTop (mkF m 57 #[.val (.ref a1), .val (.int sx), .val (.long vb), .second, .val .null, .val (.double ms), .second, .val (.int own_mk), .val (.int (own_i2 sx vb))] [(.int (3 : Int32)), (.ref z_slots)])) _
              refine XS.iload X670.here hx rfl (hb hby d5_57) rfl ?_
              show Steps p.tables e below (T670.setTop (mkF m 59 #[.val (.ref a1), .val (.int sx), .val (.long vb), .second, .val .null, .val (.double ms), .second, .val (.int own_mk), .val (.int (own_i2 sx vb))] [(.int (own_i2 sx vb)), (.int (3 : Int32)), (.ref z_slots)])) _
              refine XS.imul X670.here hx rfl (hb hby d5_59) rfl ?_
              show Steps p.tables e below (T670.setTop (mkF m 60 #[.val (.ref a1), .val (.int sx), .val (.long vb), .second, .val .null, .val (.double ms), .second, .val (.int own_mk), .val (.int (own_i2 sx vb))] [(.int ((3 : Int32) * (own_i2 sx vb))), (.ref z_slots)])) _
              refine XS.iconst X670.here hx rfl (hb hby d5_60) ?_
              show Steps p.tables e below (T670.setTop (mkF m 61 #[.val (.ref a1), .val (.int sx), .val (.long vb), .second, .val .null, .val (.double ms), .second, .val (.int own_mk), .val (.int (own_i2 sx vb))] [(.int (1 : Int32)), (.int ((3 : Int32) * (own_i2 sx vb))), (.ref z_slots)])) _
              refine XS.iadd X670.here hx rfl (hb hby d5_61) rfl ?_
              show Steps p.tables e below (T670.setTop (mkF m 62 #[.val (.ref a1), .val (.int sx), .val (.long vb), .second, .val .null, .val (.double ms), .second, .val (.int own_mk), .val (.int (own_i2 sx vb))] [(.int (((3 : Int32) * (own_i2 sx vb)) + (1 : Int32))), (.ref z_slots)])) _
              refine X670.laload hx (j := (((3 : Int32) * (own_i2 sx vb)) + (1 : Int32))) (v := (.long (x_slots ((((3 : Int32) * (own_i2 sx vb)) + (1 : Int32))).toNatClampNeg))) (by rw [e670]; exact Ar671.1) (State.isArrayOf_alike hZ.alike Ar671.2.1) Ar671.2.2 hin671 (Has.at Ha671 hin671 (own_rd x_slots (own_b1 (own_r2 sx vb)))) (g := (mkF m 62 #[.val (.ref a1), .val (.int sx), .val (.long vb), .second, .val .null, .val (.double ms), .second, .val (.int own_mk), .val (.int (own_i2 sx vb))] [(.int (((3 : Int32) * (own_i2 sx vb)) + (1 : Int32))), (.ref z_slots)])) rfl rfl (hb hby d5_62) _ ?_
              show Steps p.tables e below (T670.setTop (mkF m 63 #[.val (.ref a1), .val (.int sx), .val (.long vb), .second, .val .null, .val (.double ms), .second, .val (.int own_mk), .val (.int (own_i2 sx vb))] [(.long (x_slots ((((3 : Int32) * (own_i2 sx vb)) + (1 : Int32))).toNatClampNeg))])) _
              refine XS.lloadN X670.here hx rfl (hb hby d5_63) rfl ?_
              show Steps p.tables e below (T670.setTop (mkF m 64 #[.val (.ref a1), .val (.int sx), .val (.long vb), .second, .val .null, .val (.double ms), .second, .val (.int own_mk), .val (.int (own_i2 sx vb))] [(.long vb), (.long (x_slots ((((3 : Int32) * (own_i2 sx vb)) + (1 : Int32))).toNatClampNeg))])) _
              refine XS.lcmp X670.here hx rfl (hb hby d5_64) rfl ?_
              show Steps p.tables e below (T670.setTop (mkF m 65 #[.val (.ref a1), .val (.int sx), .val (.long vb), .second, .val .null, .val (.double ms), .second, .val (.int own_mk), .val (.int (own_i2 sx vb))] [(.int (lcmpW (x_slots ((((3 : Int32) * (own_i2 sx vb)) + (1 : Int32))).toNatClampNeg) vb))])) _
              refine XS.ifNo X670.here hx rfl (hb hby d5_65) rfl ((if0 _ _).trans (teq (own_third hst (own_nst hc57 (Or.inl hc125)) (own_nst hc421 (Or.inl hc489)) hc603).2).2) ?_
              show Steps p.tables e below (T670.setTop (mkF m 68 #[.val (.ref a1), .val (.int sx), .val (.long vb), .second, .val .null, .val (.double ms), .second, .val (.int own_mk), .val (.int (own_i2 sx vb))] [])) _
              refine XS.aloadN X670.here hx rfl (hb hby d5_68) rfl rfl ?_
              show Steps p.tables e below (T670.setTop (mkF m 69 #[.val (.ref a1), .val (.int sx), .val (.long vb), .second, .val .null, .val (.double ms), .second, .val (.int own_mk), .val (.int (own_i2 sx vb))] [(.ref a1)])) _
              refine XS.iload X670.here hx rfl (hb hby d5_69) rfl ?_
              show Steps p.tables e below (T670.setTop (mkF m 71 #[.val (.ref a1), .val (.int sx), .val (.long vb), .second, .val .null, .val (.double ms), .second, .val (.int own_mk), .val (.int (own_i2 sx vb))] [(.int (own_i2 sx vb)), (.ref a1)])) _
              refine XS.aload X670.here hx rfl (hb hby d5_71) rfl rfl ?_
              show Steps p.tables e below (T670.setTop (mkF m 73 #[.val (.ref a1), .val (.int sx), .val (.long vb), .second, .val .null, .val (.double ms), .second, .val (.int own_mk), .val (.int (own_i2 sx vb))] [.null, (.int (own_i2 sx vb)), (.ref a1)])) _
              refine st672.trans ?_
              show Steps p.tables e below (T672.setTop (mkF m 76 #[.val (.ref a1), .val (.int sx), .val (.long vb), .second, .val .null, .val (.double ms), .second, .val (.int own_mk), .val (.int (own_i2 sx vb))] [(.int (f12 (own_i2 sx vb)))])) _
              refine XS.ifNo X672.here hx rfl (hb hby d5_76) rfl ((if0 _ _).trans (feq (own_f12 _)).1) ?_
              show Steps p.tables e below (T672.setTop (mkF m 79 #[.val (.ref a1), .val (.int sx), .val (.long vb), .second, .val .null, .val (.double ms), .second, .val (.int own_mk), .val (.int (own_i2 sx vb))] [])) _
              refine XS.aloadN X672.here hx rfl (hb hby d5_79) rfl rfl ?_
              show Steps p.tables e below (T672.setTop (mkF m 80 #[.val (.ref a1), .val (.int sx), .val (.long vb), .second, .val .null, .val (.double ms), .second, .val (.int own_mk), .val (.int (own_i2 sx vb))] [(.ref a1)])) _
              refine st673 _ ?_
              show Steps p.tables e below (T673.setTop (mkF m 83 #[.val (.ref a1), .val (.int sx), .val (.long vb), .second, .val .null, .val (.double ms), .second, .val (.int own_mk), .val (.int (own_i2 sx vb))] [(.ref z_slots)])) _
              refine XS.iconst X673.here hx rfl (hb hby d5_83) ?_
              show Steps p.tables e below (T673.setTop (mkF m 84 #[.val (.ref a1), .val (.int sx), .val (.long vb), .second, .val .null, .val (.double ms), .second, .val (.int own_mk), .val (.int (own_i2 sx vb))] [(.int (3 : Int32)), (.ref z_slots)])) _
              refine XS.iload X673.here hx rfl (hb hby d5_84) rfl ?_
              show Steps p.tables e below (T673.setTop (mkF m 86 #[.val (.ref a1), .val (.int sx), .val (.long vb), .second, .val .null, .val (.double ms), .second, .val (.int own_mk), .val (.int (own_i2 sx vb))] [(.int (own_i2 sx vb)), (.int (3 : Int32)), (.ref z_slots)])) _
              refine XS.imul X673.here hx rfl (hb hby d5_86) rfl ?_
              show Steps p.tables e below (T673.setTop (mkF m 87 #[.val (.ref a1), .val (.int sx), .val (.long vb), .second, .val .null, .val (.double ms), .second, .val (.int own_mk), .val (.int (own_i2 sx vb))] [(.int ((3 : Int32) * (own_i2 sx vb))), (.ref z_slots)])) _
              refine XS.iconst X673.here hx rfl (hb hby d5_87) ?_
              show Steps p.tables e below (T673.setTop (mkF m 88 #[.val (.ref a1), .val (.int sx), .val (.long vb), .second, .val .null, .val (.double ms), .second, .val (.int own_mk), .val (.int (own_i2 sx vb))] [(.int (2 : Int32)), (.int ((3 : Int32) * (own_i2 sx vb))), (.ref z_slots)])) _
              refine XS.iadd X673.here hx rfl (hb hby d5_88) rfl ?_
              show Steps p.tables e below (T673.setTop (mkF m 89 #[.val (.ref a1), .val (.int sx), .val (.long vb), .second, .val .null, .val (.double ms), .second, .val (.int own_mk), .val (.int (own_i2 sx vb))] [(.int (((3 : Int32) * (own_i2 sx vb)) + (2 : Int32))), (.ref z_slots)])) _
              refine XS.aloadN X673.here hx rfl (hb hby d5_89) rfl rfl ?_
              show Steps p.tables e below (T673.setTop (mkF m 90 #[.val (.ref a1), .val (.int sx), .val (.long vb), .second, .val .null, .val (.double ms), .second, .val (.int own_mk), .val (.int (own_i2 sx vb))] [(.ref a1), (.int (((3 : Int32) * (own_i2 sx vb)) + (2 : Int32))), (.ref z_slots)])) _
              refine st674 _ ?_
              show Steps p.tables e below (T674.setTop (mkF m 93 #[.val (.ref a1), .val (.int sx), .val (.long vb), .second, .val .null, .val (.double ms), .second, .val (.int own_mk), .val (.int (own_i2 sx vb))] [(.ref z_slots), (.int (((3 : Int32) * (own_i2 sx vb)) + (2 : Int32))), (.ref z_slots)])) _
              refine XS.iconst X674.here hx rfl (hb hby d5_93) ?_
              show Steps p.tables e below (T674.setTop (mkF m 94 #[.val (.ref a1), .val (.int sx), .val (.long vb), .second, .val .null, .val (.double ms), .second, .val (.int own_mk), .val (.int (own_i2 sx vb))] [(.int (3 : Int32)), (.ref z_slots), (.int (((3 : Int32) * (own_i2 sx vb)) + (2 : Int32))), (.ref z_slots)])) _
              refine XS.iload X674.here hx rfl (hb hby d5_94) rfl ?_
              show Steps p.tables e below (T674.setTop (mkF m 96 #[.val (.ref a1), .val (.int sx), .val (.long vb), .second, .val .null, .val (.double ms), .second, .val (.int own_mk), .val (.int (own_i2 sx vb))] [(.int (own_i2 sx vb)), (.int (3 : Int32)), (.ref z_slots), (.int (((3 : Int32) * (own_i2 sx vb)) + (2 : Int32))), (.ref z_slots)])) _
              refine XS.imul X674.here hx rfl (hb hby d5_96) rfl ?_
              show Steps p.tables e below (T674.setTop (mkF m 97 #[.val (.ref a1), .val (.int sx), .val (.long vb), .second, .val .null, .val (.double ms), .second, .val (.int own_mk), .val (.int (own_i2 sx vb))] [(.int ((3 : Int32) * (own_i2 sx vb))), (.ref z_slots), (.int (((3 : Int32) * (own_i2 sx vb)) + (2 : Int32))), (.ref z_slots)])) _
              refine XS.iconst X674.here hx rfl (hb hby d5_97) ?_
              show Steps p.tables e below (T674.setTop (mkF m 98 #[.val (.ref a1), .val (.int sx), .val (.long vb), .second, .val .null, .val (.double ms), .second, .val (.int own_mk), .val (.int (own_i2 sx vb))] [(.int (2 : Int32)), (.int ((3 : Int32) * (own_i2 sx vb))), (.ref z_slots), (.int (((3 : Int32) * (own_i2 sx vb)) + (2 : Int32))), (.ref z_slots)])) _
              refine XS.iadd X674.here hx rfl (hb hby d5_98) rfl ?_
              show Steps p.tables e below (T674.setTop (mkF m 99 #[.val (.ref a1), .val (.int sx), .val (.long vb), .second, .val .null, .val (.double ms), .second, .val (.int own_mk), .val (.int (own_i2 sx vb))] [(.int (((3 : Int32) * (own_i2 sx vb)) + (2 : Int32))), (.ref z_slots), (.int (((3 : Int32) * (own_i2 sx vb)) + (2 : Int32))), (.ref z_slots)])) _
              refine X674.laload hx (j := (((3 : Int32) * (own_i2 sx vb)) + (2 : Int32))) (v := (.long (x_slots ((((3 : Int32) * (own_i2 sx vb)) + (2 : Int32))).toNatClampNeg))) (by rw [e674]; exact Ar675.1) (State.isArrayOf_alike hZ.alike Ar675.2.1) Ar675.2.2 hin675 (Has.at Ha675 hin675 (own_rd x_slots (own_b2 (own_r2 sx vb)))) (g := (mkF m 99 #[.val (.ref a1), .val (.int sx), .val (.long vb), .second, .val .null, .val (.double ms), .second, .val (.int own_mk), .val (.int (own_i2 sx vb))] [(.int (((3 : Int32) * (own_i2 sx vb)) + (2 : Int32))), (.ref z_slots), (.int (((3 : Int32) * (own_i2 sx vb)) + (2 : Int32))), (.ref z_slots)])) rfl rfl (hb hby d5_99) _ ?_
              show Steps p.tables e below (T674.setTop (mkF m 100 #[.val (.ref a1), .val (.int sx), .val (.long vb), .second, .val .null, .val (.double ms), .second, .val (.int own_mk), .val (.int (own_i2 sx vb))] [(.long (x_slots ((((3 : Int32) * (own_i2 sx vb)) + (2 : Int32))).toNatClampNeg)), (.int (((3 : Int32) * (own_i2 sx vb)) + (2 : Int32))), (.ref z_slots)])) _
              refine st676 _ ?_
              show Steps p.tables e below (T676.setTop (mkF m 103 #[.val (.ref a1), .val (.int sx), .val (.long vb), .second, .val .null, .val (.double ms), .second, .val (.int own_mk), .val (.int (own_i2 sx vb))] [(.double (((x_slots ((((3 : Int32) * (own_i2 sx vb)) + (2 : Int32))).toNatClampNeg)).toUInt64)), (.int (((3 : Int32) * (own_i2 sx vb)) + (2 : Int32))), (.ref z_slots)])) _
              refine XS.dload X676.here hx rfl (hb hby d5_103) rfl ?_
              show Steps p.tables e below (T676.setTop (mkF m 105 #[.val (.ref a1), .val (.int sx), .val (.long vb), .second, .val .null, .val (.double ms), .second, .val (.int own_mk), .val (.int (own_i2 sx vb))] [(.double ms), (.double (((x_slots ((((3 : Int32) * (own_i2 sx vb)) + (2 : Int32))).toNatClampNeg)).toUInt64)), (.int (((3 : Int32) * (own_i2 sx vb)) + (2 : Int32))), (.ref z_slots)])) _
              refine XS.daddS X676.here hx rfl (hb hby d5_105) rfl (Jvm.Free.Fl.dadd_out (hM _ (own_md (own_r2 sx vb))) hms) rfl ?_
              show Steps p.tables e below (T676.setTop (mkF m 106 #[.val (.ref a1), .val (.int sx), .val (.long vb), .second, .val .null, .val (.double ms), .second, .val (.int own_mk), .val (.int (own_i2 sx vb))] [(.double (FP.dadd (((x_slots ((((3 : Int32) * (own_i2 sx vb)) + (2 : Int32))).toNatClampNeg)).toUInt64) ms)), (.int (((3 : Int32) * (own_i2 sx vb)) + (2 : Int32))), (.ref z_slots)])) _
              refine st677 _ ?_
              show Steps p.tables e below (T677.setTop (mkF m 109 #[.val (.ref a1), .val (.int sx), .val (.long vb), .second, .val .null, .val (.double ms), .second, .val (.int own_mk), .val (.int (own_i2 sx vb))] [(.long (((FP.dadd (((x_slots ((((3 : Int32) * (own_i2 sx vb)) + (2 : Int32))).toNatClampNeg)).toUInt64) ms)).toInt64)), (.int (((3 : Int32) * (own_i2 sx vb)) + (2 : Int32))), (.ref z_slots)])) _
              refine st679 _ ?_
              show Steps p.tables e below (T679.setTop (mkF m 110 #[.val (.ref a1), .val (.int sx), .val (.long vb), .second, .val .null, .val (.double ms), .second, .val (.int own_mk), .val (.int (own_i2 sx vb))] [])) _
              exact X679.returnOut hx Bd.returns (hb hby d5_110) hr
            · show Q5 Z a1 sx vb ms z_slots z_entrySlots z_size k_slots x_slots k_entrySlots x_entrySlots h0 n0 _ T679.heap _
              rw [e679]
              exact ⟨rfl, N686, K687, f680, f681, f682, by rw [hf_size]; exact f683, f684, by rw [hf_slots]; exact fa679, by rw [hf_entrySlots]; exact f685⟩
theorem pd_2 : parseMethodDescriptor "(IJLjava/math/BigDecimal;D)V" = some ⟨[.int, .long, (.object "java/math/BigDecimal"), .double], none⟩ := by decide +kernel
def f4_size (sx : Int32) (vd : UInt64) (ms : UInt64) (z_size : Int32) (x_slots : (Nat → Int64)) (x_entrySlots : (Nat → Int32)) : Int32 := (f5_size sx ((vd).toInt64) ms z_size x_slots x_entrySlots)
def f4_slots (sx : Int32) (vd : UInt64) (ms : UInt64) (z_size : Int32) (x_slots : (Nat → Int64)) (x_entrySlots : (Nat → Int32)) : (Nat → Int64) := (f5_slots sx ((vd).toInt64) ms z_size x_slots x_entrySlots)
def f4_entrySlots (sx : Int32) (vd : UInt64) (ms : UInt64) (z_size : Int32) (x_slots : (Nat → Int64)) (x_entrySlots : (Nat → Int32)) : (Nat → Int32) := (f5_entrySlots sx ((vd).toInt64) ms z_size x_slots x_entrySlots)
theorem d4_0 : decode prog_63_method_2_code 0 = .ok (.aload_n 0, 1) := by decide +kernel
theorem d4_1 : decode prog_63_method_2_code 1 = .ok (.iload_n 1, 1) := by decide +kernel
theorem d4_2 : decode prog_63_method_2_code 2 = .ok (.dload_n 2, 1) := by decide +kernel
theorem d4_3 : decode prog_63_method_2_code 3 = .ok (.invokestatic 17, 3) := by decide +kernel
theorem d4_6 : decode prog_63_method_2_code 6 = .ok (.aconst_null, 1) := by decide +kernel
theorem d4_7 : decode prog_63_method_2_code 7 = .ok (.dload 4, 2) := by decide +kernel
theorem d4_9 : decode prog_63_method_2_code 9 = .ok (.invokevirtual 23, 3) := by decide +kernel
theorem d4_12 : decode prog_63_method_2_code 12 = .ok (.return_, 1) := by decide +kernel
theorem ef_4 (m : MethodId) (x0 : Addr) (x1 : Int32) (x2 : UInt64) (x3 : UInt64) : entryFrame m #[(.ref x0), (.int x1), (.double x2), (.double x3)] 6 = mkF m 0 #[.val (.ref x0), .val (.int x1), .val (.double x2), .second, .val (.double x3), .second] [] := by first | (simp [entryFrame, mkF, argsToLocals, Value.category]; done) | rfl
def Q4 (Z : State) (a1 : Addr) (sx : Int32) (vd : UInt64) (ms : UInt64) (z_slots : Addr) (z_entrySlots : Addr) (z_size : Int32) (k_slots : ClassId) (x_slots : (Nat → Int64)) (k_entrySlots : ClassId) (x_entrySlots : (Nat → Int32)) (h0 : Heap) (n0 : Nat) (v : Option Value) (h : Heap) (L : List Loc) : Prop := v = none ∧ Fr n0 L ∧ Keep h0 h [a1, z_slots, z_entrySlots] ∧ Exa Z h a1 "com/example/ketproof/ketproof/MassTable" ∧ Fld Z h a1 "com/example/ketproof/ketproof/MassTable" "slots" "[J" (.ref z_slots) ∧ Fld Z h a1 "com/example/ketproof/ketproof/MassTable" "entrySlots" "[I" (.ref z_entrySlots) ∧ Fld Z h a1 "com/example/ketproof/ketproof/MassTable" "size" "I" (.int (f4_size sx vd ms z_size x_slots x_entrySlots)) ∧ Fld Z h a1 "com/example/ketproof/ketproof/MassTable" "decimals" "[Ljava/math/BigDecimal;" .null ∧ Arv Z h z_slots k_slots .long (96 : Int32) (own_L (f4_slots sx vd ms z_size x_slots x_entrySlots)) (.long (0 : Int64)) ∧ Arv Z h z_entrySlots k_entrySlots .int (16 : Int32) (own_E (f4_entrySlots sx vd ms z_size x_slots x_entrySlots)) (.int (0 : Int32))
set_option maxRecDepth 65536 in
set_option maxHeartbeats 40000000 in
theorem rm4 (l : Launch) (Z : State) (a0 : Array Value) (hw : ∀ d ∈ tables_1, d.before a0 Z = true) (ws : List Jvm.Cond) (a1 : Addr) (sx : Int32) (vd : UInt64) (ms : UInt64) (z_slots : Addr) (z_entrySlots : Addr) (z_size : Int32) (k_slots : ClassId) (x_slots : (Nat → Int64)) (k_entrySlots : ClassId) (x_entrySlots : (Nat → Int32)) (h0 : Heap) (n0 : Nat) (Z0 : n0 ≤ h0.size) (E1 : Exa Z h0 a1 "com/example/ketproof/ketproof/MassTable") (F_slots_a1 : Fld Z h0 a1 "com/example/ketproof/ketproof/MassTable" "slots" "[J" (.ref z_slots)) (F_entrySlots_a1 : Fld Z h0 a1 "com/example/ketproof/ketproof/MassTable" "entrySlots" "[I" (.ref z_entrySlots)) (F_size_a1 : Fld Z h0 a1 "com/example/ketproof/ketproof/MassTable" "size" "I" (.int z_size)) (F_decimals_a1 : Fld Z h0 a1 "com/example/ketproof/ketproof/MassTable" "decimals" "[Ljava/math/BigDecimal;" .null) (g1 : n0 ≤ a1) (V_slots : Arv Z h0 z_slots k_slots .long (96 : Int32) (own_L x_slots) (.long (0 : Int64))) (g_slots : n0 ≤ z_slots) (ne_slots : a1 ≠ z_slots) (V_entrySlots : Arv Z h0 z_entrySlots k_entrySlots .int (16 : Int32) (own_E x_entrySlots) (.int (0 : Int32))) (g_entrySlots : n0 ≤ z_entrySlots) (ne_entrySlots : a1 ≠ z_entrySlots) (ne_entrySlots_slots : z_entrySlots ≠ z_slots) (hsz : 0 ≤ z_size.toInt ∧ z_size.toInt ≤ 3) (hst : own_stop x_slots sx ((vd).toInt64)) (hM : own_M x_slots) (hms : Jvm.Free.Fl.Fin64 ms) :
    MetFree l (⟨"com/example/ketproof/ketproof/MassTable", "add", "(IDD)V"⟩ : MethodName) (head1 (Jvm.Cond.code (⟨"com/example/ketproof/ketproof/MassTable", "add", "(IDD)V"⟩ : MethodName) prog_63_method_2_code 6 none :: ws) ({ frames := 2, cells := 0, slots := 0, locals := 42 } : Room)) (fun a U => a = #[(.ref a1), (.int sx), (.double vd), (.double ms)] ∧ Z.Warmed39 U.vm ∧ U.heap = h0) (fun _ _ _ _ _ => True) (fun _ U o U' => ∃ v L, o = .returned v ∧ Q4 Z a1 sx vd ms z_slots z_entrySlots z_size k_slots x_slots k_entrySlots x_entrySlots h0 n0 v U'.heap L ∧ FrameEnd U o U' L ({ frames := 2, cells := 0, slots := 0, locals := 42 } : Room).cells ({ frames := 2, cells := 0, slots := 0, locals := 42 } : Room).slots) := by
  refine MetFree.of_bodySF (plainFor_of_name pn_0) hisR ?_
  intro p e s m args below meth c s₁ Bd hml0 hP hK
  obtain ⟨rfl, hZ, hh⟩ := hP
  have hx := Bd.exec
  have hby := Bd.bytes
  have hml : c.maxLocals = 6 := hml0
  have hown : s.vm.findClass "com/example/ketproof/ketproof/MassTable" = some m.cls := findClass_of_methodNamed Bd.named
  have hnm := (name_of_methodNamed Bd.named Bd.method).1
  have X0 : Stand p l e ({ frames := 2, cells := 0, slots := 0, locals := 42 } : Room) s m #[(.ref a1), (.int sx), (.double vd), (.double ms)] below meth c s₁ [] 0 0 := Stand.of_body Bd
  have e0 : s₁.heap = h0 := by rw [← hh, Bd.state]; rfl
  have N0 := Fr.nil n0
  have pre0 : ∀ t, Steps p.tables e below (s₁.setTop (mkF m 0 #[.val (.ref a1), .val (.int sx), .val (.double vd), .second, .val (.double ms), .second] [])) t → Steps p.tables e below (s₁.setTop (entryFrame m #[(.ref a1), (.int sx), (.double vd), (.double ms)] 6)) t := fun t k => castTop (ef_4 m a1 sx vd ms) k
  obtain ⟨vm689, X689, st689⟩ := X0.doubleToRawLongBits hx hown (mvT hZ (hw _ (List.mem_of_getElem? (i := 27) rfl))) (mvT hZ (hw _ (List.mem_of_getElem? (i := 30) rfl))) (mvT hZ (hw _ (List.mem_of_getElem? (i := 28) rfl))) (mvT hZ (hw _ (List.mem_of_getElem? (i := 29) rfl))) (g := (mkF m 3 #[.val (.ref a1), .val (.int sx), .val (.double vd), .second, .val (.double ms), .second] [(.double vd), (.int sx), (.ref a1)])) rfl (by rw [hml]; rfl) (rest := [(.int sx), (.ref a1)]) (b := vd) rfl (hb hby d4_3) (by decide) (by show 2 * 0 + 2 + (nativeFrameWords "java/lang/Double" "doubleToRawLongBits" 2 + 11) ≤ _; decide)
  obtain ⟨T689, hT689⟩ : ∃ z, z = s₁.setVm vm689 := ⟨_, rfl⟩
  rw [← hT689] at X689 st689
  have e689 : T689.heap = h0 := by rw [hT689]; exact e0
  obtain ⟨cq690, q690, q690'⟩ := E1.cell
  obtain ⟨_, _, ⟨T690, L690, k690, n690⟩, -, X690, ⟨Lc690, hQ690, l690, y690, z690⟩, st690⟩ := X689.privateBack hx (y := (⟨"com/example/ketproof/ketproof/MassTable", "add", "(IJLjava/math/BigDecimal;D)V"⟩ : MethodName)) hown (mvT hZ (hw _ (List.mem_of_getElem? (i := 31) rfl))) (mvT hZ (hw _ (List.mem_of_getElem? (i := 32) rfl))) (mvT hZ (Jvm.Kit.selects_private (by decide) (hw _ (List.mem_of_getElem? (i := 1) rfl)) (hw _ (List.mem_of_getElem? (i := 33) rfl)) (hw _ (List.mem_of_getElem? (i := 32) rfl)))) (Cond.privateMethod_at (mvP hZ (hw _ (List.mem_of_getElem? (i := 33) rfl)) (args := #[]))) (mvT hZ (hw _ (List.mem_of_getElem? (i := 34) rfl))) (by decide) (backOf (W := 0) (rm5 l Z a0 hw [] a1 sx ((vd).toInt64) ms z_slots z_entrySlots z_size k_slots x_slots k_entrySlots x_entrySlots h0 n0 Z0 E1 F_slots_a1 F_entrySlots_a1 F_size_a1 F_decimals_a1 g1 V_slots g_slots ne_slots V_entrySlots g_entrySlots ne_entrySlots ne_entrySlots_slots hsz hst hM hms) hZ (hw _ (List.mem_of_getElem? (i := 34) rfl)) (hw _ (List.mem_of_getElem? (i := 2) rfl)) (by decide) (by decide)) (g := (mkF m 9 #[.val (.ref a1), .val (.int sx), .val (.double vd), .second, .val (.double ms), .second] [(.double ms), .null, (.long ((vd).toInt64)), (.int sx), (.ref a1)])) rfl (by rw [hml]; rfl) (Steps.refl _) (a := a1) (by rw [e689]; exact q690) q690' (argsL := [(.int sx), (.long ((vd).toInt64)), .null, (.double ms)]) (rest := []) (lenOf pd_2 rfl) rfl (by show 2 * 0 + _ ≤ _; exact Nat.le_of_eq rfl) (hb hby d4_9) (fun _ _ => ⟨rfl, e689, (by decide : 0 + 0 ≤ _), (by decide : 0 + 0 ≤ _)⟩)
  dsimp only [Pt.U, Pt.locs, Pt.cells, Pt.slots] at X690 l690 y690 z690 st690 hQ690
  subst l690 y690 z690
  obtain ⟨rfl, N690q, K690, Eq690, fq690_0, fq690_1, fq690_2, fq690_3, fz690_0, fz690_1⟩ := hQ690
  have N690 := Fr.app N0 N690q
  have K691 : Keep h0 T690.heap [a1, z_slots, z_entrySlots] := (Keep.refl h0 [a1, z_slots, z_entrySlots]).trans K690 (allS (Or.inl (List.mem_of_getElem? (i := 0) rfl)) (allS (Or.inl (List.mem_of_getElem? (i := 1) rfl)) (allS (Or.inl (List.mem_of_getElem? (i := 2) rfl)) all0)))
  have Z692 : n0 ≤ T690.heap.size := Nat.le_trans Z0 K690.1
  have hf_size : f4_size sx vd ms z_size x_slots x_entrySlots = (f5_size sx ((vd).toInt64) ms z_size x_slots x_entrySlots) := by
    unfold f4_size
    rfl
  have hf_slots : f4_slots sx vd ms z_size x_slots x_entrySlots = (f5_slots sx ((vd).toInt64) ms z_size x_slots x_entrySlots) := by
    unfold f4_slots
    rfl
  have hf_entrySlots : f4_entrySlots sx vd ms z_size x_slots x_entrySlots = (f5_entrySlots sx ((vd).toInt64) ms z_size x_slots x_entrySlots) := by
    unfold f4_entrySlots
    rfl
  obtain ⟨fs, hr, hrun, hended, hW, hsame⟩ := X690.leave (v := none) (fun _ => rfl)
  refine ⟨_, _, pre0 _ ?_, hrun, hended, _, _, rfl, ?_, ⟨_, rfl⟩, hW, hsame.mono (by decide) (by decide)⟩
  · refine XS.aloadN X0.here hx rfl (hb hby d4_0) rfl rfl ?_
    show Steps p.tables e below (s₁.setTop (mkF m 1 #[.val (.ref a1), .val (.int sx), .val (.double vd), .second, .val (.double ms), .second] [(.ref a1)])) _
    refine XS.iloadN X0.here hx rfl (hb hby d4_1) rfl ?_
    show Steps p.tables e below (s₁.setTop (mkF m 2 #[.val (.ref a1), .val (.int sx), .val (.double vd), .second, .val (.double ms), .second] [(.int sx), (.ref a1)])) _
    refine XS.dloadN X0.here hx rfl (hb hby d4_2) rfl ?_
    show Steps p.tables e below (s₁.setTop (mkF m 3 #[.val (.ref a1), .val (.int sx), .val (.double vd), .second, .val (.double ms), .second] [(.double vd), (.int sx), (.ref a1)])) _
    refine st689 _ ?_
    show Steps p.tables e below (T689.setTop (mkF m 6 #[.val (.ref a1), .val (.int sx), .val (.double vd), .second, .val (.double ms), .second] [(.long ((vd).toInt64)), (.int sx), (.ref a1)])) _
    refine XS.aconstNull X689.here hx rfl (hb hby d4_6) ?_
    show Steps p.tables e below (T689.setTop (mkF m 7 #[.val (.ref a1), .val (.int sx), .val (.double vd), .second, .val (.double ms), .second] [.null, (.long ((vd).toInt64)), (.int sx), (.ref a1)])) _
    refine XS.dload X689.here hx rfl (hb hby d4_7) rfl ?_
    show Steps p.tables e below (T689.setTop (mkF m 9 #[.val (.ref a1), .val (.int sx), .val (.double vd), .second, .val (.double ms), .second] [(.double ms), .null, (.long ((vd).toInt64)), (.int sx), (.ref a1)])) _
    refine st690.trans ?_
    show Steps p.tables e below (T690.setTop (mkF m 12 #[.val (.ref a1), .val (.int sx), .val (.double vd), .second, .val (.double ms), .second] [])) _
    exact X690.returnOut hx Bd.returns (hb hby d4_12) hr
  · show Q4 Z a1 sx vd ms z_slots z_entrySlots z_size k_slots x_slots k_entrySlots x_entrySlots h0 n0 _ T690.heap _
    exact ⟨rfl, N690, K691, Eq690, fq690_0, fq690_1, by rw [hf_size]; exact fq690_2, fq690_3, by rw [hf_slots]; exact fz690_0, by rw [hf_entrySlots]; exact fz690_1⟩
def own_eb (x : Nat → Int32) (z : Int32) : Prop := ∀ k : Nat, (k : Int) < z.toInt → 0 ≤ (x k).toInt ∧ (x k).toInt < 32
theorem own_klt (k : Nat) (hk : k < 16) {z : Int32} (h : Int32.ofNat k < z) : (k : Int) < z.toInt := by
  have := Int32.lt_iff_toInt_lt.mp h
  rw [Int32.toInt_ofNat_of_lt (by omega)] at this; exact this
theorem own_le3 {z : Int32} (h : 0 ≤ z.toInt ∧ z.toInt ≤ 3) : ¬ ((3 : Int32) < z) := by
  intro w
  have := own_klt 3 (by decide) w; omega
def f3_size (z_size : Int32) (x_slots : (Nat → Int64)) (x_entrySlots : (Nat → Int32)) : Int32 := (if (0 : Int32) < z_size then (if (1 : Int32) < z_size then (if (2 : Int32) < z_size then (0 : Int32) else (0 : Int32)) else (0 : Int32)) else (0 : Int32))
def f3_slots (z_size : Int32) (x_slots : (Nat → Int64)) (x_entrySlots : (Nat → Int32)) : (Nat → Int64) := (if (0 : Int32) < z_size then (if (1 : Int32) < z_size then (if (2 : Int32) < z_size then (own_up (own_up (own_up x_slots (((3 : Int32) * (x_entrySlots 0))).toNatClampNeg (0 : Int64)) (((3 : Int32) * (x_entrySlots 1))).toNatClampNeg (0 : Int64)) (((3 : Int32) * (x_entrySlots 2))).toNatClampNeg (0 : Int64)) else (own_up (own_up x_slots (((3 : Int32) * (x_entrySlots 0))).toNatClampNeg (0 : Int64)) (((3 : Int32) * (x_entrySlots 1))).toNatClampNeg (0 : Int64))) else (own_up x_slots (((3 : Int32) * (x_entrySlots 0))).toNatClampNeg (0 : Int64))) else x_slots)
def f3_entrySlots (z_size : Int32) (x_slots : (Nat → Int64)) (x_entrySlots : (Nat → Int32)) : (Nat → Int32) := (if (0 : Int32) < z_size then (if (1 : Int32) < z_size then (if (2 : Int32) < z_size then x_entrySlots else x_entrySlots) else x_entrySlots) else x_entrySlots)
theorem d3_0 : decode prog_63_method_11_code 0 = .ok (.iconst 0, 1) := by decide +kernel
theorem d3_1 : decode prog_63_method_11_code 1 = .ok (.istore_n 1, 1) := by decide +kernel
theorem d3_2 : decode prog_63_method_11_code 2 = .ok (.iload_n 1, 1) := by decide +kernel
theorem d3_3 : decode prog_63_method_11_code 3 = .ok (.aload_n 0, 1) := by decide +kernel
theorem d3_4 : decode prog_63_method_11_code 4 = .ok (.getfield 45, 3) := by decide +kernel
theorem d3_7 : decode prog_63_method_11_code 7 = .ok (.if_icmp .ge 42, 3) := by decide +kernel
theorem d3_10 : decode prog_63_method_11_code 10 = .ok (.aload_n 0, 1) := by decide +kernel
theorem d3_11 : decode prog_63_method_11_code 11 = .ok (.getfield 9, 3) := by decide +kernel
theorem d3_14 : decode prog_63_method_11_code 14 = .ok (.iconst 3, 1) := by decide +kernel
theorem d3_15 : decode prog_63_method_11_code 15 = .ok (.aload_n 0, 1) := by decide +kernel
theorem d3_16 : decode prog_63_method_11_code 16 = .ok (.getfield 13, 3) := by decide +kernel
theorem d3_19 : decode prog_63_method_11_code 19 = .ok (.iload_n 1, 1) := by decide +kernel
theorem d3_20 : decode prog_63_method_11_code 20 = .ok (.iaload, 1) := by decide +kernel
theorem d3_21 : decode prog_63_method_11_code 21 = .ok (.imul, 1) := by decide +kernel
theorem d3_22 : decode prog_63_method_11_code 22 = .ok (.lconst 0, 1) := by decide +kernel
theorem d3_23 : decode prog_63_method_11_code 23 = .ok (.lastore, 1) := by decide +kernel
theorem d3_24 : decode prog_63_method_11_code 24 = .ok (.aload_n 0, 1) := by decide +kernel
theorem d3_25 : decode prog_63_method_11_code 25 = .ok (.getfield 52, 3) := by decide +kernel
theorem d3_28 : decode prog_63_method_11_code 28 = .ok (.ifnull 15, 3) := by decide +kernel
theorem d3_31 : decode prog_63_method_11_code 31 = .ok (.aload_n 0, 1) := by decide +kernel
theorem d3_32 : decode prog_63_method_11_code 32 = .ok (.getfield 52, 3) := by decide +kernel
theorem d3_35 : decode prog_63_method_11_code 35 = .ok (.aload_n 0, 1) := by decide +kernel
theorem d3_36 : decode prog_63_method_11_code 36 = .ok (.getfield 13, 3) := by decide +kernel
theorem d3_39 : decode prog_63_method_11_code 39 = .ok (.iload_n 1, 1) := by decide +kernel
theorem d3_40 : decode prog_63_method_11_code 40 = .ok (.iaload, 1) := by decide +kernel
theorem d3_41 : decode prog_63_method_11_code 41 = .ok (.aconst_null, 1) := by decide +kernel
theorem d3_42 : decode prog_63_method_11_code 42 = .ok (.aastore, 1) := by decide +kernel
theorem d3_43 : decode prog_63_method_11_code 43 = .ok (.iinc 1 1, 3) := by decide +kernel
theorem d3_46 : decode prog_63_method_11_code 46 = .ok (.goto (-44), 3) := by decide +kernel
theorem d3_49 : decode prog_63_method_11_code 49 = .ok (.aload_n 0, 1) := by decide +kernel
theorem d3_50 : decode prog_63_method_11_code 50 = .ok (.iconst 0, 1) := by decide +kernel
theorem d3_51 : decode prog_63_method_11_code 51 = .ok (.putfield 45, 3) := by decide +kernel
theorem d3_54 : decode prog_63_method_11_code 54 = .ok (.return_, 1) := by decide +kernel
theorem ef_3 (m : MethodId) (x0 : Addr) : entryFrame m #[(.ref x0)] 2 = mkF m 0 #[.val (.ref x0), .unset] [] := by first | (simp [entryFrame, mkF, argsToLocals, Value.category]; done) | rfl
def Q3 (Z : State) (a1 : Addr) (z_slots : Addr) (z_entrySlots : Addr) (z_size : Int32) (k_slots : ClassId) (x_slots : (Nat → Int64)) (k_entrySlots : ClassId) (x_entrySlots : (Nat → Int32)) (h0 : Heap) (n0 : Nat) (v : Option Value) (h : Heap) (L : List Loc) : Prop := v = none ∧ Fr n0 L ∧ Keep h0 h [a1, z_slots, z_entrySlots] ∧ Exa Z h a1 "com/example/ketproof/ketproof/MassTable" ∧ Fld Z h a1 "com/example/ketproof/ketproof/MassTable" "slots" "[J" (.ref z_slots) ∧ Fld Z h a1 "com/example/ketproof/ketproof/MassTable" "entrySlots" "[I" (.ref z_entrySlots) ∧ Fld Z h a1 "com/example/ketproof/ketproof/MassTable" "size" "I" (.int (f3_size z_size x_slots x_entrySlots)) ∧ Fld Z h a1 "com/example/ketproof/ketproof/MassTable" "decimals" "[Ljava/math/BigDecimal;" .null ∧ Arv Z h z_slots k_slots .long (96 : Int32) (own_L (f3_slots z_size x_slots x_entrySlots)) (.long (0 : Int64)) ∧ Arv Z h z_entrySlots k_entrySlots .int (16 : Int32) (own_E (f3_entrySlots z_size x_slots x_entrySlots)) (.int (0 : Int32))
set_option maxRecDepth 65536 in
set_option maxHeartbeats 40000000 in
theorem rm3 (l : Launch) (Z : State) (a0 : Array Value) (hw : ∀ d ∈ tables_1, d.before a0 Z = true) (ws : List Jvm.Cond) (a1 : Addr) (z_slots : Addr) (z_entrySlots : Addr) (z_size : Int32) (k_slots : ClassId) (x_slots : (Nat → Int64)) (k_entrySlots : ClassId) (x_entrySlots : (Nat → Int32)) (h0 : Heap) (n0 : Nat) (Z0 : n0 ≤ h0.size) (E1 : Exa Z h0 a1 "com/example/ketproof/ketproof/MassTable") (F_slots_a1 : Fld Z h0 a1 "com/example/ketproof/ketproof/MassTable" "slots" "[J" (.ref z_slots)) (F_entrySlots_a1 : Fld Z h0 a1 "com/example/ketproof/ketproof/MassTable" "entrySlots" "[I" (.ref z_entrySlots)) (F_size_a1 : Fld Z h0 a1 "com/example/ketproof/ketproof/MassTable" "size" "I" (.int z_size)) (F_decimals_a1 : Fld Z h0 a1 "com/example/ketproof/ketproof/MassTable" "decimals" "[Ljava/math/BigDecimal;" .null) (g1 : n0 ≤ a1) (V_slots : Arv Z h0 z_slots k_slots .long (96 : Int32) (own_L x_slots) (.long (0 : Int64))) (g_slots : n0 ≤ z_slots) (ne_slots : a1 ≠ z_slots) (V_entrySlots : Arv Z h0 z_entrySlots k_entrySlots .int (16 : Int32) (own_E x_entrySlots) (.int (0 : Int32))) (g_entrySlots : n0 ≤ z_entrySlots) (ne_entrySlots : a1 ≠ z_entrySlots) (ne_entrySlots_slots : z_entrySlots ≠ z_slots) (hsz : 0 ≤ z_size.toInt ∧ z_size.toInt ≤ 3) (hbd : own_eb x_entrySlots z_size) :
    MetFree l (⟨"com/example/ketproof/ketproof/MassTable", "clear", "()V"⟩ : MethodName) (head1 (Jvm.Cond.code (⟨"com/example/ketproof/ketproof/MassTable", "clear", "()V"⟩ : MethodName) prog_63_method_11_code 2 none :: ws) ({ frames := 0, cells := 0, slots := 0, locals := 0 } : Room)) (fun a U => a = #[(.ref a1)] ∧ Z.Warmed39 U.vm ∧ U.heap = h0) (fun _ _ _ _ _ => True) (fun _ U o U' => ∃ v L, o = .returned v ∧ Q3 Z a1 z_slots z_entrySlots z_size k_slots x_slots k_entrySlots x_entrySlots h0 n0 v U'.heap L ∧ FrameEnd U o U' L ({ frames := 0, cells := 0, slots := 0, locals := 0 } : Room).cells ({ frames := 0, cells := 0, slots := 0, locals := 0 } : Room).slots) := by
  refine MetFree.of_bodySF (plainFor_of_name pn_0) hisR ?_
  intro p e s m args below meth c s₁ Bd hml0 hP hK
  obtain ⟨rfl, hZ, hh⟩ := hP
  have hx := Bd.exec
  have hby := Bd.bytes
  have hml : c.maxLocals = 2 := hml0
  have hown : s.vm.findClass "com/example/ketproof/ketproof/MassTable" = some m.cls := findClass_of_methodNamed Bd.named
  have hnm := (name_of_methodNamed Bd.named Bd.method).1
  have X0 : Stand p l e ({ frames := 0, cells := 0, slots := 0, locals := 0 } : Room) s m #[(.ref a1)] below meth c s₁ [] 0 0 := Stand.of_body Bd
  have e0 : s₁.heap = h0 := by rw [← hh, Bd.state]; rfl
  have N0 := Fr.nil n0
  have pre0 : ∀ t, Steps p.tables e below (s₁.setTop (mkF m 0 #[.val (.ref a1), .unset] [])) t → Steps p.tables e below (s₁.setTop (entryFrame m #[(.ref a1)] 2)) t := fun t k => castTop (ef_3 m a1) k
  obtain ⟨T693, X693, e693, st693⟩ := getF X0 hx hZ hown (host := "") (Or.inl (hw _ (List.mem_of_getElem? (i := 20) rfl))) Via.refl e0 F_size_a1 (g := (mkF m 4 #[.val (.ref a1), .val (.int (0 : Int32))] [(.ref a1), (.int (0 : Int32))])) rfl rfl (hb hby d3_4)
  have S694 : ∀ t, Steps p.tables e below (T693.setTop (mkF m 7 #[.val (.ref a1), .val (.int (0 : Int32))] [(.int z_size), (.int (0 : Int32))])) t → Steps p.tables e below (s₁.setTop (entryFrame m #[(.ref a1)] 2)) t := by
    intro t k
    refine pre0 t ?_
    refine XS.iconst X0.here hx rfl (hb hby d3_0) ?_
    show Steps p.tables e below (s₁.setTop (mkF m 1 #[.val (.ref a1), .unset] [(.int (0 : Int32))])) _
    refine XS.istoreN X0.here hx rfl (hb hby d3_1) rfl (l' := #[.val (.ref a1), .val (.int (0 : Int32))]) rfl ?_
    show Steps p.tables e below (s₁.setTop (mkF m 2 #[.val (.ref a1), .val (.int (0 : Int32))] [])) _
    refine XS.iloadN X0.here hx rfl (hb hby d3_2) rfl ?_
    show Steps p.tables e below (s₁.setTop (mkF m 3 #[.val (.ref a1), .val (.int (0 : Int32))] [(.int (0 : Int32))])) _
    refine XS.aloadN X0.here hx rfl (hb hby d3_3) rfl rfl ?_
    show Steps p.tables e below (s₁.setTop (mkF m 4 #[.val (.ref a1), .val (.int (0 : Int32))] [(.ref a1), (.int (0 : Int32))])) _
    refine st693 _ ?_
    show Steps p.tables e below (T693.setTop (mkF m 7 #[.val (.ref a1), .val (.int (0 : Int32))] [(.int z_size), (.int (0 : Int32))])) _
    exact k
  by_cases hc695 : (0 : Int32) < z_size
  · obtain ⟨T696, X696, e696, st696⟩ := getF X693 hx hZ hown (host := "") (Or.inl (hw _ (List.mem_of_getElem? (i := 10) rfl))) Via.refl e693 F_slots_a1 (g := (mkF m 11 #[.val (.ref a1), .val (.int (0 : Int32))] [(.ref a1)])) rfl rfl (hb hby d3_11)
    obtain ⟨T697, X697, e697, st697⟩ := getF X696 hx hZ hown (host := "") (Or.inl (hw _ (List.mem_of_getElem? (i := 13) rfl))) Via.refl e696 F_entrySlots_a1 (g := (mkF m 16 #[.val (.ref a1), .val (.int (0 : Int32))] [(.ref a1), (.int (3 : Int32)), (.ref z_slots)])) rfl rfl (hb hby d3_16)
    obtain ⟨cl698, Ar698, qa698, Sa698, Na698, Ha698, Ga698⟩ := id V_entrySlots
    have hin698 : ¬ ((0 : Int32) < 0 ∨ cl698.slots.size ≤ ((0 : Int32)).toNatClampNeg) := inb_of Sa698 ⟨by decide, by decide⟩
    obtain ⟨cl699, Ar699, qa699, Sa699, Na699, Ha699, Ga699⟩ := id V_slots
    have hin699 : ¬ (((3 : Int32) * (x_entrySlots 0)) < 0 ∨ cl699.slots.size ≤ (((3 : Int32) * (x_entrySlots 0))).toNatClampNeg) := inb_of Sa699 (own_b0 (hbd 0 (own_klt 0 (by decide) hc695)))
    obtain ⟨T700, h700, X700, e700, W700, st700⟩ := stJ X697 hx hZ e697 Ar699 (j := ((3 : Int32) * (x_entrySlots 0))) hin699 (g := (mkF m 23 #[.val (.ref a1), .val (.int (0 : Int32))] [(.long (0 : Int64)), (.int ((3 : Int32) * (x_entrySlots 0))), (.ref z_slots)])) rfl rfl (hb hby d3_23)
    have fa700 : Arv Z h700 z_slots k_slots .long (96 : Int32) (own_L (own_up x_slots (((3 : Int32) * (x_entrySlots 0))).toNatClampNeg (0 : Int64))) (.long (0 : Int64)) := (Arv.set Ar699 qa699 Sa699 Na699 Ha699 Ga699 rfl W700 (((3 : Int32) * (x_entrySlots 0))).toNatClampNeg rfl (own_Ll x_slots (own_ix (own_b0 (hbd 0 (own_klt 0 (by decide) hc695)))))).pad (own_Lset x_slots (own_ix (own_b0 (hbd 0 (own_klt 0 (by decide) hc695)))) (0 : Int64))
    have f701 : Exa Z h700 a1 "com/example/ketproof/ketproof/MassTable" := E1.wr W700
    have f702 : Fld Z h700 a1 "com/example/ketproof/ketproof/MassTable" "slots" "[J" (.ref z_slots) := F_slots_a1.other W700 (Or.inl ne_slots)
    have f703 : Fld Z h700 a1 "com/example/ketproof/ketproof/MassTable" "entrySlots" "[I" (.ref z_entrySlots) := F_entrySlots_a1.other W700 (Or.inl ne_slots)
    have f704 : Fld Z h700 a1 "com/example/ketproof/ketproof/MassTable" "size" "I" (.int z_size) := F_size_a1.other W700 (Or.inl ne_slots)
    have f705 : Fld Z h700 a1 "com/example/ketproof/ketproof/MassTable" "decimals" "[Ljava/math/BigDecimal;" .null := F_decimals_a1.other W700 (Or.inl ne_slots)
    have f706 : Arv Z h700 z_entrySlots k_entrySlots .int (16 : Int32) (own_E x_entrySlots) (.int (0 : Int32)) := V_entrySlots.other W700 ne_entrySlots_slots
    have N707 := Fr.snoc X700 N0 g_slots
    have K708 : Keep h0 h700 [a1, z_slots, z_entrySlots] := (Keep.refl h0 [a1, z_slots, z_entrySlots]).wr W700 (Or.inl (List.mem_of_getElem? (i := 1) rfl))
    have Z709 : n0 ≤ h700.size := Nat.le_trans Z0 (Keep.of_wr W700).1
    obtain ⟨T710, X710, e710, st710⟩ := getF X700 hx hZ hown (host := "") (Or.inl (hw _ (List.mem_of_getElem? (i := 60) rfl))) Via.refl e700 f705 (g := (mkF m 25 #[.val (.ref a1), .val (.int (0 : Int32))] [(.ref a1)])) rfl rfl (hb hby d3_25)
    obtain ⟨T711, X711, e711, st711⟩ := getF X710 hx hZ hown (host := "") (Or.inl (hw _ (List.mem_of_getElem? (i := 20) rfl))) Via.refl e710 f704 (g := (mkF m 4 #[.val (.ref a1), .val (.int (1 : Int32))] [(.ref a1), (.int (1 : Int32))])) rfl rfl (hb hby d3_4)
    have S712 : ∀ t, Steps p.tables e below (T711.setTop (mkF m 7 #[.val (.ref a1), .val (.int (1 : Int32))] [(.int z_size), (.int (1 : Int32))])) t → Steps p.tables e below (s₁.setTop (entryFrame m #[(.ref a1)] 2)) t := by
      intro t k
      refine S694 t ?_
      refine XS.icmpNo X693.here hx rfl (hb hby d3_7) rfl (tlt hc695).2.1 ?_
      show Steps p.tables e below (T693.setTop (mkF m 10 #[.val (.ref a1), .val (.int (0 : Int32))] [])) _
      refine XS.aloadN X693.here hx rfl (hb hby d3_10) rfl rfl ?_
      show Steps p.tables e below (T693.setTop (mkF m 11 #[.val (.ref a1), .val (.int (0 : Int32))] [(.ref a1)])) _
      refine st696 _ ?_
      show Steps p.tables e below (T696.setTop (mkF m 14 #[.val (.ref a1), .val (.int (0 : Int32))] [(.ref z_slots)])) _
      refine XS.iconst X696.here hx rfl (hb hby d3_14) ?_
      show Steps p.tables e below (T696.setTop (mkF m 15 #[.val (.ref a1), .val (.int (0 : Int32))] [(.int (3 : Int32)), (.ref z_slots)])) _
      refine XS.aloadN X696.here hx rfl (hb hby d3_15) rfl rfl ?_
      show Steps p.tables e below (T696.setTop (mkF m 16 #[.val (.ref a1), .val (.int (0 : Int32))] [(.ref a1), (.int (3 : Int32)), (.ref z_slots)])) _
      refine st697 _ ?_
      show Steps p.tables e below (T697.setTop (mkF m 19 #[.val (.ref a1), .val (.int (0 : Int32))] [(.ref z_entrySlots), (.int (3 : Int32)), (.ref z_slots)])) _
      refine XS.iloadN X697.here hx rfl (hb hby d3_19) rfl ?_
      show Steps p.tables e below (T697.setTop (mkF m 20 #[.val (.ref a1), .val (.int (0 : Int32))] [(.int (0 : Int32)), (.ref z_entrySlots), (.int (3 : Int32)), (.ref z_slots)])) _
      refine X697.iaload hx (j := (0 : Int32)) (v := (.int (x_entrySlots 0))) (by rw [e697]; exact Ar698.1) (State.isArrayOf_alike hZ.alike Ar698.2.1) Ar698.2.2 hin698 (Has.at Ha698 hin698 (own_rdE x_entrySlots (j := (0 : Int32)) ⟨by decide, by decide⟩)) (g := (mkF m 20 #[.val (.ref a1), .val (.int (0 : Int32))] [(.int (0 : Int32)), (.ref z_entrySlots), (.int (3 : Int32)), (.ref z_slots)])) rfl rfl (hb hby d3_20) _ ?_
      show Steps p.tables e below (T697.setTop (mkF m 21 #[.val (.ref a1), .val (.int (0 : Int32))] [(.int (x_entrySlots 0)), (.int (3 : Int32)), (.ref z_slots)])) _
      refine XS.imul X697.here hx rfl (hb hby d3_21) rfl ?_
      show Steps p.tables e below (T697.setTop (mkF m 22 #[.val (.ref a1), .val (.int (0 : Int32))] [(.int ((3 : Int32) * (x_entrySlots 0))), (.ref z_slots)])) _
      refine XS.lconst X697.here hx rfl (hb hby d3_22) ?_
      show Steps p.tables e below (T697.setTop (mkF m 23 #[.val (.ref a1), .val (.int (0 : Int32))] [(.long (0 : Int64)), (.int ((3 : Int32) * (x_entrySlots 0))), (.ref z_slots)])) _
      refine st700 _ ?_
      show Steps p.tables e below (T700.setTop (mkF m 24 #[.val (.ref a1), .val (.int (0 : Int32))] [])) _
      refine XS.aloadN X700.here hx rfl (hb hby d3_24) rfl rfl ?_
      show Steps p.tables e below (T700.setTop (mkF m 25 #[.val (.ref a1), .val (.int (0 : Int32))] [(.ref a1)])) _
      refine st710 _ ?_
      show Steps p.tables e below (T710.setTop (mkF m 28 #[.val (.ref a1), .val (.int (0 : Int32))] [.null])) _
      refine XS.ifnullYes X710.here hx rfl (pc0 := 28) (pc' := 43) rfl (hb hby d3_28) rfl (by decide) (by decide) ?_
      show Steps p.tables e below (T710.setTop (mkF m 43 #[.val (.ref a1), .val (.int (0 : Int32))] [])) _
      refine XS.iinc X710.here hx rfl (hb hby d3_43) rfl (l' := #[.val (.ref a1), .val (.int (1 : Int32))]) rfl ?_
      show Steps p.tables e below (T710.setTop (mkF m 46 #[.val (.ref a1), .val (.int (1 : Int32))] [])) _
      refine XS.goto X710.here hx rfl (pc0 := 46) (pc' := 2) rfl (hb hby d3_46) (by decide) (by decide) ?_
      show Steps p.tables e below (T710.setTop (mkF m 2 #[.val (.ref a1), .val (.int (1 : Int32))] [])) _
      refine XS.iloadN X710.here hx rfl (hb hby d3_2) rfl ?_
      show Steps p.tables e below (T710.setTop (mkF m 3 #[.val (.ref a1), .val (.int (1 : Int32))] [(.int (1 : Int32))])) _
      refine XS.aloadN X710.here hx rfl (hb hby d3_3) rfl rfl ?_
      show Steps p.tables e below (T710.setTop (mkF m 4 #[.val (.ref a1), .val (.int (1 : Int32))] [(.ref a1), (.int (1 : Int32))])) _
      refine st711 _ ?_
      show Steps p.tables e below (T711.setTop (mkF m 7 #[.val (.ref a1), .val (.int (1 : Int32))] [(.int z_size), (.int (1 : Int32))])) _
      exact k
    by_cases hc713 : (1 : Int32) < z_size
    · obtain ⟨T714, X714, e714, st714⟩ := getF X711 hx hZ hown (host := "") (Or.inl (hw _ (List.mem_of_getElem? (i := 10) rfl))) Via.refl e711 f702 (g := (mkF m 11 #[.val (.ref a1), .val (.int (1 : Int32))] [(.ref a1)])) rfl rfl (hb hby d3_11)
      obtain ⟨T715, X715, e715, st715⟩ := getF X714 hx hZ hown (host := "") (Or.inl (hw _ (List.mem_of_getElem? (i := 13) rfl))) Via.refl e714 f703 (g := (mkF m 16 #[.val (.ref a1), .val (.int (1 : Int32))] [(.ref a1), (.int (3 : Int32)), (.ref z_slots)])) rfl rfl (hb hby d3_16)
      obtain ⟨cl716, Ar716, qa716, Sa716, Na716, Ha716, Ga716⟩ := id f706
      have hin716 : ¬ ((1 : Int32) < 0 ∨ cl716.slots.size ≤ ((1 : Int32)).toNatClampNeg) := inb_of Sa716 ⟨by decide, by decide⟩
      obtain ⟨cl717, Ar717, qa717, Sa717, Na717, Ha717, Ga717⟩ := id fa700
      have hin717 : ¬ (((3 : Int32) * (x_entrySlots 1)) < 0 ∨ cl717.slots.size ≤ (((3 : Int32) * (x_entrySlots 1))).toNatClampNeg) := inb_of Sa717 (own_b0 (hbd 1 (own_klt 1 (by decide) hc713)))
      obtain ⟨T718, h718, X718, e718, W718, st718⟩ := stJ X715 hx hZ e715 Ar717 (j := ((3 : Int32) * (x_entrySlots 1))) hin717 (g := (mkF m 23 #[.val (.ref a1), .val (.int (1 : Int32))] [(.long (0 : Int64)), (.int ((3 : Int32) * (x_entrySlots 1))), (.ref z_slots)])) rfl rfl (hb hby d3_23)
      have fa718 : Arv Z h718 z_slots k_slots .long (96 : Int32) (own_L (own_up (own_up x_slots (((3 : Int32) * (x_entrySlots 0))).toNatClampNeg (0 : Int64)) (((3 : Int32) * (x_entrySlots 1))).toNatClampNeg (0 : Int64))) (.long (0 : Int64)) := (Arv.set Ar717 qa717 Sa717 Na717 Ha717 Ga717 rfl W718 (((3 : Int32) * (x_entrySlots 1))).toNatClampNeg rfl (own_Ll (own_up x_slots (((3 : Int32) * (x_entrySlots 0))).toNatClampNeg (0 : Int64)) (own_ix (own_b0 (hbd 1 (own_klt 1 (by decide) hc713)))))).pad (own_Lset (own_up x_slots (((3 : Int32) * (x_entrySlots 0))).toNatClampNeg (0 : Int64)) (own_ix (own_b0 (hbd 1 (own_klt 1 (by decide) hc713)))) (0 : Int64))
      have f719 : Exa Z h718 a1 "com/example/ketproof/ketproof/MassTable" := f701.wr W718
      have f720 : Fld Z h718 a1 "com/example/ketproof/ketproof/MassTable" "slots" "[J" (.ref z_slots) := f702.other W718 (Or.inl ne_slots)
      have f721 : Fld Z h718 a1 "com/example/ketproof/ketproof/MassTable" "entrySlots" "[I" (.ref z_entrySlots) := f703.other W718 (Or.inl ne_slots)
      have f722 : Fld Z h718 a1 "com/example/ketproof/ketproof/MassTable" "size" "I" (.int z_size) := f704.other W718 (Or.inl ne_slots)
      have f723 : Fld Z h718 a1 "com/example/ketproof/ketproof/MassTable" "decimals" "[Ljava/math/BigDecimal;" .null := f705.other W718 (Or.inl ne_slots)
      have f724 : Arv Z h718 z_entrySlots k_entrySlots .int (16 : Int32) (own_E x_entrySlots) (.int (0 : Int32)) := f706.other W718 ne_entrySlots_slots
      have N725 := Fr.snoc X718 N707 g_slots
      have K726 : Keep h0 h718 [a1, z_slots, z_entrySlots] := K708.wr W718 (Or.inl (List.mem_of_getElem? (i := 1) rfl))
      have Z727 : n0 ≤ h718.size := Nat.le_trans Z709 (Keep.of_wr W718).1
      obtain ⟨T728, X728, e728, st728⟩ := getF X718 hx hZ hown (host := "") (Or.inl (hw _ (List.mem_of_getElem? (i := 60) rfl))) Via.refl e718 f723 (g := (mkF m 25 #[.val (.ref a1), .val (.int (1 : Int32))] [(.ref a1)])) rfl rfl (hb hby d3_25)
      obtain ⟨T729, X729, e729, st729⟩ := getF X728 hx hZ hown (host := "") (Or.inl (hw _ (List.mem_of_getElem? (i := 20) rfl))) Via.refl e728 f722 (g := (mkF m 4 #[.val (.ref a1), .val (.int (2 : Int32))] [(.ref a1), (.int (2 : Int32))])) rfl rfl (hb hby d3_4)
      have S730 : ∀ t, Steps p.tables e below (T729.setTop (mkF m 7 #[.val (.ref a1), .val (.int (2 : Int32))] [(.int z_size), (.int (2 : Int32))])) t → Steps p.tables e below (s₁.setTop (entryFrame m #[(.ref a1)] 2)) t := by
        intro t k
        refine S712 t ?_
        refine XS.icmpNo X711.here hx rfl (hb hby d3_7) rfl (tlt hc713).2.1 ?_
        show Steps p.tables e below (T711.setTop (mkF m 10 #[.val (.ref a1), .val (.int (1 : Int32))] [])) _
        refine XS.aloadN X711.here hx rfl (hb hby d3_10) rfl rfl ?_
        show Steps p.tables e below (T711.setTop (mkF m 11 #[.val (.ref a1), .val (.int (1 : Int32))] [(.ref a1)])) _
        refine st714 _ ?_
        show Steps p.tables e below (T714.setTop (mkF m 14 #[.val (.ref a1), .val (.int (1 : Int32))] [(.ref z_slots)])) _
        refine XS.iconst X714.here hx rfl (hb hby d3_14) ?_
        show Steps p.tables e below (T714.setTop (mkF m 15 #[.val (.ref a1), .val (.int (1 : Int32))] [(.int (3 : Int32)), (.ref z_slots)])) _
        refine XS.aloadN X714.here hx rfl (hb hby d3_15) rfl rfl ?_
        show Steps p.tables e below (T714.setTop (mkF m 16 #[.val (.ref a1), .val (.int (1 : Int32))] [(.ref a1), (.int (3 : Int32)), (.ref z_slots)])) _
        refine st715 _ ?_
        show Steps p.tables e below (T715.setTop (mkF m 19 #[.val (.ref a1), .val (.int (1 : Int32))] [(.ref z_entrySlots), (.int (3 : Int32)), (.ref z_slots)])) _
        refine XS.iloadN X715.here hx rfl (hb hby d3_19) rfl ?_
        show Steps p.tables e below (T715.setTop (mkF m 20 #[.val (.ref a1), .val (.int (1 : Int32))] [(.int (1 : Int32)), (.ref z_entrySlots), (.int (3 : Int32)), (.ref z_slots)])) _
        refine X715.iaload hx (j := (1 : Int32)) (v := (.int (x_entrySlots 1))) (by rw [e715]; exact Ar716.1) (State.isArrayOf_alike hZ.alike Ar716.2.1) Ar716.2.2 hin716 (Has.at Ha716 hin716 (own_rdE x_entrySlots (j := (1 : Int32)) ⟨by decide, by decide⟩)) (g := (mkF m 20 #[.val (.ref a1), .val (.int (1 : Int32))] [(.int (1 : Int32)), (.ref z_entrySlots), (.int (3 : Int32)), (.ref z_slots)])) rfl rfl (hb hby d3_20) _ ?_
        show Steps p.tables e below (T715.setTop (mkF m 21 #[.val (.ref a1), .val (.int (1 : Int32))] [(.int (x_entrySlots 1)), (.int (3 : Int32)), (.ref z_slots)])) _
        refine XS.imul X715.here hx rfl (hb hby d3_21) rfl ?_
        show Steps p.tables e below (T715.setTop (mkF m 22 #[.val (.ref a1), .val (.int (1 : Int32))] [(.int ((3 : Int32) * (x_entrySlots 1))), (.ref z_slots)])) _
        refine XS.lconst X715.here hx rfl (hb hby d3_22) ?_
        show Steps p.tables e below (T715.setTop (mkF m 23 #[.val (.ref a1), .val (.int (1 : Int32))] [(.long (0 : Int64)), (.int ((3 : Int32) * (x_entrySlots 1))), (.ref z_slots)])) _
        refine st718 _ ?_
        show Steps p.tables e below (T718.setTop (mkF m 24 #[.val (.ref a1), .val (.int (1 : Int32))] [])) _
        refine XS.aloadN X718.here hx rfl (hb hby d3_24) rfl rfl ?_
        show Steps p.tables e below (T718.setTop (mkF m 25 #[.val (.ref a1), .val (.int (1 : Int32))] [(.ref a1)])) _
        refine st728 _ ?_
        show Steps p.tables e below (T728.setTop (mkF m 28 #[.val (.ref a1), .val (.int (1 : Int32))] [.null])) _
        refine XS.ifnullYes X728.here hx rfl (pc0 := 28) (pc' := 43) rfl (hb hby d3_28) rfl (by decide) (by decide) ?_
        show Steps p.tables e below (T728.setTop (mkF m 43 #[.val (.ref a1), .val (.int (1 : Int32))] [])) _
        refine XS.iinc X728.here hx rfl (hb hby d3_43) rfl (l' := #[.val (.ref a1), .val (.int (2 : Int32))]) rfl ?_
        show Steps p.tables e below (T728.setTop (mkF m 46 #[.val (.ref a1), .val (.int (2 : Int32))] [])) _
        refine XS.goto X728.here hx rfl (pc0 := 46) (pc' := 2) rfl (hb hby d3_46) (by decide) (by decide) ?_
        show Steps p.tables e below (T728.setTop (mkF m 2 #[.val (.ref a1), .val (.int (2 : Int32))] [])) _
        refine XS.iloadN X728.here hx rfl (hb hby d3_2) rfl ?_
        show Steps p.tables e below (T728.setTop (mkF m 3 #[.val (.ref a1), .val (.int (2 : Int32))] [(.int (2 : Int32))])) _
        refine XS.aloadN X728.here hx rfl (hb hby d3_3) rfl rfl ?_
        show Steps p.tables e below (T728.setTop (mkF m 4 #[.val (.ref a1), .val (.int (2 : Int32))] [(.ref a1), (.int (2 : Int32))])) _
        refine st729 _ ?_
        show Steps p.tables e below (T729.setTop (mkF m 7 #[.val (.ref a1), .val (.int (2 : Int32))] [(.int z_size), (.int (2 : Int32))])) _
        exact k
      by_cases hc731 : (2 : Int32) < z_size
      · obtain ⟨T732, X732, e732, st732⟩ := getF X729 hx hZ hown (host := "") (Or.inl (hw _ (List.mem_of_getElem? (i := 10) rfl))) Via.refl e729 f720 (g := (mkF m 11 #[.val (.ref a1), .val (.int (2 : Int32))] [(.ref a1)])) rfl rfl (hb hby d3_11)
        obtain ⟨T733, X733, e733, st733⟩ := getF X732 hx hZ hown (host := "") (Or.inl (hw _ (List.mem_of_getElem? (i := 13) rfl))) Via.refl e732 f721 (g := (mkF m 16 #[.val (.ref a1), .val (.int (2 : Int32))] [(.ref a1), (.int (3 : Int32)), (.ref z_slots)])) rfl rfl (hb hby d3_16)
        obtain ⟨cl734, Ar734, qa734, Sa734, Na734, Ha734, Ga734⟩ := id f724
        have hin734 : ¬ ((2 : Int32) < 0 ∨ cl734.slots.size ≤ ((2 : Int32)).toNatClampNeg) := inb_of Sa734 ⟨by decide, by decide⟩
        obtain ⟨cl735, Ar735, qa735, Sa735, Na735, Ha735, Ga735⟩ := id fa718
        have hin735 : ¬ (((3 : Int32) * (x_entrySlots 2)) < 0 ∨ cl735.slots.size ≤ (((3 : Int32) * (x_entrySlots 2))).toNatClampNeg) := inb_of Sa735 (own_b0 (hbd 2 (own_klt 2 (by decide) hc731)))
        obtain ⟨T736, h736, X736, e736, W736, st736⟩ := stJ X733 hx hZ e733 Ar735 (j := ((3 : Int32) * (x_entrySlots 2))) hin735 (g := (mkF m 23 #[.val (.ref a1), .val (.int (2 : Int32))] [(.long (0 : Int64)), (.int ((3 : Int32) * (x_entrySlots 2))), (.ref z_slots)])) rfl rfl (hb hby d3_23)
        have fa736 : Arv Z h736 z_slots k_slots .long (96 : Int32) (own_L (own_up (own_up (own_up x_slots (((3 : Int32) * (x_entrySlots 0))).toNatClampNeg (0 : Int64)) (((3 : Int32) * (x_entrySlots 1))).toNatClampNeg (0 : Int64)) (((3 : Int32) * (x_entrySlots 2))).toNatClampNeg (0 : Int64))) (.long (0 : Int64)) := (Arv.set Ar735 qa735 Sa735 Na735 Ha735 Ga735 rfl W736 (((3 : Int32) * (x_entrySlots 2))).toNatClampNeg rfl (own_Ll (own_up (own_up x_slots (((3 : Int32) * (x_entrySlots 0))).toNatClampNeg (0 : Int64)) (((3 : Int32) * (x_entrySlots 1))).toNatClampNeg (0 : Int64)) (own_ix (own_b0 (hbd 2 (own_klt 2 (by decide) hc731)))))).pad (own_Lset (own_up (own_up x_slots (((3 : Int32) * (x_entrySlots 0))).toNatClampNeg (0 : Int64)) (((3 : Int32) * (x_entrySlots 1))).toNatClampNeg (0 : Int64)) (own_ix (own_b0 (hbd 2 (own_klt 2 (by decide) hc731)))) (0 : Int64))
        have f737 : Exa Z h736 a1 "com/example/ketproof/ketproof/MassTable" := f719.wr W736
        have f738 : Fld Z h736 a1 "com/example/ketproof/ketproof/MassTable" "slots" "[J" (.ref z_slots) := f720.other W736 (Or.inl ne_slots)
        have f739 : Fld Z h736 a1 "com/example/ketproof/ketproof/MassTable" "entrySlots" "[I" (.ref z_entrySlots) := f721.other W736 (Or.inl ne_slots)
        have f740 : Fld Z h736 a1 "com/example/ketproof/ketproof/MassTable" "size" "I" (.int z_size) := f722.other W736 (Or.inl ne_slots)
        have f741 : Fld Z h736 a1 "com/example/ketproof/ketproof/MassTable" "decimals" "[Ljava/math/BigDecimal;" .null := f723.other W736 (Or.inl ne_slots)
        have f742 : Arv Z h736 z_entrySlots k_entrySlots .int (16 : Int32) (own_E x_entrySlots) (.int (0 : Int32)) := f724.other W736 ne_entrySlots_slots
        have N743 := Fr.snoc X736 N725 g_slots
        have K744 : Keep h0 h736 [a1, z_slots, z_entrySlots] := K726.wr W736 (Or.inl (List.mem_of_getElem? (i := 1) rfl))
        have Z745 : n0 ≤ h736.size := Nat.le_trans Z727 (Keep.of_wr W736).1
        obtain ⟨T746, X746, e746, st746⟩ := getF X736 hx hZ hown (host := "") (Or.inl (hw _ (List.mem_of_getElem? (i := 60) rfl))) Via.refl e736 f741 (g := (mkF m 25 #[.val (.ref a1), .val (.int (2 : Int32))] [(.ref a1)])) rfl rfl (hb hby d3_25)
        obtain ⟨T747, X747, e747, st747⟩ := getF X746 hx hZ hown (host := "") (Or.inl (hw _ (List.mem_of_getElem? (i := 20) rfl))) Via.refl e746 f740 (g := (mkF m 4 #[.val (.ref a1), .val (.int (3 : Int32))] [(.ref a1), (.int (3 : Int32))])) rfl rfl (hb hby d3_4)
        obtain ⟨T748, h748, X748, e748, W748, st748⟩ := putF X747 hx hZ hown (host := "") (Or.inl (hw _ (List.mem_of_getElem? (i := 20) rfl))) Via.refl e747 f740 f737 (Or.inl (hw _ (List.mem_of_getElem? (i := 21) rfl))) (hw _ (List.mem_of_getElem? (i := 1) rfl)) (ty := .int) (by decide) rfl rfl (g := (mkF m 51 #[.val (.ref a1), .val (.int (3 : Int32))] [(.int (0 : Int32)), (.ref a1)])) rfl rfl (hb hby d3_51)
        have f749 : Exa Z h748 a1 "com/example/ketproof/ketproof/MassTable" := f737.wr W748
        have f750 : Fld Z h748 a1 "com/example/ketproof/ketproof/MassTable" "slots" "[J" (.ref z_slots) := f738.other W748 (Or.inr (slot_ne (Or.inl (hw _ (List.mem_of_getElem? (i := 11) rfl))) (Or.inl (hw _ (List.mem_of_getElem? (i := 21) rfl))) (by decide) (t := (.array .long)) (t' := .int) (by decide) (by decide)))
        have f751 : Fld Z h748 a1 "com/example/ketproof/ketproof/MassTable" "entrySlots" "[I" (.ref z_entrySlots) := f739.other W748 (Or.inr (slot_ne (Or.inl (hw _ (List.mem_of_getElem? (i := 14) rfl))) (Or.inl (hw _ (List.mem_of_getElem? (i := 21) rfl))) (by decide) (t := (.array .int)) (t' := .int) (by decide) (by decide)))
        have f752 : Fld Z h748 a1 "com/example/ketproof/ketproof/MassTable" "size" "I" (.int (0 : Int32)) := f740.same W748
        have f753 : Fld Z h748 a1 "com/example/ketproof/ketproof/MassTable" "decimals" "[Ljava/math/BigDecimal;" .null := f741.other W748 (Or.inr (slot_ne (Or.inl (hw _ (List.mem_of_getElem? (i := 61) rfl))) (Or.inl (hw _ (List.mem_of_getElem? (i := 21) rfl))) (by decide) (t := (.array (.object "java/math/BigDecimal"))) (t' := .int) (by decide) (by decide)))
        have f754 : Arv Z h748 z_entrySlots k_entrySlots .int (16 : Int32) (own_E x_entrySlots) (.int (0 : Int32)) := f742.other W748 (Ne.symm ne_entrySlots)
        have f755 : Arv Z h748 z_slots k_slots .long (96 : Int32) (own_L (own_up (own_up (own_up x_slots (((3 : Int32) * (x_entrySlots 0))).toNatClampNeg (0 : Int64)) (((3 : Int32) * (x_entrySlots 1))).toNatClampNeg (0 : Int64)) (((3 : Int32) * (x_entrySlots 2))).toNatClampNeg (0 : Int64))) (.long (0 : Int64)) := fa736.other W748 (Ne.symm ne_slots)
        have N756 := Fr.snoc X748 N743 g1
        have K757 : Keep h0 h748 [a1, z_slots, z_entrySlots] := K744.wr W748 (Or.inl (List.mem_of_getElem? (i := 0) rfl))
        have Z758 : n0 ≤ h748.size := Nat.le_trans Z745 (Keep.of_wr W748).1
        have hf_size : f3_size z_size x_slots x_entrySlots = (0 : Int32) := by
          unfold f3_size
          first | rfl | (rw [if_pos hc695, if_pos hc713, if_pos hc731])
        have hf_slots : f3_slots z_size x_slots x_entrySlots = (own_up (own_up (own_up x_slots (((3 : Int32) * (x_entrySlots 0))).toNatClampNeg (0 : Int64)) (((3 : Int32) * (x_entrySlots 1))).toNatClampNeg (0 : Int64)) (((3 : Int32) * (x_entrySlots 2))).toNatClampNeg (0 : Int64)) := by
          unfold f3_slots
          first | rfl | (rw [if_pos hc695, if_pos hc713, if_pos hc731])
        have hf_entrySlots : f3_entrySlots z_size x_slots x_entrySlots = x_entrySlots := by
          unfold f3_entrySlots
          first | rfl | (rw [if_pos hc695, if_pos hc713, if_pos hc731])
        obtain ⟨fs, hr, hrun, hended, hW, hsame⟩ := X748.leave (v := none) (fun _ => rfl)
        refine ⟨_, _, S730 _ ?_, hrun, hended, _, _, rfl, ?_, ⟨_, rfl⟩, hW, hsame.mono (by decide) (by decide)⟩
        · refine XS.icmpNo X729.here hx rfl (hb hby d3_7) rfl (tlt hc731).2.1 ?_
          show Steps p.tables e below (T729.setTop (mkF m 10 #[.val (.ref a1), .val (.int (2 : Int32))] [])) _
          refine XS.aloadN X729.here hx rfl (hb hby d3_10) rfl rfl ?_
          show Steps p.tables e below (T729.setTop (mkF m 11 #[.val (.ref a1), .val (.int (2 : Int32))] [(.ref a1)])) _
          refine st732 _ ?_
          show Steps p.tables e below (T732.setTop (mkF m 14 #[.val (.ref a1), .val (.int (2 : Int32))] [(.ref z_slots)])) _
          refine XS.iconst X732.here hx rfl (hb hby d3_14) ?_
          show Steps p.tables e below (T732.setTop (mkF m 15 #[.val (.ref a1), .val (.int (2 : Int32))] [(.int (3 : Int32)), (.ref z_slots)])) _
          refine XS.aloadN X732.here hx rfl (hb hby d3_15) rfl rfl ?_
          show Steps p.tables e below (T732.setTop (mkF m 16 #[.val (.ref a1), .val (.int (2 : Int32))] [(.ref a1), (.int (3 : Int32)), (.ref z_slots)])) _
          refine st733 _ ?_
          show Steps p.tables e below (T733.setTop (mkF m 19 #[.val (.ref a1), .val (.int (2 : Int32))] [(.ref z_entrySlots), (.int (3 : Int32)), (.ref z_slots)])) _
          refine XS.iloadN X733.here hx rfl (hb hby d3_19) rfl ?_
          show Steps p.tables e below (T733.setTop (mkF m 20 #[.val (.ref a1), .val (.int (2 : Int32))] [(.int (2 : Int32)), (.ref z_entrySlots), (.int (3 : Int32)), (.ref z_slots)])) _
          refine X733.iaload hx (j := (2 : Int32)) (v := (.int (x_entrySlots 2))) (by rw [e733]; exact Ar734.1) (State.isArrayOf_alike hZ.alike Ar734.2.1) Ar734.2.2 hin734 (Has.at Ha734 hin734 (own_rdE x_entrySlots (j := (2 : Int32)) ⟨by decide, by decide⟩)) (g := (mkF m 20 #[.val (.ref a1), .val (.int (2 : Int32))] [(.int (2 : Int32)), (.ref z_entrySlots), (.int (3 : Int32)), (.ref z_slots)])) rfl rfl (hb hby d3_20) _ ?_
          show Steps p.tables e below (T733.setTop (mkF m 21 #[.val (.ref a1), .val (.int (2 : Int32))] [(.int (x_entrySlots 2)), (.int (3 : Int32)), (.ref z_slots)])) _
          refine XS.imul X733.here hx rfl (hb hby d3_21) rfl ?_
          show Steps p.tables e below (T733.setTop (mkF m 22 #[.val (.ref a1), .val (.int (2 : Int32))] [(.int ((3 : Int32) * (x_entrySlots 2))), (.ref z_slots)])) _
          refine XS.lconst X733.here hx rfl (hb hby d3_22) ?_
          show Steps p.tables e below (T733.setTop (mkF m 23 #[.val (.ref a1), .val (.int (2 : Int32))] [(.long (0 : Int64)), (.int ((3 : Int32) * (x_entrySlots 2))), (.ref z_slots)])) _
          refine st736 _ ?_
          show Steps p.tables e below (T736.setTop (mkF m 24 #[.val (.ref a1), .val (.int (2 : Int32))] [])) _
          refine XS.aloadN X736.here hx rfl (hb hby d3_24) rfl rfl ?_
          show Steps p.tables e below (T736.setTop (mkF m 25 #[.val (.ref a1), .val (.int (2 : Int32))] [(.ref a1)])) _
          refine st746 _ ?_
          show Steps p.tables e below (T746.setTop (mkF m 28 #[.val (.ref a1), .val (.int (2 : Int32))] [.null])) _
          refine XS.ifnullYes X746.here hx rfl (pc0 := 28) (pc' := 43) rfl (hb hby d3_28) rfl (by decide) (by decide) ?_
          show Steps p.tables e below (T746.setTop (mkF m 43 #[.val (.ref a1), .val (.int (2 : Int32))] [])) _
          refine XS.iinc X746.here hx rfl (hb hby d3_43) rfl (l' := #[.val (.ref a1), .val (.int (3 : Int32))]) rfl ?_
          show Steps p.tables e below (T746.setTop (mkF m 46 #[.val (.ref a1), .val (.int (3 : Int32))] [])) _
          refine XS.goto X746.here hx rfl (pc0 := 46) (pc' := 2) rfl (hb hby d3_46) (by decide) (by decide) ?_
          show Steps p.tables e below (T746.setTop (mkF m 2 #[.val (.ref a1), .val (.int (3 : Int32))] [])) _
          refine XS.iloadN X746.here hx rfl (hb hby d3_2) rfl ?_
          show Steps p.tables e below (T746.setTop (mkF m 3 #[.val (.ref a1), .val (.int (3 : Int32))] [(.int (3 : Int32))])) _
          refine XS.aloadN X746.here hx rfl (hb hby d3_3) rfl rfl ?_
          show Steps p.tables e below (T746.setTop (mkF m 4 #[.val (.ref a1), .val (.int (3 : Int32))] [(.ref a1), (.int (3 : Int32))])) _
          refine st747 _ ?_
          show Steps p.tables e below (T747.setTop (mkF m 7 #[.val (.ref a1), .val (.int (3 : Int32))] [(.int z_size), (.int (3 : Int32))])) _
          refine XS.icmpYes X747.here hx rfl (pc0 := 7) (pc' := 49) rfl (hb hby d3_7) rfl (flt (own_le3 hsz)).2.1 (by decide) (by decide) ?_
          show Steps p.tables e below (T747.setTop (mkF m 49 #[.val (.ref a1), .val (.int (3 : Int32))] [])) _
          refine XS.aloadN X747.here hx rfl (hb hby d3_49) rfl rfl ?_
          show Steps p.tables e below (T747.setTop (mkF m 50 #[.val (.ref a1), .val (.int (3 : Int32))] [(.ref a1)])) _
          refine XS.iconst X747.here hx rfl (hb hby d3_50) ?_
          show Steps p.tables e below (T747.setTop (mkF m 51 #[.val (.ref a1), .val (.int (3 : Int32))] [(.int (0 : Int32)), (.ref a1)])) _
          refine st748 _ ?_
          show Steps p.tables e below (T748.setTop (mkF m 54 #[.val (.ref a1), .val (.int (3 : Int32))] [])) _
          exact X748.returnOut hx Bd.returns (hb hby d3_54) hr
        · show Q3 Z a1 z_slots z_entrySlots z_size k_slots x_slots k_entrySlots x_entrySlots h0 n0 _ T748.heap _
          rw [e748]
          exact ⟨rfl, N756, K757, f749, f750, f751, by rw [hf_size]; exact f752, f753, by rw [hf_slots]; exact f755, by rw [hf_entrySlots]; exact f754⟩
      · obtain ⟨T759, h759, X759, e759, W759, st759⟩ := putF X729 hx hZ hown (host := "") (Or.inl (hw _ (List.mem_of_getElem? (i := 20) rfl))) Via.refl e729 f722 f719 (Or.inl (hw _ (List.mem_of_getElem? (i := 21) rfl))) (hw _ (List.mem_of_getElem? (i := 1) rfl)) (ty := .int) (by decide) rfl rfl (g := (mkF m 51 #[.val (.ref a1), .val (.int (2 : Int32))] [(.int (0 : Int32)), (.ref a1)])) rfl rfl (hb hby d3_51)
        have f760 : Exa Z h759 a1 "com/example/ketproof/ketproof/MassTable" := f719.wr W759
        have f761 : Fld Z h759 a1 "com/example/ketproof/ketproof/MassTable" "slots" "[J" (.ref z_slots) := f720.other W759 (Or.inr (slot_ne (Or.inl (hw _ (List.mem_of_getElem? (i := 11) rfl))) (Or.inl (hw _ (List.mem_of_getElem? (i := 21) rfl))) (by decide) (t := (.array .long)) (t' := .int) (by decide) (by decide)))
        have f762 : Fld Z h759 a1 "com/example/ketproof/ketproof/MassTable" "entrySlots" "[I" (.ref z_entrySlots) := f721.other W759 (Or.inr (slot_ne (Or.inl (hw _ (List.mem_of_getElem? (i := 14) rfl))) (Or.inl (hw _ (List.mem_of_getElem? (i := 21) rfl))) (by decide) (t := (.array .int)) (t' := .int) (by decide) (by decide)))
        have f763 : Fld Z h759 a1 "com/example/ketproof/ketproof/MassTable" "size" "I" (.int (0 : Int32)) := f722.same W759
        have f764 : Fld Z h759 a1 "com/example/ketproof/ketproof/MassTable" "decimals" "[Ljava/math/BigDecimal;" .null := f723.other W759 (Or.inr (slot_ne (Or.inl (hw _ (List.mem_of_getElem? (i := 61) rfl))) (Or.inl (hw _ (List.mem_of_getElem? (i := 21) rfl))) (by decide) (t := (.array (.object "java/math/BigDecimal"))) (t' := .int) (by decide) (by decide)))
        have f765 : Arv Z h759 z_entrySlots k_entrySlots .int (16 : Int32) (own_E x_entrySlots) (.int (0 : Int32)) := f724.other W759 (Ne.symm ne_entrySlots)
        have f766 : Arv Z h759 z_slots k_slots .long (96 : Int32) (own_L (own_up (own_up x_slots (((3 : Int32) * (x_entrySlots 0))).toNatClampNeg (0 : Int64)) (((3 : Int32) * (x_entrySlots 1))).toNatClampNeg (0 : Int64))) (.long (0 : Int64)) := fa718.other W759 (Ne.symm ne_slots)
        have N767 := Fr.snoc X759 N725 g1
        have K768 : Keep h0 h759 [a1, z_slots, z_entrySlots] := K726.wr W759 (Or.inl (List.mem_of_getElem? (i := 0) rfl))
        have Z769 : n0 ≤ h759.size := Nat.le_trans Z727 (Keep.of_wr W759).1
        have hf_size : f3_size z_size x_slots x_entrySlots = (0 : Int32) := by
          unfold f3_size
          first | rfl | (rw [if_pos hc695, if_pos hc713, if_neg hc731])
        have hf_slots : f3_slots z_size x_slots x_entrySlots = (own_up (own_up x_slots (((3 : Int32) * (x_entrySlots 0))).toNatClampNeg (0 : Int64)) (((3 : Int32) * (x_entrySlots 1))).toNatClampNeg (0 : Int64)) := by
          unfold f3_slots
          first | rfl | (rw [if_pos hc695, if_pos hc713, if_neg hc731])
        have hf_entrySlots : f3_entrySlots z_size x_slots x_entrySlots = x_entrySlots := by
          unfold f3_entrySlots
          first | rfl | (rw [if_pos hc695, if_pos hc713, if_neg hc731])
        obtain ⟨fs, hr, hrun, hended, hW, hsame⟩ := X759.leave (v := none) (fun _ => rfl)
        refine ⟨_, _, S730 _ ?_, hrun, hended, _, _, rfl, ?_, ⟨_, rfl⟩, hW, hsame.mono (by decide) (by decide)⟩
        · refine XS.icmpYes X729.here hx rfl (pc0 := 7) (pc' := 49) rfl (hb hby d3_7) rfl (flt hc731).2.1 (by decide) (by decide) ?_
          show Steps p.tables e below (T729.setTop (mkF m 49 #[.val (.ref a1), .val (.int (2 : Int32))] [])) _
          refine XS.aloadN X729.here hx rfl (hb hby d3_49) rfl rfl ?_
          show Steps p.tables e below (T729.setTop (mkF m 50 #[.val (.ref a1), .val (.int (2 : Int32))] [(.ref a1)])) _
          refine XS.iconst X729.here hx rfl (hb hby d3_50) ?_
          show Steps p.tables e below (T729.setTop (mkF m 51 #[.val (.ref a1), .val (.int (2 : Int32))] [(.int (0 : Int32)), (.ref a1)])) _
          refine st759 _ ?_
          show Steps p.tables e below (T759.setTop (mkF m 54 #[.val (.ref a1), .val (.int (2 : Int32))] [])) _
          exact X759.returnOut hx Bd.returns (hb hby d3_54) hr
        · show Q3 Z a1 z_slots z_entrySlots z_size k_slots x_slots k_entrySlots x_entrySlots h0 n0 _ T759.heap _
          rw [e759]
          exact ⟨rfl, N767, K768, f760, f761, f762, by rw [hf_size]; exact f763, f764, by rw [hf_slots]; exact f766, by rw [hf_entrySlots]; exact f765⟩
    · obtain ⟨T770, h770, X770, e770, W770, st770⟩ := putF X711 hx hZ hown (host := "") (Or.inl (hw _ (List.mem_of_getElem? (i := 20) rfl))) Via.refl e711 f704 f701 (Or.inl (hw _ (List.mem_of_getElem? (i := 21) rfl))) (hw _ (List.mem_of_getElem? (i := 1) rfl)) (ty := .int) (by decide) rfl rfl (g := (mkF m 51 #[.val (.ref a1), .val (.int (1 : Int32))] [(.int (0 : Int32)), (.ref a1)])) rfl rfl (hb hby d3_51)
      have f771 : Exa Z h770 a1 "com/example/ketproof/ketproof/MassTable" := f701.wr W770
      have f772 : Fld Z h770 a1 "com/example/ketproof/ketproof/MassTable" "slots" "[J" (.ref z_slots) := f702.other W770 (Or.inr (slot_ne (Or.inl (hw _ (List.mem_of_getElem? (i := 11) rfl))) (Or.inl (hw _ (List.mem_of_getElem? (i := 21) rfl))) (by decide) (t := (.array .long)) (t' := .int) (by decide) (by decide)))
      have f773 : Fld Z h770 a1 "com/example/ketproof/ketproof/MassTable" "entrySlots" "[I" (.ref z_entrySlots) := f703.other W770 (Or.inr (slot_ne (Or.inl (hw _ (List.mem_of_getElem? (i := 14) rfl))) (Or.inl (hw _ (List.mem_of_getElem? (i := 21) rfl))) (by decide) (t := (.array .int)) (t' := .int) (by decide) (by decide)))
      have f774 : Fld Z h770 a1 "com/example/ketproof/ketproof/MassTable" "size" "I" (.int (0 : Int32)) := f704.same W770
      have f775 : Fld Z h770 a1 "com/example/ketproof/ketproof/MassTable" "decimals" "[Ljava/math/BigDecimal;" .null := f705.other W770 (Or.inr (slot_ne (Or.inl (hw _ (List.mem_of_getElem? (i := 61) rfl))) (Or.inl (hw _ (List.mem_of_getElem? (i := 21) rfl))) (by decide) (t := (.array (.object "java/math/BigDecimal"))) (t' := .int) (by decide) (by decide)))
      have f776 : Arv Z h770 z_entrySlots k_entrySlots .int (16 : Int32) (own_E x_entrySlots) (.int (0 : Int32)) := f706.other W770 (Ne.symm ne_entrySlots)
      have f777 : Arv Z h770 z_slots k_slots .long (96 : Int32) (own_L (own_up x_slots (((3 : Int32) * (x_entrySlots 0))).toNatClampNeg (0 : Int64))) (.long (0 : Int64)) := fa700.other W770 (Ne.symm ne_slots)
      have N778 := Fr.snoc X770 N707 g1
      have K779 : Keep h0 h770 [a1, z_slots, z_entrySlots] := K708.wr W770 (Or.inl (List.mem_of_getElem? (i := 0) rfl))
      have Z780 : n0 ≤ h770.size := Nat.le_trans Z709 (Keep.of_wr W770).1
      have hf_size : f3_size z_size x_slots x_entrySlots = (0 : Int32) := by
        unfold f3_size
        first | rfl | (rw [if_pos hc695, if_neg hc713])
      have hf_slots : f3_slots z_size x_slots x_entrySlots = (own_up x_slots (((3 : Int32) * (x_entrySlots 0))).toNatClampNeg (0 : Int64)) := by
        unfold f3_slots
        first | rfl | (rw [if_pos hc695, if_neg hc713])
      have hf_entrySlots : f3_entrySlots z_size x_slots x_entrySlots = x_entrySlots := by
        unfold f3_entrySlots
        first | rfl | (rw [if_pos hc695, if_neg hc713])
      obtain ⟨fs, hr, hrun, hended, hW, hsame⟩ := X770.leave (v := none) (fun _ => rfl)
      refine ⟨_, _, S712 _ ?_, hrun, hended, _, _, rfl, ?_, ⟨_, rfl⟩, hW, hsame.mono (by decide) (by decide)⟩
      · refine XS.icmpYes X711.here hx rfl (pc0 := 7) (pc' := 49) rfl (hb hby d3_7) rfl (flt hc713).2.1 (by decide) (by decide) ?_
        show Steps p.tables e below (T711.setTop (mkF m 49 #[.val (.ref a1), .val (.int (1 : Int32))] [])) _
        refine XS.aloadN X711.here hx rfl (hb hby d3_49) rfl rfl ?_
        show Steps p.tables e below (T711.setTop (mkF m 50 #[.val (.ref a1), .val (.int (1 : Int32))] [(.ref a1)])) _
        refine XS.iconst X711.here hx rfl (hb hby d3_50) ?_
        show Steps p.tables e below (T711.setTop (mkF m 51 #[.val (.ref a1), .val (.int (1 : Int32))] [(.int (0 : Int32)), (.ref a1)])) _
        refine st770 _ ?_
        show Steps p.tables e below (T770.setTop (mkF m 54 #[.val (.ref a1), .val (.int (1 : Int32))] [])) _
        exact X770.returnOut hx Bd.returns (hb hby d3_54) hr
      · show Q3 Z a1 z_slots z_entrySlots z_size k_slots x_slots k_entrySlots x_entrySlots h0 n0 _ T770.heap _
        rw [e770]
        exact ⟨rfl, N778, K779, f771, f772, f773, by rw [hf_size]; exact f774, f775, by rw [hf_slots]; exact f777, by rw [hf_entrySlots]; exact f776⟩
  · obtain ⟨T781, h781, X781, e781, W781, st781⟩ := putF X693 hx hZ hown (host := "") (Or.inl (hw _ (List.mem_of_getElem? (i := 20) rfl))) Via.refl e693 F_size_a1 E1 (Or.inl (hw _ (List.mem_of_getElem? (i := 21) rfl))) (hw _ (List.mem_of_getElem? (i := 1) rfl)) (ty := .int) (by decide) rfl rfl (g := (mkF m 51 #[.val (.ref a1), .val (.int (0 : Int32))] [(.int (0 : Int32)), (.ref a1)])) rfl rfl (hb hby d3_51)
    have f782 : Exa Z h781 a1 "com/example/ketproof/ketproof/MassTable" := E1.wr W781
    have f783 : Fld Z h781 a1 "com/example/ketproof/ketproof/MassTable" "slots" "[J" (.ref z_slots) := F_slots_a1.other W781 (Or.inr (slot_ne (Or.inl (hw _ (List.mem_of_getElem? (i := 11) rfl))) (Or.inl (hw _ (List.mem_of_getElem? (i := 21) rfl))) (by decide) (t := (.array .long)) (t' := .int) (by decide) (by decide)))
    have f784 : Fld Z h781 a1 "com/example/ketproof/ketproof/MassTable" "entrySlots" "[I" (.ref z_entrySlots) := F_entrySlots_a1.other W781 (Or.inr (slot_ne (Or.inl (hw _ (List.mem_of_getElem? (i := 14) rfl))) (Or.inl (hw _ (List.mem_of_getElem? (i := 21) rfl))) (by decide) (t := (.array .int)) (t' := .int) (by decide) (by decide)))
    have f785 : Fld Z h781 a1 "com/example/ketproof/ketproof/MassTable" "size" "I" (.int (0 : Int32)) := F_size_a1.same W781
    have f786 : Fld Z h781 a1 "com/example/ketproof/ketproof/MassTable" "decimals" "[Ljava/math/BigDecimal;" .null := F_decimals_a1.other W781 (Or.inr (slot_ne (Or.inl (hw _ (List.mem_of_getElem? (i := 61) rfl))) (Or.inl (hw _ (List.mem_of_getElem? (i := 21) rfl))) (by decide) (t := (.array (.object "java/math/BigDecimal"))) (t' := .int) (by decide) (by decide)))
    have f787 : Arv Z h781 z_slots k_slots .long (96 : Int32) (own_L x_slots) (.long (0 : Int64)) := V_slots.other W781 (Ne.symm ne_slots)
    have f788 : Arv Z h781 z_entrySlots k_entrySlots .int (16 : Int32) (own_E x_entrySlots) (.int (0 : Int32)) := V_entrySlots.other W781 (Ne.symm ne_entrySlots)
    have N789 := Fr.snoc X781 N0 g1
    have K790 : Keep h0 h781 [a1, z_slots, z_entrySlots] := (Keep.refl h0 [a1, z_slots, z_entrySlots]).wr W781 (Or.inl (List.mem_of_getElem? (i := 0) rfl))
    have Z791 : n0 ≤ h781.size := Nat.le_trans Z0 (Keep.of_wr W781).1
    have hf_size : f3_size z_size x_slots x_entrySlots = (0 : Int32) := by
      unfold f3_size
      first | rfl | (rw [if_neg hc695])
    have hf_slots : f3_slots z_size x_slots x_entrySlots = x_slots := by
      unfold f3_slots
      first | rfl | (rw [if_neg hc695])
    have hf_entrySlots : f3_entrySlots z_size x_slots x_entrySlots = x_entrySlots := by
      unfold f3_entrySlots
      first | rfl | (rw [if_neg hc695])
    obtain ⟨fs, hr, hrun, hended, hW, hsame⟩ := X781.leave (v := none) (fun _ => rfl)
    refine ⟨_, _, S694 _ ?_, hrun, hended, _, _, rfl, ?_, ⟨_, rfl⟩, hW, hsame.mono (by decide) (by decide)⟩
    · refine XS.icmpYes X693.here hx rfl (pc0 := 7) (pc' := 49) rfl (hb hby d3_7) rfl (flt hc695).2.1 (by decide) (by decide) ?_
      show Steps p.tables e below (T693.setTop (mkF m 49 #[.val (.ref a1), .val (.int (0 : Int32))] [])) _
      refine XS.aloadN X693.here hx rfl (hb hby d3_49) rfl rfl ?_
      show Steps p.tables e below (T693.setTop (mkF m 50 #[.val (.ref a1), .val (.int (0 : Int32))] [(.ref a1)])) _
      refine XS.iconst X693.here hx rfl (hb hby d3_50) ?_
      show Steps p.tables e below (T693.setTop (mkF m 51 #[.val (.ref a1), .val (.int (0 : Int32))] [(.int (0 : Int32)), (.ref a1)])) _
      refine st781 _ ?_
      show Steps p.tables e below (T781.setTop (mkF m 54 #[.val (.ref a1), .val (.int (0 : Int32))] [])) _
      exact X781.returnOut hx Bd.returns (hb hby d3_54) hr
    · show Q3 Z a1 z_slots z_entrySlots z_size k_slots x_slots k_entrySlots x_entrySlots h0 n0 _ T781.heap _
      rw [e781]
      exact ⟨rfl, N789, K790, f782, f783, f784, by rw [hf_size]; exact f785, f786, by rw [hf_slots]; exact f787, by rw [hf_entrySlots]; exact f788⟩
def f7 (zz : Int32) : Int32 := zz
theorem d7_0 : decode prog_63_method_5_code 0 = .ok (.aload_n 0, 1) := by decide +kernel
theorem d7_1 : decode prog_63_method_5_code 1 = .ok (.getfield 45, 3) := by decide +kernel
theorem d7_4 : decode prog_63_method_5_code 4 = .ok (.ireturn, 1) := by decide +kernel
theorem ef_7 (m : MethodId) (x0 : Addr) : entryFrame m #[(.ref x0)] 1 = mkF m 0 #[.val (.ref x0)] [] := by first | (simp [entryFrame, mkF, argsToLocals, Value.category]; done) | rfl
def Q7 (Z : State) (a1 : Addr) (zz : Int32) (h0 : Heap) (n0 : Nat) (v : Option Value) (h : Heap) (L : List Loc) : Prop := v = some (.int (f7 zz)) ∧ Fr n0 L ∧ h = h0
set_option maxRecDepth 65536 in
set_option maxHeartbeats 40000000 in
theorem rm7 (l : Launch) (Z : State) (a0 : Array Value) (hw : ∀ d ∈ tables_1, d.before a0 Z = true) (ws : List Jvm.Cond) (a1 : Addr) (zz : Int32) (h0 : Heap) (n0 : Nat) (Z0 : n0 ≤ h0.size) (F_size_a1 : Fld Z h0 a1 "com/example/ketproof/ketproof/MassTable" "size" "I" (.int zz)) :
    MetFree l (⟨"com/example/ketproof/ketproof/MassTable", "size", "()I"⟩ : MethodName) (head1 (Jvm.Cond.code (⟨"com/example/ketproof/ketproof/MassTable", "size", "()I"⟩ : MethodName) prog_63_method_5_code 1 (some .int) :: ws) ({ frames := 0, cells := 0, slots := 0, locals := 0 } : Room)) (fun a U => a = #[(.ref a1)] ∧ Z.Warmed39 U.vm ∧ U.heap = h0) (fun _ _ _ _ _ => True) (fun _ U o U' => ∃ v L, o = .returned v ∧ Q7 Z a1 zz h0 n0 v U'.heap L ∧ FrameEnd U o U' L ({ frames := 0, cells := 0, slots := 0, locals := 0 } : Room).cells ({ frames := 0, cells := 0, slots := 0, locals := 0 } : Room).slots) := by
  refine MetFree.of_bodySF (plainFor_of_name pn_0) hisR ?_
  intro p e s m args below meth c s₁ Bd hml0 hP hK
  obtain ⟨rfl, hZ, hh⟩ := hP
  have hx := Bd.exec
  have hby := Bd.bytes
  have hml : c.maxLocals = 1 := hml0
  have hown : s.vm.findClass "com/example/ketproof/ketproof/MassTable" = some m.cls := findClass_of_methodNamed Bd.named
  have hnm := (name_of_methodNamed Bd.named Bd.method).1
  have X0 : Stand p l e ({ frames := 0, cells := 0, slots := 0, locals := 0 } : Room) s m #[(.ref a1)] below meth c s₁ [] 0 0 := Stand.of_body Bd
  have e0 : s₁.heap = h0 := by rw [← hh, Bd.state]; rfl
  have N0 := Fr.nil n0
  have pre0 : ∀ t, Steps p.tables e below (s₁.setTop (mkF m 0 #[.val (.ref a1)] [])) t → Steps p.tables e below (s₁.setTop (entryFrame m #[(.ref a1)] 1)) t := fun t k => castTop (ef_7 m a1) k
  obtain ⟨T794, X794, e794, st794⟩ := getF X0 hx hZ hown (host := "") (Or.inl (hw _ (List.mem_of_getElem? (i := 20) rfl))) Via.refl e0 F_size_a1 (g := (mkF m 1 #[.val (.ref a1)] [(.ref a1)])) rfl rfl (hb hby d7_1)
  have S795 : ∀ t, Steps p.tables e below (T794.setTop (mkF m 4 #[.val (.ref a1)] [(.int zz)])) t → Steps p.tables e below (s₁.setTop (entryFrame m #[(.ref a1)] 1)) t := by
    intro t k
    refine pre0 t ?_
    refine XS.aloadN X0.here hx rfl (hb hby d7_0) rfl rfl ?_
    show Steps p.tables e below (s₁.setTop (mkF m 1 #[.val (.ref a1)] [(.ref a1)])) _
    refine st794 _ ?_
    show Steps p.tables e below (T794.setTop (mkF m 4 #[.val (.ref a1)] [(.int zz)])) _
    exact k
  have hf : f7 zz = zz := by
    unfold f7
    rfl
  obtain ⟨fs, hr, hrun, hended, hW, hsame⟩ := X794.leave (v := some (.int zz)) (fun h => by rw [Bd.returns] at h; cases h)
  refine ⟨_, _, S795 _ ?_, hrun, hended, _, _, rfl, ?_, ⟨_, rfl⟩, hW, hsame.mono (by decide) (by decide)⟩
  · exact retOut X794 hx Bd.returns rfl (Or.inl ⟨rfl, Or.inl rfl, _, rfl⟩) (hb hby d7_4) hr
  · show Q7 Z a1 zz h0 n0 _ T794.heap _
    rw [e794]
    exact ⟨by rw [hf], N0, rfl⟩
theorem d10_0 : decode prog_63_method_8_code 0 = .ok (.aload_n 0, 1) := by decide +kernel
theorem d10_1 : decode prog_63_method_8_code 1 = .ok (.getfield 52, 3) := by decide +kernel
theorem d10_4 : decode prog_63_method_8_code 4 = .ok (.ifnonnull 7, 3) := by decide +kernel
theorem d10_7 : decode prog_63_method_8_code 7 = .ok (.aconst_null, 1) := by decide +kernel
theorem d10_8 : decode prog_63_method_8_code 8 = .ok (.goto 14, 3) := by decide +kernel
theorem d10_11 : decode prog_63_method_8_code 11 = .ok (.aload_n 0, 1) := by decide +kernel
theorem d10_12 : decode prog_63_method_8_code 12 = .ok (.getfield 52, 3) := by decide +kernel
theorem d10_15 : decode prog_63_method_8_code 15 = .ok (.aload_n 0, 1) := by decide +kernel
theorem d10_16 : decode prog_63_method_8_code 16 = .ok (.getfield 13, 3) := by decide +kernel
theorem d10_19 : decode prog_63_method_8_code 19 = .ok (.iload_n 1, 1) := by decide +kernel
theorem d10_20 : decode prog_63_method_8_code 20 = .ok (.iaload, 1) := by decide +kernel
theorem d10_21 : decode prog_63_method_8_code 21 = .ok (.aaload, 1) := by decide +kernel
theorem d10_22 : decode prog_63_method_8_code 22 = .ok (.areturn, 1) := by decide +kernel
theorem ef_10 (m : MethodId) (x0 : Addr) (x1 : Int32) : entryFrame m #[(.ref x0), (.int x1)] 2 = mkF m 0 #[.val (.ref x0), .val (.int x1)] [] := by first | (simp [entryFrame, mkF, argsToLocals, Value.category]; done) | rfl
def Q10 (Z : State) (a1 : Addr) (ix : Int32) (h0 : Heap) (n0 : Nat) (v : Option Value) (h : Heap) (L : List Loc) : Prop := v = some .null ∧ Fr n0 L ∧ h = h0
set_option maxRecDepth 65536 in
set_option maxHeartbeats 40000000 in
theorem rm10 (l : Launch) (Z : State) (a0 : Array Value) (hw : ∀ d ∈ tables_1, d.before a0 Z = true) (ws : List Jvm.Cond) (a1 : Addr) (ix : Int32) (h0 : Heap) (n0 : Nat) (Z0 : n0 ≤ h0.size) (F_decimals_a1 : Fld Z h0 a1 "com/example/ketproof/ketproof/MassTable" "decimals" "[Ljava/math/BigDecimal;" .null) :
    MetFree l (⟨"com/example/ketproof/ketproof/MassTable", "decimal", "(I)Ljava/math/BigDecimal;"⟩ : MethodName) (head1 (Jvm.Cond.code (⟨"com/example/ketproof/ketproof/MassTable", "decimal", "(I)Ljava/math/BigDecimal;"⟩ : MethodName) prog_63_method_8_code 2 (some (.object "java/math/BigDecimal")) :: ws) ({ frames := 0, cells := 0, slots := 0, locals := 0 } : Room)) (fun a U => a = #[(.ref a1), (.int ix)] ∧ Z.Warmed39 U.vm ∧ U.heap = h0) (fun _ _ _ _ _ => True) (fun _ U o U' => ∃ v L, o = .returned v ∧ Q10 Z a1 ix h0 n0 v U'.heap L ∧ FrameEnd U o U' L ({ frames := 0, cells := 0, slots := 0, locals := 0 } : Room).cells ({ frames := 0, cells := 0, slots := 0, locals := 0 } : Room).slots) := by
  refine MetFree.of_bodySF (plainFor_of_name pn_0) hisR ?_
  intro p e s m args below meth c s₁ Bd hml0 hP hK
  obtain ⟨rfl, hZ, hh⟩ := hP
  have hx := Bd.exec
  have hby := Bd.bytes
  have hml : c.maxLocals = 2 := hml0
  have hown : s.vm.findClass "com/example/ketproof/ketproof/MassTable" = some m.cls := findClass_of_methodNamed Bd.named
  have hnm := (name_of_methodNamed Bd.named Bd.method).1
  have X0 : Stand p l e ({ frames := 0, cells := 0, slots := 0, locals := 0 } : Room) s m #[(.ref a1), (.int ix)] below meth c s₁ [] 0 0 := Stand.of_body Bd
  have e0 : s₁.heap = h0 := by rw [← hh, Bd.state]; rfl
  have N0 := Fr.nil n0
  have pre0 : ∀ t, Steps p.tables e below (s₁.setTop (mkF m 0 #[.val (.ref a1), .val (.int ix)] [])) t → Steps p.tables e below (s₁.setTop (entryFrame m #[(.ref a1), (.int ix)] 2)) t := fun t k => castTop (ef_10 m a1 ix) k
  obtain ⟨T796, X796, e796, st796⟩ := getF X0 hx hZ hown (host := "") (Or.inl (hw _ (List.mem_of_getElem? (i := 60) rfl))) Via.refl e0 F_decimals_a1 (g := (mkF m 1 #[.val (.ref a1), .val (.int ix)] [(.ref a1)])) rfl rfl (hb hby d10_1)
  have S797 : ∀ t, Steps p.tables e below (T796.setTop (mkF m 22 #[.val (.ref a1), .val (.int ix)] [.null])) t → Steps p.tables e below (s₁.setTop (entryFrame m #[(.ref a1), (.int ix)] 2)) t := by
    intro t k
    refine pre0 t ?_
    refine XS.aloadN X0.here hx rfl (hb hby d10_0) rfl rfl ?_
    show Steps p.tables e below (s₁.setTop (mkF m 1 #[.val (.ref a1), .val (.int ix)] [(.ref a1)])) _
    refine st796 _ ?_
    show Steps p.tables e below (T796.setTop (mkF m 4 #[.val (.ref a1), .val (.int ix)] [.null])) _
    refine XS.ifnonnullNo X796.here hx rfl (hb hby d10_4) rfl ?_
    show Steps p.tables e below (T796.setTop (mkF m 7 #[.val (.ref a1), .val (.int ix)] [])) _
    refine XS.aconstNull X796.here hx rfl (hb hby d10_7) ?_
    show Steps p.tables e below (T796.setTop (mkF m 8 #[.val (.ref a1), .val (.int ix)] [.null])) _
    refine XS.goto X796.here hx rfl (pc0 := 8) (pc' := 22) rfl (hb hby d10_8) (by decide) (by decide) ?_
    show Steps p.tables e below (T796.setTop (mkF m 22 #[.val (.ref a1), .val (.int ix)] [.null])) _
    exact k
  obtain ⟨fs, hr, hrun, hended, hW, hsame⟩ := X796.leave (v := some .null) (fun h => by rw [Bd.returns] at h; cases h)
  refine ⟨_, _, S797 _ ?_, hrun, hended, _, _, rfl, ?_, ⟨_, rfl⟩, hW, hsame.mono (by decide) (by decide)⟩
  · exact retOut X796 hx Bd.returns rfl (Or.inr (Or.inr (Or.inr (Or.inr ⟨rfl, rfl, rfl⟩)))) (hb hby d10_22) hr
  · show Q10 Z a1 ix h0 n0 _ T796.heap _
    rw [e796]
    exact ⟨rfl, N0, rfl⟩
def f8 (ix : Int32) (xS : (Nat → Int64)) (xE : (Nat → Int32)) : Int32 := ((xS (((3 : Int32) * (xE (ix).toNatClampNeg))).toNatClampNeg) - (1 : Int64)).toInt32
theorem d8_0 : decode prog_63_method_6_code 0 = .ok (.aload_n 0, 1) := by decide +kernel
theorem d8_1 : decode prog_63_method_6_code 1 = .ok (.getfield 9, 3) := by decide +kernel
theorem d8_4 : decode prog_63_method_6_code 4 = .ok (.iconst 3, 1) := by decide +kernel
theorem d8_5 : decode prog_63_method_6_code 5 = .ok (.aload_n 0, 1) := by decide +kernel
theorem d8_6 : decode prog_63_method_6_code 6 = .ok (.getfield 13, 3) := by decide +kernel
theorem d8_9 : decode prog_63_method_6_code 9 = .ok (.iload_n 1, 1) := by decide +kernel
theorem d8_10 : decode prog_63_method_6_code 10 = .ok (.iaload, 1) := by decide +kernel
theorem d8_11 : decode prog_63_method_6_code 11 = .ok (.imul, 1) := by decide +kernel
theorem d8_12 : decode prog_63_method_6_code 12 = .ok (.laload, 1) := by decide +kernel
theorem d8_13 : decode prog_63_method_6_code 13 = .ok (.lconst 1, 1) := by decide +kernel
theorem d8_14 : decode prog_63_method_6_code 14 = .ok (.lsub, 1) := by decide +kernel
theorem d8_15 : decode prog_63_method_6_code 15 = .ok (.l2i, 1) := by decide +kernel
theorem d8_16 : decode prog_63_method_6_code 16 = .ok (.ireturn, 1) := by decide +kernel
theorem ef_8 (m : MethodId) (x0 : Addr) (x1 : Int32) : entryFrame m #[(.ref x0), (.int x1)] 2 = mkF m 0 #[.val (.ref x0), .val (.int x1)] [] := by first | (simp [entryFrame, mkF, argsToLocals, Value.category]; done) | rfl
def Q8 (Z : State) (a1 : Addr) (ix : Int32) (zs : Addr) (ze : Addr) (kS : ClassId) (xS : (Nat → Int64)) (kE : ClassId) (xE : (Nat → Int32)) (h0 : Heap) (n0 : Nat) (v : Option Value) (h : Heap) (L : List Loc) : Prop := v = some (.int (f8 ix xS xE)) ∧ Fr n0 L ∧ h = h0
set_option maxRecDepth 65536 in
set_option maxHeartbeats 40000000 in
theorem rm8 (l : Launch) (Z : State) (a0 : Array Value) (hw : ∀ d ∈ tables_1, d.before a0 Z = true) (ws : List Jvm.Cond) (a1 : Addr) (ix : Int32) (zs : Addr) (ze : Addr) (kS : ClassId) (xS : (Nat → Int64)) (kE : ClassId) (xE : (Nat → Int32)) (h0 : Heap) (n0 : Nat) (Z0 : n0 ≤ h0.size) (F_slots_a1 : Fld Z h0 a1 "com/example/ketproof/ketproof/MassTable" "slots" "[J" (.ref zs)) (F_entrySlots_a1 : Fld Z h0 a1 "com/example/ketproof/ketproof/MassTable" "entrySlots" "[I" (.ref ze)) (VS : Arv Z h0 zs kS .long (96 : Int32) (own_L xS) (.long (0 : Int64))) (VE : Arv Z h0 ze kE .int (16 : Int32) (own_E xE) (.int (0 : Int32))) (FD : Fld Z h0 a1 "com/example/ketproof/ketproof/MassTable" "decimals" "[Ljava/math/BigDecimal;" .null) (hi : ¬ (ix < 0) ∧ ix < (16 : Int32)) (hbd : 0 ≤ (xE (ix).toNatClampNeg).toInt ∧ (xE (ix).toNatClampNeg).toInt < 32) :
    MetFree l (⟨"com/example/ketproof/ketproof/MassTable", "state", "(I)I"⟩ : MethodName) (head1 (Jvm.Cond.code (⟨"com/example/ketproof/ketproof/MassTable", "state", "(I)I"⟩ : MethodName) prog_63_method_6_code 2 (some .int) :: ws) ({ frames := 0, cells := 0, slots := 0, locals := 0 } : Room)) (fun a U => a = #[(.ref a1), (.int ix)] ∧ Z.Warmed39 U.vm ∧ U.heap = h0) (fun _ _ _ _ _ => True) (fun _ U o U' => ∃ v L, o = .returned v ∧ Q8 Z a1 ix zs ze kS xS kE xE h0 n0 v U'.heap L ∧ FrameEnd U o U' L ({ frames := 0, cells := 0, slots := 0, locals := 0 } : Room).cells ({ frames := 0, cells := 0, slots := 0, locals := 0 } : Room).slots) := by
  refine MetFree.of_bodySF (plainFor_of_name pn_0) hisR ?_
  intro p e s m args below meth c s₁ Bd hml0 hP hK
  obtain ⟨rfl, hZ, hh⟩ := hP
  have hx := Bd.exec
  have hby := Bd.bytes
  have hml : c.maxLocals = 2 := hml0
  have hown : s.vm.findClass "com/example/ketproof/ketproof/MassTable" = some m.cls := findClass_of_methodNamed Bd.named
  have hnm := (name_of_methodNamed Bd.named Bd.method).1
  have X0 : Stand p l e ({ frames := 0, cells := 0, slots := 0, locals := 0 } : Room) s m #[(.ref a1), (.int ix)] below meth c s₁ [] 0 0 := Stand.of_body Bd
  have e0 : s₁.heap = h0 := by rw [← hh, Bd.state]; rfl
  have N0 := Fr.nil n0
  have pre0 : ∀ t, Steps p.tables e below (s₁.setTop (mkF m 0 #[.val (.ref a1), .val (.int ix)] [])) t → Steps p.tables e below (s₁.setTop (entryFrame m #[(.ref a1), (.int ix)] 2)) t := fun t k => castTop (ef_8 m a1 ix) k
  obtain ⟨T803, X803, e803, st803⟩ := getF X0 hx hZ hown (host := "") (Or.inl (hw _ (List.mem_of_getElem? (i := 10) rfl))) Via.refl e0 F_slots_a1 (g := (mkF m 1 #[.val (.ref a1), .val (.int ix)] [(.ref a1)])) rfl rfl (hb hby d8_1)
  obtain ⟨T804, X804, e804, st804⟩ := getF X803 hx hZ hown (host := "") (Or.inl (hw _ (List.mem_of_getElem? (i := 13) rfl))) Via.refl e803 F_entrySlots_a1 (g := (mkF m 6 #[.val (.ref a1), .val (.int ix)] [(.ref a1), (.int (3 : Int32)), (.ref zs)])) rfl rfl (hb hby d8_6)
  obtain ⟨cl805, Ar805, qa805, Sa805, Na805, Ha805, Ga805⟩ := id VE
  have hin805 : ¬ (ix < 0 ∨ cl805.slots.size ≤ (ix).toNatClampNeg) := inb_of Sa805 hi
  obtain ⟨cl806, Ar806, qa806, Sa806, Na806, Ha806, Ga806⟩ := id VS
  have hin806 : ¬ (((3 : Int32) * (xE (ix).toNatClampNeg)) < 0 ∨ cl806.slots.size ≤ (((3 : Int32) * (xE (ix).toNatClampNeg))).toNatClampNeg) := inb_of Sa806 (own_b0 hbd)
  have S807 : ∀ t, Steps p.tables e below (T804.setTop (mkF m 16 #[.val (.ref a1), .val (.int ix)] [(.int ((xS (((3 : Int32) * (xE (ix).toNatClampNeg))).toNatClampNeg) - (1 : Int64)).toInt32)])) t → Steps p.tables e below (s₁.setTop (entryFrame m #[(.ref a1), (.int ix)] 2)) t := by
    intro t k
    refine pre0 t ?_
    refine XS.aloadN X0.here hx rfl (hb hby d8_0) rfl rfl ?_
    show Steps p.tables e below (s₁.setTop (mkF m 1 #[.val (.ref a1), .val (.int ix)] [(.ref a1)])) _
    refine st803 _ ?_
    show Steps p.tables e below (T803.setTop (mkF m 4 #[.val (.ref a1), .val (.int ix)] [(.ref zs)])) _
    refine XS.iconst X803.here hx rfl (hb hby d8_4) ?_
    show Steps p.tables e below (T803.setTop (mkF m 5 #[.val (.ref a1), .val (.int ix)] [(.int (3 : Int32)), (.ref zs)])) _
    refine XS.aloadN X803.here hx rfl (hb hby d8_5) rfl rfl ?_
    show Steps p.tables e below (T803.setTop (mkF m 6 #[.val (.ref a1), .val (.int ix)] [(.ref a1), (.int (3 : Int32)), (.ref zs)])) _
    refine st804 _ ?_
    show Steps p.tables e below (T804.setTop (mkF m 9 #[.val (.ref a1), .val (.int ix)] [(.ref ze), (.int (3 : Int32)), (.ref zs)])) _
    refine XS.iloadN X804.here hx rfl (hb hby d8_9) rfl ?_
    show Steps p.tables e below (T804.setTop (mkF m 10 #[.val (.ref a1), .val (.int ix)] [(.int ix), (.ref ze), (.int (3 : Int32)), (.ref zs)])) _
    refine X804.iaload hx (j := ix) (v := (.int (xE (ix).toNatClampNeg))) (by rw [e804]; exact Ar805.1) (State.isArrayOf_alike hZ.alike Ar805.2.1) Ar805.2.2 hin805 (Has.at Ha805 hin805 (own_rdE xE hi)) (g := (mkF m 10 #[.val (.ref a1), .val (.int ix)] [(.int ix), (.ref ze), (.int (3 : Int32)), (.ref zs)])) rfl rfl (hb hby d8_10) _ ?_
    show Steps p.tables e below (T804.setTop (mkF m 11 #[.val (.ref a1), .val (.int ix)] [(.int (xE (ix).toNatClampNeg)), (.int (3 : Int32)), (.ref zs)])) _
    refine XS.imul X804.here hx rfl (hb hby d8_11) rfl ?_
    show Steps p.tables e below (T804.setTop (mkF m 12 #[.val (.ref a1), .val (.int ix)] [(.int ((3 : Int32) * (xE (ix).toNatClampNeg))), (.ref zs)])) _
    refine X804.laload hx (j := ((3 : Int32) * (xE (ix).toNatClampNeg))) (v := (.long (xS (((3 : Int32) * (xE (ix).toNatClampNeg))).toNatClampNeg))) (by rw [e804]; exact Ar806.1) (State.isArrayOf_alike hZ.alike Ar806.2.1) Ar806.2.2 hin806 (Has.at Ha806 hin806 (own_rd xS (own_b0 hbd))) (g := (mkF m 12 #[.val (.ref a1), .val (.int ix)] [(.int ((3 : Int32) * (xE (ix).toNatClampNeg))), (.ref zs)])) rfl rfl (hb hby d8_12) _ ?_
    show Steps p.tables e below (T804.setTop (mkF m 13 #[.val (.ref a1), .val (.int ix)] [(.long (xS (((3 : Int32) * (xE (ix).toNatClampNeg))).toNatClampNeg))])) _
    refine XS.lconst X804.here hx rfl (hb hby d8_13) ?_
    show Steps p.tables e below (T804.setTop (mkF m 14 #[.val (.ref a1), .val (.int ix)] [(.long (1 : Int64)), (.long (xS (((3 : Int32) * (xE (ix).toNatClampNeg))).toNatClampNeg))])) _
    refine XS.lsub X804.here hx rfl (hb hby d8_14) rfl ?_
    show Steps p.tables e below (T804.setTop (mkF m 15 #[.val (.ref a1), .val (.int ix)] [(.long ((xS (((3 : Int32) * (xE (ix).toNatClampNeg))).toNatClampNeg) - (1 : Int64)))])) _
    refine XS.l2i X804.here hx rfl (hb hby d8_15) rfl ?_
    show Steps p.tables e below (T804.setTop (mkF m 16 #[.val (.ref a1), .val (.int ix)] [(.int ((xS (((3 : Int32) * (xE (ix).toNatClampNeg))).toNatClampNeg) - (1 : Int64)).toInt32)])) _
    exact k
  have hf : f8 ix xS xE = ((xS (((3 : Int32) * (xE (ix).toNatClampNeg))).toNatClampNeg) - (1 : Int64)).toInt32 := by
    unfold f8
    rfl
  obtain ⟨fs, hr, hrun, hended, hW, hsame⟩ := X804.leave (v := some (.int ((xS (((3 : Int32) * (xE (ix).toNatClampNeg))).toNatClampNeg) - (1 : Int64)).toInt32)) (fun h => by rw [Bd.returns] at h; cases h)
  refine ⟨_, _, S807 _ ?_, hrun, hended, _, _, rfl, ?_, ⟨_, rfl⟩, hW, hsame.mono (by decide) (by decide)⟩
  · exact retOut X804 hx Bd.returns rfl (Or.inl ⟨rfl, Or.inl rfl, _, rfl⟩) (hb hby d8_16) hr
  · show Q8 Z a1 ix zs ze kS xS kE xE h0 n0 _ T804.heap _
    rw [e804]
    exact ⟨by rw [hf], N0, rfl⟩
theorem pd_3 : parseMethodDescriptor "(I)Ljava/math/BigDecimal;" = some ⟨[.int], some (.object "java/math/BigDecimal")⟩ := by decide +kernel
def f9 (ix : Int32) (xS : (Nat → Int64)) (xE : (Nat → Int32)) : UInt64 := (((xS ((((3 : Int32) * (xE (ix).toNatClampNeg)) + (1 : Int32))).toNatClampNeg)).toUInt64)
theorem d9_0 : decode prog_63_method_7_code 0 = .ok (.aload_n 0, 1) := by decide +kernel
theorem d9_1 : decode prog_63_method_7_code 1 = .ok (.iload_n 1, 1) := by decide +kernel
theorem d9_2 : decode prog_63_method_7_code 2 = .ok (.invokevirtual 56, 3) := by decide +kernel
theorem d9_5 : decode prog_63_method_7_code 5 = .ok (.astore_n 2, 1) := by decide +kernel
theorem d9_6 : decode prog_63_method_7_code 6 = .ok (.aload_n 2, 1) := by decide +kernel
theorem d9_7 : decode prog_63_method_7_code 7 = .ok (.ifnull 10, 3) := by decide +kernel
theorem d9_10 : decode prog_63_method_7_code 10 = .ok (.aload_n 2, 1) := by decide +kernel
theorem d9_11 : decode prog_63_method_7_code 11 = .ok (.invokevirtual 60, 3) := by decide +kernel
theorem d9_14 : decode prog_63_method_7_code 14 = .ok (.goto 21, 3) := by decide +kernel
theorem d9_17 : decode prog_63_method_7_code 17 = .ok (.aload_n 0, 1) := by decide +kernel
theorem d9_18 : decode prog_63_method_7_code 18 = .ok (.getfield 9, 3) := by decide +kernel
theorem d9_21 : decode prog_63_method_7_code 21 = .ok (.iconst 3, 1) := by decide +kernel
theorem d9_22 : decode prog_63_method_7_code 22 = .ok (.aload_n 0, 1) := by decide +kernel
theorem d9_23 : decode prog_63_method_7_code 23 = .ok (.getfield 13, 3) := by decide +kernel
theorem d9_26 : decode prog_63_method_7_code 26 = .ok (.iload_n 1, 1) := by decide +kernel
theorem d9_27 : decode prog_63_method_7_code 27 = .ok (.iaload, 1) := by decide +kernel
theorem d9_28 : decode prog_63_method_7_code 28 = .ok (.imul, 1) := by decide +kernel
theorem d9_29 : decode prog_63_method_7_code 29 = .ok (.iconst 1, 1) := by decide +kernel
theorem d9_30 : decode prog_63_method_7_code 30 = .ok (.iadd, 1) := by decide +kernel
theorem d9_31 : decode prog_63_method_7_code 31 = .ok (.laload, 1) := by decide +kernel
theorem d9_32 : decode prog_63_method_7_code 32 = .ok (.invokestatic 41, 3) := by decide +kernel
theorem d9_35 : decode prog_63_method_7_code 35 = .ok (.dreturn, 1) := by decide +kernel
theorem ef_9 (m : MethodId) (x0 : Addr) (x1 : Int32) : entryFrame m #[(.ref x0), (.int x1)] 3 = mkF m 0 #[.val (.ref x0), .val (.int x1), .unset] [] := by first | (simp [entryFrame, mkF, argsToLocals, Value.category]; done) | rfl
def Q9 (Z : State) (a1 : Addr) (ix : Int32) (zs : Addr) (ze : Addr) (kS : ClassId) (xS : (Nat → Int64)) (kE : ClassId) (xE : (Nat → Int32)) (h0 : Heap) (n0 : Nat) (v : Option Value) (h : Heap) (L : List Loc) : Prop := v = some (.double (f9 ix xS xE)) ∧ Fr n0 L ∧ h = h0
set_option maxRecDepth 65536 in
set_option maxHeartbeats 40000000 in
theorem rm9 (l : Launch) (Z : State) (a0 : Array Value) (hw : ∀ d ∈ tables_1, d.before a0 Z = true) (ws : List Jvm.Cond) (a1 : Addr) (ix : Int32) (zs : Addr) (ze : Addr) (kS : ClassId) (xS : (Nat → Int64)) (kE : ClassId) (xE : (Nat → Int32)) (h0 : Heap) (n0 : Nat) (Z0 : n0 ≤ h0.size) (F_slots_a1 : Fld Z h0 a1 "com/example/ketproof/ketproof/MassTable" "slots" "[J" (.ref zs)) (F_entrySlots_a1 : Fld Z h0 a1 "com/example/ketproof/ketproof/MassTable" "entrySlots" "[I" (.ref ze)) (E_a1 : Exa Z h0 a1 "com/example/ketproof/ketproof/MassTable") (VS : Arv Z h0 zs kS .long (96 : Int32) (own_L xS) (.long (0 : Int64))) (VE : Arv Z h0 ze kE .int (16 : Int32) (own_E xE) (.int (0 : Int32))) (FD : Fld Z h0 a1 "com/example/ketproof/ketproof/MassTable" "decimals" "[Ljava/math/BigDecimal;" .null) (hi : ¬ (ix < 0) ∧ ix < (16 : Int32)) (hbd : 0 ≤ (xE (ix).toNatClampNeg).toInt ∧ (xE (ix).toNatClampNeg).toInt < 32) (hv : Jvm.Free.Fl.NoNaN64 (xS (((3 : Int32) * (xE (ix).toNatClampNeg)) + (1 : Int32)).toNatClampNeg).toUInt64) :
    MetFree l (⟨"com/example/ketproof/ketproof/MassTable", "value", "(I)D"⟩ : MethodName) (head1 (Jvm.Cond.code (⟨"com/example/ketproof/ketproof/MassTable", "value", "(I)D"⟩ : MethodName) prog_63_method_7_code 3 (some .double) :: ws) ({ frames := 1, cells := 0, slots := 0, locals := 20 } : Room)) (fun a U => a = #[(.ref a1), (.int ix)] ∧ Z.Warmed39 U.vm ∧ U.heap = h0) (fun _ _ _ _ _ => True) (fun _ U o U' => ∃ v L, o = .returned v ∧ Q9 Z a1 ix zs ze kS xS kE xE h0 n0 v U'.heap L ∧ FrameEnd U o U' L ({ frames := 1, cells := 0, slots := 0, locals := 20 } : Room).cells ({ frames := 1, cells := 0, slots := 0, locals := 20 } : Room).slots) := by
  refine MetFree.of_bodySF (plainFor_of_name pn_0) hisR ?_
  intro p e s m args below meth c s₁ Bd hml0 hP hK
  obtain ⟨rfl, hZ, hh⟩ := hP
  have hx := Bd.exec
  have hby := Bd.bytes
  have hml : c.maxLocals = 3 := hml0
  have hown : s.vm.findClass "com/example/ketproof/ketproof/MassTable" = some m.cls := findClass_of_methodNamed Bd.named
  have hnm := (name_of_methodNamed Bd.named Bd.method).1
  have X0 : Stand p l e ({ frames := 1, cells := 0, slots := 0, locals := 20 } : Room) s m #[(.ref a1), (.int ix)] below meth c s₁ [] 0 0 := Stand.of_body Bd
  have e0 : s₁.heap = h0 := by rw [← hh, Bd.state]; rfl
  have N0 := Fr.nil n0
  have pre0 : ∀ t, Steps p.tables e below (s₁.setTop (mkF m 0 #[.val (.ref a1), .val (.int ix), .unset] [])) t → Steps p.tables e below (s₁.setTop (entryFrame m #[(.ref a1), (.int ix)] 3)) t := fun t k => castTop (ef_9 m a1 ix) k
  obtain ⟨cq815, kq815, q815a, q815b, q815c⟩ := isOf hZ e0 E_a1
  obtain ⟨_, _, ⟨T815, L815, k815, n815⟩, -, X815, ⟨Lc815, hQ815, l815, y815, z815⟩, st815⟩ := X0.virtualBack hx (y := (⟨"com/example/ketproof/ketproof/MassTable", "decimal", "(I)Ljava/math/BigDecimal;"⟩ : MethodName)) (z := (⟨"com/example/ketproof/ketproof/MassTable", "decimal", "(I)Ljava/math/BigDecimal;"⟩ : MethodName)) hown (mvT hZ (hw _ (List.mem_of_getElem? (i := 55) rfl))) (mvT hZ (hw _ (List.mem_of_getElem? (i := 56) rfl))) (notFace_of_selects (args := #[]) (mvT hZ (hw _ (List.mem_of_getElem? (i := 58) rfl)))) (mvT hZ (hw _ (List.mem_of_getElem? (i := 58) rfl))) (mvT hZ (hw _ (List.mem_of_getElem? (i := 57) rfl))) (by decide) (backOf (W := 0) (rm10 l Z a0 hw [] a1 ix h0 n0 Z0 FD) hZ (hw _ (List.mem_of_getElem? (i := 59) rfl)) (hw _ (List.mem_of_getElem? (i := 2) rfl)) (by decide) (by decide)) q815a q815c (g := (mkF m 2 #[.val (.ref a1), .val (.int ix), .unset] [(.int ix), (.ref a1)])) rfl (by rw [hml]; rfl) (Steps.refl _) (argsL := [(.int ix)]) (rest := []) (lenOf pd_3 rfl) rfl (by show 2 * 0 + _ ≤ _; exact Nat.le_of_eq rfl) (hb hby d9_2) (fun _ _ => ⟨rfl, e0, (by decide : 0 + 0 ≤ _), (by decide : 0 + 0 ≤ _)⟩)
  dsimp only [Pt.U, Pt.locs, Pt.cells, Pt.slots] at X815 l815 y815 z815 st815 hQ815
  subst l815 y815 z815
  obtain ⟨rfl, N815q, e815⟩ := hQ815
  have N815 := Fr.app N0 N815q
  obtain ⟨T816, X816, e816, st816⟩ := getF X815 hx hZ hown (host := "") (Or.inl (hw _ (List.mem_of_getElem? (i := 10) rfl))) Via.refl e815 F_slots_a1 (g := (mkF m 18 #[.val (.ref a1), .val (.int ix), .val .null] [(.ref a1)])) rfl rfl (hb hby d9_18)
  obtain ⟨T817, X817, e817, st817⟩ := getF X816 hx hZ hown (host := "") (Or.inl (hw _ (List.mem_of_getElem? (i := 13) rfl))) Via.refl e816 F_entrySlots_a1 (g := (mkF m 23 #[.val (.ref a1), .val (.int ix), .val .null] [(.ref a1), (.int (3 : Int32)), (.ref zs)])) rfl rfl (hb hby d9_23)
  obtain ⟨cl818, Ar818, qa818, Sa818, Na818, Ha818, Ga818⟩ := id VE
  have hin818 : ¬ (ix < 0 ∨ cl818.slots.size ≤ (ix).toNatClampNeg) := inb_of Sa818 hi
  obtain ⟨cl819, Ar819, qa819, Sa819, Na819, Ha819, Ga819⟩ := id VS
  have hin819 : ¬ ((((3 : Int32) * (xE (ix).toNatClampNeg)) + (1 : Int32)) < 0 ∨ cl819.slots.size ≤ ((((3 : Int32) * (xE (ix).toNatClampNeg)) + (1 : Int32))).toNatClampNeg) := inb_of Sa819 (own_b1 hbd)
  obtain ⟨vm820, X820, st820⟩ := X817.longBitsToDouble hx hown (mvT hZ (hw _ (List.mem_of_getElem? (i := 62) rfl))) (mvT hZ (hw _ (List.mem_of_getElem? (i := 64) rfl))) (mvT hZ (hw _ (List.mem_of_getElem? (i := 63) rfl))) (mvT hZ (hw _ (List.mem_of_getElem? (i := 29) rfl))) (g := (mkF m 32 #[.val (.ref a1), .val (.int ix), .val .null] [(.long (xS ((((3 : Int32) * (xE (ix).toNatClampNeg)) + (1 : Int32))).toNatClampNeg))])) rfl (by rw [hml]; rfl) (rest := []) (b := (xS ((((3 : Int32) * (xE (ix).toNatClampNeg)) + (1 : Int32))).toNatClampNeg)) (own_lb hv) rfl (hb hby d9_32) (by decide) (by show 2 * 0 + 0 + (nativeFrameWords "java/lang/Double" "longBitsToDouble" 2 + 11) ≤ _; decide)
  obtain ⟨T820, hT820⟩ : ∃ z, z = T817.setVm vm820 := ⟨_, rfl⟩
  rw [← hT820] at X820 st820
  have e820 : T820.heap = h0 := by rw [hT820]; exact e817
  have S821 : ∀ t, Steps p.tables e below (T820.setTop (mkF m 35 #[.val (.ref a1), .val (.int ix), .val .null] [(.double (((xS ((((3 : Int32) * (xE (ix).toNatClampNeg)) + (1 : Int32))).toNatClampNeg)).toUInt64))])) t → Steps p.tables e below (s₁.setTop (entryFrame m #[(.ref a1), (.int ix)] 3)) t := by
    intro t k
    refine pre0 t ?_
    refine XS.aloadN X0.here hx rfl (hb hby d9_0) rfl rfl ?_
    show Steps p.tables e below (s₁.setTop (mkF m 1 #[.val (.ref a1), .val (.int ix), .unset] [(.ref a1)])) _
    refine XS.iloadN X0.here hx rfl (hb hby d9_1) rfl ?_
    show Steps p.tables e below (s₁.setTop (mkF m 2 #[.val (.ref a1), .val (.int ix), .unset] [(.int ix), (.ref a1)])) _
    refine st815.trans ?_
    show Steps p.tables e below (T815.setTop (mkF m 5 #[.val (.ref a1), .val (.int ix), .unset] [.null])) _
    refine XS.astoreN X815.here hx rfl (hb hby d9_5) rfl rfl (l' := #[.val (.ref a1), .val (.int ix), .val .null]) rfl ?_
    show Steps p.tables e below (T815.setTop (mkF m 6 #[.val (.ref a1), .val (.int ix), .val .null] [])) _
    refine XS.aloadN X815.here hx rfl (hb hby d9_6) rfl rfl ?_
    show Steps p.tables e below (T815.setTop (mkF m 7 #[.val (.ref a1), .val (.int ix), .val .null] [.null])) _
    refine XS.ifnullYes X815.here hx rfl (pc0 := 7) (pc' := 17) rfl (hb hby d9_7) rfl (by decide) (by decide) ?_
    show Steps p.tables e below (T815.setTop (mkF m 17 #[.val (.ref a1), .val (.int ix), .val .null] [])) _
    refine XS.aloadN X815.here hx rfl (hb hby d9_17) rfl rfl ?_
    show Steps p.tables e below (T815.setTop (mkF m 18 #[.val (.ref a1), .val (.int ix), .val .null] [(.ref a1)])) _
    refine st816 _ ?_
    show Steps p.tables e below (T816.setTop (mkF m 21 #[.val (.ref a1), .val (.int ix), .val .null] [(.ref zs)])) _
    refine XS.iconst X816.here hx rfl (hb hby d9_21) ?_
    show Steps p.tables e below (T816.setTop (mkF m 22 #[.val (.ref a1), .val (.int ix), .val .null] [(.int (3 : Int32)), (.ref zs)])) _
    refine XS.aloadN X816.here hx rfl (hb hby d9_22) rfl rfl ?_
    show Steps p.tables e below (T816.setTop (mkF m 23 #[.val (.ref a1), .val (.int ix), .val .null] [(.ref a1), (.int (3 : Int32)), (.ref zs)])) _
    refine st817 _ ?_
    show Steps p.tables e below (T817.setTop (mkF m 26 #[.val (.ref a1), .val (.int ix), .val .null] [(.ref ze), (.int (3 : Int32)), (.ref zs)])) _
    refine XS.iloadN X817.here hx rfl (hb hby d9_26) rfl ?_
    show Steps p.tables e below (T817.setTop (mkF m 27 #[.val (.ref a1), .val (.int ix), .val .null] [(.int ix), (.ref ze), (.int (3 : Int32)), (.ref zs)])) _
    refine X817.iaload hx (j := ix) (v := (.int (xE (ix).toNatClampNeg))) (by rw [e817]; exact Ar818.1) (State.isArrayOf_alike hZ.alike Ar818.2.1) Ar818.2.2 hin818 (Has.at Ha818 hin818 (own_rdE xE hi)) (g := (mkF m 27 #[.val (.ref a1), .val (.int ix), .val .null] [(.int ix), (.ref ze), (.int (3 : Int32)), (.ref zs)])) rfl rfl (hb hby d9_27) _ ?_
    show Steps p.tables e below (T817.setTop (mkF m 28 #[.val (.ref a1), .val (.int ix), .val .null] [(.int (xE (ix).toNatClampNeg)), (.int (3 : Int32)), (.ref zs)])) _
    refine XS.imul X817.here hx rfl (hb hby d9_28) rfl ?_
    show Steps p.tables e below (T817.setTop (mkF m 29 #[.val (.ref a1), .val (.int ix), .val .null] [(.int ((3 : Int32) * (xE (ix).toNatClampNeg))), (.ref zs)])) _
    refine XS.iconst X817.here hx rfl (hb hby d9_29) ?_
    show Steps p.tables e below (T817.setTop (mkF m 30 #[.val (.ref a1), .val (.int ix), .val .null] [(.int (1 : Int32)), (.int ((3 : Int32) * (xE (ix).toNatClampNeg))), (.ref zs)])) _
    refine XS.iadd X817.here hx rfl (hb hby d9_30) rfl ?_
    show Steps p.tables e below (T817.setTop (mkF m 31 #[.val (.ref a1), .val (.int ix), .val .null] [(.int (((3 : Int32) * (xE (ix).toNatClampNeg)) + (1 : Int32))), (.ref zs)])) _
    refine X817.laload hx (j := (((3 : Int32) * (xE (ix).toNatClampNeg)) + (1 : Int32))) (v := (.long (xS ((((3 : Int32) * (xE (ix).toNatClampNeg)) + (1 : Int32))).toNatClampNeg))) (by rw [e817]; exact Ar819.1) (State.isArrayOf_alike hZ.alike Ar819.2.1) Ar819.2.2 hin819 (Has.at Ha819 hin819 (own_rd xS (own_b1 hbd))) (g := (mkF m 31 #[.val (.ref a1), .val (.int ix), .val .null] [(.int (((3 : Int32) * (xE (ix).toNatClampNeg)) + (1 : Int32))), (.ref zs)])) rfl rfl (hb hby d9_31) _ ?_
    show Steps p.tables e below (T817.setTop (mkF m 32 #[.val (.ref a1), .val (.int ix), .val .null] [(.long (xS ((((3 : Int32) * (xE (ix).toNatClampNeg)) + (1 : Int32))).toNatClampNeg))])) _
    refine st820 _ ?_
    show Steps p.tables e below (T820.setTop (mkF m 35 #[.val (.ref a1), .val (.int ix), .val .null] [(.double (((xS ((((3 : Int32) * (xE (ix).toNatClampNeg)) + (1 : Int32))).toNatClampNeg)).toUInt64))])) _
    exact k
  have hf : f9 ix xS xE = (((xS ((((3 : Int32) * (xE (ix).toNatClampNeg)) + (1 : Int32))).toNatClampNeg)).toUInt64) := by
    unfold f9
    rfl
  obtain ⟨fs, hr, hrun, hended, hW, hsame⟩ := X820.leave (v := some (.double (((xS ((((3 : Int32) * (xE (ix).toNatClampNeg)) + (1 : Int32))).toNatClampNeg)).toUInt64))) (fun h => by rw [Bd.returns] at h; cases h)
  refine ⟨_, _, S821 _ ?_, hrun, hended, _, _, rfl, ?_, ⟨_, rfl⟩, hW, hsame.mono (by decide) (by decide)⟩
  · exact retOut X820 hx Bd.returns rfl (Or.inr (Or.inr (Or.inl ⟨rfl, rfl, _, rfl⟩))) (hb hby d9_35) hr
  · show Q9 Z a1 ix zs ze kS xS kE xE h0 n0 _ T820.heap _
    rw [e820]
    exact ⟨by rw [hf], N815, rfl⟩
def f11 (ix : Int32) (xS : (Nat → Int64)) (xE : (Nat → Int32)) : UInt64 := (((xS ((((3 : Int32) * (xE (ix).toNatClampNeg)) + (2 : Int32))).toNatClampNeg)).toUInt64)
theorem d11_0 : decode prog_63_method_9_code 0 = .ok (.aload_n 0, 1) := by decide +kernel
theorem d11_1 : decode prog_63_method_9_code 1 = .ok (.getfield 9, 3) := by decide +kernel
theorem d11_4 : decode prog_63_method_9_code 4 = .ok (.iconst 3, 1) := by decide +kernel
theorem d11_5 : decode prog_63_method_9_code 5 = .ok (.aload_n 0, 1) := by decide +kernel
theorem d11_6 : decode prog_63_method_9_code 6 = .ok (.getfield 13, 3) := by decide +kernel
theorem d11_9 : decode prog_63_method_9_code 9 = .ok (.iload_n 1, 1) := by decide +kernel
theorem d11_10 : decode prog_63_method_9_code 10 = .ok (.iaload, 1) := by decide +kernel
theorem d11_11 : decode prog_63_method_9_code 11 = .ok (.imul, 1) := by decide +kernel
theorem d11_12 : decode prog_63_method_9_code 12 = .ok (.iconst 2, 1) := by decide +kernel
theorem d11_13 : decode prog_63_method_9_code 13 = .ok (.iadd, 1) := by decide +kernel
theorem d11_14 : decode prog_63_method_9_code 14 = .ok (.laload, 1) := by decide +kernel
theorem d11_15 : decode prog_63_method_9_code 15 = .ok (.invokestatic 41, 3) := by decide +kernel
theorem d11_18 : decode prog_63_method_9_code 18 = .ok (.dreturn, 1) := by decide +kernel
theorem ef_11 (m : MethodId) (x0 : Addr) (x1 : Int32) : entryFrame m #[(.ref x0), (.int x1)] 2 = mkF m 0 #[.val (.ref x0), .val (.int x1)] [] := by first | (simp [entryFrame, mkF, argsToLocals, Value.category]; done) | rfl
def Q11 (Z : State) (a1 : Addr) (ix : Int32) (zs : Addr) (ze : Addr) (kS : ClassId) (xS : (Nat → Int64)) (kE : ClassId) (xE : (Nat → Int32)) (h0 : Heap) (n0 : Nat) (v : Option Value) (h : Heap) (L : List Loc) : Prop := v = some (.double (f11 ix xS xE)) ∧ Fr n0 L ∧ h = h0
set_option maxRecDepth 65536 in
set_option maxHeartbeats 40000000 in
theorem rm11 (l : Launch) (Z : State) (a0 : Array Value) (hw : ∀ d ∈ tables_1, d.before a0 Z = true) (ws : List Jvm.Cond) (a1 : Addr) (ix : Int32) (zs : Addr) (ze : Addr) (kS : ClassId) (xS : (Nat → Int64)) (kE : ClassId) (xE : (Nat → Int32)) (h0 : Heap) (n0 : Nat) (Z0 : n0 ≤ h0.size) (F_slots_a1 : Fld Z h0 a1 "com/example/ketproof/ketproof/MassTable" "slots" "[J" (.ref zs)) (F_entrySlots_a1 : Fld Z h0 a1 "com/example/ketproof/ketproof/MassTable" "entrySlots" "[I" (.ref ze)) (VS : Arv Z h0 zs kS .long (96 : Int32) (own_L xS) (.long (0 : Int64))) (VE : Arv Z h0 ze kE .int (16 : Int32) (own_E xE) (.int (0 : Int32))) (FD : Fld Z h0 a1 "com/example/ketproof/ketproof/MassTable" "decimals" "[Ljava/math/BigDecimal;" .null) (hi : ¬ (ix < 0) ∧ ix < (16 : Int32)) (hbd : 0 ≤ (xE (ix).toNatClampNeg).toInt ∧ (xE (ix).toNatClampNeg).toInt < 32) (hv : Jvm.Free.Fl.NoNaN64 (xS (((3 : Int32) * (xE (ix).toNatClampNeg)) + (2 : Int32)).toNatClampNeg).toUInt64) :
    MetFree l (⟨"com/example/ketproof/ketproof/MassTable", "mass", "(I)D"⟩ : MethodName) (head1 (Jvm.Cond.code (⟨"com/example/ketproof/ketproof/MassTable", "mass", "(I)D"⟩ : MethodName) prog_63_method_9_code 2 (some .double) :: ws) ({ frames := 1, cells := 0, slots := 0, locals := 20 } : Room)) (fun a U => a = #[(.ref a1), (.int ix)] ∧ Z.Warmed39 U.vm ∧ U.heap = h0) (fun _ _ _ _ _ => True) (fun _ U o U' => ∃ v L, o = .returned v ∧ Q11 Z a1 ix zs ze kS xS kE xE h0 n0 v U'.heap L ∧ FrameEnd U o U' L ({ frames := 1, cells := 0, slots := 0, locals := 20 } : Room).cells ({ frames := 1, cells := 0, slots := 0, locals := 20 } : Room).slots) := by
  refine MetFree.of_bodySF (plainFor_of_name pn_0) hisR ?_
  intro p e s m args below meth c s₁ Bd hml0 hP hK
  obtain ⟨rfl, hZ, hh⟩ := hP
  have hx := Bd.exec
  have hby := Bd.bytes
  have hml : c.maxLocals = 2 := hml0
  have hown : s.vm.findClass "com/example/ketproof/ketproof/MassTable" = some m.cls := findClass_of_methodNamed Bd.named
  have hnm := (name_of_methodNamed Bd.named Bd.method).1
  have X0 : Stand p l e ({ frames := 1, cells := 0, slots := 0, locals := 20 } : Room) s m #[(.ref a1), (.int ix)] below meth c s₁ [] 0 0 := Stand.of_body Bd
  have e0 : s₁.heap = h0 := by rw [← hh, Bd.state]; rfl
  have N0 := Fr.nil n0
  have pre0 : ∀ t, Steps p.tables e below (s₁.setTop (mkF m 0 #[.val (.ref a1), .val (.int ix)] [])) t → Steps p.tables e below (s₁.setTop (entryFrame m #[(.ref a1), (.int ix)] 2)) t := fun t k => castTop (ef_11 m a1 ix) k
  obtain ⟨T828, X828, e828, st828⟩ := getF X0 hx hZ hown (host := "") (Or.inl (hw _ (List.mem_of_getElem? (i := 10) rfl))) Via.refl e0 F_slots_a1 (g := (mkF m 1 #[.val (.ref a1), .val (.int ix)] [(.ref a1)])) rfl rfl (hb hby d11_1)
  obtain ⟨T829, X829, e829, st829⟩ := getF X828 hx hZ hown (host := "") (Or.inl (hw _ (List.mem_of_getElem? (i := 13) rfl))) Via.refl e828 F_entrySlots_a1 (g := (mkF m 6 #[.val (.ref a1), .val (.int ix)] [(.ref a1), (.int (3 : Int32)), (.ref zs)])) rfl rfl (hb hby d11_6)
  obtain ⟨cl830, Ar830, qa830, Sa830, Na830, Ha830, Ga830⟩ := id VE
  have hin830 : ¬ (ix < 0 ∨ cl830.slots.size ≤ (ix).toNatClampNeg) := inb_of Sa830 hi
  obtain ⟨cl831, Ar831, qa831, Sa831, Na831, Ha831, Ga831⟩ := id VS
  have hin831 : ¬ ((((3 : Int32) * (xE (ix).toNatClampNeg)) + (2 : Int32)) < 0 ∨ cl831.slots.size ≤ ((((3 : Int32) * (xE (ix).toNatClampNeg)) + (2 : Int32))).toNatClampNeg) := inb_of Sa831 (own_b2 hbd)
  obtain ⟨vm832, X832, st832⟩ := X829.longBitsToDouble hx hown (mvT hZ (hw _ (List.mem_of_getElem? (i := 62) rfl))) (mvT hZ (hw _ (List.mem_of_getElem? (i := 64) rfl))) (mvT hZ (hw _ (List.mem_of_getElem? (i := 63) rfl))) (mvT hZ (hw _ (List.mem_of_getElem? (i := 29) rfl))) (g := (mkF m 15 #[.val (.ref a1), .val (.int ix)] [(.long (xS ((((3 : Int32) * (xE (ix).toNatClampNeg)) + (2 : Int32))).toNatClampNeg))])) rfl (by rw [hml]; rfl) (rest := []) (b := (xS ((((3 : Int32) * (xE (ix).toNatClampNeg)) + (2 : Int32))).toNatClampNeg)) (own_lb hv) rfl (hb hby d11_15) (by decide) (by show 2 * 0 + 0 + (nativeFrameWords "java/lang/Double" "longBitsToDouble" 2 + 11) ≤ _; decide)
  obtain ⟨T832, hT832⟩ : ∃ z, z = T829.setVm vm832 := ⟨_, rfl⟩
  rw [← hT832] at X832 st832
  have e832 : T832.heap = h0 := by rw [hT832]; exact e829
  have S833 : ∀ t, Steps p.tables e below (T832.setTop (mkF m 18 #[.val (.ref a1), .val (.int ix)] [(.double (((xS ((((3 : Int32) * (xE (ix).toNatClampNeg)) + (2 : Int32))).toNatClampNeg)).toUInt64))])) t → Steps p.tables e below (s₁.setTop (entryFrame m #[(.ref a1), (.int ix)] 2)) t := by
    intro t k
    refine pre0 t ?_
    refine XS.aloadN X0.here hx rfl (hb hby d11_0) rfl rfl ?_
    show Steps p.tables e below (s₁.setTop (mkF m 1 #[.val (.ref a1), .val (.int ix)] [(.ref a1)])) _
    refine st828 _ ?_
    show Steps p.tables e below (T828.setTop (mkF m 4 #[.val (.ref a1), .val (.int ix)] [(.ref zs)])) _
    refine XS.iconst X828.here hx rfl (hb hby d11_4) ?_
    show Steps p.tables e below (T828.setTop (mkF m 5 #[.val (.ref a1), .val (.int ix)] [(.int (3 : Int32)), (.ref zs)])) _
    refine XS.aloadN X828.here hx rfl (hb hby d11_5) rfl rfl ?_
    show Steps p.tables e below (T828.setTop (mkF m 6 #[.val (.ref a1), .val (.int ix)] [(.ref a1), (.int (3 : Int32)), (.ref zs)])) _
    refine st829 _ ?_
    show Steps p.tables e below (T829.setTop (mkF m 9 #[.val (.ref a1), .val (.int ix)] [(.ref ze), (.int (3 : Int32)), (.ref zs)])) _
    refine XS.iloadN X829.here hx rfl (hb hby d11_9) rfl ?_
    show Steps p.tables e below (T829.setTop (mkF m 10 #[.val (.ref a1), .val (.int ix)] [(.int ix), (.ref ze), (.int (3 : Int32)), (.ref zs)])) _
    refine X829.iaload hx (j := ix) (v := (.int (xE (ix).toNatClampNeg))) (by rw [e829]; exact Ar830.1) (State.isArrayOf_alike hZ.alike Ar830.2.1) Ar830.2.2 hin830 (Has.at Ha830 hin830 (own_rdE xE hi)) (g := (mkF m 10 #[.val (.ref a1), .val (.int ix)] [(.int ix), (.ref ze), (.int (3 : Int32)), (.ref zs)])) rfl rfl (hb hby d11_10) _ ?_
    show Steps p.tables e below (T829.setTop (mkF m 11 #[.val (.ref a1), .val (.int ix)] [(.int (xE (ix).toNatClampNeg)), (.int (3 : Int32)), (.ref zs)])) _
    refine XS.imul X829.here hx rfl (hb hby d11_11) rfl ?_
    show Steps p.tables e below (T829.setTop (mkF m 12 #[.val (.ref a1), .val (.int ix)] [(.int ((3 : Int32) * (xE (ix).toNatClampNeg))), (.ref zs)])) _
    refine XS.iconst X829.here hx rfl (hb hby d11_12) ?_
    show Steps p.tables e below (T829.setTop (mkF m 13 #[.val (.ref a1), .val (.int ix)] [(.int (2 : Int32)), (.int ((3 : Int32) * (xE (ix).toNatClampNeg))), (.ref zs)])) _
    refine XS.iadd X829.here hx rfl (hb hby d11_13) rfl ?_
    show Steps p.tables e below (T829.setTop (mkF m 14 #[.val (.ref a1), .val (.int ix)] [(.int (((3 : Int32) * (xE (ix).toNatClampNeg)) + (2 : Int32))), (.ref zs)])) _
    refine X829.laload hx (j := (((3 : Int32) * (xE (ix).toNatClampNeg)) + (2 : Int32))) (v := (.long (xS ((((3 : Int32) * (xE (ix).toNatClampNeg)) + (2 : Int32))).toNatClampNeg))) (by rw [e829]; exact Ar831.1) (State.isArrayOf_alike hZ.alike Ar831.2.1) Ar831.2.2 hin831 (Has.at Ha831 hin831 (own_rd xS (own_b2 hbd))) (g := (mkF m 14 #[.val (.ref a1), .val (.int ix)] [(.int (((3 : Int32) * (xE (ix).toNatClampNeg)) + (2 : Int32))), (.ref zs)])) rfl rfl (hb hby d11_14) _ ?_
    show Steps p.tables e below (T829.setTop (mkF m 15 #[.val (.ref a1), .val (.int ix)] [(.long (xS ((((3 : Int32) * (xE (ix).toNatClampNeg)) + (2 : Int32))).toNatClampNeg))])) _
    refine st832 _ ?_
    show Steps p.tables e below (T832.setTop (mkF m 18 #[.val (.ref a1), .val (.int ix)] [(.double (((xS ((((3 : Int32) * (xE (ix).toNatClampNeg)) + (2 : Int32))).toNatClampNeg)).toUInt64))])) _
    exact k
  have hf : f11 ix xS xE = (((xS ((((3 : Int32) * (xE (ix).toNatClampNeg)) + (2 : Int32))).toNatClampNeg)).toUInt64) := by
    unfold f11
    rfl
  obtain ⟨fs, hr, hrun, hended, hW, hsame⟩ := X832.leave (v := some (.double (((xS ((((3 : Int32) * (xE (ix).toNatClampNeg)) + (2 : Int32))).toNatClampNeg)).toUInt64))) (fun h => by rw [Bd.returns] at h; cases h)
  refine ⟨_, _, S833 _ ?_, hrun, hended, _, _, rfl, ?_, ⟨_, rfl⟩, hW, hsame.mono (by decide) (by decide)⟩
  · exact retOut X832 hx Bd.returns rfl (Or.inr (Or.inr (Or.inl ⟨rfl, rfl, _, rfl⟩))) (hb hby d11_18) hr
  · show Q11 Z a1 ix zs ze kS xS kE xE h0 n0 _ T832.heap _
    rw [e832]
    exact ⟨by rw [hf], N0, rfl⟩
theorem own_u64 (w : UInt64) : (w.toInt64).toUInt64 = w := rfl
theorem own_key {a : Int64} : (lcmpW a (0 : Int64)) = (0 : Int32) ↔ a = 0 := by
  rw [own_lc_eq, Int64.toInt_inj]
/-- the three places of a slot -/
theorem own_p {i : Int32} (h : 0 ≤ i.toInt ∧ i.toInt < 32) : ∃ q : Nat, q < 32 ∧ i.toInt = (q : Int) ∧ ((3 : Int32) * i).toNatClampNeg = 3 * q ∧ (((3 : Int32) * i) + (1 : Int32)).toNatClampNeg = 3 * q + 1 ∧ (((3 : Int32) * i) + (2 : Int32)).toNatClampNeg = 3 * q + 2 := by
  have t := own_t3 h
  refine ⟨i.toInt.toNat, by omega, by omega, ?_, ?_, ?_⟩ <;> unfold Int32.toNatClampNeg <;> omega
def own_wr (x : Nat → Int64) (k v m : Int64) (i : Int32) : Nat → Int64 :=
  own_up (own_up (own_up x ((3 : Int32) * i).toNatClampNeg k) (((3 : Int32) * i) + (1 : Int32)).toNatClampNeg v) (((3 : Int32) * i) + (2 : Int32)).toNatClampNeg m
def own_ad (x : Nat → Int64) (ms : UInt64) (i : Int32) : Nat → Int64 :=
  own_up x (((3 : Int32) * i) + (2 : Int32)).toNatClampNeg ((FP.dadd ((x (((3 : Int32) * i) + (2 : Int32)).toNatClampNeg).toUInt64) ms)).toInt64
theorem own_f5 (sx : Int32) (vb : Int64) (ms : UInt64) (z : Int32) (x : Nat → Int64) (e : Nat → Int32) :
    (∃ i : Int32, (0 ≤ i.toInt ∧ i.toInt < 32) ∧ f5_slots sx vb ms z x e = own_wr x (sx.toInt64 + (1 : Int64)) vb ms.toInt64 i ∧ f5_entrySlots sx vb ms z x e = own_up e z.toNatClampNeg i ∧ f5_size sx vb ms z x e = z + (1 : Int32)) ∨
    (∃ i : Int32, (0 ≤ i.toInt ∧ i.toInt < 32) ∧ f5_slots sx vb ms z x e = own_ad x ms i ∧ f5_entrySlots sx vb ms z x e = e ∧ f5_size sx vb ms z x e = z) := by
  unfold f5_slots f5_entrySlots f5_size own_wr own_ad
  by_cases A0 : (lcmpW (x (((3 : Int32) * (own_i0 sx vb))).toNatClampNeg) (0 : Int64)) = (0 : Int32)
  · rw [if_pos A0, if_pos A0, if_pos A0]; exact Or.inl ⟨_, own_r0 sx vb, rfl, rfl, rfl⟩
  rw [if_neg A0, if_neg A0, if_neg A0]
  by_cases B0 : (lcmpW (x (((3 : Int32) * (own_i0 sx vb))).toNatClampNeg) (sx.toInt64 + (1 : Int64))) = (0 : Int32)
  · rw [if_pos B0, if_pos B0, if_pos B0]
    by_cases C0 : (lcmpW (x ((((3 : Int32) * (own_i0 sx vb)) + (1 : Int32))).toNatClampNeg) vb) = (0 : Int32)
    · rw [if_pos C0, if_pos C0, if_pos C0]; exact Or.inr ⟨_, own_r0 sx vb, rfl, rfl, rfl⟩
    rw [if_neg C0, if_neg C0, if_neg C0]
    by_cases A1 : (lcmpW (x (((3 : Int32) * (own_i1 sx vb))).toNatClampNeg) (0 : Int64)) = (0 : Int32)
    · rw [if_pos A1, if_pos A1, if_pos A1]; exact Or.inl ⟨_, own_r1 sx vb, rfl, rfl, rfl⟩
    rw [if_neg A1, if_neg A1, if_neg A1]
    by_cases B1 : (lcmpW (x (((3 : Int32) * (own_i1 sx vb))).toNatClampNeg) (sx.toInt64 + (1 : Int64))) = (0 : Int32)
    · rw [if_pos B1, if_pos B1, if_pos B1]
      by_cases C1 : (lcmpW (x ((((3 : Int32) * (own_i1 sx vb)) + (1 : Int32))).toNatClampNeg) vb) = (0 : Int32)
      · rw [if_pos C1, if_pos C1, if_pos C1]; exact Or.inr ⟨_, own_r1 sx vb, rfl, rfl, rfl⟩
      rw [if_neg C1, if_neg C1, if_neg C1]
      by_cases A2 : (lcmpW (x (((3 : Int32) * (own_i2 sx vb))).toNatClampNeg) (0 : Int64)) = (0 : Int32)
      · rw [if_pos A2, if_pos A2, if_pos A2]; exact Or.inl ⟨_, own_r2 sx vb, rfl, rfl, rfl⟩
      rw [if_neg A2, if_neg A2, if_neg A2]
      exact Or.inr ⟨_, own_r2 sx vb, rfl, rfl, rfl⟩
    rw [if_neg B1, if_neg B1, if_neg B1]
    by_cases A2 : (lcmpW (x (((3 : Int32) * (own_i2 sx vb))).toNatClampNeg) (0 : Int64)) = (0 : Int32)
    · rw [if_pos A2, if_pos A2, if_pos A2]; exact Or.inl ⟨_, own_r2 sx vb, rfl, rfl, rfl⟩
    rw [if_neg A2, if_neg A2, if_neg A2]
    exact Or.inr ⟨_, own_r2 sx vb, rfl, rfl, rfl⟩
  rw [if_neg B0, if_neg B0, if_neg B0]
  by_cases A1 : (lcmpW (x (((3 : Int32) * (own_i1 sx vb))).toNatClampNeg) (0 : Int64)) = (0 : Int32)
  · rw [if_pos A1, if_pos A1, if_pos A1]; exact Or.inl ⟨_, own_r1 sx vb, rfl, rfl, rfl⟩
  rw [if_neg A1, if_neg A1, if_neg A1]
  by_cases B1 : (lcmpW (x (((3 : Int32) * (own_i1 sx vb))).toNatClampNeg) (sx.toInt64 + (1 : Int64))) = (0 : Int32)
  · rw [if_pos B1, if_pos B1, if_pos B1]
    by_cases C1 : (lcmpW (x ((((3 : Int32) * (own_i1 sx vb)) + (1 : Int32))).toNatClampNeg) vb) = (0 : Int32)
    · rw [if_pos C1, if_pos C1, if_pos C1]; exact Or.inr ⟨_, own_r1 sx vb, rfl, rfl, rfl⟩
    rw [if_neg C1, if_neg C1, if_neg C1]
    by_cases A2 : (lcmpW (x (((3 : Int32) * (own_i2 sx vb))).toNatClampNeg) (0 : Int64)) = (0 : Int32)
    · rw [if_pos A2, if_pos A2, if_pos A2]; exact Or.inl ⟨_, own_r2 sx vb, rfl, rfl, rfl⟩
    rw [if_neg A2, if_neg A2, if_neg A2]
    exact Or.inr ⟨_, own_r2 sx vb, rfl, rfl, rfl⟩
  rw [if_neg B1, if_neg B1, if_neg B1]
  by_cases A2 : (lcmpW (x (((3 : Int32) * (own_i2 sx vb))).toNatClampNeg) (0 : Int64)) = (0 : Int32)
  · rw [if_pos A2, if_pos A2, if_pos A2]; exact Or.inl ⟨_, own_r2 sx vb, rfl, rfl, rfl⟩
  rw [if_neg A2, if_neg A2, if_neg A2]
  exact Or.inr ⟨_, own_r2 sx vb, rfl, rfl, rfl⟩
/-- at most z entries, their slots in range, no mass a NaN, each slot in use is an entry's -/
def own_I (x : Nat → Int64) (e : Nat → Int32) (z : Int32) (n : Int) : Prop :=
  0 ≤ z.toInt ∧ z.toInt ≤ n ∧ own_eb e z ∧ own_M x ∧ ∀ i : Int32, 0 ≤ i.toInt → i.toInt < 32 → x ((3 : Int32) * i).toNatClampNeg ≠ 0 → ∃ k : Nat, (k : Int) < z.toInt ∧ e k = i
theorem own_I0 : own_I (fun _ => (0 : Int64)) (fun _ => (0 : Int32)) (0 : Int32) 0 :=
  ⟨by decide, by decide, fun k hk => absurd hk (by rw [Int32.toInt_zero]; omega), fun _ _ => (by unfold Jvm.Free.Fl.NoNaN64; decide : Jvm.Free.Fl.NoNaN64 (0 : Int64).toUInt64), fun _ _ _ h => absurd rfl h⟩
theorem own_Isz {x : Nat → Int64} {e : Nat → Int32} {z : Int32} {n : Int} (h : own_I x e z n) (hn : n ≤ 3) : 0 ≤ z.toInt ∧ z.toInt ≤ 3 := ⟨h.1, Int.le_trans h.2.1 hn⟩
theorem own_nxi {i : Int32} (h : 0 ≤ i.toInt ∧ i.toInt < 32) : (own_nx i).toInt = (i.toInt + 1) % 32 := by
  unfold own_nx
  rw [Jvm.Kit.i32_mask _ (((96 : Int32) / (3 : Int32)) - (1 : Int32)) (k := 5) (by decide) (by decide), Jvm.Kit.i32_add]
  · rfl
  · have : (1 : Int32).toInt = 1 := by decide
    omega
  · have : (1 : Int32).toInt = 1 := by decide
    omega
theorem own_three (e : Nat → Int32) (a b c : Int32) {k0 k1 k2 : Nat} {z : Int} (hz : z ≤ 2) (h0 : (k0 : Int) < z) (h1 : (k1 : Int) < z) (h2 : (k2 : Int) < z) (e0 : e k0 = a) (e1 : e k1 = b) (e2 : e k2 = c) (hab : a ≠ b) (hac : a ≠ c) (hbc : b ≠ c) : False := by
  have : k0 ≠ k1 := fun q => hab (by rw [← e0, ← e1, q])
  have : k0 ≠ k2 := fun q => hac (by rw [← e0, ← e2, q])
  have : k1 ≠ k2 := fun q => hbc (by rw [← e1, ← e2, q])
  omega
theorem own_Istop {x : Nat → Int64} {e : Nat → Int32} {z : Int32} {n : Int} (h : own_I x e z n) (hn : n ≤ 2) (sx : Int32) (vb : Int64) : own_stop x sx vb := by
  obtain ⟨-, hz, -, -, hk⟩ := h
  unfold own_stop
  by_cases A0 : x ((3 : Int32) * (own_i0 sx vb)).toNatClampNeg = 0
  · exact Or.inl (Or.inl (own_key.mpr A0))
  by_cases A1 : x ((3 : Int32) * (own_i1 sx vb)).toNatClampNeg = 0
  · exact Or.inr (Or.inl (Or.inl (own_key.mpr A1)))
  by_cases A2 : x ((3 : Int32) * (own_i2 sx vb)).toNatClampNeg = 0
  · exact Or.inr (Or.inr (Or.inl (own_key.mpr A2)))
  exfalso
  have r0 := own_r0 sx vb
  have r1 := own_r1 sx vb
  have r2 := own_r2 sx vb
  have n1 : (own_i1 sx vb).toInt = ((own_i0 sx vb).toInt + 1) % 32 := own_nxi r0
  have n2 : (own_i2 sx vb).toInt = ((own_i1 sx vb).toInt + 1) % 32 := own_nxi r1
  obtain ⟨k0, l0, e0⟩ := hk _ r0.1 r0.2 A0
  obtain ⟨k1, l1, e1⟩ := hk _ r1.1 r1.2 A1
  obtain ⟨k2, l2, e2⟩ := hk _ r2.1 r2.2 A2
  refine own_three e _ _ _ (Int.le_trans hz hn) l0 l1 l2 e0 e1 e2 (fun q => ?_) (fun q => ?_) (fun q => ?_) <;> have := congrArg Int32.toInt q <;> omega
theorem own_toInj {i j : Int32} {q : Nat} (h1 : i.toInt = (q : Int)) (h2 : j.toInt = (q : Int)) : i = j := Int32.toInt_inj.mp (h1.trans h2.symm)
theorem own_Iput {x : Nat → Int64} {e : Nat → Int32} {z : Int32} {n : Int} (h : own_I x e z n) (hn : n ≤ 2) (k v : Int64) {ms : UInt64} (hm : Jvm.Free.Fl.Fin64 ms) {i : Int32} (hi : 0 ≤ i.toInt ∧ i.toInt < 32) :
    own_I (own_wr x k v ms.toInt64 i) (own_up e z.toNatClampNeg i) (z + (1 : Int32)) (n + 1) := by
  obtain ⟨hz0, hz, hb, hM, hk⟩ := h
  have c1 : (1 : Int32).toInt = 1 := by decide
  have hz1 : (z + (1 : Int32)).toInt = z.toInt + 1 := by rw [Jvm.Kit.i32_add] <;> rw [c1] <;> omega
  have zc : (z.toNatClampNeg : Int) = z.toInt := by unfold Int32.toNatClampNeg; omega
  obtain ⟨q, hq, iq, p0, p1, p2⟩ := own_p hi
  refine ⟨by omega, by omega, ?_, ?_, ?_⟩
  · intro j hj
    by_cases w : j = z.toNatClampNeg
    · rw [w, own_up_eq]; exact hi
    · rw [own_up_ne _ _ w]; exact hb j (by omega)
  · intro j hj
    unfold own_wr
    rw [p0, p1, p2]
    by_cases w : j = 3 * q + 2
    · rw [w, own_up_eq, own_u64]; exact hm.noNaN
    · rw [own_up_ne _ _ w, own_up_ne _ _ (by omega), own_up_ne _ _ (by omega)]; exact hM j hj
  · intro j hj0 hj1 hj
    by_cases w : j = i
    · exact ⟨z.toNatClampNeg, by omega, by rw [own_up_eq, w]⟩
    · obtain ⟨r, hr, jr, s0, -, -⟩ := own_p ⟨hj0, hj1⟩
      have qr : r ≠ q := fun u => w (own_toInj (by rw [jr, u]) iq)
      unfold own_wr at hj
      rw [p0, p1, p2, s0, own_up_ne _ _ (by omega), own_up_ne _ _ (by omega), own_up_ne _ _ (by omega), ← s0] at hj
      obtain ⟨t, ht, et⟩ := hk j hj0 hj1 hj
      exact ⟨t, by omega, by rw [own_up_ne _ _ (by omega)]; exact et⟩
theorem own_Imass {x : Nat → Int64} {e : Nat → Int32} {z : Int32} {n : Int} (h : own_I x e z n) {ms : UInt64} (hm : Jvm.Free.Fl.Fin64 ms) {i : Int32} (hi : 0 ≤ i.toInt ∧ i.toInt < 32) :
    own_I (own_ad x ms i) e z (n + 1) := by
  obtain ⟨hz0, hz, hb, hM, hk⟩ := h
  obtain ⟨q, hq, iq, p0, p1, p2⟩ := own_p hi
  refine ⟨hz0, by omega, hb, ?_, ?_⟩
  · intro j hj
    unfold own_ad
    rw [p2]
    by_cases w : j = 3 * q + 2
    · rw [w, own_up_eq, own_u64]; exact Jvm.Free.Fl.dadd_out (hM _ (by omega)) hm
    · rw [own_up_ne _ _ w]; exact hM j hj
  · intro j hj0 hj1 hj
    obtain ⟨r, hr, jr, s0, -, -⟩ := own_p ⟨hj0, hj1⟩
    unfold own_ad at hj
    rw [p2, s0, own_up_ne _ _ (by omega), ← s0] at hj
    exact hk j hj0 hj1 hj
theorem own_Iadd {x : Nat → Int64} {e : Nat → Int32} {z : Int32} {n : Int} (h : own_I x e z n) (hn : n ≤ 2) {sx : Int32} {vd ms : UInt64} (hm : Jvm.Free.Fl.Fin64 ms) {x' : Nat → Int64} {e' : Nat → Int32} {z' : Int32}
    (hx : x' = f4_slots sx vd ms z x e) (he : e' = f4_entrySlots sx vd ms z x e) (hz : z' = f4_size sx vd ms z x e) : own_I x' e' z' (n + 1) := by
  subst hx he hz
  unfold f4_slots f4_entrySlots f4_size
  rcases own_f5 sx vd.toInt64 ms z x e with ⟨i, hi, a, b, c⟩ | ⟨i, hi, a, b, c⟩
  · rw [a, b, c]; exact own_Iput h hn _ _ hm hi
  · rw [a, b, c]; exact own_Imass h hm hi
/-- one key wiped -/
theorem own_w1 {x : Nat → Int64} (hM : own_M x) {i : Int32} (hi : 0 ≤ i.toInt ∧ i.toInt < 32) : own_M (own_up x ((3 : Int32) * i).toNatClampNeg (0 : Int64)) := by
  obtain ⟨q, hq, iq, p0, p1, p2⟩ := own_p hi
  intro j hj
  rw [p0, own_up_ne _ _ (by omega)]; exact hM j hj
theorem own_w2 {x : Nat → Int64} {p i : Nat} (h : own_up x p (0 : Int64) i ≠ 0) : i ≠ p ∧ x i ≠ 0 := by
  by_cases w : i = p
  · rw [w, own_up_eq] at h; exact absurd rfl h
  · rw [own_up_ne _ _ w] at h; exact ⟨w, h⟩
theorem own_w3 {i j : Int32} (h : ((3 : Int32) * i).toNatClampNeg ≠ ((3 : Int32) * j).toNatClampNeg) : j ≠ i := fun q => h (by rw [q])
theorem own_Iclear {x : Nat → Int64} {e : Nat → Int32} {z : Int32} {n : Int} (h : own_I x e z n) (hn : n ≤ 3) {x' : Nat → Int64} {e' : Nat → Int32} {z' : Int32}
    (hx : x' = f3_slots z x e) (he : e' = f3_entrySlots z x e) (hz : z' = f3_size z x e) : own_I x' e' z' 0 := by
  obtain ⟨hz0, hz3, hb, hM, hk⟩ := h
  have c0 : (0 : Int32).toInt = 0 := by decide
  have c1 : (1 : Int32).toInt = 1 := by decide
  have c2 : (2 : Int32).toInt = 2 := by decide
  have s0 : f3_size z x e = (0 : Int32) := by unfold f3_size; simp only [ite_self]
  have E : own_M (f3_slots z x e) ∧ ∀ i : Int32, 0 ≤ i.toInt → i.toInt < 32 → f3_slots z x e ((3 : Int32) * i).toNatClampNeg = 0 := by
    unfold f3_slots
    by_cases A0 : (0 : Int32) < z
    · have a0 := Int32.lt_iff_toInt_lt.mp A0
      rw [if_pos A0]
      by_cases A1 : (1 : Int32) < z
      · have a1 := Int32.lt_iff_toInt_lt.mp A1
        rw [if_pos A1]
        by_cases A2 : (2 : Int32) < z
        · have a2 := Int32.lt_iff_toInt_lt.mp A2
          rw [if_pos A2]
          refine ⟨own_w1 (own_w1 (own_w1 hM (hb 0 (by omega))) (hb 1 (by omega))) (hb 2 (by omega)), fun i i0 i1 => Classical.byContradiction fun w => ?_⟩
          obtain ⟨n2, w⟩ := own_w2 w
          obtain ⟨n1, w⟩ := own_w2 w
          obtain ⟨n0, w⟩ := own_w2 w
          obtain ⟨k, kz, ke⟩ := hk i i0 i1 w
          have q0 := own_w3 n0
          have q1 := own_w3 n1
          have q2 := own_w3 n2
          have : k = 0 ∨ k = 1 ∨ k = 2 := by omega
          rcases this with rfl | rfl | rfl
          · exact q0 ke
          · exact q1 ke
          · exact q2 ke
        · have a2 : ¬ ((2 : Int32).toInt < z.toInt) := fun u => A2 (Int32.lt_iff_toInt_lt.mpr u)
          rw [if_neg A2]
          refine ⟨own_w1 (own_w1 hM (hb 0 (by omega))) (hb 1 (by omega)), fun i i0 i1 => Classical.byContradiction fun w => ?_⟩
          obtain ⟨n1, w⟩ := own_w2 w
          obtain ⟨n0, w⟩ := own_w2 w
          obtain ⟨k, kz, ke⟩ := hk i i0 i1 w
          have q0 := own_w3 n0
          have q1 := own_w3 n1
          have : k = 0 ∨ k = 1 := by omega
          rcases this with rfl | rfl
          · exact q0 ke
          · exact q1 ke
      · have a1 : ¬ ((1 : Int32).toInt < z.toInt) := fun u => A1 (Int32.lt_iff_toInt_lt.mpr u)
        rw [if_neg A1]
        refine ⟨own_w1 hM (hb 0 (by omega)), fun i i0 i1 => Classical.byContradiction fun w => ?_⟩
        obtain ⟨n0, w⟩ := own_w2 w
        obtain ⟨k, kz, ke⟩ := hk i i0 i1 w
        have q0 := own_w3 n0
        have : k = 0 := by omega
        subst this
        exact q0 ke
    · have a0 : ¬ ((0 : Int32).toInt < z.toInt) := fun u => A0 (Int32.lt_iff_toInt_lt.mpr u)
      rw [if_neg A0]
      refine ⟨hM, fun i i0 i1 => Classical.byContradiction fun w => ?_⟩
      obtain ⟨k, kz, ke⟩ := hk i i0 i1 w
      omega
  subst hx he hz
  rw [s0]
  exact ⟨by decide, by decide, fun k q => absurd q (by rw [c0]; omega), E.1, fun i i0 i1 w => absurd (E.2 i i0 i1) w⟩
theorem own_fi {w : UInt64} {v : Int32} (h : w = FP.i2d v) : Jvm.Free.Fl.Fin64 w := by subst h; exact Jvm.Free.Fl.i2d_fin v
theorem own_n4 {w pk : Int32} (h : w = (pk &&& (3 : Int32))) : w = (0 : Int32) ∨ w = (1 : Int32) ∨ w = (2 : Int32) ∨ w = (3 : Int32) := by
  have m := own_mask (x := pk) (m := (3 : Int32)) (k := 2) (by decide) (by decide)
  rw [← h] at m
  have c1 : (1 : Int32).toInt = 1 := by decide
  have c2 : (2 : Int32).toInt = 2 := by decide
  have c3 : (3 : Int32).toInt = 3 := by decide
  simp only [← Int32.toInt_inj, Int32.toInt_zero, c1, c2, c3]
  omega
/-- what the cleared table gives back of the one entry added -/
theorem own_back {x : Nat → Int64} {e : Nat → Int32} {z : Int32} (h : own_I x e z 0) {sx : Int32} {vd ms : UInt64} {x' : Nat → Int64} {e' : Nat → Int32} {z' : Int32}
    (hx : x' = f4_slots sx vd ms z x e) (he : e' = f4_entrySlots sx vd ms z x e) (hz : z' = f4_size sx vd ms z x e) (hv : Jvm.Free.Fl.Fin64 vd) (hm : Jvm.Free.Fl.Fin64 ms) :
    (0 ≤ (e' ((0 : Int32)).toNatClampNeg).toInt ∧ (e' ((0 : Int32)).toNatClampNeg).toInt < 32) ∧
    Jvm.Free.Fl.NoNaN64 (x' (((3 : Int32) * (e' ((0 : Int32)).toNatClampNeg)) + (1 : Int32)).toNatClampNeg).toUInt64 ∧
    Jvm.Free.Fl.NoNaN64 (x' (((3 : Int32) * (e' ((0 : Int32)).toNatClampNeg)) + (2 : Int32)).toNatClampNeg).toUInt64 ∧
    (f7 z') = (1 : Int32) ∧ (f8 (0 : Int32) x' e') = sx ∧
    (cmpValue (FP.dcmp (f9 (0 : Int32) x' e') vd) .l) = (0 : Int32) ∧ (cmpValue (FP.dcmp (f11 (0 : Int32) x' e') ms) .l) = (0 : Int32) := by
  obtain ⟨hz0, hz1, -, -, hk⟩ := h
  have zz : z = (0 : Int32) := Int32.toInt_inj.mp (by rw [Int32.toInt_zero]; omega)
  have r0 := own_r0 sx vd.toInt64
  have A0 : (lcmpW (x ((3 : Int32) * (own_i0 sx vd.toInt64)).toNatClampNeg) (0 : Int64)) = (0 : Int32) := by
    refine own_key.mpr (Classical.byContradiction fun w => ?_)
    obtain ⟨k, kz, -⟩ := hk _ r0.1 r0.2 w
    omega
  have X : x' = own_wr x (sx.toInt64 + (1 : Int64)) vd.toInt64 ms.toInt64 (own_i0 sx vd.toInt64) := by rw [hx]; unfold f4_slots f5_slots own_wr; rw [if_pos A0]
  have E : e' ((0 : Int32)).toNatClampNeg = own_i0 sx vd.toInt64 := by rw [he]; unfold f4_entrySlots f5_entrySlots; rw [if_pos A0, zz, own_up_eq]
  have Zz : z' = (1 : Int32) := by rw [hz]; unfold f4_size f5_size; rw [if_pos A0, zz]; rfl
  obtain ⟨q, hq, iq, p0, p1, p2⟩ := own_p r0
  have X0 : x' ((3 : Int32) * (own_i0 sx vd.toInt64)).toNatClampNeg = sx.toInt64 + (1 : Int64) := by rw [X]; unfold own_wr; rw [p0, p1, p2, own_up_ne _ _ (by omega), own_up_ne _ _ (by omega), own_up_eq]
  have X1 : x' (((3 : Int32) * (own_i0 sx vd.toInt64)) + (1 : Int32)).toNatClampNeg = vd.toInt64 := by rw [X]; unfold own_wr; rw [p0, p1, p2, own_up_ne _ _ (by omega), own_up_eq]
  have X2 : x' (((3 : Int32) * (own_i0 sx vd.toInt64)) + (2 : Int32)).toNatClampNeg = ms.toInt64 := by rw [X]; unfold own_wr; rw [p0, p1, p2, own_up_eq]
  unfold f7 f8 f9 f11
  rw [E, X0, X1, X2, own_u64, own_u64]
  exact ⟨r0, hv.noNaN, hm.noNaN, Zz, by rw [Int64.add_sub_cancel, Int32.toInt32_toInt64], dcmpV_self hv.noNaN _, dcmpV_self hm.noNaN _⟩
theorem pd_4 : parseMethodDescriptor "()V" = some ⟨[], none⟩ := by decide +kernel
theorem pd_5 : parseMethodDescriptor "(IDD)V" = some ⟨[.int, .double, .double], none⟩ := by decide +kernel
theorem pd_6 : parseMethodDescriptor "()I" = some ⟨[], some .int⟩ := by decide +kernel
theorem pd_7 : parseMethodDescriptor "(I)I" = some ⟨[.int], some .int⟩ := by decide +kernel
theorem pd_8 : parseMethodDescriptor "(I)D" = some ⟨[.int], some .double⟩ := by decide +kernel
theorem ef_0 (m : MethodId) (x0 : Int32) (x1 : Int32) (x2 : Int32) (x3 : Int32) (x4 : Int32) (x5 : Int32) : entryFrame m #[(.int x0), (.int x1), (.int x2), (.int x3), (.int x4), (.int x5)] maxLocals = mkF m 0 #[.val (.int x0), .val (.int x1), .val (.int x2), .val (.int x3), .val (.int x4), .val (.int x5), .unset, .unset, .unset, .unset, .unset, .unset, .unset, .unset, .unset] [] := by first | (simp [entryFrame, mkF, argsToLocals, Value.category, maxLocals]; done) | rfl
theorem pn_1 : plainName "com/example/ketproof/ketproof/MassTableClearPinLaw" = true := by first | (simp [plainName, overriddenIn]; done) | decide +kernel
def Q0 (Z : State) (sA : Int32) (vA : Int32) (sB : Int32) (vB : Int32) (pk : Int32) (mm : Int32) (h0 : Heap) (n0 : Nat) (v : Option Value) (h : Heap) (L : List Loc) : Prop := v = some (.int 1) ∧ Fr n0 L
set_option maxRecDepth 65536 in
set_option maxHeartbeats 40000000 in
theorem rm0 (l : Launch) (Z : State) (a0 : Array Value) (hw : ∀ d ∈ tables_1, d.before a0 Z = true) (ws : List Jvm.Cond) (sA : Int32) (vA : Int32) (sB : Int32) (vB : Int32) (pk : Int32) (mm : Int32) (h0 : Heap) (n0 : Nat) (Z0 : n0 ≤ h0.size)  :
    MetFree l x (head1 (Jvm.Cond.code x code maxLocals ret :: ws) room_1) (fun a U => a = #[(.int sA), (.int vA), (.int sB), (.int vB), (.int pk), (.int mm)] ∧ Z.Warmed39 U.vm ∧ U.heap = h0) (fun _ _ _ _ _ => True) (fun _ U o U' => ∃ v L, o = .returned v ∧ Q0 Z sA vA sB vB pk mm h0 n0 v U'.heap L ∧ FrameEnd U o U' L room_1.cells room_1.slots) := by
  refine MetFree.of_bodySF (plainFor_of_name pn_1) hisR ?_
  intro p e s m args below meth c s₁ Bd hml0 hP hK
  obtain ⟨rfl, hZ, hh⟩ := hP
  have hx := Bd.exec
  have hby := Bd.bytes
  have hml : c.maxLocals = 15 := hml0
  have hown : s.vm.findClass "com/example/ketproof/ketproof/MassTableClearPinLaw" = some m.cls := findClass_of_methodNamed Bd.named
  have hnm := (name_of_methodNamed Bd.named Bd.method).1
  have X0 : Stand p l e room_1 s m #[(.int sA), (.int vA), (.int sB), (.int vB), (.int pk), (.int mm)] below meth c s₁ [] 0 0 := Stand.of_body Bd
  have e0 : s₁.heap = h0 := by rw [← hh, Bd.state]; rfl
  have N0 := Fr.nil n0
  have pre0 : ∀ t, Steps p.tables e below (s₁.setTop (mkF m 0 #[.val (.int sA), .val (.int vA), .val (.int sB), .val (.int vB), .val (.int pk), .val (.int mm), .unset, .unset, .unset, .unset, .unset, .unset, .unset, .unset, .unset] [])) t → Steps p.tables e below (s₁.setTop (entryFrame m #[(.int sA), (.int vA), (.int sB), (.int vB), (.int pk), (.int mm)] maxLocals)) t := fun t k => castTop (ef_0 m sA vA sB vB pk mm) k
  have S834 : ∀ t, Steps p.tables e below (s₁.setTop (mkF m 6 #[.val (.int sA), .val (.int vA), .val (.int sB), .val (.int vB), .val (.int pk), .val (.int mm), .val (.int (pk &&& (3 : Int32))), .unset, .unset, .unset, .unset, .unset, .unset, .unset, .unset] [])) t → Steps p.tables e below (s₁.setTop (entryFrame m #[(.int sA), (.int vA), (.int sB), (.int vB), (.int pk), (.int mm)] maxLocals)) t := by
    intro t k
    refine pre0 t ?_
    refine XS.iload X0.here hx rfl (hb hby at_0) rfl ?_
    show Steps p.tables e below (s₁.setTop (mkF m 2 #[.val (.int sA), .val (.int vA), .val (.int sB), .val (.int vB), .val (.int pk), .val (.int mm), .unset, .unset, .unset, .unset, .unset, .unset, .unset, .unset, .unset] [(.int pk)])) _
    refine XS.iconst X0.here hx rfl (hb hby at_2) ?_
    show Steps p.tables e below (s₁.setTop (mkF m 3 #[.val (.int sA), .val (.int vA), .val (.int sB), .val (.int vB), .val (.int pk), .val (.int mm), .unset, .unset, .unset, .unset, .unset, .unset, .unset, .unset, .unset] [(.int (3 : Int32)), (.int pk)])) _
    refine XS.iand X0.here hx rfl (hb hby at_3) rfl ?_
    show Steps p.tables e below (s₁.setTop (mkF m 4 #[.val (.int sA), .val (.int vA), .val (.int sB), .val (.int vB), .val (.int pk), .val (.int mm), .unset, .unset, .unset, .unset, .unset, .unset, .unset, .unset, .unset] [(.int (pk &&& (3 : Int32)))])) _
    refine XS.istore X0.here hx rfl (hb hby at_4) rfl (l' := #[.val (.int sA), .val (.int vA), .val (.int sB), .val (.int vB), .val (.int pk), .val (.int mm), .val (.int (pk &&& (3 : Int32))), .unset, .unset, .unset, .unset, .unset, .unset, .unset, .unset]) rfl ?_
    show Steps p.tables e below (s₁.setTop (mkF m 6 #[.val (.int sA), .val (.int vA), .val (.int sB), .val (.int vB), .val (.int pk), .val (.int mm), .val (.int (pk &&& (3 : Int32))), .unset, .unset, .unset, .unset, .unset, .unset, .unset, .unset] [])) _
    exact k
  obtain ⟨w835, hw835⟩ : ∃ z : Int32, z = (pk &&& (3 : Int32)) := ⟨_, rfl⟩
  rw [← hw835] at S834
  have S836 : ∀ t, Steps p.tables e below (s₁.setTop (mkF m 14 #[.val (.int sA), .val (.int vA), .val (.int sB), .val (.int vB), .val (.int pk), .val (.int mm), .val (.int w835), .val (.int (((pk.toUInt32 >>> ((2 : Int32) &&& 31).toUInt32).toInt32) &&& (3 : Int32))), .unset, .unset, .unset, .unset, .unset, .unset, .unset] [])) t → Steps p.tables e below (s₁.setTop (entryFrame m #[(.int sA), (.int vA), (.int sB), (.int vB), (.int pk), (.int mm)] maxLocals)) t := by
    intro t k
    refine S834 t ?_
    refine XS.iload X0.here hx rfl (hb hby at_6) rfl ?_
    show Steps p.tables e below (s₁.setTop (mkF m 8 #[.val (.int sA), .val (.int vA), .val (.int sB), .val (.int vB), .val (.int pk), .val (.int mm), .val (.int w835), .unset, .unset, .unset, .unset, .unset, .unset, .unset, .unset] [(.int pk)])) _
    refine XS.iconst X0.here hx rfl (hb hby at_8) ?_
    show Steps p.tables e below (s₁.setTop (mkF m 9 #[.val (.int sA), .val (.int vA), .val (.int sB), .val (.int vB), .val (.int pk), .val (.int mm), .val (.int w835), .unset, .unset, .unset, .unset, .unset, .unset, .unset, .unset] [(.int (2 : Int32)), (.int pk)])) _
    refine XS.iushr X0.here hx rfl (hb hby at_9) rfl ?_
    show Steps p.tables e below (s₁.setTop (mkF m 10 #[.val (.int sA), .val (.int vA), .val (.int sB), .val (.int vB), .val (.int pk), .val (.int mm), .val (.int w835), .unset, .unset, .unset, .unset, .unset, .unset, .unset, .unset] [(.int ((pk.toUInt32 >>> ((2 : Int32) &&& 31).toUInt32).toInt32))])) _
    refine XS.iconst X0.here hx rfl (hb hby at_10) ?_
    show Steps p.tables e below (s₁.setTop (mkF m 11 #[.val (.int sA), .val (.int vA), .val (.int sB), .val (.int vB), .val (.int pk), .val (.int mm), .val (.int w835), .unset, .unset, .unset, .unset, .unset, .unset, .unset, .unset] [(.int (3 : Int32)), (.int ((pk.toUInt32 >>> ((2 : Int32) &&& 31).toUInt32).toInt32))])) _
    refine XS.iand X0.here hx rfl (hb hby at_11) rfl ?_
    show Steps p.tables e below (s₁.setTop (mkF m 12 #[.val (.int sA), .val (.int vA), .val (.int sB), .val (.int vB), .val (.int pk), .val (.int mm), .val (.int w835), .unset, .unset, .unset, .unset, .unset, .unset, .unset, .unset] [(.int (((pk.toUInt32 >>> ((2 : Int32) &&& 31).toUInt32).toInt32) &&& (3 : Int32)))])) _
    refine XS.istore X0.here hx rfl (hb hby at_12) rfl (l' := #[.val (.int sA), .val (.int vA), .val (.int sB), .val (.int vB), .val (.int pk), .val (.int mm), .val (.int w835), .val (.int (((pk.toUInt32 >>> ((2 : Int32) &&& 31).toUInt32).toInt32) &&& (3 : Int32))), .unset, .unset, .unset, .unset, .unset, .unset, .unset]) rfl ?_
    show Steps p.tables e below (s₁.setTop (mkF m 14 #[.val (.int sA), .val (.int vA), .val (.int sB), .val (.int vB), .val (.int pk), .val (.int mm), .val (.int w835), .val (.int (((pk.toUInt32 >>> ((2 : Int32) &&& 31).toUInt32).toInt32) &&& (3 : Int32))), .unset, .unset, .unset, .unset, .unset, .unset, .unset] [])) _
    exact k
  obtain ⟨w837, hw837⟩ : ∃ z : Int32, z = (((pk.toUInt32 >>> ((2 : Int32) &&& 31).toUInt32).toInt32) &&& (3 : Int32)) := ⟨_, rfl⟩
  rw [← hw837] at S836
  have S838 : ∀ t, Steps p.tables e below (s₁.setTop (mkF m 21 #[.val (.int sA), .val (.int vA), .val (.int sB), .val (.int vB), .val (.int pk), .val (.int mm), .val (.int w835), .val (.int w837), .val (.double (FP.i2d (pk >>> ((4 : Int32) &&& 31)))), .second, .unset, .unset, .unset, .unset, .unset] [])) t → Steps p.tables e below (s₁.setTop (entryFrame m #[(.int sA), (.int vA), (.int sB), (.int vB), (.int pk), (.int mm)] maxLocals)) t := by
    intro t k
    refine S836 t ?_
    refine XS.iload X0.here hx rfl (hb hby at_14) rfl ?_
    show Steps p.tables e below (s₁.setTop (mkF m 16 #[.val (.int sA), .val (.int vA), .val (.int sB), .val (.int vB), .val (.int pk), .val (.int mm), .val (.int w835), .val (.int w837), .unset, .unset, .unset, .unset, .unset, .unset, .unset] [(.int pk)])) _
    refine XS.iconst X0.here hx rfl (hb hby at_16) ?_
    show Steps p.tables e below (s₁.setTop (mkF m 17 #[.val (.int sA), .val (.int vA), .val (.int sB), .val (.int vB), .val (.int pk), .val (.int mm), .val (.int w835), .val (.int w837), .unset, .unset, .unset, .unset, .unset, .unset, .unset] [(.int (4 : Int32)), (.int pk)])) _
    refine XS.ishr X0.here hx rfl (hb hby at_17) rfl ?_
    show Steps p.tables e below (s₁.setTop (mkF m 18 #[.val (.int sA), .val (.int vA), .val (.int sB), .val (.int vB), .val (.int pk), .val (.int mm), .val (.int w835), .val (.int w837), .unset, .unset, .unset, .unset, .unset, .unset, .unset] [(.int (pk >>> ((4 : Int32) &&& 31)))])) _
    refine XS.i2dS X0.here hx rfl (hb hby at_18) rfl rfl ?_
    show Steps p.tables e below (s₁.setTop (mkF m 19 #[.val (.int sA), .val (.int vA), .val (.int sB), .val (.int vB), .val (.int pk), .val (.int mm), .val (.int w835), .val (.int w837), .unset, .unset, .unset, .unset, .unset, .unset, .unset] [(.double (FP.i2d (pk >>> ((4 : Int32) &&& 31))))])) _
    refine XS.dstore X0.here hx rfl (hb hby at_19) rfl (l' := #[.val (.int sA), .val (.int vA), .val (.int sB), .val (.int vB), .val (.int pk), .val (.int mm), .val (.int w835), .val (.int w837), .val (.double (FP.i2d (pk >>> ((4 : Int32) &&& 31)))), .second, .unset, .unset, .unset, .unset, .unset]) rfl ?_
    show Steps p.tables e below (s₁.setTop (mkF m 21 #[.val (.int sA), .val (.int vA), .val (.int sB), .val (.int vB), .val (.int pk), .val (.int mm), .val (.int w835), .val (.int w837), .val (.double (FP.i2d (pk >>> ((4 : Int32) &&& 31)))), .second, .unset, .unset, .unset, .unset, .unset] [])) _
    exact k
  obtain ⟨w839, hw839⟩ : ∃ z : UInt64, z = (FP.i2d (pk >>> ((4 : Int32) &&& 31))) := ⟨_, rfl⟩
  rw [← hw839] at S838
  have S840 : ∀ t, Steps p.tables e below (s₁.setTop (mkF m 26 #[.val (.int sA), .val (.int vA), .val (.int sB), .val (.int vB), .val (.int pk), .val (.int mm), .val (.int w835), .val (.int w837), .val (.double w839), .second, .val (.double (FP.i2d mm)), .second, .unset, .unset, .unset] [])) t → Steps p.tables e below (s₁.setTop (entryFrame m #[(.int sA), (.int vA), (.int sB), (.int vB), (.int pk), (.int mm)] maxLocals)) t := by
    intro t k
    refine S838 t ?_
    refine XS.iload X0.here hx rfl (hb hby at_21) rfl ?_
    show Steps p.tables e below (s₁.setTop (mkF m 23 #[.val (.int sA), .val (.int vA), .val (.int sB), .val (.int vB), .val (.int pk), .val (.int mm), .val (.int w835), .val (.int w837), .val (.double w839), .second, .unset, .unset, .unset, .unset, .unset] [(.int mm)])) _
    refine XS.i2dS X0.here hx rfl (hb hby at_23) rfl rfl ?_
    show Steps p.tables e below (s₁.setTop (mkF m 24 #[.val (.int sA), .val (.int vA), .val (.int sB), .val (.int vB), .val (.int pk), .val (.int mm), .val (.int w835), .val (.int w837), .val (.double w839), .second, .unset, .unset, .unset, .unset, .unset] [(.double (FP.i2d mm))])) _
    refine XS.dstore X0.here hx rfl (hb hby at_24) rfl (l' := #[.val (.int sA), .val (.int vA), .val (.int sB), .val (.int vB), .val (.int pk), .val (.int mm), .val (.int w835), .val (.int w837), .val (.double w839), .second, .val (.double (FP.i2d mm)), .second, .unset, .unset, .unset]) rfl ?_
    show Steps p.tables e below (s₁.setTop (mkF m 26 #[.val (.int sA), .val (.int vA), .val (.int sB), .val (.int vB), .val (.int pk), .val (.int mm), .val (.int w835), .val (.int w837), .val (.double w839), .second, .val (.double (FP.i2d mm)), .second, .unset, .unset, .unset] [])) _
    exact k
  obtain ⟨w841, hw841⟩ : ∃ z : UInt64, z = (FP.i2d mm) := ⟨_, rfl⟩
  rw [← hw841] at S840
  have S842 : ∀ t, Steps p.tables e below (s₁.setTop (mkF m 28 #[.val (.int sA), .val (.int vA), .val (.int sB), .val (.int vB), .val (.int pk), .val (.int mm), .val (.int w835), .val (.int w837), .val (.double w839), .second, .val (.double w841), .second, .unset, .unset, .unset] [(.int w837)])) t → Steps p.tables e below (s₁.setTop (entryFrame m #[(.int sA), (.int vA), (.int sB), (.int vB), (.int pk), (.int mm)] maxLocals)) t := by
    intro t k
    refine S840 t ?_
    refine XS.iload X0.here hx rfl (hb hby at_26) rfl ?_
    show Steps p.tables e below (s₁.setTop (mkF m 28 #[.val (.int sA), .val (.int vA), .val (.int sB), .val (.int vB), .val (.int pk), .val (.int mm), .val (.int w835), .val (.int w837), .val (.double w839), .second, .val (.double w841), .second, .unset, .unset, .unset] [(.int w837)])) _
    exact k
  have S846 : ∀ t, Steps p.tables e below (s₁.setTop (mkF m 56 #[.val (.int sA), .val (.int vA), .val (.int sB), .val (.int vB), .val (.int pk), .val (.int mm), .val (.int w835), .val (.int w837), .val (.double w839), .second, .val (.double w841), .second, .unset, .unset, .unset] [(.int (if w837 = (0 : Int32) then sA else (if w837 = (1 : Int32) then sB else (if w837 = (2 : Int32) then sA else sB))))])) t → Steps p.tables e below (s₁.setTop (entryFrame m #[(.int sA), (.int vA), (.int sB), (.int vB), (.int pk), (.int mm)] maxLocals)) t := by
    intro t k
    refine S842 t ?_
    by_cases hc843 : w837 = (0 : Int32)
    · rw [if_pos hc843] at k
      refine XS.ifNo X0.here hx rfl (hb hby at_28) rfl ((if0 _ _).trans (teq hc843).2) ?_
      show Steps p.tables e below (s₁.setTop (mkF m 31 #[.val (.int sA), .val (.int vA), .val (.int sB), .val (.int vB), .val (.int pk), .val (.int mm), .val (.int w835), .val (.int w837), .val (.double w839), .second, .val (.double w841), .second, .unset, .unset, .unset] [])) _
      refine XS.iloadN X0.here hx rfl (hb hby at_31) rfl ?_
      show Steps p.tables e below (s₁.setTop (mkF m 32 #[.val (.int sA), .val (.int vA), .val (.int sB), .val (.int vB), .val (.int pk), .val (.int mm), .val (.int w835), .val (.int w837), .val (.double w839), .second, .val (.double w841), .second, .unset, .unset, .unset] [(.int sA)])) _
      refine XS.goto X0.here hx rfl (pc0 := 32) (pc' := 56) rfl (hb hby at_32) (by decide) (by decide) ?_
      show Steps p.tables e below (s₁.setTop (mkF m 56 #[.val (.int sA), .val (.int vA), .val (.int sB), .val (.int vB), .val (.int pk), .val (.int mm), .val (.int w835), .val (.int w837), .val (.double w839), .second, .val (.double w841), .second, .unset, .unset, .unset] [(.int sA)])) _
      exact k
    · rw [if_neg hc843] at k
      refine XS.ifYes X0.here hx rfl (pc0 := 28) (pc' := 35) rfl (hb hby at_28) rfl ((if0 _ _).trans (feq hc843).2) (by decide) (by decide) ?_
      show Steps p.tables e below (s₁.setTop (mkF m 35 #[.val (.int sA), .val (.int vA), .val (.int sB), .val (.int vB), .val (.int pk), .val (.int mm), .val (.int w835), .val (.int w837), .val (.double w839), .second, .val (.double w841), .second, .unset, .unset, .unset] [])) _
      refine XS.iload X0.here hx rfl (hb hby at_35) rfl ?_
      show Steps p.tables e below (s₁.setTop (mkF m 37 #[.val (.int sA), .val (.int vA), .val (.int sB), .val (.int vB), .val (.int pk), .val (.int mm), .val (.int w835), .val (.int w837), .val (.double w839), .second, .val (.double w841), .second, .unset, .unset, .unset] [(.int w837)])) _
      refine XS.iconst X0.here hx rfl (hb hby at_37) ?_
      show Steps p.tables e below (s₁.setTop (mkF m 38 #[.val (.int sA), .val (.int vA), .val (.int sB), .val (.int vB), .val (.int pk), .val (.int mm), .val (.int w835), .val (.int w837), .val (.double w839), .second, .val (.double w841), .second, .unset, .unset, .unset] [(.int (1 : Int32)), (.int w837)])) _
      by_cases hc844 : w837 = (1 : Int32)
      · rw [if_pos hc844] at k
        refine XS.icmpNo X0.here hx rfl (hb hby at_38) rfl (teq hc844).2 ?_
        show Steps p.tables e below (s₁.setTop (mkF m 41 #[.val (.int sA), .val (.int vA), .val (.int sB), .val (.int vB), .val (.int pk), .val (.int mm), .val (.int w835), .val (.int w837), .val (.double w839), .second, .val (.double w841), .second, .unset, .unset, .unset] [])) _
        refine XS.iloadN X0.here hx rfl (hb hby at_41) rfl ?_
        show Steps p.tables e below (s₁.setTop (mkF m 42 #[.val (.int sA), .val (.int vA), .val (.int sB), .val (.int vB), .val (.int pk), .val (.int mm), .val (.int w835), .val (.int w837), .val (.double w839), .second, .val (.double w841), .second, .unset, .unset, .unset] [(.int sB)])) _
        refine XS.goto X0.here hx rfl (pc0 := 42) (pc' := 56) rfl (hb hby at_42) (by decide) (by decide) ?_
        show Steps p.tables e below (s₁.setTop (mkF m 56 #[.val (.int sA), .val (.int vA), .val (.int sB), .val (.int vB), .val (.int pk), .val (.int mm), .val (.int w835), .val (.int w837), .val (.double w839), .second, .val (.double w841), .second, .unset, .unset, .unset] [(.int sB)])) _
        exact k
      · rw [if_neg hc844] at k
        refine XS.icmpYes X0.here hx rfl (pc0 := 38) (pc' := 45) rfl (hb hby at_38) rfl (feq hc844).2 (by decide) (by decide) ?_
        show Steps p.tables e below (s₁.setTop (mkF m 45 #[.val (.int sA), .val (.int vA), .val (.int sB), .val (.int vB), .val (.int pk), .val (.int mm), .val (.int w835), .val (.int w837), .val (.double w839), .second, .val (.double w841), .second, .unset, .unset, .unset] [])) _
        refine XS.iload X0.here hx rfl (hb hby at_45) rfl ?_
        show Steps p.tables e below (s₁.setTop (mkF m 47 #[.val (.int sA), .val (.int vA), .val (.int sB), .val (.int vB), .val (.int pk), .val (.int mm), .val (.int w835), .val (.int w837), .val (.double w839), .second, .val (.double w841), .second, .unset, .unset, .unset] [(.int w837)])) _
        refine XS.iconst X0.here hx rfl (hb hby at_47) ?_
        show Steps p.tables e below (s₁.setTop (mkF m 48 #[.val (.int sA), .val (.int vA), .val (.int sB), .val (.int vB), .val (.int pk), .val (.int mm), .val (.int w835), .val (.int w837), .val (.double w839), .second, .val (.double w841), .second, .unset, .unset, .unset] [(.int (2 : Int32)), (.int w837)])) _
        by_cases hc845 : w837 = (2 : Int32)
        · rw [if_pos hc845] at k
          refine XS.icmpNo X0.here hx rfl (hb hby at_48) rfl (teq hc845).2 ?_
          show Steps p.tables e below (s₁.setTop (mkF m 51 #[.val (.int sA), .val (.int vA), .val (.int sB), .val (.int vB), .val (.int pk), .val (.int mm), .val (.int w835), .val (.int w837), .val (.double w839), .second, .val (.double w841), .second, .unset, .unset, .unset] [])) _
          refine XS.iloadN X0.here hx rfl (hb hby at_51) rfl ?_
          show Steps p.tables e below (s₁.setTop (mkF m 52 #[.val (.int sA), .val (.int vA), .val (.int sB), .val (.int vB), .val (.int pk), .val (.int mm), .val (.int w835), .val (.int w837), .val (.double w839), .second, .val (.double w841), .second, .unset, .unset, .unset] [(.int sA)])) _
          refine XS.goto X0.here hx rfl (pc0 := 52) (pc' := 56) rfl (hb hby at_52) (by decide) (by decide) ?_
          show Steps p.tables e below (s₁.setTop (mkF m 56 #[.val (.int sA), .val (.int vA), .val (.int sB), .val (.int vB), .val (.int pk), .val (.int mm), .val (.int w835), .val (.int w837), .val (.double w839), .second, .val (.double w841), .second, .unset, .unset, .unset] [(.int sA)])) _
          exact k
        · rw [if_neg hc845] at k
          refine XS.icmpYes X0.here hx rfl (pc0 := 48) (pc' := 55) rfl (hb hby at_48) rfl (feq hc845).2 (by decide) (by decide) ?_
          show Steps p.tables e below (s₁.setTop (mkF m 55 #[.val (.int sA), .val (.int vA), .val (.int sB), .val (.int vB), .val (.int pk), .val (.int mm), .val (.int w835), .val (.int w837), .val (.double w839), .second, .val (.double w841), .second, .unset, .unset, .unset] [])) _
          refine XS.iloadN X0.here hx rfl (hb hby at_55) rfl ?_
          show Steps p.tables e below (s₁.setTop (mkF m 56 #[.val (.int sA), .val (.int vA), .val (.int sB), .val (.int vB), .val (.int pk), .val (.int mm), .val (.int w835), .val (.int w837), .val (.double w839), .second, .val (.double w841), .second, .unset, .unset, .unset] [(.int sB)])) _
          exact k
  obtain ⟨w847, hw847⟩ : ∃ z : Int32, z = (if w837 = (0 : Int32) then sA else (if w837 = (1 : Int32) then sB else (if w837 = (2 : Int32) then sA else sB))) := ⟨_, rfl⟩
  rw [← hw847] at S846
  have S848 : ∀ t, Steps p.tables e below (s₁.setTop (mkF m 60 #[.val (.int sA), .val (.int vA), .val (.int sB), .val (.int vB), .val (.int pk), .val (.int mm), .val (.int w835), .val (.int w837), .val (.double w839), .second, .val (.double w841), .second, .val (.int w847), .unset, .unset] [(.int w837)])) t → Steps p.tables e below (s₁.setTop (entryFrame m #[(.int sA), (.int vA), (.int sB), (.int vB), (.int pk), (.int mm)] maxLocals)) t := by
    intro t k
    refine S846 t ?_
    refine XS.istore X0.here hx rfl (hb hby at_56) rfl (l' := #[.val (.int sA), .val (.int vA), .val (.int sB), .val (.int vB), .val (.int pk), .val (.int mm), .val (.int w835), .val (.int w837), .val (.double w839), .second, .val (.double w841), .second, .val (.int w847), .unset, .unset]) rfl ?_
    show Steps p.tables e below (s₁.setTop (mkF m 58 #[.val (.int sA), .val (.int vA), .val (.int sB), .val (.int vB), .val (.int pk), .val (.int mm), .val (.int w835), .val (.int w837), .val (.double w839), .second, .val (.double w841), .second, .val (.int w847), .unset, .unset] [])) _
    refine XS.iload X0.here hx rfl (hb hby at_58) rfl ?_
    show Steps p.tables e below (s₁.setTop (mkF m 60 #[.val (.int sA), .val (.int vA), .val (.int sB), .val (.int vB), .val (.int pk), .val (.int mm), .val (.int w835), .val (.int w837), .val (.double w839), .second, .val (.double w841), .second, .val (.int w847), .unset, .unset] [(.int w837)])) _
    exact k
  have S852 : ∀ t, Steps p.tables e below (s₁.setTop (mkF m 88 #[.val (.int sA), .val (.int vA), .val (.int sB), .val (.int vB), .val (.int pk), .val (.int mm), .val (.int w835), .val (.int w837), .val (.double w839), .second, .val (.double w841), .second, .val (.int w847), .unset, .unset] [(.int (if w837 = (0 : Int32) then vA else (if w837 = (1 : Int32) then vB else (if w837 = (2 : Int32) then vB else vA))))])) t → Steps p.tables e below (s₁.setTop (entryFrame m #[(.int sA), (.int vA), (.int sB), (.int vB), (.int pk), (.int mm)] maxLocals)) t := by
    intro t k
    refine S848 t ?_
    by_cases hc849 : w837 = (0 : Int32)
    · rw [if_pos hc849] at k
      refine XS.ifNo X0.here hx rfl (hb hby at_60) rfl ((if0 _ _).trans (teq hc849).2) ?_
      show Steps p.tables e below (s₁.setTop (mkF m 63 #[.val (.int sA), .val (.int vA), .val (.int sB), .val (.int vB), .val (.int pk), .val (.int mm), .val (.int w835), .val (.int w837), .val (.double w839), .second, .val (.double w841), .second, .val (.int w847), .unset, .unset] [])) _
      refine XS.iloadN X0.here hx rfl (hb hby at_63) rfl ?_
      show Steps p.tables e below (s₁.setTop (mkF m 64 #[.val (.int sA), .val (.int vA), .val (.int sB), .val (.int vB), .val (.int pk), .val (.int mm), .val (.int w835), .val (.int w837), .val (.double w839), .second, .val (.double w841), .second, .val (.int w847), .unset, .unset] [(.int vA)])) _
      refine XS.goto X0.here hx rfl (pc0 := 64) (pc' := 88) rfl (hb hby at_64) (by decide) (by decide) ?_
      show Steps p.tables e below (s₁.setTop (mkF m 88 #[.val (.int sA), .val (.int vA), .val (.int sB), .val (.int vB), .val (.int pk), .val (.int mm), .val (.int w835), .val (.int w837), .val (.double w839), .second, .val (.double w841), .second, .val (.int w847), .unset, .unset] [(.int vA)])) _
      exact k
    · rw [if_neg hc849] at k
      refine XS.ifYes X0.here hx rfl (pc0 := 60) (pc' := 67) rfl (hb hby at_60) rfl ((if0 _ _).trans (feq hc849).2) (by decide) (by decide) ?_
      show Steps p.tables e below (s₁.setTop (mkF m 67 #[.val (.int sA), .val (.int vA), .val (.int sB), .val (.int vB), .val (.int pk), .val (.int mm), .val (.int w835), .val (.int w837), .val (.double w839), .second, .val (.double w841), .second, .val (.int w847), .unset, .unset] [])) _
      refine XS.iload X0.here hx rfl (hb hby at_67) rfl ?_
      show Steps p.tables e below (s₁.setTop (mkF m 69 #[.val (.int sA), .val (.int vA), .val (.int sB), .val (.int vB), .val (.int pk), .val (.int mm), .val (.int w835), .val (.int w837), .val (.double w839), .second, .val (.double w841), .second, .val (.int w847), .unset, .unset] [(.int w837)])) _
      refine XS.iconst X0.here hx rfl (hb hby at_69) ?_
      show Steps p.tables e below (s₁.setTop (mkF m 70 #[.val (.int sA), .val (.int vA), .val (.int sB), .val (.int vB), .val (.int pk), .val (.int mm), .val (.int w835), .val (.int w837), .val (.double w839), .second, .val (.double w841), .second, .val (.int w847), .unset, .unset] [(.int (1 : Int32)), (.int w837)])) _
      by_cases hc850 : w837 = (1 : Int32)
      · rw [if_pos hc850] at k
        refine XS.icmpNo X0.here hx rfl (hb hby at_70) rfl (teq hc850).2 ?_
        show Steps p.tables e below (s₁.setTop (mkF m 73 #[.val (.int sA), .val (.int vA), .val (.int sB), .val (.int vB), .val (.int pk), .val (.int mm), .val (.int w835), .val (.int w837), .val (.double w839), .second, .val (.double w841), .second, .val (.int w847), .unset, .unset] [])) _
        refine XS.iloadN X0.here hx rfl (hb hby at_73) rfl ?_
        show Steps p.tables e below (s₁.setTop (mkF m 74 #[.val (.int sA), .val (.int vA), .val (.int sB), .val (.int vB), .val (.int pk), .val (.int mm), .val (.int w835), .val (.int w837), .val (.double w839), .second, .val (.double w841), .second, .val (.int w847), .unset, .unset] [(.int vB)])) _
        refine XS.goto X0.here hx rfl (pc0 := 74) (pc' := 88) rfl (hb hby at_74) (by decide) (by decide) ?_
        show Steps p.tables e below (s₁.setTop (mkF m 88 #[.val (.int sA), .val (.int vA), .val (.int sB), .val (.int vB), .val (.int pk), .val (.int mm), .val (.int w835), .val (.int w837), .val (.double w839), .second, .val (.double w841), .second, .val (.int w847), .unset, .unset] [(.int vB)])) _
        exact k
      · rw [if_neg hc850] at k
        refine XS.icmpYes X0.here hx rfl (pc0 := 70) (pc' := 77) rfl (hb hby at_70) rfl (feq hc850).2 (by decide) (by decide) ?_
        show Steps p.tables e below (s₁.setTop (mkF m 77 #[.val (.int sA), .val (.int vA), .val (.int sB), .val (.int vB), .val (.int pk), .val (.int mm), .val (.int w835), .val (.int w837), .val (.double w839), .second, .val (.double w841), .second, .val (.int w847), .unset, .unset] [])) _
        refine XS.iload X0.here hx rfl (hb hby at_77) rfl ?_
        show Steps p.tables e below (s₁.setTop (mkF m 79 #[.val (.int sA), .val (.int vA), .val (.int sB), .val (.int vB), .val (.int pk), .val (.int mm), .val (.int w835), .val (.int w837), .val (.double w839), .second, .val (.double w841), .second, .val (.int w847), .unset, .unset] [(.int w837)])) _
        refine XS.iconst X0.here hx rfl (hb hby at_79) ?_
        show Steps p.tables e below (s₁.setTop (mkF m 80 #[.val (.int sA), .val (.int vA), .val (.int sB), .val (.int vB), .val (.int pk), .val (.int mm), .val (.int w835), .val (.int w837), .val (.double w839), .second, .val (.double w841), .second, .val (.int w847), .unset, .unset] [(.int (2 : Int32)), (.int w837)])) _
        by_cases hc851 : w837 = (2 : Int32)
        · rw [if_pos hc851] at k
          refine XS.icmpNo X0.here hx rfl (hb hby at_80) rfl (teq hc851).2 ?_
          show Steps p.tables e below (s₁.setTop (mkF m 83 #[.val (.int sA), .val (.int vA), .val (.int sB), .val (.int vB), .val (.int pk), .val (.int mm), .val (.int w835), .val (.int w837), .val (.double w839), .second, .val (.double w841), .second, .val (.int w847), .unset, .unset] [])) _
          refine XS.iloadN X0.here hx rfl (hb hby at_83) rfl ?_
          show Steps p.tables e below (s₁.setTop (mkF m 84 #[.val (.int sA), .val (.int vA), .val (.int sB), .val (.int vB), .val (.int pk), .val (.int mm), .val (.int w835), .val (.int w837), .val (.double w839), .second, .val (.double w841), .second, .val (.int w847), .unset, .unset] [(.int vB)])) _
          refine XS.goto X0.here hx rfl (pc0 := 84) (pc' := 88) rfl (hb hby at_84) (by decide) (by decide) ?_
          show Steps p.tables e below (s₁.setTop (mkF m 88 #[.val (.int sA), .val (.int vA), .val (.int sB), .val (.int vB), .val (.int pk), .val (.int mm), .val (.int w835), .val (.int w837), .val (.double w839), .second, .val (.double w841), .second, .val (.int w847), .unset, .unset] [(.int vB)])) _
          exact k
        · rw [if_neg hc851] at k
          refine XS.icmpYes X0.here hx rfl (pc0 := 80) (pc' := 87) rfl (hb hby at_80) rfl (feq hc851).2 (by decide) (by decide) ?_
          show Steps p.tables e below (s₁.setTop (mkF m 87 #[.val (.int sA), .val (.int vA), .val (.int sB), .val (.int vB), .val (.int pk), .val (.int mm), .val (.int w835), .val (.int w837), .val (.double w839), .second, .val (.double w841), .second, .val (.int w847), .unset, .unset] [])) _
          refine XS.iloadN X0.here hx rfl (hb hby at_87) rfl ?_
          show Steps p.tables e below (s₁.setTop (mkF m 88 #[.val (.int sA), .val (.int vA), .val (.int sB), .val (.int vB), .val (.int pk), .val (.int mm), .val (.int w835), .val (.int w837), .val (.double w839), .second, .val (.double w841), .second, .val (.int w847), .unset, .unset] [(.int vA)])) _
          exact k
  obtain ⟨w853, hw853⟩ : ∃ z : Int32, z = (if w837 = (0 : Int32) then vA else (if w837 = (1 : Int32) then vB else (if w837 = (2 : Int32) then vB else vA))) := ⟨_, rfl⟩
  rw [← hw853] at S852
  obtain ⟨T854, h854, X854, e854, E854, A854, D854, -, st854⟩ := newO X0 hx hZ hown (hw _ (List.mem_of_getElem? (i := 0) rfl)) (hw _ (List.mem_of_getElem? (i := 1) rfl)) (hw _ (List.mem_of_getElem? (i := 2) rfl)) e0 (g := (mkF m 90 #[.val (.int sA), .val (.int vA), .val (.int sB), .val (.int vB), .val (.int pk), .val (.int mm), .val (.int w835), .val (.int w837), .val (.double w839), .second, .val (.double w841), .second, .val (.int w847), .val (.int w853), .unset] [])) rfl (hb hby at_90) (by decide) (by decide)
  obtain ⟨b854, g854⟩ : ∃ z, z = h0.size := ⟨_, rfl⟩
  rw [← g854] at A854 D854 st854
  have gg854 : n0 ≤ b854 := Nat.le_trans Z0 (Nat.le_of_eq g854.symm)
  have sz854 : h0.size ≤ b854 := Nat.le_trans (Keep.refl h0 []).1 (Nat.le_of_eq g854.symm)
  have K855 : Keep h0 h854 [] := (Keep.refl h0 []).ext E854
  have Z856 : n0 ≤ h854.size := Nat.le_trans Z0 E854.1
  have f857 : Fld Z h854 b854 "com/example/ketproof/ketproof/MassTable" "slots" "[J" .null := D854 (Or.inl (hw _ (List.mem_of_getElem? (i := 11) rfl))) (ty := (.array .long)) (by decide)
  have f858 : Fld Z h854 b854 "com/example/ketproof/ketproof/MassTable" "entrySlots" "[I" .null := D854 (Or.inl (hw _ (List.mem_of_getElem? (i := 14) rfl))) (ty := (.array .int)) (by decide)
  have f859 : Fld Z h854 b854 "com/example/ketproof/ketproof/MassTable" "size" "I" (.int (0 : Int32)) := D854 (Or.inl (hw _ (List.mem_of_getElem? (i := 21) rfl))) (ty := .int) (by decide)
  have f860 : Fld Z h854 b854 "com/example/ketproof/ketproof/MassTable" "decimals" "[Ljava/math/BigDecimal;" .null := D854 (Or.inl (hw _ (List.mem_of_getElem? (i := 61) rfl))) (ty := (.array (.object "java/math/BigDecimal"))) (by decide)
  obtain ⟨_, _, ⟨T861, L861, k861, n861⟩, -, X861, ⟨Lc861, hQ861, l861, y861, z861⟩, st861⟩ := X854.specialBack hx (y := (⟨"com/example/ketproof/ketproof/MassTable", "<init>", "()V"⟩ : MethodName)) rfl hown (mvT hZ (hw _ (List.mem_of_getElem? (i := 3) rfl))) (mvT hZ (hw _ (List.mem_of_getElem? (i := 4) rfl))) (mvT hZ (hw _ (List.mem_of_getElem? (i := 5) rfl))) (by decide) (backOf (W := 1) (rm1 l Z a0 hw [] b854 h854 n0 Z856 A854 f857 f858 f859 f860 gg854) hZ (hw _ (List.mem_of_getElem? (i := 5) rfl)) (hw _ (List.mem_of_getElem? (i := 2) rfl)) (by decide) (by decide)) (g := (mkF m 94 #[.val (.int sA), .val (.int vA), .val (.int sB), .val (.int vB), .val (.int pk), .val (.int mm), .val (.int w835), .val (.int w837), .val (.double w839), .second, .val (.double w841), .second, .val (.int w847), .val (.int w853), .unset] [(.ref b854), (.ref b854)])) rfl (by rw [hml]; rfl) (Steps.refl _) (a := b854) (argsL := []) (rest := [(.ref b854)]) (lenOf pd_4 rfl) rfl (by show 2 * 0 + _ ≤ _; exact Nat.le_of_eq rfl) (hb hby at_94) (fun _ _ => ⟨rfl, e854, (by decide : 1 + 2 ≤ _), (by decide : 4 + 112 ≤ _)⟩)
  dsimp only [Pt.U, Pt.locs, Pt.cells, Pt.slots] at X861 l861 y861 z861 st861 hQ861
  subst l861 y861 z861
  obtain ⟨rfl, N861q, K861, Eq861, b862, b863, kkb862, kkb863, ggb862, ggb863, ssb862, ssb863, nn861_1_0, fq861_0, fq861_1, fq861_2, fq861_3, fab862, fab863⟩ := hQ861
  have N861 := Fr.app N0 N861q
  have ne864 : b854 ≠ b862 := Nat.ne_of_lt (Nat.lt_of_lt_of_le A854.lt ssb862)
  have sz865 : h0.size ≤ b862 := Nat.le_trans K855.1 ssb862
  have ne866 : b854 ≠ b863 := Nat.ne_of_lt (Nat.lt_of_lt_of_le A854.lt ssb863)
  have sz867 : h0.size ≤ b863 := Nat.le_trans K855.1 ssb863
  have K868 : Keep h0 T861.heap [] := K855.trans K861 (allS (Or.inr sz854) all0)
  have Z869 : n0 ≤ T861.heap.size := Nat.le_trans Z856 K861.1
  have S870 : ∀ t, Steps p.tables e below (T861.setTop (mkF m 99 #[.val (.int sA), .val (.int vA), .val (.int sB), .val (.int vB), .val (.int pk), .val (.int mm), .val (.int w835), .val (.int w837), .val (.double w839), .second, .val (.double w841), .second, .val (.int w847), .val (.int w853), .val (.ref b854)] [])) t → Steps p.tables e below (s₁.setTop (entryFrame m #[(.int sA), (.int vA), (.int sB), (.int vB), (.int pk), (.int mm)] maxLocals)) t := by
    intro t k
    refine S852 t ?_
    refine XS.istore X0.here hx rfl (hb hby at_88) rfl (l' := #[.val (.int sA), .val (.int vA), .val (.int sB), .val (.int vB), .val (.int pk), .val (.int mm), .val (.int w835), .val (.int w837), .val (.double w839), .second, .val (.double w841), .second, .val (.int w847), .val (.int w853), .unset]) rfl ?_
    show Steps p.tables e below (s₁.setTop (mkF m 90 #[.val (.int sA), .val (.int vA), .val (.int sB), .val (.int vB), .val (.int pk), .val (.int mm), .val (.int w835), .val (.int w837), .val (.double w839), .second, .val (.double w841), .second, .val (.int w847), .val (.int w853), .unset] [])) _
    refine st854 _ ?_
    show Steps p.tables e below (T854.setTop (mkF m 93 #[.val (.int sA), .val (.int vA), .val (.int sB), .val (.int vB), .val (.int pk), .val (.int mm), .val (.int w835), .val (.int w837), .val (.double w839), .second, .val (.double w841), .second, .val (.int w847), .val (.int w853), .unset] [(.ref b854)])) _
    refine XS.dup X854.here hx rfl (hb hby at_93) rfl rfl ?_
    show Steps p.tables e below (T854.setTop (mkF m 94 #[.val (.int sA), .val (.int vA), .val (.int sB), .val (.int vB), .val (.int pk), .val (.int mm), .val (.int w835), .val (.int w837), .val (.double w839), .second, .val (.double w841), .second, .val (.int w847), .val (.int w853), .unset] [(.ref b854), (.ref b854)])) _
    refine st861.trans ?_
    show Steps p.tables e below (T861.setTop (mkF m 97 #[.val (.int sA), .val (.int vA), .val (.int sB), .val (.int vB), .val (.int pk), .val (.int mm), .val (.int w835), .val (.int w837), .val (.double w839), .second, .val (.double w841), .second, .val (.int w847), .val (.int w853), .unset] [(.ref b854)])) _
    refine XS.astore X861.here hx rfl (hb hby at_97) rfl rfl (l' := #[.val (.int sA), .val (.int vA), .val (.int sB), .val (.int vB), .val (.int pk), .val (.int mm), .val (.int w835), .val (.int w837), .val (.double w839), .second, .val (.double w841), .second, .val (.int w847), .val (.int w853), .val (.ref b854)]) rfl ?_
    show Steps p.tables e below (T861.setTop (mkF m 99 #[.val (.int sA), .val (.int vA), .val (.int sB), .val (.int vB), .val (.int pk), .val (.int mm), .val (.int w835), .val (.int w837), .val (.double w839), .second, .val (.double w841), .second, .val (.int w847), .val (.int w853), .val (.ref b854)] [])) _
    exact k
  rcases (own_n4 hw835 : w835 = (0 : Int32) ∨ w835 = (1 : Int32) ∨ w835 = (2 : Int32) ∨ w835 = (3 : Int32)) with hs871 | hs871 | hs871 | hs871
  · subst hs871
    obtain ⟨cq872, kq872, q872a, q872b, q872c⟩ := isOf hZ rfl Eq861
    obtain ⟨_, _, ⟨T872, L872, k872, n872⟩, -, X872, ⟨Lc872, hQ872, l872, y872, z872⟩, st872⟩ := X861.virtualBack hx (y := (⟨"com/example/ketproof/ketproof/MassTable", "clear", "()V"⟩ : MethodName)) (z := (⟨"com/example/ketproof/ketproof/MassTable", "clear", "()V"⟩ : MethodName)) hown (mvT hZ (hw _ (List.mem_of_getElem? (i := 15) rfl))) (mvT hZ (hw _ (List.mem_of_getElem? (i := 16) rfl))) (notFace_of_selects (args := #[]) (mvT hZ (hw _ (List.mem_of_getElem? (i := 18) rfl)))) (mvT hZ (hw _ (List.mem_of_getElem? (i := 18) rfl))) (mvT hZ (hw _ (List.mem_of_getElem? (i := 17) rfl))) (by decide) (backOf (W := 0) (rm3 l Z a0 hw [] b854 b862 b863 (0 : Int32) kkb862 (fun _ => (0 : Int64)) kkb863 (fun _ => (0 : Int32)) T861.heap n0 Z869 Eq861 fq861_0 fq861_1 fq861_2 fq861_3 gg854 fab862 ggb862 ne864 fab863 ggb863 ne866 nn861_1_0 (own_Isz own_I0 (by decide)) own_I0.2.2.1) hZ (hw _ (List.mem_of_getElem? (i := 19) rfl)) (hw _ (List.mem_of_getElem? (i := 2) rfl)) (by decide) (by decide)) q872a q872c (g := (mkF m 149 #[.val (.int sA), .val (.int vA), .val (.int sB), .val (.int vB), .val (.int pk), .val (.int mm), .val (.int (0 : Int32)), .val (.int w837), .val (.double w839), .second, .val (.double w841), .second, .val (.int w847), .val (.int w853), .val (.ref b854)] [(.ref b854)])) rfl (by rw [hml]; rfl) (Steps.refl _) (argsL := []) (rest := []) (lenOf pd_4 rfl) rfl (by show 2 * 0 + _ ≤ _; exact Nat.le_of_eq rfl) (hb hby at_149) (fun _ _ => ⟨rfl, rfl, (by decide : 3 + 0 ≤ _), (by decide : 116 + 0 ≤ _)⟩)
    dsimp only [Pt.U, Pt.locs, Pt.cells, Pt.slots] at X872 l872 y872 z872 st872 hQ872
    subst l872 y872 z872
    obtain ⟨rfl, N872q, K872, Eq872, fq872_0, fq872_1, fq872_2, fq872_3, fz872_0, fz872_1⟩ := hQ872
    have N872 := Fr.app N861 N872q
    have K873 : Keep h0 T872.heap [] := K868.trans K872 (allS (Or.inr sz854) (allS (Or.inr sz865) (allS (Or.inr sz867) all0)))
    have Z874 : n0 ≤ T872.heap.size := Nat.le_trans Z869 K872.1
    obtain ⟨w875, hw875⟩ : ∃ z : Int32, z = (f3_size (0 : Int32) (fun _ => (0 : Int64)) (fun _ => (0 : Int32))) := ⟨_, rfl⟩
    rw [← hw875] at fq872_2
    obtain ⟨w876, hw876⟩ : ∃ z : (Nat → Int64), z = (f3_slots (0 : Int32) (fun _ => (0 : Int64)) (fun _ => (0 : Int32))) := ⟨_, rfl⟩
    rw [← hw876] at fz872_0
    obtain ⟨w877, hw877⟩ : ∃ z : (Nat → Int32), z = (f3_entrySlots (0 : Int32) (fun _ => (0 : Int64)) (fun _ => (0 : Int32))) := ⟨_, rfl⟩
    rw [← hw877] at fz872_1
    have I878 : own_I w876 w877 w875 0 := own_Iclear own_I0 (by decide) hw876 hw877 hw875
    obtain ⟨cq879, kq879, q879a, q879b, q879c⟩ := isOf hZ rfl Eq872
    obtain ⟨_, _, ⟨T879, L879, k879, n879⟩, -, X879, ⟨Lc879, hQ879, l879, y879, z879⟩, st879⟩ := X872.virtualBack hx (y := (⟨"com/example/ketproof/ketproof/MassTable", "add", "(IDD)V"⟩ : MethodName)) (z := (⟨"com/example/ketproof/ketproof/MassTable", "add", "(IDD)V"⟩ : MethodName)) hown (mvT hZ (hw _ (List.mem_of_getElem? (i := 22) rfl))) (mvT hZ (hw _ (List.mem_of_getElem? (i := 23) rfl))) (notFace_of_selects (args := #[]) (mvT hZ (hw _ (List.mem_of_getElem? (i := 25) rfl)))) (mvT hZ (hw _ (List.mem_of_getElem? (i := 25) rfl))) (mvT hZ (hw _ (List.mem_of_getElem? (i := 24) rfl))) (by decide) (backOf (W := 0) (rm4 l Z a0 hw [] b854 w847 (FP.i2d w853) w841 b862 b863 w875 kkb862 w876 kkb863 w877 T872.heap n0 Z874 Eq872 fq872_0 fq872_1 fq872_2 fq872_3 gg854 fz872_0 ggb862 ne864 fz872_1 ggb863 ne866 nn861_1_0 (own_Isz I878 (by decide)) (own_Istop I878 (by decide) _ _) I878.2.2.2.1 (own_fi hw841)) hZ (hw _ (List.mem_of_getElem? (i := 26) rfl)) (hw _ (List.mem_of_getElem? (i := 2) rfl)) (by decide) (by decide)) q879a q879c (g := (mkF m 161 #[.val (.int sA), .val (.int vA), .val (.int sB), .val (.int vB), .val (.int pk), .val (.int mm), .val (.int (0 : Int32)), .val (.int w837), .val (.double w839), .second, .val (.double w841), .second, .val (.int w847), .val (.int w853), .val (.ref b854)] [(.double w841), (.double (FP.i2d w853)), (.int w847), (.ref b854)])) rfl (by rw [hml]; rfl) (Steps.refl _) (argsL := [(.int w847), (.double (FP.i2d w853)), (.double w841)]) (rest := []) (lenOf pd_5 rfl) rfl (by show 2 * 0 + _ ≤ _; exact Nat.le_of_eq rfl) (hb hby at_161) (fun _ _ => ⟨rfl, rfl, (by decide : 3 + 0 ≤ _), (by decide : 116 + 0 ≤ _)⟩)
    dsimp only [Pt.U, Pt.locs, Pt.cells, Pt.slots] at X879 l879 y879 z879 st879 hQ879
    subst l879 y879 z879
    obtain ⟨rfl, N879q, K879, Eq879, fq879_0, fq879_1, fq879_2, fq879_3, fz879_0, fz879_1⟩ := hQ879
    have N879 := Fr.app N872 N879q
    have K880 : Keep h0 T879.heap [] := K873.trans K879 (allS (Or.inr sz854) (allS (Or.inr sz865) (allS (Or.inr sz867) all0)))
    have Z881 : n0 ≤ T879.heap.size := Nat.le_trans Z874 K879.1
    obtain ⟨w882, hw882⟩ : ∃ z : Int32, z = (f4_size w847 (FP.i2d w853) w841 w875 w876 w877) := ⟨_, rfl⟩
    rw [← hw882] at fq879_2
    obtain ⟨w883, hw883⟩ : ∃ z : (Nat → Int64), z = (f4_slots w847 (FP.i2d w853) w841 w875 w876 w877) := ⟨_, rfl⟩
    rw [← hw883] at fz879_0
    obtain ⟨w884, hw884⟩ : ∃ z : (Nat → Int32), z = (f4_entrySlots w847 (FP.i2d w853) w841 w875 w876 w877) := ⟨_, rfl⟩
    rw [← hw884] at fz879_1
    have I885 : own_I w883 w884 w882 1 := own_Iadd I878 (by decide) (own_fi hw841) hw883 hw884 hw882
    have B886 := own_back I878 hw883 hw884 hw882 (Jvm.Free.Fl.i2d_fin _) (own_fi hw841)
    obtain ⟨cq887, kq887, q887a, q887b, q887c⟩ := isOf hZ rfl Eq879
    obtain ⟨_, _, ⟨T887, L887, k887, n887⟩, -, X887, ⟨Lc887, hQ887, l887, y887, z887⟩, st887⟩ := X879.virtualBack hx (y := (⟨"com/example/ketproof/ketproof/MassTable", "size", "()I"⟩ : MethodName)) (z := (⟨"com/example/ketproof/ketproof/MassTable", "size", "()I"⟩ : MethodName)) hown (mvT hZ (hw _ (List.mem_of_getElem? (i := 40) rfl))) (mvT hZ (hw _ (List.mem_of_getElem? (i := 41) rfl))) (notFace_of_selects (args := #[]) (mvT hZ (hw _ (List.mem_of_getElem? (i := 43) rfl)))) (mvT hZ (hw _ (List.mem_of_getElem? (i := 43) rfl))) (mvT hZ (hw _ (List.mem_of_getElem? (i := 42) rfl))) (by decide) (backOf (W := 0) (rm7 l Z a0 hw [] b854 w882 T879.heap n0 Z881 fq879_2) hZ (hw _ (List.mem_of_getElem? (i := 44) rfl)) (hw _ (List.mem_of_getElem? (i := 2) rfl)) (by decide) (by decide)) q887a q887c (g := (mkF m 166 #[.val (.int sA), .val (.int vA), .val (.int sB), .val (.int vB), .val (.int pk), .val (.int mm), .val (.int (0 : Int32)), .val (.int w837), .val (.double w839), .second, .val (.double w841), .second, .val (.int w847), .val (.int w853), .val (.ref b854)] [(.ref b854)])) rfl (by rw [hml]; rfl) (Steps.refl _) (argsL := []) (rest := []) (lenOf pd_6 rfl) rfl (by show 2 * 0 + _ ≤ _; exact Nat.le_of_eq rfl) (hb hby at_166) (fun _ _ => ⟨rfl, rfl, (by decide : 3 + 0 ≤ _), (by decide : 116 + 0 ≤ _)⟩)
    dsimp only [Pt.U, Pt.locs, Pt.cells, Pt.slots] at X887 l887 y887 z887 st887 hQ887
    subst l887 y887 z887
    obtain ⟨rfl, N887q, e887⟩ := hQ887
    have N887 := Fr.app N879 N887q
    obtain ⟨cq888, kq888, q888a, q888b, q888c⟩ := isOf hZ e887 Eq879
    obtain ⟨_, _, ⟨T888, L888, k888, n888⟩, -, X888, ⟨Lc888, hQ888, l888, y888, z888⟩, st888⟩ := X887.virtualBack hx (y := (⟨"com/example/ketproof/ketproof/MassTable", "state", "(I)I"⟩ : MethodName)) (z := (⟨"com/example/ketproof/ketproof/MassTable", "state", "(I)I"⟩ : MethodName)) hown (mvT hZ (hw _ (List.mem_of_getElem? (i := 45) rfl))) (mvT hZ (hw _ (List.mem_of_getElem? (i := 46) rfl))) (notFace_of_selects (args := #[]) (mvT hZ (hw _ (List.mem_of_getElem? (i := 48) rfl)))) (mvT hZ (hw _ (List.mem_of_getElem? (i := 48) rfl))) (mvT hZ (hw _ (List.mem_of_getElem? (i := 47) rfl))) (by decide) (backOf (W := 0) (rm8 l Z a0 hw [] b854 (0 : Int32) b862 b863 kkb862 w883 kkb863 w884 T879.heap n0 Z881 fq879_0 fq879_1 fz879_0 fz879_1 fq879_3 ⟨by decide, by decide⟩ B886.1) hZ (hw _ (List.mem_of_getElem? (i := 49) rfl)) (hw _ (List.mem_of_getElem? (i := 2) rfl)) (by decide) (by decide)) q888a q888c (g := (mkF m 176 #[.val (.int sA), .val (.int vA), .val (.int sB), .val (.int vB), .val (.int pk), .val (.int mm), .val (.int (0 : Int32)), .val (.int w837), .val (.double w839), .second, .val (.double w841), .second, .val (.int w847), .val (.int w853), .val (.ref b854)] [(.int (0 : Int32)), (.ref b854)])) rfl (by rw [hml]; rfl) (Steps.refl _) (argsL := [(.int (0 : Int32))]) (rest := []) (lenOf pd_7 rfl) rfl (by show 2 * 0 + _ ≤ _; exact Nat.le_of_eq rfl) (hb hby at_176) (fun _ _ => ⟨rfl, e887, (by decide : 3 + 0 ≤ _), (by decide : 116 + 0 ≤ _)⟩)
    dsimp only [Pt.U, Pt.locs, Pt.cells, Pt.slots] at X888 l888 y888 z888 st888 hQ888
    subst l888 y888 z888
    obtain ⟨rfl, N888q, e888⟩ := hQ888
    have N888 := Fr.app N887 N888q
    obtain ⟨cq889, kq889, q889a, q889b, q889c⟩ := isOf hZ e888 Eq879
    obtain ⟨_, _, ⟨T889, L889, k889, n889⟩, -, X889, ⟨Lc889, hQ889, l889, y889, z889⟩, st889⟩ := X888.virtualBack hx (y := (⟨"com/example/ketproof/ketproof/MassTable", "value", "(I)D"⟩ : MethodName)) (z := (⟨"com/example/ketproof/ketproof/MassTable", "value", "(I)D"⟩ : MethodName)) hown (mvT hZ (hw _ (List.mem_of_getElem? (i := 50) rfl))) (mvT hZ (hw _ (List.mem_of_getElem? (i := 51) rfl))) (notFace_of_selects (args := #[]) (mvT hZ (hw _ (List.mem_of_getElem? (i := 53) rfl)))) (mvT hZ (hw _ (List.mem_of_getElem? (i := 53) rfl))) (mvT hZ (hw _ (List.mem_of_getElem? (i := 52) rfl))) (by decide) (backOf (W := 0) (rm9 l Z a0 hw [] b854 (0 : Int32) b862 b863 kkb862 w883 kkb863 w884 T879.heap n0 Z881 fq879_0 fq879_1 Eq879 fz879_0 fz879_1 fq879_3 ⟨by decide, by decide⟩ B886.1 B886.2.1) hZ (hw _ (List.mem_of_getElem? (i := 54) rfl)) (hw _ (List.mem_of_getElem? (i := 2) rfl)) (by decide) (by decide)) q889a q889c (g := (mkF m 187 #[.val (.int sA), .val (.int vA), .val (.int sB), .val (.int vB), .val (.int pk), .val (.int mm), .val (.int (0 : Int32)), .val (.int w837), .val (.double w839), .second, .val (.double w841), .second, .val (.int w847), .val (.int w853), .val (.ref b854)] [(.int (0 : Int32)), (.ref b854)])) rfl (by rw [hml]; rfl) (Steps.refl _) (argsL := [(.int (0 : Int32))]) (rest := []) (lenOf pd_8 rfl) rfl (by show 2 * 0 + _ ≤ _; exact Nat.le_of_eq rfl) (hb hby at_187) (fun _ _ => ⟨rfl, e888, (by decide : 3 + 0 ≤ _), (by decide : 116 + 0 ≤ _)⟩)
    dsimp only [Pt.U, Pt.locs, Pt.cells, Pt.slots] at X889 l889 y889 z889 st889 hQ889
    subst l889 y889 z889
    obtain ⟨rfl, N889q, e889⟩ := hQ889
    have N889 := Fr.app N888 N889q
    obtain ⟨cq890, kq890, q890a, q890b, q890c⟩ := isOf hZ e889 Eq879
    obtain ⟨_, _, ⟨T890, L890, k890, n890⟩, -, X890, ⟨Lc890, hQ890, l890, y890, z890⟩, st890⟩ := X889.virtualBack hx (y := (⟨"com/example/ketproof/ketproof/MassTable", "mass", "(I)D"⟩ : MethodName)) (z := (⟨"com/example/ketproof/ketproof/MassTable", "mass", "(I)D"⟩ : MethodName)) hown (mvT hZ (hw _ (List.mem_of_getElem? (i := 65) rfl))) (mvT hZ (hw _ (List.mem_of_getElem? (i := 66) rfl))) (notFace_of_selects (args := #[]) (mvT hZ (hw _ (List.mem_of_getElem? (i := 68) rfl)))) (mvT hZ (hw _ (List.mem_of_getElem? (i := 68) rfl))) (mvT hZ (hw _ (List.mem_of_getElem? (i := 67) rfl))) (by decide) (backOf (W := 0) (rm11 l Z a0 hw [] b854 (0 : Int32) b862 b863 kkb862 w883 kkb863 w884 T879.heap n0 Z881 fq879_0 fq879_1 fz879_0 fz879_1 fq879_3 ⟨by decide, by decide⟩ B886.1 B886.2.2.1) hZ (hw _ (List.mem_of_getElem? (i := 69) rfl)) (hw _ (List.mem_of_getElem? (i := 2) rfl)) (by decide) (by decide)) q890a q890c (g := (mkF m 200 #[.val (.int sA), .val (.int vA), .val (.int sB), .val (.int vB), .val (.int pk), .val (.int mm), .val (.int (0 : Int32)), .val (.int w837), .val (.double w839), .second, .val (.double w841), .second, .val (.int w847), .val (.int w853), .val (.ref b854)] [(.int (0 : Int32)), (.ref b854)])) rfl (by rw [hml]; rfl) (Steps.refl _) (argsL := [(.int (0 : Int32))]) (rest := []) (lenOf pd_8 rfl) rfl (by show 2 * 0 + _ ≤ _; exact Nat.le_of_eq rfl) (hb hby at_200) (fun _ _ => ⟨rfl, e889, (by decide : 3 + 0 ≤ _), (by decide : 116 + 0 ≤ _)⟩)
    dsimp only [Pt.U, Pt.locs, Pt.cells, Pt.slots] at X890 l890 y890 z890 st890 hQ890
    subst l890 y890 z890
    obtain ⟨rfl, N890q, e890⟩ := hQ890
    have N890 := Fr.app N889 N890q
    have S891 : ∀ t, Steps p.tables e below (T890.setTop (mkF m 214 #[.val (.int sA), .val (.int vA), .val (.int sB), .val (.int vB), .val (.int pk), .val (.int mm), .val (.int (0 : Int32)), .val (.int w837), .val (.double w839), .second, .val (.double w841), .second, .val (.int w847), .val (.int w853), .val (.ref b854)] [(.int (1 : Int32))])) t → Steps p.tables e below (s₁.setTop (entryFrame m #[(.int sA), (.int vA), (.int sB), (.int vB), (.int pk), (.int mm)] maxLocals)) t := by
      intro t k
      refine S870 t ?_
      refine XS.iload X861.here hx rfl (hb hby at_99) rfl ?_
      show Steps p.tables e below (T861.setTop (mkF m 101 #[.val (.int sA), .val (.int vA), .val (.int sB), .val (.int vB), .val (.int pk), .val (.int mm), .val (.int (0 : Int32)), .val (.int w837), .val (.double w839), .second, .val (.double w841), .second, .val (.int w847), .val (.int w853), .val (.ref b854)] [(.int (0 : Int32))])) _
      refine XS.iconst X861.here hx rfl (hb hby at_101) ?_
      show Steps p.tables e below (T861.setTop (mkF m 102 #[.val (.int sA), .val (.int vA), .val (.int sB), .val (.int vB), .val (.int pk), .val (.int mm), .val (.int (0 : Int32)), .val (.int w837), .val (.double w839), .second, .val (.double w841), .second, .val (.int w847), .val (.int w853), .val (.ref b854)] [(.int (1 : Int32)), (.int (0 : Int32))])) _
      refine XS.icmpYes X861.here hx rfl (pc0 := 102) (pc' := 115) rfl (hb hby at_102) rfl (tlt (by decide : (0 : Int32) < (1 : Int32))).1 (by decide) (by decide) ?_
      show Steps p.tables e below (T861.setTop (mkF m 115 #[.val (.int sA), .val (.int vA), .val (.int sB), .val (.int vB), .val (.int pk), .val (.int mm), .val (.int (0 : Int32)), .val (.int w837), .val (.double w839), .second, .val (.double w841), .second, .val (.int w847), .val (.int w853), .val (.ref b854)] [])) _
      refine XS.iload X861.here hx rfl (hb hby at_115) rfl ?_
      show Steps p.tables e below (T861.setTop (mkF m 117 #[.val (.int sA), .val (.int vA), .val (.int sB), .val (.int vB), .val (.int pk), .val (.int mm), .val (.int (0 : Int32)), .val (.int w837), .val (.double w839), .second, .val (.double w841), .second, .val (.int w847), .val (.int w853), .val (.ref b854)] [(.int (0 : Int32))])) _
      refine XS.iconst X861.here hx rfl (hb hby at_117) ?_
      show Steps p.tables e below (T861.setTop (mkF m 118 #[.val (.int sA), .val (.int vA), .val (.int sB), .val (.int vB), .val (.int pk), .val (.int mm), .val (.int (0 : Int32)), .val (.int w837), .val (.double w839), .second, .val (.double w841), .second, .val (.int w847), .val (.int w853), .val (.ref b854)] [(.int (2 : Int32)), (.int (0 : Int32))])) _
      refine XS.icmpYes X861.here hx rfl (pc0 := 118) (pc' := 131) rfl (hb hby at_118) rfl (tlt (by decide : (0 : Int32) < (2 : Int32))).1 (by decide) (by decide) ?_
      show Steps p.tables e below (T861.setTop (mkF m 131 #[.val (.int sA), .val (.int vA), .val (.int sB), .val (.int vB), .val (.int pk), .val (.int mm), .val (.int (0 : Int32)), .val (.int w837), .val (.double w839), .second, .val (.double w841), .second, .val (.int w847), .val (.int w853), .val (.ref b854)] [])) _
      refine XS.iload X861.here hx rfl (hb hby at_131) rfl ?_
      show Steps p.tables e below (T861.setTop (mkF m 133 #[.val (.int sA), .val (.int vA), .val (.int sB), .val (.int vB), .val (.int pk), .val (.int mm), .val (.int (0 : Int32)), .val (.int w837), .val (.double w839), .second, .val (.double w841), .second, .val (.int w847), .val (.int w853), .val (.ref b854)] [(.int (0 : Int32))])) _
      refine XS.iconst X861.here hx rfl (hb hby at_133) ?_
      show Steps p.tables e below (T861.setTop (mkF m 134 #[.val (.int sA), .val (.int vA), .val (.int sB), .val (.int vB), .val (.int pk), .val (.int mm), .val (.int (0 : Int32)), .val (.int w837), .val (.double w839), .second, .val (.double w841), .second, .val (.int w847), .val (.int w853), .val (.ref b854)] [(.int (3 : Int32)), (.int (0 : Int32))])) _
      refine XS.icmpYes X861.here hx rfl (pc0 := 134) (pc' := 147) rfl (hb hby at_134) rfl (tlt (by decide : (0 : Int32) < (3 : Int32))).1 (by decide) (by decide) ?_
      show Steps p.tables e below (T861.setTop (mkF m 147 #[.val (.int sA), .val (.int vA), .val (.int sB), .val (.int vB), .val (.int pk), .val (.int mm), .val (.int (0 : Int32)), .val (.int w837), .val (.double w839), .second, .val (.double w841), .second, .val (.int w847), .val (.int w853), .val (.ref b854)] [])) _
      refine XS.aload X861.here hx rfl (hb hby at_147) rfl rfl ?_
      show Steps p.tables e below (T861.setTop (mkF m 149 #[.val (.int sA), .val (.int vA), .val (.int sB), .val (.int vB), .val (.int pk), .val (.int mm), .val (.int (0 : Int32)), .val (.int w837), .val (.double w839), .second, .val (.double w841), .second, .val (.int w847), .val (.int w853), .val (.ref b854)] [(.ref b854)])) _
      refine st872.trans ?_
      show Steps p.tables e below (T872.setTop (mkF m 152 #[.val (.int sA), .val (.int vA), .val (.int sB), .val (.int vB), .val (.int pk), .val (.int mm), .val (.int (0 : Int32)), .val (.int w837), .val (.double w839), .second, .val (.double w841), .second, .val (.int w847), .val (.int w853), .val (.ref b854)] [])) _
      refine XS.aload X872.here hx rfl (hb hby at_152) rfl rfl ?_
      show Steps p.tables e below (T872.setTop (mkF m 154 #[.val (.int sA), .val (.int vA), .val (.int sB), .val (.int vB), .val (.int pk), .val (.int mm), .val (.int (0 : Int32)), .val (.int w837), .val (.double w839), .second, .val (.double w841), .second, .val (.int w847), .val (.int w853), .val (.ref b854)] [(.ref b854)])) _
      refine XS.iload X872.here hx rfl (hb hby at_154) rfl ?_
      show Steps p.tables e below (T872.setTop (mkF m 156 #[.val (.int sA), .val (.int vA), .val (.int sB), .val (.int vB), .val (.int pk), .val (.int mm), .val (.int (0 : Int32)), .val (.int w837), .val (.double w839), .second, .val (.double w841), .second, .val (.int w847), .val (.int w853), .val (.ref b854)] [(.int w847), (.ref b854)])) _
      refine XS.iload X872.here hx rfl (hb hby at_156) rfl ?_
      show Steps p.tables e below (T872.setTop (mkF m 158 #[.val (.int sA), .val (.int vA), .val (.int sB), .val (.int vB), .val (.int pk), .val (.int mm), .val (.int (0 : Int32)), .val (.int w837), .val (.double w839), .second, .val (.double w841), .second, .val (.int w847), .val (.int w853), .val (.ref b854)] [(.int w853), (.int w847), (.ref b854)])) _
      refine XS.i2dS X872.here hx rfl (hb hby at_158) rfl rfl ?_
      show Steps p.tables e below (T872.setTop (mkF m 159 #[.val (.int sA), .val (.int vA), .val (.int sB), .val (.int vB), .val (.int pk), .val (.int mm), .val (.int (0 : Int32)), .val (.int w837), .val (.double w839), .second, .val (.double w841), .second, .val (.int w847), .val (.int w853), .val (.ref b854)] [(.double (FP.i2d w853)), (.int w847), (.ref b854)])) _
      refine XS.dload X872.here hx rfl (hb hby at_159) rfl ?_
      show Steps p.tables e below (T872.setTop (mkF m 161 #[.val (.int sA), .val (.int vA), .val (.int sB), .val (.int vB), .val (.int pk), .val (.int mm), .val (.int (0 : Int32)), .val (.int w837), .val (.double w839), .second, .val (.double w841), .second, .val (.int w847), .val (.int w853), .val (.ref b854)] [(.double w841), (.double (FP.i2d w853)), (.int w847), (.ref b854)])) _
      refine st879.trans ?_
      show Steps p.tables e below (T879.setTop (mkF m 164 #[.val (.int sA), .val (.int vA), .val (.int sB), .val (.int vB), .val (.int pk), .val (.int mm), .val (.int (0 : Int32)), .val (.int w837), .val (.double w839), .second, .val (.double w841), .second, .val (.int w847), .val (.int w853), .val (.ref b854)] [])) _
      refine XS.aload X879.here hx rfl (hb hby at_164) rfl rfl ?_
      show Steps p.tables e below (T879.setTop (mkF m 166 #[.val (.int sA), .val (.int vA), .val (.int sB), .val (.int vB), .val (.int pk), .val (.int mm), .val (.int (0 : Int32)), .val (.int w837), .val (.double w839), .second, .val (.double w841), .second, .val (.int w847), .val (.int w853), .val (.ref b854)] [(.ref b854)])) _
      refine st887.trans ?_
      show Steps p.tables e below (T887.setTop (mkF m 169 #[.val (.int sA), .val (.int vA), .val (.int sB), .val (.int vB), .val (.int pk), .val (.int mm), .val (.int (0 : Int32)), .val (.int w837), .val (.double w839), .second, .val (.double w841), .second, .val (.int w847), .val (.int w853), .val (.ref b854)] [(.int (f7 w882))])) _
      refine XS.iconst X887.here hx rfl (hb hby at_169) ?_
      show Steps p.tables e below (T887.setTop (mkF m 170 #[.val (.int sA), .val (.int vA), .val (.int sB), .val (.int vB), .val (.int pk), .val (.int mm), .val (.int (0 : Int32)), .val (.int w837), .val (.double w839), .second, .val (.double w841), .second, .val (.int w847), .val (.int w853), .val (.ref b854)] [(.int (1 : Int32)), (.int (f7 w882))])) _
      refine XS.icmpNo X887.here hx rfl (hb hby at_170) rfl (teq B886.2.2.2.1).2 ?_
      show Steps p.tables e below (T887.setTop (mkF m 173 #[.val (.int sA), .val (.int vA), .val (.int sB), .val (.int vB), .val (.int pk), .val (.int mm), .val (.int (0 : Int32)), .val (.int w837), .val (.double w839), .second, .val (.double w841), .second, .val (.int w847), .val (.int w853), .val (.ref b854)] [])) _
      refine XS.aload X887.here hx rfl (hb hby at_173) rfl rfl ?_
      show Steps p.tables e below (T887.setTop (mkF m 175 #[.val (.int sA), .val (.int vA), .val (.int sB), .val (.int vB), .val (.int pk), .val (.int mm), .val (.int (0 : Int32)), .val (.int w837), .val (.double w839), .second, .val (.double w841), .second, .val (.int w847), .val (.int w853), .val (.ref b854)] [(.ref b854)])) _
      refine XS.iconst X887.here hx rfl (hb hby at_175) ?_
      show Steps p.tables e below (T887.setTop (mkF m 176 #[.val (.int sA), .val (.int vA), .val (.int sB), .val (.int vB), .val (.int pk), .val (.int mm), .val (.int (0 : Int32)), .val (.int w837), .val (.double w839), .second, .val (.double w841), .second, .val (.int w847), .val (.int w853), .val (.ref b854)] [(.int (0 : Int32)), (.ref b854)])) _
      refine st888.trans ?_
      show Steps p.tables e below (T888.setTop (mkF m 179 #[.val (.int sA), .val (.int vA), .val (.int sB), .val (.int vB), .val (.int pk), .val (.int mm), .val (.int (0 : Int32)), .val (.int w837), .val (.double w839), .second, .val (.double w841), .second, .val (.int w847), .val (.int w853), .val (.ref b854)] [(.int (f8 (0 : Int32) w883 w884))])) _
      refine XS.iload X888.here hx rfl (hb hby at_179) rfl ?_
      show Steps p.tables e below (T888.setTop (mkF m 181 #[.val (.int sA), .val (.int vA), .val (.int sB), .val (.int vB), .val (.int pk), .val (.int mm), .val (.int (0 : Int32)), .val (.int w837), .val (.double w839), .second, .val (.double w841), .second, .val (.int w847), .val (.int w853), .val (.ref b854)] [(.int w847), (.int (f8 (0 : Int32) w883 w884))])) _
      refine XS.icmpNo X888.here hx rfl (hb hby at_181) rfl (teq B886.2.2.2.2.1).2 ?_
      show Steps p.tables e below (T888.setTop (mkF m 184 #[.val (.int sA), .val (.int vA), .val (.int sB), .val (.int vB), .val (.int pk), .val (.int mm), .val (.int (0 : Int32)), .val (.int w837), .val (.double w839), .second, .val (.double w841), .second, .val (.int w847), .val (.int w853), .val (.ref b854)] [])) _
      refine XS.aload X888.here hx rfl (hb hby at_184) rfl rfl ?_
      show Steps p.tables e below (T888.setTop (mkF m 186 #[.val (.int sA), .val (.int vA), .val (.int sB), .val (.int vB), .val (.int pk), .val (.int mm), .val (.int (0 : Int32)), .val (.int w837), .val (.double w839), .second, .val (.double w841), .second, .val (.int w847), .val (.int w853), .val (.ref b854)] [(.ref b854)])) _
      refine XS.iconst X888.here hx rfl (hb hby at_186) ?_
      show Steps p.tables e below (T888.setTop (mkF m 187 #[.val (.int sA), .val (.int vA), .val (.int sB), .val (.int vB), .val (.int pk), .val (.int mm), .val (.int (0 : Int32)), .val (.int w837), .val (.double w839), .second, .val (.double w841), .second, .val (.int w847), .val (.int w853), .val (.ref b854)] [(.int (0 : Int32)), (.ref b854)])) _
      refine st889.trans ?_
      show Steps p.tables e below (T889.setTop (mkF m 190 #[.val (.int sA), .val (.int vA), .val (.int sB), .val (.int vB), .val (.int pk), .val (.int mm), .val (.int (0 : Int32)), .val (.int w837), .val (.double w839), .second, .val (.double w841), .second, .val (.int w847), .val (.int w853), .val (.ref b854)] [(.double (f9 (0 : Int32) w883 w884))])) _
      refine XS.iload X889.here hx rfl (hb hby at_190) rfl ?_
      show Steps p.tables e below (T889.setTop (mkF m 192 #[.val (.int sA), .val (.int vA), .val (.int sB), .val (.int vB), .val (.int pk), .val (.int mm), .val (.int (0 : Int32)), .val (.int w837), .val (.double w839), .second, .val (.double w841), .second, .val (.int w847), .val (.int w853), .val (.ref b854)] [(.int w853), (.double (f9 (0 : Int32) w883 w884))])) _
      refine XS.i2dS X889.here hx rfl (hb hby at_192) rfl rfl ?_
      show Steps p.tables e below (T889.setTop (mkF m 193 #[.val (.int sA), .val (.int vA), .val (.int sB), .val (.int vB), .val (.int pk), .val (.int mm), .val (.int (0 : Int32)), .val (.int w837), .val (.double w839), .second, .val (.double w841), .second, .val (.int w847), .val (.int w853), .val (.ref b854)] [(.double (FP.i2d w853)), (.double (f9 (0 : Int32) w883 w884))])) _
      refine XS.dcmpS X889.here hx rfl (hb hby at_193) rfl rfl ?_
      show Steps p.tables e below (T889.setTop (mkF m 194 #[.val (.int sA), .val (.int vA), .val (.int sB), .val (.int vB), .val (.int pk), .val (.int mm), .val (.int (0 : Int32)), .val (.int w837), .val (.double w839), .second, .val (.double w841), .second, .val (.int w847), .val (.int w853), .val (.ref b854)] [(.int (cmpValue (FP.dcmp (f9 (0 : Int32) w883 w884) (FP.i2d w853)) .l))])) _
      refine XS.ifNo X889.here hx rfl (hb hby at_194) rfl ((if0 _ _).trans (teq B886.2.2.2.2.2.1).2) ?_
      show Steps p.tables e below (T889.setTop (mkF m 197 #[.val (.int sA), .val (.int vA), .val (.int sB), .val (.int vB), .val (.int pk), .val (.int mm), .val (.int (0 : Int32)), .val (.int w837), .val (.double w839), .second, .val (.double w841), .second, .val (.int w847), .val (.int w853), .val (.ref b854)] [])) _
      refine XS.aload X889.here hx rfl (hb hby at_197) rfl rfl ?_
      show Steps p.tables e below (T889.setTop (mkF m 199 #[.val (.int sA), .val (.int vA), .val (.int sB), .val (.int vB), .val (.int pk), .val (.int mm), .val (.int (0 : Int32)), .val (.int w837), .val (.double w839), .second, .val (.double w841), .second, .val (.int w847), .val (.int w853), .val (.ref b854)] [(.ref b854)])) _
      refine XS.iconst X889.here hx rfl (hb hby at_199) ?_
      show Steps p.tables e below (T889.setTop (mkF m 200 #[.val (.int sA), .val (.int vA), .val (.int sB), .val (.int vB), .val (.int pk), .val (.int mm), .val (.int (0 : Int32)), .val (.int w837), .val (.double w839), .second, .val (.double w841), .second, .val (.int w847), .val (.int w853), .val (.ref b854)] [(.int (0 : Int32)), (.ref b854)])) _
      refine st890.trans ?_
      show Steps p.tables e below (T890.setTop (mkF m 203 #[.val (.int sA), .val (.int vA), .val (.int sB), .val (.int vB), .val (.int pk), .val (.int mm), .val (.int (0 : Int32)), .val (.int w837), .val (.double w839), .second, .val (.double w841), .second, .val (.int w847), .val (.int w853), .val (.ref b854)] [(.double (f11 (0 : Int32) w883 w884))])) _
      refine XS.dload X890.here hx rfl (hb hby at_203) rfl ?_
      show Steps p.tables e below (T890.setTop (mkF m 205 #[.val (.int sA), .val (.int vA), .val (.int sB), .val (.int vB), .val (.int pk), .val (.int mm), .val (.int (0 : Int32)), .val (.int w837), .val (.double w839), .second, .val (.double w841), .second, .val (.int w847), .val (.int w853), .val (.ref b854)] [(.double w841), (.double (f11 (0 : Int32) w883 w884))])) _
      refine XS.dcmpS X890.here hx rfl (hb hby at_205) rfl rfl ?_
      show Steps p.tables e below (T890.setTop (mkF m 206 #[.val (.int sA), .val (.int vA), .val (.int sB), .val (.int vB), .val (.int pk), .val (.int mm), .val (.int (0 : Int32)), .val (.int w837), .val (.double w839), .second, .val (.double w841), .second, .val (.int w847), .val (.int w853), .val (.ref b854)] [(.int (cmpValue (FP.dcmp (f11 (0 : Int32) w883 w884) w841) .l))])) _
      refine XS.ifNo X890.here hx rfl (hb hby at_206) rfl ((if0 _ _).trans (teq B886.2.2.2.2.2.2).2) ?_
      show Steps p.tables e below (T890.setTop (mkF m 209 #[.val (.int sA), .val (.int vA), .val (.int sB), .val (.int vB), .val (.int pk), .val (.int mm), .val (.int (0 : Int32)), .val (.int w837), .val (.double w839), .second, .val (.double w841), .second, .val (.int w847), .val (.int w853), .val (.ref b854)] [])) _
      refine XS.iconst X890.here hx rfl (hb hby at_209) ?_
      show Steps p.tables e below (T890.setTop (mkF m 210 #[.val (.int sA), .val (.int vA), .val (.int sB), .val (.int vB), .val (.int pk), .val (.int mm), .val (.int (0 : Int32)), .val (.int w837), .val (.double w839), .second, .val (.double w841), .second, .val (.int w847), .val (.int w853), .val (.ref b854)] [(.int (1 : Int32))])) _
      refine XS.goto X890.here hx rfl (pc0 := 210) (pc' := 214) rfl (hb hby at_210) (by decide) (by decide) ?_
      show Steps p.tables e below (T890.setTop (mkF m 214 #[.val (.int sA), .val (.int vA), .val (.int sB), .val (.int vB), .val (.int pk), .val (.int mm), .val (.int (0 : Int32)), .val (.int w837), .val (.double w839), .second, .val (.double w841), .second, .val (.int w847), .val (.int w853), .val (.ref b854)] [(.int (1 : Int32))])) _
      exact k
    obtain ⟨fs, hr, hrun, hended, hW, hsame⟩ := X890.leave (v := some (.int (1 : Int32))) (fun h => by rw [Bd.returns] at h; cases h)
    refine ⟨_, _, S891 _ ?_, hrun, hended, _, _, rfl, ?_, ⟨_, rfl⟩, hW, hsame.mono (by decide) (by decide)⟩
    · exact retN X890 hx (t := .boolean) Bd.returns (by simp) (hb hby at_214) hr
    · show Q0 Z sA vA sB vB pk mm h0 n0 _ T890.heap _
      rw [e890]
      exact ⟨rfl, N890⟩
  · subst hs871
    obtain ⟨cq892, kq892, q892a, q892b, q892c⟩ := isOf hZ rfl Eq861
    obtain ⟨_, _, ⟨T892, L892, k892, n892⟩, -, X892, ⟨Lc892, hQ892, l892, y892, z892⟩, st892⟩ := X861.virtualBack hx (y := (⟨"com/example/ketproof/ketproof/MassTable", "add", "(IDD)V"⟩ : MethodName)) (z := (⟨"com/example/ketproof/ketproof/MassTable", "add", "(IDD)V"⟩ : MethodName)) hown (mvT hZ (hw _ (List.mem_of_getElem? (i := 22) rfl))) (mvT hZ (hw _ (List.mem_of_getElem? (i := 23) rfl))) (notFace_of_selects (args := #[]) (mvT hZ (hw _ (List.mem_of_getElem? (i := 25) rfl)))) (mvT hZ (hw _ (List.mem_of_getElem? (i := 25) rfl))) (mvT hZ (hw _ (List.mem_of_getElem? (i := 24) rfl))) (by decide) (backOf (W := 0) (rm4 l Z a0 hw [] b854 sA (FP.i2d vA) w839 b862 b863 (0 : Int32) kkb862 (fun _ => (0 : Int64)) kkb863 (fun _ => (0 : Int32)) T861.heap n0 Z869 Eq861 fq861_0 fq861_1 fq861_2 fq861_3 gg854 fab862 ggb862 ne864 fab863 ggb863 ne866 nn861_1_0 (own_Isz own_I0 (by decide)) (own_Istop own_I0 (by decide) _ _) own_I0.2.2.2.1 (own_fi hw839)) hZ (hw _ (List.mem_of_getElem? (i := 26) rfl)) (hw _ (List.mem_of_getElem? (i := 2) rfl)) (by decide) (by decide)) q892a q892c (g := (mkF m 112 #[.val (.int sA), .val (.int vA), .val (.int sB), .val (.int vB), .val (.int pk), .val (.int mm), .val (.int (1 : Int32)), .val (.int w837), .val (.double w839), .second, .val (.double w841), .second, .val (.int w847), .val (.int w853), .val (.ref b854)] [(.double w839), (.double (FP.i2d vA)), (.int sA), (.ref b854)])) rfl (by rw [hml]; rfl) (Steps.refl _) (argsL := [(.int sA), (.double (FP.i2d vA)), (.double w839)]) (rest := []) (lenOf pd_5 rfl) rfl (by show 2 * 0 + _ ≤ _; exact Nat.le_of_eq rfl) (hb hby at_112) (fun _ _ => ⟨rfl, rfl, (by decide : 3 + 0 ≤ _), (by decide : 116 + 0 ≤ _)⟩)
    dsimp only [Pt.U, Pt.locs, Pt.cells, Pt.slots] at X892 l892 y892 z892 st892 hQ892
    subst l892 y892 z892
    obtain ⟨rfl, N892q, K892, Eq892, fq892_0, fq892_1, fq892_2, fq892_3, fz892_0, fz892_1⟩ := hQ892
    have N892 := Fr.app N861 N892q
    have K893 : Keep h0 T892.heap [] := K868.trans K892 (allS (Or.inr sz854) (allS (Or.inr sz865) (allS (Or.inr sz867) all0)))
    have Z894 : n0 ≤ T892.heap.size := Nat.le_trans Z869 K892.1
    obtain ⟨w895, hw895⟩ : ∃ z : Int32, z = (f4_size sA (FP.i2d vA) w839 (0 : Int32) (fun _ => (0 : Int64)) (fun _ => (0 : Int32))) := ⟨_, rfl⟩
    rw [← hw895] at fq892_2
    obtain ⟨w896, hw896⟩ : ∃ z : (Nat → Int64), z = (f4_slots sA (FP.i2d vA) w839 (0 : Int32) (fun _ => (0 : Int64)) (fun _ => (0 : Int32))) := ⟨_, rfl⟩
    rw [← hw896] at fz892_0
    obtain ⟨w897, hw897⟩ : ∃ z : (Nat → Int32), z = (f4_entrySlots sA (FP.i2d vA) w839 (0 : Int32) (fun _ => (0 : Int64)) (fun _ => (0 : Int32))) := ⟨_, rfl⟩
    rw [← hw897] at fz892_1
    have I898 : own_I w896 w897 w895 1 := own_Iadd own_I0 (by decide) (own_fi hw839) hw896 hw897 hw895
    obtain ⟨cq899, kq899, q899a, q899b, q899c⟩ := isOf hZ rfl Eq892
    obtain ⟨_, _, ⟨T899, L899, k899, n899⟩, -, X899, ⟨Lc899, hQ899, l899, y899, z899⟩, st899⟩ := X892.virtualBack hx (y := (⟨"com/example/ketproof/ketproof/MassTable", "clear", "()V"⟩ : MethodName)) (z := (⟨"com/example/ketproof/ketproof/MassTable", "clear", "()V"⟩ : MethodName)) hown (mvT hZ (hw _ (List.mem_of_getElem? (i := 15) rfl))) (mvT hZ (hw _ (List.mem_of_getElem? (i := 16) rfl))) (notFace_of_selects (args := #[]) (mvT hZ (hw _ (List.mem_of_getElem? (i := 18) rfl)))) (mvT hZ (hw _ (List.mem_of_getElem? (i := 18) rfl))) (mvT hZ (hw _ (List.mem_of_getElem? (i := 17) rfl))) (by decide) (backOf (W := 0) (rm3 l Z a0 hw [] b854 b862 b863 w895 kkb862 w896 kkb863 w897 T892.heap n0 Z894 Eq892 fq892_0 fq892_1 fq892_2 fq892_3 gg854 fz892_0 ggb862 ne864 fz892_1 ggb863 ne866 nn861_1_0 (own_Isz I898 (by decide)) I898.2.2.1) hZ (hw _ (List.mem_of_getElem? (i := 19) rfl)) (hw _ (List.mem_of_getElem? (i := 2) rfl)) (by decide) (by decide)) q899a q899c (g := (mkF m 149 #[.val (.int sA), .val (.int vA), .val (.int sB), .val (.int vB), .val (.int pk), .val (.int mm), .val (.int (1 : Int32)), .val (.int w837), .val (.double w839), .second, .val (.double w841), .second, .val (.int w847), .val (.int w853), .val (.ref b854)] [(.ref b854)])) rfl (by rw [hml]; rfl) (Steps.refl _) (argsL := []) (rest := []) (lenOf pd_4 rfl) rfl (by show 2 * 0 + _ ≤ _; exact Nat.le_of_eq rfl) (hb hby at_149) (fun _ _ => ⟨rfl, rfl, (by decide : 3 + 0 ≤ _), (by decide : 116 + 0 ≤ _)⟩)
    dsimp only [Pt.U, Pt.locs, Pt.cells, Pt.slots] at X899 l899 y899 z899 st899 hQ899
    subst l899 y899 z899
    obtain ⟨rfl, N899q, K899, Eq899, fq899_0, fq899_1, fq899_2, fq899_3, fz899_0, fz899_1⟩ := hQ899
    have N899 := Fr.app N892 N899q
    have K900 : Keep h0 T899.heap [] := K893.trans K899 (allS (Or.inr sz854) (allS (Or.inr sz865) (allS (Or.inr sz867) all0)))
    have Z901 : n0 ≤ T899.heap.size := Nat.le_trans Z894 K899.1
    obtain ⟨w902, hw902⟩ : ∃ z : Int32, z = (f3_size w895 w896 w897) := ⟨_, rfl⟩
    rw [← hw902] at fq899_2
    obtain ⟨w903, hw903⟩ : ∃ z : (Nat → Int64), z = (f3_slots w895 w896 w897) := ⟨_, rfl⟩
    rw [← hw903] at fz899_0
    obtain ⟨w904, hw904⟩ : ∃ z : (Nat → Int32), z = (f3_entrySlots w895 w896 w897) := ⟨_, rfl⟩
    rw [← hw904] at fz899_1
    have I905 : own_I w903 w904 w902 0 := own_Iclear I898 (by decide) hw903 hw904 hw902
    obtain ⟨cq906, kq906, q906a, q906b, q906c⟩ := isOf hZ rfl Eq899
    obtain ⟨_, _, ⟨T906, L906, k906, n906⟩, -, X906, ⟨Lc906, hQ906, l906, y906, z906⟩, st906⟩ := X899.virtualBack hx (y := (⟨"com/example/ketproof/ketproof/MassTable", "add", "(IDD)V"⟩ : MethodName)) (z := (⟨"com/example/ketproof/ketproof/MassTable", "add", "(IDD)V"⟩ : MethodName)) hown (mvT hZ (hw _ (List.mem_of_getElem? (i := 22) rfl))) (mvT hZ (hw _ (List.mem_of_getElem? (i := 23) rfl))) (notFace_of_selects (args := #[]) (mvT hZ (hw _ (List.mem_of_getElem? (i := 25) rfl)))) (mvT hZ (hw _ (List.mem_of_getElem? (i := 25) rfl))) (mvT hZ (hw _ (List.mem_of_getElem? (i := 24) rfl))) (by decide) (backOf (W := 0) (rm4 l Z a0 hw [] b854 w847 (FP.i2d w853) w841 b862 b863 w902 kkb862 w903 kkb863 w904 T899.heap n0 Z901 Eq899 fq899_0 fq899_1 fq899_2 fq899_3 gg854 fz899_0 ggb862 ne864 fz899_1 ggb863 ne866 nn861_1_0 (own_Isz I905 (by decide)) (own_Istop I905 (by decide) _ _) I905.2.2.2.1 (own_fi hw841)) hZ (hw _ (List.mem_of_getElem? (i := 26) rfl)) (hw _ (List.mem_of_getElem? (i := 2) rfl)) (by decide) (by decide)) q906a q906c (g := (mkF m 161 #[.val (.int sA), .val (.int vA), .val (.int sB), .val (.int vB), .val (.int pk), .val (.int mm), .val (.int (1 : Int32)), .val (.int w837), .val (.double w839), .second, .val (.double w841), .second, .val (.int w847), .val (.int w853), .val (.ref b854)] [(.double w841), (.double (FP.i2d w853)), (.int w847), (.ref b854)])) rfl (by rw [hml]; rfl) (Steps.refl _) (argsL := [(.int w847), (.double (FP.i2d w853)), (.double w841)]) (rest := []) (lenOf pd_5 rfl) rfl (by show 2 * 0 + _ ≤ _; exact Nat.le_of_eq rfl) (hb hby at_161) (fun _ _ => ⟨rfl, rfl, (by decide : 3 + 0 ≤ _), (by decide : 116 + 0 ≤ _)⟩)
    dsimp only [Pt.U, Pt.locs, Pt.cells, Pt.slots] at X906 l906 y906 z906 st906 hQ906
    subst l906 y906 z906
    obtain ⟨rfl, N906q, K906, Eq906, fq906_0, fq906_1, fq906_2, fq906_3, fz906_0, fz906_1⟩ := hQ906
    have N906 := Fr.app N899 N906q
    have K907 : Keep h0 T906.heap [] := K900.trans K906 (allS (Or.inr sz854) (allS (Or.inr sz865) (allS (Or.inr sz867) all0)))
    have Z908 : n0 ≤ T906.heap.size := Nat.le_trans Z901 K906.1
    obtain ⟨w909, hw909⟩ : ∃ z : Int32, z = (f4_size w847 (FP.i2d w853) w841 w902 w903 w904) := ⟨_, rfl⟩
    rw [← hw909] at fq906_2
    obtain ⟨w910, hw910⟩ : ∃ z : (Nat → Int64), z = (f4_slots w847 (FP.i2d w853) w841 w902 w903 w904) := ⟨_, rfl⟩
    rw [← hw910] at fz906_0
    obtain ⟨w911, hw911⟩ : ∃ z : (Nat → Int32), z = (f4_entrySlots w847 (FP.i2d w853) w841 w902 w903 w904) := ⟨_, rfl⟩
    rw [← hw911] at fz906_1
    have I912 : own_I w910 w911 w909 1 := own_Iadd I905 (by decide) (own_fi hw841) hw910 hw911 hw909
    have B913 := own_back I905 hw910 hw911 hw909 (Jvm.Free.Fl.i2d_fin _) (own_fi hw841)
    obtain ⟨cq914, kq914, q914a, q914b, q914c⟩ := isOf hZ rfl Eq906
    obtain ⟨_, _, ⟨T914, L914, k914, n914⟩, -, X914, ⟨Lc914, hQ914, l914, y914, z914⟩, st914⟩ := X906.virtualBack hx (y := (⟨"com/example/ketproof/ketproof/MassTable", "size", "()I"⟩ : MethodName)) (z := (⟨"com/example/ketproof/ketproof/MassTable", "size", "()I"⟩ : MethodName)) hown (mvT hZ (hw _ (List.mem_of_getElem? (i := 40) rfl))) (mvT hZ (hw _ (List.mem_of_getElem? (i := 41) rfl))) (notFace_of_selects (args := #[]) (mvT hZ (hw _ (List.mem_of_getElem? (i := 43) rfl)))) (mvT hZ (hw _ (List.mem_of_getElem? (i := 43) rfl))) (mvT hZ (hw _ (List.mem_of_getElem? (i := 42) rfl))) (by decide) (backOf (W := 0) (rm7 l Z a0 hw [] b854 w909 T906.heap n0 Z908 fq906_2) hZ (hw _ (List.mem_of_getElem? (i := 44) rfl)) (hw _ (List.mem_of_getElem? (i := 2) rfl)) (by decide) (by decide)) q914a q914c (g := (mkF m 166 #[.val (.int sA), .val (.int vA), .val (.int sB), .val (.int vB), .val (.int pk), .val (.int mm), .val (.int (1 : Int32)), .val (.int w837), .val (.double w839), .second, .val (.double w841), .second, .val (.int w847), .val (.int w853), .val (.ref b854)] [(.ref b854)])) rfl (by rw [hml]; rfl) (Steps.refl _) (argsL := []) (rest := []) (lenOf pd_6 rfl) rfl (by show 2 * 0 + _ ≤ _; exact Nat.le_of_eq rfl) (hb hby at_166) (fun _ _ => ⟨rfl, rfl, (by decide : 3 + 0 ≤ _), (by decide : 116 + 0 ≤ _)⟩)
    dsimp only [Pt.U, Pt.locs, Pt.cells, Pt.slots] at X914 l914 y914 z914 st914 hQ914
    subst l914 y914 z914
    obtain ⟨rfl, N914q, e914⟩ := hQ914
    have N914 := Fr.app N906 N914q
    obtain ⟨cq915, kq915, q915a, q915b, q915c⟩ := isOf hZ e914 Eq906
    obtain ⟨_, _, ⟨T915, L915, k915, n915⟩, -, X915, ⟨Lc915, hQ915, l915, y915, z915⟩, st915⟩ := X914.virtualBack hx (y := (⟨"com/example/ketproof/ketproof/MassTable", "state", "(I)I"⟩ : MethodName)) (z := (⟨"com/example/ketproof/ketproof/MassTable", "state", "(I)I"⟩ : MethodName)) hown (mvT hZ (hw _ (List.mem_of_getElem? (i := 45) rfl))) (mvT hZ (hw _ (List.mem_of_getElem? (i := 46) rfl))) (notFace_of_selects (args := #[]) (mvT hZ (hw _ (List.mem_of_getElem? (i := 48) rfl)))) (mvT hZ (hw _ (List.mem_of_getElem? (i := 48) rfl))) (mvT hZ (hw _ (List.mem_of_getElem? (i := 47) rfl))) (by decide) (backOf (W := 0) (rm8 l Z a0 hw [] b854 (0 : Int32) b862 b863 kkb862 w910 kkb863 w911 T906.heap n0 Z908 fq906_0 fq906_1 fz906_0 fz906_1 fq906_3 ⟨by decide, by decide⟩ B913.1) hZ (hw _ (List.mem_of_getElem? (i := 49) rfl)) (hw _ (List.mem_of_getElem? (i := 2) rfl)) (by decide) (by decide)) q915a q915c (g := (mkF m 176 #[.val (.int sA), .val (.int vA), .val (.int sB), .val (.int vB), .val (.int pk), .val (.int mm), .val (.int (1 : Int32)), .val (.int w837), .val (.double w839), .second, .val (.double w841), .second, .val (.int w847), .val (.int w853), .val (.ref b854)] [(.int (0 : Int32)), (.ref b854)])) rfl (by rw [hml]; rfl) (Steps.refl _) (argsL := [(.int (0 : Int32))]) (rest := []) (lenOf pd_7 rfl) rfl (by show 2 * 0 + _ ≤ _; exact Nat.le_of_eq rfl) (hb hby at_176) (fun _ _ => ⟨rfl, e914, (by decide : 3 + 0 ≤ _), (by decide : 116 + 0 ≤ _)⟩)
    dsimp only [Pt.U, Pt.locs, Pt.cells, Pt.slots] at X915 l915 y915 z915 st915 hQ915
    subst l915 y915 z915
    obtain ⟨rfl, N915q, e915⟩ := hQ915
    have N915 := Fr.app N914 N915q
    obtain ⟨cq916, kq916, q916a, q916b, q916c⟩ := isOf hZ e915 Eq906
    obtain ⟨_, _, ⟨T916, L916, k916, n916⟩, -, X916, ⟨Lc916, hQ916, l916, y916, z916⟩, st916⟩ := X915.virtualBack hx (y := (⟨"com/example/ketproof/ketproof/MassTable", "value", "(I)D"⟩ : MethodName)) (z := (⟨"com/example/ketproof/ketproof/MassTable", "value", "(I)D"⟩ : MethodName)) hown (mvT hZ (hw _ (List.mem_of_getElem? (i := 50) rfl))) (mvT hZ (hw _ (List.mem_of_getElem? (i := 51) rfl))) (notFace_of_selects (args := #[]) (mvT hZ (hw _ (List.mem_of_getElem? (i := 53) rfl)))) (mvT hZ (hw _ (List.mem_of_getElem? (i := 53) rfl))) (mvT hZ (hw _ (List.mem_of_getElem? (i := 52) rfl))) (by decide) (backOf (W := 0) (rm9 l Z a0 hw [] b854 (0 : Int32) b862 b863 kkb862 w910 kkb863 w911 T906.heap n0 Z908 fq906_0 fq906_1 Eq906 fz906_0 fz906_1 fq906_3 ⟨by decide, by decide⟩ B913.1 B913.2.1) hZ (hw _ (List.mem_of_getElem? (i := 54) rfl)) (hw _ (List.mem_of_getElem? (i := 2) rfl)) (by decide) (by decide)) q916a q916c (g := (mkF m 187 #[.val (.int sA), .val (.int vA), .val (.int sB), .val (.int vB), .val (.int pk), .val (.int mm), .val (.int (1 : Int32)), .val (.int w837), .val (.double w839), .second, .val (.double w841), .second, .val (.int w847), .val (.int w853), .val (.ref b854)] [(.int (0 : Int32)), (.ref b854)])) rfl (by rw [hml]; rfl) (Steps.refl _) (argsL := [(.int (0 : Int32))]) (rest := []) (lenOf pd_8 rfl) rfl (by show 2 * 0 + _ ≤ _; exact Nat.le_of_eq rfl) (hb hby at_187) (fun _ _ => ⟨rfl, e915, (by decide : 3 + 0 ≤ _), (by decide : 116 + 0 ≤ _)⟩)
    dsimp only [Pt.U, Pt.locs, Pt.cells, Pt.slots] at X916 l916 y916 z916 st916 hQ916
    subst l916 y916 z916
    obtain ⟨rfl, N916q, e916⟩ := hQ916
    have N916 := Fr.app N915 N916q
    obtain ⟨cq917, kq917, q917a, q917b, q917c⟩ := isOf hZ e916 Eq906
    obtain ⟨_, _, ⟨T917, L917, k917, n917⟩, -, X917, ⟨Lc917, hQ917, l917, y917, z917⟩, st917⟩ := X916.virtualBack hx (y := (⟨"com/example/ketproof/ketproof/MassTable", "mass", "(I)D"⟩ : MethodName)) (z := (⟨"com/example/ketproof/ketproof/MassTable", "mass", "(I)D"⟩ : MethodName)) hown (mvT hZ (hw _ (List.mem_of_getElem? (i := 65) rfl))) (mvT hZ (hw _ (List.mem_of_getElem? (i := 66) rfl))) (notFace_of_selects (args := #[]) (mvT hZ (hw _ (List.mem_of_getElem? (i := 68) rfl)))) (mvT hZ (hw _ (List.mem_of_getElem? (i := 68) rfl))) (mvT hZ (hw _ (List.mem_of_getElem? (i := 67) rfl))) (by decide) (backOf (W := 0) (rm11 l Z a0 hw [] b854 (0 : Int32) b862 b863 kkb862 w910 kkb863 w911 T906.heap n0 Z908 fq906_0 fq906_1 fz906_0 fz906_1 fq906_3 ⟨by decide, by decide⟩ B913.1 B913.2.2.1) hZ (hw _ (List.mem_of_getElem? (i := 69) rfl)) (hw _ (List.mem_of_getElem? (i := 2) rfl)) (by decide) (by decide)) q917a q917c (g := (mkF m 200 #[.val (.int sA), .val (.int vA), .val (.int sB), .val (.int vB), .val (.int pk), .val (.int mm), .val (.int (1 : Int32)), .val (.int w837), .val (.double w839), .second, .val (.double w841), .second, .val (.int w847), .val (.int w853), .val (.ref b854)] [(.int (0 : Int32)), (.ref b854)])) rfl (by rw [hml]; rfl) (Steps.refl _) (argsL := [(.int (0 : Int32))]) (rest := []) (lenOf pd_8 rfl) rfl (by show 2 * 0 + _ ≤ _; exact Nat.le_of_eq rfl) (hb hby at_200) (fun _ _ => ⟨rfl, e916, (by decide : 3 + 0 ≤ _), (by decide : 116 + 0 ≤ _)⟩)
    dsimp only [Pt.U, Pt.locs, Pt.cells, Pt.slots] at X917 l917 y917 z917 st917 hQ917
    subst l917 y917 z917
    obtain ⟨rfl, N917q, e917⟩ := hQ917
    have N917 := Fr.app N916 N917q
    have S918 : ∀ t, Steps p.tables e below (T917.setTop (mkF m 214 #[.val (.int sA), .val (.int vA), .val (.int sB), .val (.int vB), .val (.int pk), .val (.int mm), .val (.int (1 : Int32)), .val (.int w837), .val (.double w839), .second, .val (.double w841), .second, .val (.int w847), .val (.int w853), .val (.ref b854)] [(.int (1 : Int32))])) t → Steps p.tables e below (s₁.setTop (entryFrame m #[(.int sA), (.int vA), (.int sB), (.int vB), (.int pk), (.int mm)] maxLocals)) t := by
      intro t k
      refine S870 t ?_
      refine XS.iload X861.here hx rfl (hb hby at_99) rfl ?_
      show Steps p.tables e below (T861.setTop (mkF m 101 #[.val (.int sA), .val (.int vA), .val (.int sB), .val (.int vB), .val (.int pk), .val (.int mm), .val (.int (1 : Int32)), .val (.int w837), .val (.double w839), .second, .val (.double w841), .second, .val (.int w847), .val (.int w853), .val (.ref b854)] [(.int (1 : Int32))])) _
      refine XS.iconst X861.here hx rfl (hb hby at_101) ?_
      show Steps p.tables e below (T861.setTop (mkF m 102 #[.val (.int sA), .val (.int vA), .val (.int sB), .val (.int vB), .val (.int pk), .val (.int mm), .val (.int (1 : Int32)), .val (.int w837), .val (.double w839), .second, .val (.double w841), .second, .val (.int w847), .val (.int w853), .val (.ref b854)] [(.int (1 : Int32)), (.int (1 : Int32))])) _
      refine XS.icmpNo X861.here hx rfl (hb hby at_102) rfl (flt (by decide : ¬ ((1 : Int32) < (1 : Int32)))).1 ?_
      show Steps p.tables e below (T861.setTop (mkF m 105 #[.val (.int sA), .val (.int vA), .val (.int sB), .val (.int vB), .val (.int pk), .val (.int mm), .val (.int (1 : Int32)), .val (.int w837), .val (.double w839), .second, .val (.double w841), .second, .val (.int w847), .val (.int w853), .val (.ref b854)] [])) _
      refine XS.aload X861.here hx rfl (hb hby at_105) rfl rfl ?_
      show Steps p.tables e below (T861.setTop (mkF m 107 #[.val (.int sA), .val (.int vA), .val (.int sB), .val (.int vB), .val (.int pk), .val (.int mm), .val (.int (1 : Int32)), .val (.int w837), .val (.double w839), .second, .val (.double w841), .second, .val (.int w847), .val (.int w853), .val (.ref b854)] [(.ref b854)])) _
      refine XS.iloadN X861.here hx rfl (hb hby at_107) rfl ?_
      show Steps p.tables e below (T861.setTop (mkF m 108 #[.val (.int sA), .val (.int vA), .val (.int sB), .val (.int vB), .val (.int pk), .val (.int mm), .val (.int (1 : Int32)), .val (.int w837), .val (.double w839), .second, .val (.double w841), .second, .val (.int w847), .val (.int w853), .val (.ref b854)] [(.int sA), (.ref b854)])) _
      refine XS.iloadN X861.here hx rfl (hb hby at_108) rfl ?_
      show Steps p.tables e below (T861.setTop (mkF m 109 #[.val (.int sA), .val (.int vA), .val (.int sB), .val (.int vB), .val (.int pk), .val (.int mm), .val (.int (1 : Int32)), .val (.int w837), .val (.double w839), .second, .val (.double w841), .second, .val (.int w847), .val (.int w853), .val (.ref b854)] [(.int vA), (.int sA), (.ref b854)])) _
      refine XS.i2dS X861.here hx rfl (hb hby at_109) rfl rfl ?_
      show Steps p.tables e below (T861.setTop (mkF m 110 #[.val (.int sA), .val (.int vA), .val (.int sB), .val (.int vB), .val (.int pk), .val (.int mm), .val (.int (1 : Int32)), .val (.int w837), .val (.double w839), .second, .val (.double w841), .second, .val (.int w847), .val (.int w853), .val (.ref b854)] [(.double (FP.i2d vA)), (.int sA), (.ref b854)])) _
      refine XS.dload X861.here hx rfl (hb hby at_110) rfl ?_
      show Steps p.tables e below (T861.setTop (mkF m 112 #[.val (.int sA), .val (.int vA), .val (.int sB), .val (.int vB), .val (.int pk), .val (.int mm), .val (.int (1 : Int32)), .val (.int w837), .val (.double w839), .second, .val (.double w841), .second, .val (.int w847), .val (.int w853), .val (.ref b854)] [(.double w839), (.double (FP.i2d vA)), (.int sA), (.ref b854)])) _
      refine st892.trans ?_
      show Steps p.tables e below (T892.setTop (mkF m 115 #[.val (.int sA), .val (.int vA), .val (.int sB), .val (.int vB), .val (.int pk), .val (.int mm), .val (.int (1 : Int32)), .val (.int w837), .val (.double w839), .second, .val (.double w841), .second, .val (.int w847), .val (.int w853), .val (.ref b854)] [])) _
      refine XS.iload X892.here hx rfl (hb hby at_115) rfl ?_
      show Steps p.tables e below (T892.setTop (mkF m 117 #[.val (.int sA), .val (.int vA), .val (.int sB), .val (.int vB), .val (.int pk), .val (.int mm), .val (.int (1 : Int32)), .val (.int w837), .val (.double w839), .second, .val (.double w841), .second, .val (.int w847), .val (.int w853), .val (.ref b854)] [(.int (1 : Int32))])) _
      refine XS.iconst X892.here hx rfl (hb hby at_117) ?_
      show Steps p.tables e below (T892.setTop (mkF m 118 #[.val (.int sA), .val (.int vA), .val (.int sB), .val (.int vB), .val (.int pk), .val (.int mm), .val (.int (1 : Int32)), .val (.int w837), .val (.double w839), .second, .val (.double w841), .second, .val (.int w847), .val (.int w853), .val (.ref b854)] [(.int (2 : Int32)), (.int (1 : Int32))])) _
      refine XS.icmpYes X892.here hx rfl (pc0 := 118) (pc' := 131) rfl (hb hby at_118) rfl (tlt (by decide : (1 : Int32) < (2 : Int32))).1 (by decide) (by decide) ?_
      show Steps p.tables e below (T892.setTop (mkF m 131 #[.val (.int sA), .val (.int vA), .val (.int sB), .val (.int vB), .val (.int pk), .val (.int mm), .val (.int (1 : Int32)), .val (.int w837), .val (.double w839), .second, .val (.double w841), .second, .val (.int w847), .val (.int w853), .val (.ref b854)] [])) _
      refine XS.iload X892.here hx rfl (hb hby at_131) rfl ?_
      show Steps p.tables e below (T892.setTop (mkF m 133 #[.val (.int sA), .val (.int vA), .val (.int sB), .val (.int vB), .val (.int pk), .val (.int mm), .val (.int (1 : Int32)), .val (.int w837), .val (.double w839), .second, .val (.double w841), .second, .val (.int w847), .val (.int w853), .val (.ref b854)] [(.int (1 : Int32))])) _
      refine XS.iconst X892.here hx rfl (hb hby at_133) ?_
      show Steps p.tables e below (T892.setTop (mkF m 134 #[.val (.int sA), .val (.int vA), .val (.int sB), .val (.int vB), .val (.int pk), .val (.int mm), .val (.int (1 : Int32)), .val (.int w837), .val (.double w839), .second, .val (.double w841), .second, .val (.int w847), .val (.int w853), .val (.ref b854)] [(.int (3 : Int32)), (.int (1 : Int32))])) _
      refine XS.icmpYes X892.here hx rfl (pc0 := 134) (pc' := 147) rfl (hb hby at_134) rfl (tlt (by decide : (1 : Int32) < (3 : Int32))).1 (by decide) (by decide) ?_
      show Steps p.tables e below (T892.setTop (mkF m 147 #[.val (.int sA), .val (.int vA), .val (.int sB), .val (.int vB), .val (.int pk), .val (.int mm), .val (.int (1 : Int32)), .val (.int w837), .val (.double w839), .second, .val (.double w841), .second, .val (.int w847), .val (.int w853), .val (.ref b854)] [])) _
      refine XS.aload X892.here hx rfl (hb hby at_147) rfl rfl ?_
      show Steps p.tables e below (T892.setTop (mkF m 149 #[.val (.int sA), .val (.int vA), .val (.int sB), .val (.int vB), .val (.int pk), .val (.int mm), .val (.int (1 : Int32)), .val (.int w837), .val (.double w839), .second, .val (.double w841), .second, .val (.int w847), .val (.int w853), .val (.ref b854)] [(.ref b854)])) _
      refine st899.trans ?_
      show Steps p.tables e below (T899.setTop (mkF m 152 #[.val (.int sA), .val (.int vA), .val (.int sB), .val (.int vB), .val (.int pk), .val (.int mm), .val (.int (1 : Int32)), .val (.int w837), .val (.double w839), .second, .val (.double w841), .second, .val (.int w847), .val (.int w853), .val (.ref b854)] [])) _
      refine XS.aload X899.here hx rfl (hb hby at_152) rfl rfl ?_
      show Steps p.tables e below (T899.setTop (mkF m 154 #[.val (.int sA), .val (.int vA), .val (.int sB), .val (.int vB), .val (.int pk), .val (.int mm), .val (.int (1 : Int32)), .val (.int w837), .val (.double w839), .second, .val (.double w841), .second, .val (.int w847), .val (.int w853), .val (.ref b854)] [(.ref b854)])) _
      refine XS.iload X899.here hx rfl (hb hby at_154) rfl ?_
      show Steps p.tables e below (T899.setTop (mkF m 156 #[.val (.int sA), .val (.int vA), .val (.int sB), .val (.int vB), .val (.int pk), .val (.int mm), .val (.int (1 : Int32)), .val (.int w837), .val (.double w839), .second, .val (.double w841), .second, .val (.int w847), .val (.int w853), .val (.ref b854)] [(.int w847), (.ref b854)])) _
      refine XS.iload X899.here hx rfl (hb hby at_156) rfl ?_
      show Steps p.tables e below (T899.setTop (mkF m 158 #[.val (.int sA), .val (.int vA), .val (.int sB), .val (.int vB), .val (.int pk), .val (.int mm), .val (.int (1 : Int32)), .val (.int w837), .val (.double w839), .second, .val (.double w841), .second, .val (.int w847), .val (.int w853), .val (.ref b854)] [(.int w853), (.int w847), (.ref b854)])) _
      refine XS.i2dS X899.here hx rfl (hb hby at_158) rfl rfl ?_
      show Steps p.tables e below (T899.setTop (mkF m 159 #[.val (.int sA), .val (.int vA), .val (.int sB), .val (.int vB), .val (.int pk), .val (.int mm), .val (.int (1 : Int32)), .val (.int w837), .val (.double w839), .second, .val (.double w841), .second, .val (.int w847), .val (.int w853), .val (.ref b854)] [(.double (FP.i2d w853)), (.int w847), (.ref b854)])) _
      refine XS.dload X899.here hx rfl (hb hby at_159) rfl ?_
      show Steps p.tables e below (T899.setTop (mkF m 161 #[.val (.int sA), .val (.int vA), .val (.int sB), .val (.int vB), .val (.int pk), .val (.int mm), .val (.int (1 : Int32)), .val (.int w837), .val (.double w839), .second, .val (.double w841), .second, .val (.int w847), .val (.int w853), .val (.ref b854)] [(.double w841), (.double (FP.i2d w853)), (.int w847), (.ref b854)])) _
      refine st906.trans ?_
      show Steps p.tables e below (T906.setTop (mkF m 164 #[.val (.int sA), .val (.int vA), .val (.int sB), .val (.int vB), .val (.int pk), .val (.int mm), .val (.int (1 : Int32)), .val (.int w837), .val (.double w839), .second, .val (.double w841), .second, .val (.int w847), .val (.int w853), .val (.ref b854)] [])) _
      refine XS.aload X906.here hx rfl (hb hby at_164) rfl rfl ?_
      show Steps p.tables e below (T906.setTop (mkF m 166 #[.val (.int sA), .val (.int vA), .val (.int sB), .val (.int vB), .val (.int pk), .val (.int mm), .val (.int (1 : Int32)), .val (.int w837), .val (.double w839), .second, .val (.double w841), .second, .val (.int w847), .val (.int w853), .val (.ref b854)] [(.ref b854)])) _
      refine st914.trans ?_
      show Steps p.tables e below (T914.setTop (mkF m 169 #[.val (.int sA), .val (.int vA), .val (.int sB), .val (.int vB), .val (.int pk), .val (.int mm), .val (.int (1 : Int32)), .val (.int w837), .val (.double w839), .second, .val (.double w841), .second, .val (.int w847), .val (.int w853), .val (.ref b854)] [(.int (f7 w909))])) _
      refine XS.iconst X914.here hx rfl (hb hby at_169) ?_
      show Steps p.tables e below (T914.setTop (mkF m 170 #[.val (.int sA), .val (.int vA), .val (.int sB), .val (.int vB), .val (.int pk), .val (.int mm), .val (.int (1 : Int32)), .val (.int w837), .val (.double w839), .second, .val (.double w841), .second, .val (.int w847), .val (.int w853), .val (.ref b854)] [(.int (1 : Int32)), (.int (f7 w909))])) _
      refine XS.icmpNo X914.here hx rfl (hb hby at_170) rfl (teq B913.2.2.2.1).2 ?_
      show Steps p.tables e below (T914.setTop (mkF m 173 #[.val (.int sA), .val (.int vA), .val (.int sB), .val (.int vB), .val (.int pk), .val (.int mm), .val (.int (1 : Int32)), .val (.int w837), .val (.double w839), .second, .val (.double w841), .second, .val (.int w847), .val (.int w853), .val (.ref b854)] [])) _
      refine XS.aload X914.here hx rfl (hb hby at_173) rfl rfl ?_
      show Steps p.tables e below (T914.setTop (mkF m 175 #[.val (.int sA), .val (.int vA), .val (.int sB), .val (.int vB), .val (.int pk), .val (.int mm), .val (.int (1 : Int32)), .val (.int w837), .val (.double w839), .second, .val (.double w841), .second, .val (.int w847), .val (.int w853), .val (.ref b854)] [(.ref b854)])) _
      refine XS.iconst X914.here hx rfl (hb hby at_175) ?_
      show Steps p.tables e below (T914.setTop (mkF m 176 #[.val (.int sA), .val (.int vA), .val (.int sB), .val (.int vB), .val (.int pk), .val (.int mm), .val (.int (1 : Int32)), .val (.int w837), .val (.double w839), .second, .val (.double w841), .second, .val (.int w847), .val (.int w853), .val (.ref b854)] [(.int (0 : Int32)), (.ref b854)])) _
      refine st915.trans ?_
      show Steps p.tables e below (T915.setTop (mkF m 179 #[.val (.int sA), .val (.int vA), .val (.int sB), .val (.int vB), .val (.int pk), .val (.int mm), .val (.int (1 : Int32)), .val (.int w837), .val (.double w839), .second, .val (.double w841), .second, .val (.int w847), .val (.int w853), .val (.ref b854)] [(.int (f8 (0 : Int32) w910 w911))])) _
      refine XS.iload X915.here hx rfl (hb hby at_179) rfl ?_
      show Steps p.tables e below (T915.setTop (mkF m 181 #[.val (.int sA), .val (.int vA), .val (.int sB), .val (.int vB), .val (.int pk), .val (.int mm), .val (.int (1 : Int32)), .val (.int w837), .val (.double w839), .second, .val (.double w841), .second, .val (.int w847), .val (.int w853), .val (.ref b854)] [(.int w847), (.int (f8 (0 : Int32) w910 w911))])) _
      refine XS.icmpNo X915.here hx rfl (hb hby at_181) rfl (teq B913.2.2.2.2.1).2 ?_
      show Steps p.tables e below (T915.setTop (mkF m 184 #[.val (.int sA), .val (.int vA), .val (.int sB), .val (.int vB), .val (.int pk), .val (.int mm), .val (.int (1 : Int32)), .val (.int w837), .val (.double w839), .second, .val (.double w841), .second, .val (.int w847), .val (.int w853), .val (.ref b854)] [])) _
      refine XS.aload X915.here hx rfl (hb hby at_184) rfl rfl ?_
      show Steps p.tables e below (T915.setTop (mkF m 186 #[.val (.int sA), .val (.int vA), .val (.int sB), .val (.int vB), .val (.int pk), .val (.int mm), .val (.int (1 : Int32)), .val (.int w837), .val (.double w839), .second, .val (.double w841), .second, .val (.int w847), .val (.int w853), .val (.ref b854)] [(.ref b854)])) _
      refine XS.iconst X915.here hx rfl (hb hby at_186) ?_
      show Steps p.tables e below (T915.setTop (mkF m 187 #[.val (.int sA), .val (.int vA), .val (.int sB), .val (.int vB), .val (.int pk), .val (.int mm), .val (.int (1 : Int32)), .val (.int w837), .val (.double w839), .second, .val (.double w841), .second, .val (.int w847), .val (.int w853), .val (.ref b854)] [(.int (0 : Int32)), (.ref b854)])) _
      refine st916.trans ?_
      show Steps p.tables e below (T916.setTop (mkF m 190 #[.val (.int sA), .val (.int vA), .val (.int sB), .val (.int vB), .val (.int pk), .val (.int mm), .val (.int (1 : Int32)), .val (.int w837), .val (.double w839), .second, .val (.double w841), .second, .val (.int w847), .val (.int w853), .val (.ref b854)] [(.double (f9 (0 : Int32) w910 w911))])) _
      refine XS.iload X916.here hx rfl (hb hby at_190) rfl ?_
      show Steps p.tables e below (T916.setTop (mkF m 192 #[.val (.int sA), .val (.int vA), .val (.int sB), .val (.int vB), .val (.int pk), .val (.int mm), .val (.int (1 : Int32)), .val (.int w837), .val (.double w839), .second, .val (.double w841), .second, .val (.int w847), .val (.int w853), .val (.ref b854)] [(.int w853), (.double (f9 (0 : Int32) w910 w911))])) _
      refine XS.i2dS X916.here hx rfl (hb hby at_192) rfl rfl ?_
      show Steps p.tables e below (T916.setTop (mkF m 193 #[.val (.int sA), .val (.int vA), .val (.int sB), .val (.int vB), .val (.int pk), .val (.int mm), .val (.int (1 : Int32)), .val (.int w837), .val (.double w839), .second, .val (.double w841), .second, .val (.int w847), .val (.int w853), .val (.ref b854)] [(.double (FP.i2d w853)), (.double (f9 (0 : Int32) w910 w911))])) _
      refine XS.dcmpS X916.here hx rfl (hb hby at_193) rfl rfl ?_
      show Steps p.tables e below (T916.setTop (mkF m 194 #[.val (.int sA), .val (.int vA), .val (.int sB), .val (.int vB), .val (.int pk), .val (.int mm), .val (.int (1 : Int32)), .val (.int w837), .val (.double w839), .second, .val (.double w841), .second, .val (.int w847), .val (.int w853), .val (.ref b854)] [(.int (cmpValue (FP.dcmp (f9 (0 : Int32) w910 w911) (FP.i2d w853)) .l))])) _
      refine XS.ifNo X916.here hx rfl (hb hby at_194) rfl ((if0 _ _).trans (teq B913.2.2.2.2.2.1).2) ?_
      show Steps p.tables e below (T916.setTop (mkF m 197 #[.val (.int sA), .val (.int vA), .val (.int sB), .val (.int vB), .val (.int pk), .val (.int mm), .val (.int (1 : Int32)), .val (.int w837), .val (.double w839), .second, .val (.double w841), .second, .val (.int w847), .val (.int w853), .val (.ref b854)] [])) _
      refine XS.aload X916.here hx rfl (hb hby at_197) rfl rfl ?_
      show Steps p.tables e below (T916.setTop (mkF m 199 #[.val (.int sA), .val (.int vA), .val (.int sB), .val (.int vB), .val (.int pk), .val (.int mm), .val (.int (1 : Int32)), .val (.int w837), .val (.double w839), .second, .val (.double w841), .second, .val (.int w847), .val (.int w853), .val (.ref b854)] [(.ref b854)])) _
      refine XS.iconst X916.here hx rfl (hb hby at_199) ?_
      show Steps p.tables e below (T916.setTop (mkF m 200 #[.val (.int sA), .val (.int vA), .val (.int sB), .val (.int vB), .val (.int pk), .val (.int mm), .val (.int (1 : Int32)), .val (.int w837), .val (.double w839), .second, .val (.double w841), .second, .val (.int w847), .val (.int w853), .val (.ref b854)] [(.int (0 : Int32)), (.ref b854)])) _
      refine st917.trans ?_
      show Steps p.tables e below (T917.setTop (mkF m 203 #[.val (.int sA), .val (.int vA), .val (.int sB), .val (.int vB), .val (.int pk), .val (.int mm), .val (.int (1 : Int32)), .val (.int w837), .val (.double w839), .second, .val (.double w841), .second, .val (.int w847), .val (.int w853), .val (.ref b854)] [(.double (f11 (0 : Int32) w910 w911))])) _
      refine XS.dload X917.here hx rfl (hb hby at_203) rfl ?_
      show Steps p.tables e below (T917.setTop (mkF m 205 #[.val (.int sA), .val (.int vA), .val (.int sB), .val (.int vB), .val (.int pk), .val (.int mm), .val (.int (1 : Int32)), .val (.int w837), .val (.double w839), .second, .val (.double w841), .second, .val (.int w847), .val (.int w853), .val (.ref b854)] [(.double w841), (.double (f11 (0 : Int32) w910 w911))])) _
      refine XS.dcmpS X917.here hx rfl (hb hby at_205) rfl rfl ?_
      show Steps p.tables e below (T917.setTop (mkF m 206 #[.val (.int sA), .val (.int vA), .val (.int sB), .val (.int vB), .val (.int pk), .val (.int mm), .val (.int (1 : Int32)), .val (.int w837), .val (.double w839), .second, .val (.double w841), .second, .val (.int w847), .val (.int w853), .val (.ref b854)] [(.int (cmpValue (FP.dcmp (f11 (0 : Int32) w910 w911) w841) .l))])) _
      refine XS.ifNo X917.here hx rfl (hb hby at_206) rfl ((if0 _ _).trans (teq B913.2.2.2.2.2.2).2) ?_
      show Steps p.tables e below (T917.setTop (mkF m 209 #[.val (.int sA), .val (.int vA), .val (.int sB), .val (.int vB), .val (.int pk), .val (.int mm), .val (.int (1 : Int32)), .val (.int w837), .val (.double w839), .second, .val (.double w841), .second, .val (.int w847), .val (.int w853), .val (.ref b854)] [])) _
      refine XS.iconst X917.here hx rfl (hb hby at_209) ?_
      show Steps p.tables e below (T917.setTop (mkF m 210 #[.val (.int sA), .val (.int vA), .val (.int sB), .val (.int vB), .val (.int pk), .val (.int mm), .val (.int (1 : Int32)), .val (.int w837), .val (.double w839), .second, .val (.double w841), .second, .val (.int w847), .val (.int w853), .val (.ref b854)] [(.int (1 : Int32))])) _
      refine XS.goto X917.here hx rfl (pc0 := 210) (pc' := 214) rfl (hb hby at_210) (by decide) (by decide) ?_
      show Steps p.tables e below (T917.setTop (mkF m 214 #[.val (.int sA), .val (.int vA), .val (.int sB), .val (.int vB), .val (.int pk), .val (.int mm), .val (.int (1 : Int32)), .val (.int w837), .val (.double w839), .second, .val (.double w841), .second, .val (.int w847), .val (.int w853), .val (.ref b854)] [(.int (1 : Int32))])) _
      exact k
    obtain ⟨fs, hr, hrun, hended, hW, hsame⟩ := X917.leave (v := some (.int (1 : Int32))) (fun h => by rw [Bd.returns] at h; cases h)
    refine ⟨_, _, S918 _ ?_, hrun, hended, _, _, rfl, ?_, ⟨_, rfl⟩, hW, hsame.mono (by decide) (by decide)⟩
    · exact retN X917 hx (t := .boolean) Bd.returns (by simp) (hb hby at_214) hr
    · show Q0 Z sA vA sB vB pk mm h0 n0 _ T917.heap _
      rw [e917]
      exact ⟨rfl, N917⟩
  · subst hs871
    obtain ⟨cq919, kq919, q919a, q919b, q919c⟩ := isOf hZ rfl Eq861
    obtain ⟨_, _, ⟨T919, L919, k919, n919⟩, -, X919, ⟨Lc919, hQ919, l919, y919, z919⟩, st919⟩ := X861.virtualBack hx (y := (⟨"com/example/ketproof/ketproof/MassTable", "add", "(IDD)V"⟩ : MethodName)) (z := (⟨"com/example/ketproof/ketproof/MassTable", "add", "(IDD)V"⟩ : MethodName)) hown (mvT hZ (hw _ (List.mem_of_getElem? (i := 22) rfl))) (mvT hZ (hw _ (List.mem_of_getElem? (i := 23) rfl))) (notFace_of_selects (args := #[]) (mvT hZ (hw _ (List.mem_of_getElem? (i := 25) rfl)))) (mvT hZ (hw _ (List.mem_of_getElem? (i := 25) rfl))) (mvT hZ (hw _ (List.mem_of_getElem? (i := 24) rfl))) (by decide) (backOf (W := 0) (rm4 l Z a0 hw [] b854 sA (FP.i2d vA) w839 b862 b863 (0 : Int32) kkb862 (fun _ => (0 : Int64)) kkb863 (fun _ => (0 : Int32)) T861.heap n0 Z869 Eq861 fq861_0 fq861_1 fq861_2 fq861_3 gg854 fab862 ggb862 ne864 fab863 ggb863 ne866 nn861_1_0 (own_Isz own_I0 (by decide)) (own_Istop own_I0 (by decide) _ _) own_I0.2.2.2.1 (own_fi hw839)) hZ (hw _ (List.mem_of_getElem? (i := 26) rfl)) (hw _ (List.mem_of_getElem? (i := 2) rfl)) (by decide) (by decide)) q919a q919c (g := (mkF m 112 #[.val (.int sA), .val (.int vA), .val (.int sB), .val (.int vB), .val (.int pk), .val (.int mm), .val (.int (2 : Int32)), .val (.int w837), .val (.double w839), .second, .val (.double w841), .second, .val (.int w847), .val (.int w853), .val (.ref b854)] [(.double w839), (.double (FP.i2d vA)), (.int sA), (.ref b854)])) rfl (by rw [hml]; rfl) (Steps.refl _) (argsL := [(.int sA), (.double (FP.i2d vA)), (.double w839)]) (rest := []) (lenOf pd_5 rfl) rfl (by show 2 * 0 + _ ≤ _; exact Nat.le_of_eq rfl) (hb hby at_112) (fun _ _ => ⟨rfl, rfl, (by decide : 3 + 0 ≤ _), (by decide : 116 + 0 ≤ _)⟩)
    dsimp only [Pt.U, Pt.locs, Pt.cells, Pt.slots] at X919 l919 y919 z919 st919 hQ919
    subst l919 y919 z919
    obtain ⟨rfl, N919q, K919, Eq919, fq919_0, fq919_1, fq919_2, fq919_3, fz919_0, fz919_1⟩ := hQ919
    have N919 := Fr.app N861 N919q
    have K920 : Keep h0 T919.heap [] := K868.trans K919 (allS (Or.inr sz854) (allS (Or.inr sz865) (allS (Or.inr sz867) all0)))
    have Z921 : n0 ≤ T919.heap.size := Nat.le_trans Z869 K919.1
    obtain ⟨w922, hw922⟩ : ∃ z : Int32, z = (f4_size sA (FP.i2d vA) w839 (0 : Int32) (fun _ => (0 : Int64)) (fun _ => (0 : Int32))) := ⟨_, rfl⟩
    rw [← hw922] at fq919_2
    obtain ⟨w923, hw923⟩ : ∃ z : (Nat → Int64), z = (f4_slots sA (FP.i2d vA) w839 (0 : Int32) (fun _ => (0 : Int64)) (fun _ => (0 : Int32))) := ⟨_, rfl⟩
    rw [← hw923] at fz919_0
    obtain ⟨w924, hw924⟩ : ∃ z : (Nat → Int32), z = (f4_entrySlots sA (FP.i2d vA) w839 (0 : Int32) (fun _ => (0 : Int64)) (fun _ => (0 : Int32))) := ⟨_, rfl⟩
    rw [← hw924] at fz919_1
    have I925 : own_I w923 w924 w922 1 := own_Iadd own_I0 (by decide) (own_fi hw839) hw923 hw924 hw922
    obtain ⟨cq926, kq926, q926a, q926b, q926c⟩ := isOf hZ rfl Eq919
    obtain ⟨_, _, ⟨T926, L926, k926, n926⟩, -, X926, ⟨Lc926, hQ926, l926, y926, z926⟩, st926⟩ := X919.virtualBack hx (y := (⟨"com/example/ketproof/ketproof/MassTable", "add", "(IDD)V"⟩ : MethodName)) (z := (⟨"com/example/ketproof/ketproof/MassTable", "add", "(IDD)V"⟩ : MethodName)) hown (mvT hZ (hw _ (List.mem_of_getElem? (i := 22) rfl))) (mvT hZ (hw _ (List.mem_of_getElem? (i := 23) rfl))) (notFace_of_selects (args := #[]) (mvT hZ (hw _ (List.mem_of_getElem? (i := 25) rfl)))) (mvT hZ (hw _ (List.mem_of_getElem? (i := 25) rfl))) (mvT hZ (hw _ (List.mem_of_getElem? (i := 24) rfl))) (by decide) (backOf (W := 0) (rm4 l Z a0 hw [] b854 sB (FP.i2d vB) w839 b862 b863 w922 kkb862 w923 kkb863 w924 T919.heap n0 Z921 Eq919 fq919_0 fq919_1 fq919_2 fq919_3 gg854 fz919_0 ggb862 ne864 fz919_1 ggb863 ne866 nn861_1_0 (own_Isz I925 (by decide)) (own_Istop I925 (by decide) _ _) I925.2.2.2.1 (own_fi hw839)) hZ (hw _ (List.mem_of_getElem? (i := 26) rfl)) (hw _ (List.mem_of_getElem? (i := 2) rfl)) (by decide) (by decide)) q926a q926c (g := (mkF m 128 #[.val (.int sA), .val (.int vA), .val (.int sB), .val (.int vB), .val (.int pk), .val (.int mm), .val (.int (2 : Int32)), .val (.int w837), .val (.double w839), .second, .val (.double w841), .second, .val (.int w847), .val (.int w853), .val (.ref b854)] [(.double w839), (.double (FP.i2d vB)), (.int sB), (.ref b854)])) rfl (by rw [hml]; rfl) (Steps.refl _) (argsL := [(.int sB), (.double (FP.i2d vB)), (.double w839)]) (rest := []) (lenOf pd_5 rfl) rfl (by show 2 * 0 + _ ≤ _; exact Nat.le_of_eq rfl) (hb hby at_128) (fun _ _ => ⟨rfl, rfl, (by decide : 3 + 0 ≤ _), (by decide : 116 + 0 ≤ _)⟩)
    dsimp only [Pt.U, Pt.locs, Pt.cells, Pt.slots] at X926 l926 y926 z926 st926 hQ926
    subst l926 y926 z926
    obtain ⟨rfl, N926q, K926, Eq926, fq926_0, fq926_1, fq926_2, fq926_3, fz926_0, fz926_1⟩ := hQ926
    have N926 := Fr.app N919 N926q
    have K927 : Keep h0 T926.heap [] := K920.trans K926 (allS (Or.inr sz854) (allS (Or.inr sz865) (allS (Or.inr sz867) all0)))
    have Z928 : n0 ≤ T926.heap.size := Nat.le_trans Z921 K926.1
    obtain ⟨w929, hw929⟩ : ∃ z : Int32, z = (f4_size sB (FP.i2d vB) w839 w922 w923 w924) := ⟨_, rfl⟩
    rw [← hw929] at fq926_2
    obtain ⟨w930, hw930⟩ : ∃ z : (Nat → Int64), z = (f4_slots sB (FP.i2d vB) w839 w922 w923 w924) := ⟨_, rfl⟩
    rw [← hw930] at fz926_0
    obtain ⟨w931, hw931⟩ : ∃ z : (Nat → Int32), z = (f4_entrySlots sB (FP.i2d vB) w839 w922 w923 w924) := ⟨_, rfl⟩
    rw [← hw931] at fz926_1
    have I932 : own_I w930 w931 w929 2 := own_Iadd I925 (by decide) (own_fi hw839) hw930 hw931 hw929
    obtain ⟨cq933, kq933, q933a, q933b, q933c⟩ := isOf hZ rfl Eq926
    obtain ⟨_, _, ⟨T933, L933, k933, n933⟩, -, X933, ⟨Lc933, hQ933, l933, y933, z933⟩, st933⟩ := X926.virtualBack hx (y := (⟨"com/example/ketproof/ketproof/MassTable", "clear", "()V"⟩ : MethodName)) (z := (⟨"com/example/ketproof/ketproof/MassTable", "clear", "()V"⟩ : MethodName)) hown (mvT hZ (hw _ (List.mem_of_getElem? (i := 15) rfl))) (mvT hZ (hw _ (List.mem_of_getElem? (i := 16) rfl))) (notFace_of_selects (args := #[]) (mvT hZ (hw _ (List.mem_of_getElem? (i := 18) rfl)))) (mvT hZ (hw _ (List.mem_of_getElem? (i := 18) rfl))) (mvT hZ (hw _ (List.mem_of_getElem? (i := 17) rfl))) (by decide) (backOf (W := 0) (rm3 l Z a0 hw [] b854 b862 b863 w929 kkb862 w930 kkb863 w931 T926.heap n0 Z928 Eq926 fq926_0 fq926_1 fq926_2 fq926_3 gg854 fz926_0 ggb862 ne864 fz926_1 ggb863 ne866 nn861_1_0 (own_Isz I932 (by decide)) I932.2.2.1) hZ (hw _ (List.mem_of_getElem? (i := 19) rfl)) (hw _ (List.mem_of_getElem? (i := 2) rfl)) (by decide) (by decide)) q933a q933c (g := (mkF m 149 #[.val (.int sA), .val (.int vA), .val (.int sB), .val (.int vB), .val (.int pk), .val (.int mm), .val (.int (2 : Int32)), .val (.int w837), .val (.double w839), .second, .val (.double w841), .second, .val (.int w847), .val (.int w853), .val (.ref b854)] [(.ref b854)])) rfl (by rw [hml]; rfl) (Steps.refl _) (argsL := []) (rest := []) (lenOf pd_4 rfl) rfl (by show 2 * 0 + _ ≤ _; exact Nat.le_of_eq rfl) (hb hby at_149) (fun _ _ => ⟨rfl, rfl, (by decide : 3 + 0 ≤ _), (by decide : 116 + 0 ≤ _)⟩)
    dsimp only [Pt.U, Pt.locs, Pt.cells, Pt.slots] at X933 l933 y933 z933 st933 hQ933
    subst l933 y933 z933
    obtain ⟨rfl, N933q, K933, Eq933, fq933_0, fq933_1, fq933_2, fq933_3, fz933_0, fz933_1⟩ := hQ933
    have N933 := Fr.app N926 N933q
    have K934 : Keep h0 T933.heap [] := K927.trans K933 (allS (Or.inr sz854) (allS (Or.inr sz865) (allS (Or.inr sz867) all0)))
    have Z935 : n0 ≤ T933.heap.size := Nat.le_trans Z928 K933.1
    obtain ⟨w936, hw936⟩ : ∃ z : Int32, z = (f3_size w929 w930 w931) := ⟨_, rfl⟩
    rw [← hw936] at fq933_2
    obtain ⟨w937, hw937⟩ : ∃ z : (Nat → Int64), z = (f3_slots w929 w930 w931) := ⟨_, rfl⟩
    rw [← hw937] at fz933_0
    obtain ⟨w938, hw938⟩ : ∃ z : (Nat → Int32), z = (f3_entrySlots w929 w930 w931) := ⟨_, rfl⟩
    rw [← hw938] at fz933_1
    have I939 : own_I w937 w938 w936 0 := own_Iclear I932 (by decide) hw937 hw938 hw936
    obtain ⟨cq940, kq940, q940a, q940b, q940c⟩ := isOf hZ rfl Eq933
    obtain ⟨_, _, ⟨T940, L940, k940, n940⟩, -, X940, ⟨Lc940, hQ940, l940, y940, z940⟩, st940⟩ := X933.virtualBack hx (y := (⟨"com/example/ketproof/ketproof/MassTable", "add", "(IDD)V"⟩ : MethodName)) (z := (⟨"com/example/ketproof/ketproof/MassTable", "add", "(IDD)V"⟩ : MethodName)) hown (mvT hZ (hw _ (List.mem_of_getElem? (i := 22) rfl))) (mvT hZ (hw _ (List.mem_of_getElem? (i := 23) rfl))) (notFace_of_selects (args := #[]) (mvT hZ (hw _ (List.mem_of_getElem? (i := 25) rfl)))) (mvT hZ (hw _ (List.mem_of_getElem? (i := 25) rfl))) (mvT hZ (hw _ (List.mem_of_getElem? (i := 24) rfl))) (by decide) (backOf (W := 0) (rm4 l Z a0 hw [] b854 w847 (FP.i2d w853) w841 b862 b863 w936 kkb862 w937 kkb863 w938 T933.heap n0 Z935 Eq933 fq933_0 fq933_1 fq933_2 fq933_3 gg854 fz933_0 ggb862 ne864 fz933_1 ggb863 ne866 nn861_1_0 (own_Isz I939 (by decide)) (own_Istop I939 (by decide) _ _) I939.2.2.2.1 (own_fi hw841)) hZ (hw _ (List.mem_of_getElem? (i := 26) rfl)) (hw _ (List.mem_of_getElem? (i := 2) rfl)) (by decide) (by decide)) q940a q940c (g := (mkF m 161 #[.val (.int sA), .val (.int vA), .val (.int sB), .val (.int vB), .val (.int pk), .val (.int mm), .val (.int (2 : Int32)), .val (.int w837), .val (.double w839), .second, .val (.double w841), .second, .val (.int w847), .val (.int w853), .val (.ref b854)] [(.double w841), (.double (FP.i2d w853)), (.int w847), (.ref b854)])) rfl (by rw [hml]; rfl) (Steps.refl _) (argsL := [(.int w847), (.double (FP.i2d w853)), (.double w841)]) (rest := []) (lenOf pd_5 rfl) rfl (by show 2 * 0 + _ ≤ _; exact Nat.le_of_eq rfl) (hb hby at_161) (fun _ _ => ⟨rfl, rfl, (by decide : 3 + 0 ≤ _), (by decide : 116 + 0 ≤ _)⟩)
    dsimp only [Pt.U, Pt.locs, Pt.cells, Pt.slots] at X940 l940 y940 z940 st940 hQ940
    subst l940 y940 z940
    obtain ⟨rfl, N940q, K940, Eq940, fq940_0, fq940_1, fq940_2, fq940_3, fz940_0, fz940_1⟩ := hQ940
    have N940 := Fr.app N933 N940q
    have K941 : Keep h0 T940.heap [] := K934.trans K940 (allS (Or.inr sz854) (allS (Or.inr sz865) (allS (Or.inr sz867) all0)))
    have Z942 : n0 ≤ T940.heap.size := Nat.le_trans Z935 K940.1
    obtain ⟨w943, hw943⟩ : ∃ z : Int32, z = (f4_size w847 (FP.i2d w853) w841 w936 w937 w938) := ⟨_, rfl⟩
    rw [← hw943] at fq940_2
    obtain ⟨w944, hw944⟩ : ∃ z : (Nat → Int64), z = (f4_slots w847 (FP.i2d w853) w841 w936 w937 w938) := ⟨_, rfl⟩
    rw [← hw944] at fz940_0
    obtain ⟨w945, hw945⟩ : ∃ z : (Nat → Int32), z = (f4_entrySlots w847 (FP.i2d w853) w841 w936 w937 w938) := ⟨_, rfl⟩
    rw [← hw945] at fz940_1
    have I946 : own_I w944 w945 w943 1 := own_Iadd I939 (by decide) (own_fi hw841) hw944 hw945 hw943
    have B947 := own_back I939 hw944 hw945 hw943 (Jvm.Free.Fl.i2d_fin _) (own_fi hw841)
    obtain ⟨cq948, kq948, q948a, q948b, q948c⟩ := isOf hZ rfl Eq940
    obtain ⟨_, _, ⟨T948, L948, k948, n948⟩, -, X948, ⟨Lc948, hQ948, l948, y948, z948⟩, st948⟩ := X940.virtualBack hx (y := (⟨"com/example/ketproof/ketproof/MassTable", "size", "()I"⟩ : MethodName)) (z := (⟨"com/example/ketproof/ketproof/MassTable", "size", "()I"⟩ : MethodName)) hown (mvT hZ (hw _ (List.mem_of_getElem? (i := 40) rfl))) (mvT hZ (hw _ (List.mem_of_getElem? (i := 41) rfl))) (notFace_of_selects (args := #[]) (mvT hZ (hw _ (List.mem_of_getElem? (i := 43) rfl)))) (mvT hZ (hw _ (List.mem_of_getElem? (i := 43) rfl))) (mvT hZ (hw _ (List.mem_of_getElem? (i := 42) rfl))) (by decide) (backOf (W := 0) (rm7 l Z a0 hw [] b854 w943 T940.heap n0 Z942 fq940_2) hZ (hw _ (List.mem_of_getElem? (i := 44) rfl)) (hw _ (List.mem_of_getElem? (i := 2) rfl)) (by decide) (by decide)) q948a q948c (g := (mkF m 166 #[.val (.int sA), .val (.int vA), .val (.int sB), .val (.int vB), .val (.int pk), .val (.int mm), .val (.int (2 : Int32)), .val (.int w837), .val (.double w839), .second, .val (.double w841), .second, .val (.int w847), .val (.int w853), .val (.ref b854)] [(.ref b854)])) rfl (by rw [hml]; rfl) (Steps.refl _) (argsL := []) (rest := []) (lenOf pd_6 rfl) rfl (by show 2 * 0 + _ ≤ _; exact Nat.le_of_eq rfl) (hb hby at_166) (fun _ _ => ⟨rfl, rfl, (by decide : 3 + 0 ≤ _), (by decide : 116 + 0 ≤ _)⟩)
    dsimp only [Pt.U, Pt.locs, Pt.cells, Pt.slots] at X948 l948 y948 z948 st948 hQ948
    subst l948 y948 z948
    obtain ⟨rfl, N948q, e948⟩ := hQ948
    have N948 := Fr.app N940 N948q
    obtain ⟨cq949, kq949, q949a, q949b, q949c⟩ := isOf hZ e948 Eq940
    obtain ⟨_, _, ⟨T949, L949, k949, n949⟩, -, X949, ⟨Lc949, hQ949, l949, y949, z949⟩, st949⟩ := X948.virtualBack hx (y := (⟨"com/example/ketproof/ketproof/MassTable", "state", "(I)I"⟩ : MethodName)) (z := (⟨"com/example/ketproof/ketproof/MassTable", "state", "(I)I"⟩ : MethodName)) hown (mvT hZ (hw _ (List.mem_of_getElem? (i := 45) rfl))) (mvT hZ (hw _ (List.mem_of_getElem? (i := 46) rfl))) (notFace_of_selects (args := #[]) (mvT hZ (hw _ (List.mem_of_getElem? (i := 48) rfl)))) (mvT hZ (hw _ (List.mem_of_getElem? (i := 48) rfl))) (mvT hZ (hw _ (List.mem_of_getElem? (i := 47) rfl))) (by decide) (backOf (W := 0) (rm8 l Z a0 hw [] b854 (0 : Int32) b862 b863 kkb862 w944 kkb863 w945 T940.heap n0 Z942 fq940_0 fq940_1 fz940_0 fz940_1 fq940_3 ⟨by decide, by decide⟩ B947.1) hZ (hw _ (List.mem_of_getElem? (i := 49) rfl)) (hw _ (List.mem_of_getElem? (i := 2) rfl)) (by decide) (by decide)) q949a q949c (g := (mkF m 176 #[.val (.int sA), .val (.int vA), .val (.int sB), .val (.int vB), .val (.int pk), .val (.int mm), .val (.int (2 : Int32)), .val (.int w837), .val (.double w839), .second, .val (.double w841), .second, .val (.int w847), .val (.int w853), .val (.ref b854)] [(.int (0 : Int32)), (.ref b854)])) rfl (by rw [hml]; rfl) (Steps.refl _) (argsL := [(.int (0 : Int32))]) (rest := []) (lenOf pd_7 rfl) rfl (by show 2 * 0 + _ ≤ _; exact Nat.le_of_eq rfl) (hb hby at_176) (fun _ _ => ⟨rfl, e948, (by decide : 3 + 0 ≤ _), (by decide : 116 + 0 ≤ _)⟩)
    dsimp only [Pt.U, Pt.locs, Pt.cells, Pt.slots] at X949 l949 y949 z949 st949 hQ949
    subst l949 y949 z949
    obtain ⟨rfl, N949q, e949⟩ := hQ949
    have N949 := Fr.app N948 N949q
    obtain ⟨cq950, kq950, q950a, q950b, q950c⟩ := isOf hZ e949 Eq940
    obtain ⟨_, _, ⟨T950, L950, k950, n950⟩, -, X950, ⟨Lc950, hQ950, l950, y950, z950⟩, st950⟩ := X949.virtualBack hx (y := (⟨"com/example/ketproof/ketproof/MassTable", "value", "(I)D"⟩ : MethodName)) (z := (⟨"com/example/ketproof/ketproof/MassTable", "value", "(I)D"⟩ : MethodName)) hown (mvT hZ (hw _ (List.mem_of_getElem? (i := 50) rfl))) (mvT hZ (hw _ (List.mem_of_getElem? (i := 51) rfl))) (notFace_of_selects (args := #[]) (mvT hZ (hw _ (List.mem_of_getElem? (i := 53) rfl)))) (mvT hZ (hw _ (List.mem_of_getElem? (i := 53) rfl))) (mvT hZ (hw _ (List.mem_of_getElem? (i := 52) rfl))) (by decide) (backOf (W := 0) (rm9 l Z a0 hw [] b854 (0 : Int32) b862 b863 kkb862 w944 kkb863 w945 T940.heap n0 Z942 fq940_0 fq940_1 Eq940 fz940_0 fz940_1 fq940_3 ⟨by decide, by decide⟩ B947.1 B947.2.1) hZ (hw _ (List.mem_of_getElem? (i := 54) rfl)) (hw _ (List.mem_of_getElem? (i := 2) rfl)) (by decide) (by decide)) q950a q950c (g := (mkF m 187 #[.val (.int sA), .val (.int vA), .val (.int sB), .val (.int vB), .val (.int pk), .val (.int mm), .val (.int (2 : Int32)), .val (.int w837), .val (.double w839), .second, .val (.double w841), .second, .val (.int w847), .val (.int w853), .val (.ref b854)] [(.int (0 : Int32)), (.ref b854)])) rfl (by rw [hml]; rfl) (Steps.refl _) (argsL := [(.int (0 : Int32))]) (rest := []) (lenOf pd_8 rfl) rfl (by show 2 * 0 + _ ≤ _; exact Nat.le_of_eq rfl) (hb hby at_187) (fun _ _ => ⟨rfl, e949, (by decide : 3 + 0 ≤ _), (by decide : 116 + 0 ≤ _)⟩)
    dsimp only [Pt.U, Pt.locs, Pt.cells, Pt.slots] at X950 l950 y950 z950 st950 hQ950
    subst l950 y950 z950
    obtain ⟨rfl, N950q, e950⟩ := hQ950
    have N950 := Fr.app N949 N950q
    obtain ⟨cq951, kq951, q951a, q951b, q951c⟩ := isOf hZ e950 Eq940
    obtain ⟨_, _, ⟨T951, L951, k951, n951⟩, -, X951, ⟨Lc951, hQ951, l951, y951, z951⟩, st951⟩ := X950.virtualBack hx (y := (⟨"com/example/ketproof/ketproof/MassTable", "mass", "(I)D"⟩ : MethodName)) (z := (⟨"com/example/ketproof/ketproof/MassTable", "mass", "(I)D"⟩ : MethodName)) hown (mvT hZ (hw _ (List.mem_of_getElem? (i := 65) rfl))) (mvT hZ (hw _ (List.mem_of_getElem? (i := 66) rfl))) (notFace_of_selects (args := #[]) (mvT hZ (hw _ (List.mem_of_getElem? (i := 68) rfl)))) (mvT hZ (hw _ (List.mem_of_getElem? (i := 68) rfl))) (mvT hZ (hw _ (List.mem_of_getElem? (i := 67) rfl))) (by decide) (backOf (W := 0) (rm11 l Z a0 hw [] b854 (0 : Int32) b862 b863 kkb862 w944 kkb863 w945 T940.heap n0 Z942 fq940_0 fq940_1 fz940_0 fz940_1 fq940_3 ⟨by decide, by decide⟩ B947.1 B947.2.2.1) hZ (hw _ (List.mem_of_getElem? (i := 69) rfl)) (hw _ (List.mem_of_getElem? (i := 2) rfl)) (by decide) (by decide)) q951a q951c (g := (mkF m 200 #[.val (.int sA), .val (.int vA), .val (.int sB), .val (.int vB), .val (.int pk), .val (.int mm), .val (.int (2 : Int32)), .val (.int w837), .val (.double w839), .second, .val (.double w841), .second, .val (.int w847), .val (.int w853), .val (.ref b854)] [(.int (0 : Int32)), (.ref b854)])) rfl (by rw [hml]; rfl) (Steps.refl _) (argsL := [(.int (0 : Int32))]) (rest := []) (lenOf pd_8 rfl) rfl (by show 2 * 0 + _ ≤ _; exact Nat.le_of_eq rfl) (hb hby at_200) (fun _ _ => ⟨rfl, e950, (by decide : 3 + 0 ≤ _), (by decide : 116 + 0 ≤ _)⟩)
    dsimp only [Pt.U, Pt.locs, Pt.cells, Pt.slots] at X951 l951 y951 z951 st951 hQ951
    subst l951 y951 z951
    obtain ⟨rfl, N951q, e951⟩ := hQ951
    have N951 := Fr.app N950 N951q
    have S952 : ∀ t, Steps p.tables e below (T951.setTop (mkF m 214 #[.val (.int sA), .val (.int vA), .val (.int sB), .val (.int vB), .val (.int pk), .val (.int mm), .val (.int (2 : Int32)), .val (.int w837), .val (.double w839), .second, .val (.double w841), .second, .val (.int w847), .val (.int w853), .val (.ref b854)] [(.int (1 : Int32))])) t → Steps p.tables e below (s₁.setTop (entryFrame m #[(.int sA), (.int vA), (.int sB), (.int vB), (.int pk), (.int mm)] maxLocals)) t := by
      intro t k
      refine S870 t ?_
      refine XS.iload X861.here hx rfl (hb hby at_99) rfl ?_
      show Steps p.tables e below (T861.setTop (mkF m 101 #[.val (.int sA), .val (.int vA), .val (.int sB), .val (.int vB), .val (.int pk), .val (.int mm), .val (.int (2 : Int32)), .val (.int w837), .val (.double w839), .second, .val (.double w841), .second, .val (.int w847), .val (.int w853), .val (.ref b854)] [(.int (2 : Int32))])) _
      refine XS.iconst X861.here hx rfl (hb hby at_101) ?_
      show Steps p.tables e below (T861.setTop (mkF m 102 #[.val (.int sA), .val (.int vA), .val (.int sB), .val (.int vB), .val (.int pk), .val (.int mm), .val (.int (2 : Int32)), .val (.int w837), .val (.double w839), .second, .val (.double w841), .second, .val (.int w847), .val (.int w853), .val (.ref b854)] [(.int (1 : Int32)), (.int (2 : Int32))])) _
      refine XS.icmpNo X861.here hx rfl (hb hby at_102) rfl (flt (by decide : ¬ ((2 : Int32) < (1 : Int32)))).1 ?_
      show Steps p.tables e below (T861.setTop (mkF m 105 #[.val (.int sA), .val (.int vA), .val (.int sB), .val (.int vB), .val (.int pk), .val (.int mm), .val (.int (2 : Int32)), .val (.int w837), .val (.double w839), .second, .val (.double w841), .second, .val (.int w847), .val (.int w853), .val (.ref b854)] [])) _
      refine XS.aload X861.here hx rfl (hb hby at_105) rfl rfl ?_
      show Steps p.tables e below (T861.setTop (mkF m 107 #[.val (.int sA), .val (.int vA), .val (.int sB), .val (.int vB), .val (.int pk), .val (.int mm), .val (.int (2 : Int32)), .val (.int w837), .val (.double w839), .second, .val (.double w841), .second, .val (.int w847), .val (.int w853), .val (.ref b854)] [(.ref b854)])) _
      refine XS.iloadN X861.here hx rfl (hb hby at_107) rfl ?_
      show Steps p.tables e below (T861.setTop (mkF m 108 #[.val (.int sA), .val (.int vA), .val (.int sB), .val (.int vB), .val (.int pk), .val (.int mm), .val (.int (2 : Int32)), .val (.int w837), .val (.double w839), .second, .val (.double w841), .second, .val (.int w847), .val (.int w853), .val (.ref b854)] [(.int sA), (.ref b854)])) _
      refine XS.iloadN X861.here hx rfl (hb hby at_108) rfl ?_
      show Steps p.tables e below (T861.setTop (mkF m 109 #[.val (.int sA), .val (.int vA), .val (.int sB), .val (.int vB), .val (.int pk), .val (.int mm), .val (.int (2 : Int32)), .val (.int w837), .val (.double w839), .second, .val (.double w841), .second, .val (.int w847), .val (.int w853), .val (.ref b854)] [(.int vA), (.int sA), (.ref b854)])) _
      refine XS.i2dS X861.here hx rfl (hb hby at_109) rfl rfl ?_
      show Steps p.tables e below (T861.setTop (mkF m 110 #[.val (.int sA), .val (.int vA), .val (.int sB), .val (.int vB), .val (.int pk), .val (.int mm), .val (.int (2 : Int32)), .val (.int w837), .val (.double w839), .second, .val (.double w841), .second, .val (.int w847), .val (.int w853), .val (.ref b854)] [(.double (FP.i2d vA)), (.int sA), (.ref b854)])) _
      refine XS.dload X861.here hx rfl (hb hby at_110) rfl ?_
      show Steps p.tables e below (T861.setTop (mkF m 112 #[.val (.int sA), .val (.int vA), .val (.int sB), .val (.int vB), .val (.int pk), .val (.int mm), .val (.int (2 : Int32)), .val (.int w837), .val (.double w839), .second, .val (.double w841), .second, .val (.int w847), .val (.int w853), .val (.ref b854)] [(.double w839), (.double (FP.i2d vA)), (.int sA), (.ref b854)])) _
      refine st919.trans ?_
      show Steps p.tables e below (T919.setTop (mkF m 115 #[.val (.int sA), .val (.int vA), .val (.int sB), .val (.int vB), .val (.int pk), .val (.int mm), .val (.int (2 : Int32)), .val (.int w837), .val (.double w839), .second, .val (.double w841), .second, .val (.int w847), .val (.int w853), .val (.ref b854)] [])) _
      refine XS.iload X919.here hx rfl (hb hby at_115) rfl ?_
      show Steps p.tables e below (T919.setTop (mkF m 117 #[.val (.int sA), .val (.int vA), .val (.int sB), .val (.int vB), .val (.int pk), .val (.int mm), .val (.int (2 : Int32)), .val (.int w837), .val (.double w839), .second, .val (.double w841), .second, .val (.int w847), .val (.int w853), .val (.ref b854)] [(.int (2 : Int32))])) _
      refine XS.iconst X919.here hx rfl (hb hby at_117) ?_
      show Steps p.tables e below (T919.setTop (mkF m 118 #[.val (.int sA), .val (.int vA), .val (.int sB), .val (.int vB), .val (.int pk), .val (.int mm), .val (.int (2 : Int32)), .val (.int w837), .val (.double w839), .second, .val (.double w841), .second, .val (.int w847), .val (.int w853), .val (.ref b854)] [(.int (2 : Int32)), (.int (2 : Int32))])) _
      refine XS.icmpNo X919.here hx rfl (hb hby at_118) rfl (flt (by decide : ¬ ((2 : Int32) < (2 : Int32)))).1 ?_
      show Steps p.tables e below (T919.setTop (mkF m 121 #[.val (.int sA), .val (.int vA), .val (.int sB), .val (.int vB), .val (.int pk), .val (.int mm), .val (.int (2 : Int32)), .val (.int w837), .val (.double w839), .second, .val (.double w841), .second, .val (.int w847), .val (.int w853), .val (.ref b854)] [])) _
      refine XS.aload X919.here hx rfl (hb hby at_121) rfl rfl ?_
      show Steps p.tables e below (T919.setTop (mkF m 123 #[.val (.int sA), .val (.int vA), .val (.int sB), .val (.int vB), .val (.int pk), .val (.int mm), .val (.int (2 : Int32)), .val (.int w837), .val (.double w839), .second, .val (.double w841), .second, .val (.int w847), .val (.int w853), .val (.ref b854)] [(.ref b854)])) _
      refine XS.iloadN X919.here hx rfl (hb hby at_123) rfl ?_
      show Steps p.tables e below (T919.setTop (mkF m 124 #[.val (.int sA), .val (.int vA), .val (.int sB), .val (.int vB), .val (.int pk), .val (.int mm), .val (.int (2 : Int32)), .val (.int w837), .val (.double w839), .second, .val (.double w841), .second, .val (.int w847), .val (.int w853), .val (.ref b854)] [(.int sB), (.ref b854)])) _
      refine XS.iloadN X919.here hx rfl (hb hby at_124) rfl ?_
      show Steps p.tables e below (T919.setTop (mkF m 125 #[.val (.int sA), .val (.int vA), .val (.int sB), .val (.int vB), .val (.int pk), .val (.int mm), .val (.int (2 : Int32)), .val (.int w837), .val (.double w839), .second, .val (.double w841), .second, .val (.int w847), .val (.int w853), .val (.ref b854)] [(.int vB), (.int sB), (.ref b854)])) _
      refine XS.i2dS X919.here hx rfl (hb hby at_125) rfl rfl ?_
      show Steps p.tables e below (T919.setTop (mkF m 126 #[.val (.int sA), .val (.int vA), .val (.int sB), .val (.int vB), .val (.int pk), .val (.int mm), .val (.int (2 : Int32)), .val (.int w837), .val (.double w839), .second, .val (.double w841), .second, .val (.int w847), .val (.int w853), .val (.ref b854)] [(.double (FP.i2d vB)), (.int sB), (.ref b854)])) _
      refine XS.dload X919.here hx rfl (hb hby at_126) rfl ?_
      show Steps p.tables e below (T919.setTop (mkF m 128 #[.val (.int sA), .val (.int vA), .val (.int sB), .val (.int vB), .val (.int pk), .val (.int mm), .val (.int (2 : Int32)), .val (.int w837), .val (.double w839), .second, .val (.double w841), .second, .val (.int w847), .val (.int w853), .val (.ref b854)] [(.double w839), (.double (FP.i2d vB)), (.int sB), (.ref b854)])) _
      refine st926.trans ?_
      show Steps p.tables e below (T926.setTop (mkF m 131 #[.val (.int sA), .val (.int vA), .val (.int sB), .val (.int vB), .val (.int pk), .val (.int mm), .val (.int (2 : Int32)), .val (.int w837), .val (.double w839), .second, .val (.double w841), .second, .val (.int w847), .val (.int w853), .val (.ref b854)] [])) _
      refine XS.iload X926.here hx rfl (hb hby at_131) rfl ?_
      show Steps p.tables e below (T926.setTop (mkF m 133 #[.val (.int sA), .val (.int vA), .val (.int sB), .val (.int vB), .val (.int pk), .val (.int mm), .val (.int (2 : Int32)), .val (.int w837), .val (.double w839), .second, .val (.double w841), .second, .val (.int w847), .val (.int w853), .val (.ref b854)] [(.int (2 : Int32))])) _
      refine XS.iconst X926.here hx rfl (hb hby at_133) ?_
      show Steps p.tables e below (T926.setTop (mkF m 134 #[.val (.int sA), .val (.int vA), .val (.int sB), .val (.int vB), .val (.int pk), .val (.int mm), .val (.int (2 : Int32)), .val (.int w837), .val (.double w839), .second, .val (.double w841), .second, .val (.int w847), .val (.int w853), .val (.ref b854)] [(.int (3 : Int32)), (.int (2 : Int32))])) _
      refine XS.icmpYes X926.here hx rfl (pc0 := 134) (pc' := 147) rfl (hb hby at_134) rfl (tlt (by decide : (2 : Int32) < (3 : Int32))).1 (by decide) (by decide) ?_
      show Steps p.tables e below (T926.setTop (mkF m 147 #[.val (.int sA), .val (.int vA), .val (.int sB), .val (.int vB), .val (.int pk), .val (.int mm), .val (.int (2 : Int32)), .val (.int w837), .val (.double w839), .second, .val (.double w841), .second, .val (.int w847), .val (.int w853), .val (.ref b854)] [])) _
      refine XS.aload X926.here hx rfl (hb hby at_147) rfl rfl ?_
      show Steps p.tables e below (T926.setTop (mkF m 149 #[.val (.int sA), .val (.int vA), .val (.int sB), .val (.int vB), .val (.int pk), .val (.int mm), .val (.int (2 : Int32)), .val (.int w837), .val (.double w839), .second, .val (.double w841), .second, .val (.int w847), .val (.int w853), .val (.ref b854)] [(.ref b854)])) _
      refine st933.trans ?_
      show Steps p.tables e below (T933.setTop (mkF m 152 #[.val (.int sA), .val (.int vA), .val (.int sB), .val (.int vB), .val (.int pk), .val (.int mm), .val (.int (2 : Int32)), .val (.int w837), .val (.double w839), .second, .val (.double w841), .second, .val (.int w847), .val (.int w853), .val (.ref b854)] [])) _
      refine XS.aload X933.here hx rfl (hb hby at_152) rfl rfl ?_
      show Steps p.tables e below (T933.setTop (mkF m 154 #[.val (.int sA), .val (.int vA), .val (.int sB), .val (.int vB), .val (.int pk), .val (.int mm), .val (.int (2 : Int32)), .val (.int w837), .val (.double w839), .second, .val (.double w841), .second, .val (.int w847), .val (.int w853), .val (.ref b854)] [(.ref b854)])) _
      refine XS.iload X933.here hx rfl (hb hby at_154) rfl ?_
      show Steps p.tables e below (T933.setTop (mkF m 156 #[.val (.int sA), .val (.int vA), .val (.int sB), .val (.int vB), .val (.int pk), .val (.int mm), .val (.int (2 : Int32)), .val (.int w837), .val (.double w839), .second, .val (.double w841), .second, .val (.int w847), .val (.int w853), .val (.ref b854)] [(.int w847), (.ref b854)])) _
      refine XS.iload X933.here hx rfl (hb hby at_156) rfl ?_
      show Steps p.tables e below (T933.setTop (mkF m 158 #[.val (.int sA), .val (.int vA), .val (.int sB), .val (.int vB), .val (.int pk), .val (.int mm), .val (.int (2 : Int32)), .val (.int w837), .val (.double w839), .second, .val (.double w841), .second, .val (.int w847), .val (.int w853), .val (.ref b854)] [(.int w853), (.int w847), (.ref b854)])) _
      refine XS.i2dS X933.here hx rfl (hb hby at_158) rfl rfl ?_
      show Steps p.tables e below (T933.setTop (mkF m 159 #[.val (.int sA), .val (.int vA), .val (.int sB), .val (.int vB), .val (.int pk), .val (.int mm), .val (.int (2 : Int32)), .val (.int w837), .val (.double w839), .second, .val (.double w841), .second, .val (.int w847), .val (.int w853), .val (.ref b854)] [(.double (FP.i2d w853)), (.int w847), (.ref b854)])) _
      refine XS.dload X933.here hx rfl (hb hby at_159) rfl ?_
      show Steps p.tables e below (T933.setTop (mkF m 161 #[.val (.int sA), .val (.int vA), .val (.int sB), .val (.int vB), .val (.int pk), .val (.int mm), .val (.int (2 : Int32)), .val (.int w837), .val (.double w839), .second, .val (.double w841), .second, .val (.int w847), .val (.int w853), .val (.ref b854)] [(.double w841), (.double (FP.i2d w853)), (.int w847), (.ref b854)])) _
      refine st940.trans ?_
      show Steps p.tables e below (T940.setTop (mkF m 164 #[.val (.int sA), .val (.int vA), .val (.int sB), .val (.int vB), .val (.int pk), .val (.int mm), .val (.int (2 : Int32)), .val (.int w837), .val (.double w839), .second, .val (.double w841), .second, .val (.int w847), .val (.int w853), .val (.ref b854)] [])) _
      refine XS.aload X940.here hx rfl (hb hby at_164) rfl rfl ?_
      show Steps p.tables e below (T940.setTop (mkF m 166 #[.val (.int sA), .val (.int vA), .val (.int sB), .val (.int vB), .val (.int pk), .val (.int mm), .val (.int (2 : Int32)), .val (.int w837), .val (.double w839), .second, .val (.double w841), .second, .val (.int w847), .val (.int w853), .val (.ref b854)] [(.ref b854)])) _
      refine st948.trans ?_
      show Steps p.tables e below (T948.setTop (mkF m 169 #[.val (.int sA), .val (.int vA), .val (.int sB), .val (.int vB), .val (.int pk), .val (.int mm), .val (.int (2 : Int32)), .val (.int w837), .val (.double w839), .second, .val (.double w841), .second, .val (.int w847), .val (.int w853), .val (.ref b854)] [(.int (f7 w943))])) _
      refine XS.iconst X948.here hx rfl (hb hby at_169) ?_
      show Steps p.tables e below (T948.setTop (mkF m 170 #[.val (.int sA), .val (.int vA), .val (.int sB), .val (.int vB), .val (.int pk), .val (.int mm), .val (.int (2 : Int32)), .val (.int w837), .val (.double w839), .second, .val (.double w841), .second, .val (.int w847), .val (.int w853), .val (.ref b854)] [(.int (1 : Int32)), (.int (f7 w943))])) _
      refine XS.icmpNo X948.here hx rfl (hb hby at_170) rfl (teq B947.2.2.2.1).2 ?_
      show Steps p.tables e below (T948.setTop (mkF m 173 #[.val (.int sA), .val (.int vA), .val (.int sB), .val (.int vB), .val (.int pk), .val (.int mm), .val (.int (2 : Int32)), .val (.int w837), .val (.double w839), .second, .val (.double w841), .second, .val (.int w847), .val (.int w853), .val (.ref b854)] [])) _
      refine XS.aload X948.here hx rfl (hb hby at_173) rfl rfl ?_
      show Steps p.tables e below (T948.setTop (mkF m 175 #[.val (.int sA), .val (.int vA), .val (.int sB), .val (.int vB), .val (.int pk), .val (.int mm), .val (.int (2 : Int32)), .val (.int w837), .val (.double w839), .second, .val (.double w841), .second, .val (.int w847), .val (.int w853), .val (.ref b854)] [(.ref b854)])) _
      refine XS.iconst X948.here hx rfl (hb hby at_175) ?_
      show Steps p.tables e below (T948.setTop (mkF m 176 #[.val (.int sA), .val (.int vA), .val (.int sB), .val (.int vB), .val (.int pk), .val (.int mm), .val (.int (2 : Int32)), .val (.int w837), .val (.double w839), .second, .val (.double w841), .second, .val (.int w847), .val (.int w853), .val (.ref b854)] [(.int (0 : Int32)), (.ref b854)])) _
      refine st949.trans ?_
      show Steps p.tables e below (T949.setTop (mkF m 179 #[.val (.int sA), .val (.int vA), .val (.int sB), .val (.int vB), .val (.int pk), .val (.int mm), .val (.int (2 : Int32)), .val (.int w837), .val (.double w839), .second, .val (.double w841), .second, .val (.int w847), .val (.int w853), .val (.ref b854)] [(.int (f8 (0 : Int32) w944 w945))])) _
      refine XS.iload X949.here hx rfl (hb hby at_179) rfl ?_
      show Steps p.tables e below (T949.setTop (mkF m 181 #[.val (.int sA), .val (.int vA), .val (.int sB), .val (.int vB), .val (.int pk), .val (.int mm), .val (.int (2 : Int32)), .val (.int w837), .val (.double w839), .second, .val (.double w841), .second, .val (.int w847), .val (.int w853), .val (.ref b854)] [(.int w847), (.int (f8 (0 : Int32) w944 w945))])) _
      refine XS.icmpNo X949.here hx rfl (hb hby at_181) rfl (teq B947.2.2.2.2.1).2 ?_
      show Steps p.tables e below (T949.setTop (mkF m 184 #[.val (.int sA), .val (.int vA), .val (.int sB), .val (.int vB), .val (.int pk), .val (.int mm), .val (.int (2 : Int32)), .val (.int w837), .val (.double w839), .second, .val (.double w841), .second, .val (.int w847), .val (.int w853), .val (.ref b854)] [])) _
      refine XS.aload X949.here hx rfl (hb hby at_184) rfl rfl ?_
      show Steps p.tables e below (T949.setTop (mkF m 186 #[.val (.int sA), .val (.int vA), .val (.int sB), .val (.int vB), .val (.int pk), .val (.int mm), .val (.int (2 : Int32)), .val (.int w837), .val (.double w839), .second, .val (.double w841), .second, .val (.int w847), .val (.int w853), .val (.ref b854)] [(.ref b854)])) _
      refine XS.iconst X949.here hx rfl (hb hby at_186) ?_
      show Steps p.tables e below (T949.setTop (mkF m 187 #[.val (.int sA), .val (.int vA), .val (.int sB), .val (.int vB), .val (.int pk), .val (.int mm), .val (.int (2 : Int32)), .val (.int w837), .val (.double w839), .second, .val (.double w841), .second, .val (.int w847), .val (.int w853), .val (.ref b854)] [(.int (0 : Int32)), (.ref b854)])) _
      refine st950.trans ?_
      show Steps p.tables e below (T950.setTop (mkF m 190 #[.val (.int sA), .val (.int vA), .val (.int sB), .val (.int vB), .val (.int pk), .val (.int mm), .val (.int (2 : Int32)), .val (.int w837), .val (.double w839), .second, .val (.double w841), .second, .val (.int w847), .val (.int w853), .val (.ref b854)] [(.double (f9 (0 : Int32) w944 w945))])) _
      refine XS.iload X950.here hx rfl (hb hby at_190) rfl ?_
      show Steps p.tables e below (T950.setTop (mkF m 192 #[.val (.int sA), .val (.int vA), .val (.int sB), .val (.int vB), .val (.int pk), .val (.int mm), .val (.int (2 : Int32)), .val (.int w837), .val (.double w839), .second, .val (.double w841), .second, .val (.int w847), .val (.int w853), .val (.ref b854)] [(.int w853), (.double (f9 (0 : Int32) w944 w945))])) _
      refine XS.i2dS X950.here hx rfl (hb hby at_192) rfl rfl ?_
      show Steps p.tables e below (T950.setTop (mkF m 193 #[.val (.int sA), .val (.int vA), .val (.int sB), .val (.int vB), .val (.int pk), .val (.int mm), .val (.int (2 : Int32)), .val (.int w837), .val (.double w839), .second, .val (.double w841), .second, .val (.int w847), .val (.int w853), .val (.ref b854)] [(.double (FP.i2d w853)), (.double (f9 (0 : Int32) w944 w945))])) _
      refine XS.dcmpS X950.here hx rfl (hb hby at_193) rfl rfl ?_
      show Steps p.tables e below (T950.setTop (mkF m 194 #[.val (.int sA), .val (.int vA), .val (.int sB), .val (.int vB), .val (.int pk), .val (.int mm), .val (.int (2 : Int32)), .val (.int w837), .val (.double w839), .second, .val (.double w841), .second, .val (.int w847), .val (.int w853), .val (.ref b854)] [(.int (cmpValue (FP.dcmp (f9 (0 : Int32) w944 w945) (FP.i2d w853)) .l))])) _
      refine XS.ifNo X950.here hx rfl (hb hby at_194) rfl ((if0 _ _).trans (teq B947.2.2.2.2.2.1).2) ?_
      show Steps p.tables e below (T950.setTop (mkF m 197 #[.val (.int sA), .val (.int vA), .val (.int sB), .val (.int vB), .val (.int pk), .val (.int mm), .val (.int (2 : Int32)), .val (.int w837), .val (.double w839), .second, .val (.double w841), .second, .val (.int w847), .val (.int w853), .val (.ref b854)] [])) _
      refine XS.aload X950.here hx rfl (hb hby at_197) rfl rfl ?_
      show Steps p.tables e below (T950.setTop (mkF m 199 #[.val (.int sA), .val (.int vA), .val (.int sB), .val (.int vB), .val (.int pk), .val (.int mm), .val (.int (2 : Int32)), .val (.int w837), .val (.double w839), .second, .val (.double w841), .second, .val (.int w847), .val (.int w853), .val (.ref b854)] [(.ref b854)])) _
      refine XS.iconst X950.here hx rfl (hb hby at_199) ?_
      show Steps p.tables e below (T950.setTop (mkF m 200 #[.val (.int sA), .val (.int vA), .val (.int sB), .val (.int vB), .val (.int pk), .val (.int mm), .val (.int (2 : Int32)), .val (.int w837), .val (.double w839), .second, .val (.double w841), .second, .val (.int w847), .val (.int w853), .val (.ref b854)] [(.int (0 : Int32)), (.ref b854)])) _
      refine st951.trans ?_
      show Steps p.tables e below (T951.setTop (mkF m 203 #[.val (.int sA), .val (.int vA), .val (.int sB), .val (.int vB), .val (.int pk), .val (.int mm), .val (.int (2 : Int32)), .val (.int w837), .val (.double w839), .second, .val (.double w841), .second, .val (.int w847), .val (.int w853), .val (.ref b854)] [(.double (f11 (0 : Int32) w944 w945))])) _
      refine XS.dload X951.here hx rfl (hb hby at_203) rfl ?_
      show Steps p.tables e below (T951.setTop (mkF m 205 #[.val (.int sA), .val (.int vA), .val (.int sB), .val (.int vB), .val (.int pk), .val (.int mm), .val (.int (2 : Int32)), .val (.int w837), .val (.double w839), .second, .val (.double w841), .second, .val (.int w847), .val (.int w853), .val (.ref b854)] [(.double w841), (.double (f11 (0 : Int32) w944 w945))])) _
      refine XS.dcmpS X951.here hx rfl (hb hby at_205) rfl rfl ?_
      show Steps p.tables e below (T951.setTop (mkF m 206 #[.val (.int sA), .val (.int vA), .val (.int sB), .val (.int vB), .val (.int pk), .val (.int mm), .val (.int (2 : Int32)), .val (.int w837), .val (.double w839), .second, .val (.double w841), .second, .val (.int w847), .val (.int w853), .val (.ref b854)] [(.int (cmpValue (FP.dcmp (f11 (0 : Int32) w944 w945) w841) .l))])) _
      refine XS.ifNo X951.here hx rfl (hb hby at_206) rfl ((if0 _ _).trans (teq B947.2.2.2.2.2.2).2) ?_
      show Steps p.tables e below (T951.setTop (mkF m 209 #[.val (.int sA), .val (.int vA), .val (.int sB), .val (.int vB), .val (.int pk), .val (.int mm), .val (.int (2 : Int32)), .val (.int w837), .val (.double w839), .second, .val (.double w841), .second, .val (.int w847), .val (.int w853), .val (.ref b854)] [])) _
      refine XS.iconst X951.here hx rfl (hb hby at_209) ?_
      show Steps p.tables e below (T951.setTop (mkF m 210 #[.val (.int sA), .val (.int vA), .val (.int sB), .val (.int vB), .val (.int pk), .val (.int mm), .val (.int (2 : Int32)), .val (.int w837), .val (.double w839), .second, .val (.double w841), .second, .val (.int w847), .val (.int w853), .val (.ref b854)] [(.int (1 : Int32))])) _
      refine XS.goto X951.here hx rfl (pc0 := 210) (pc' := 214) rfl (hb hby at_210) (by decide) (by decide) ?_
      show Steps p.tables e below (T951.setTop (mkF m 214 #[.val (.int sA), .val (.int vA), .val (.int sB), .val (.int vB), .val (.int pk), .val (.int mm), .val (.int (2 : Int32)), .val (.int w837), .val (.double w839), .second, .val (.double w841), .second, .val (.int w847), .val (.int w853), .val (.ref b854)] [(.int (1 : Int32))])) _
      exact k
    obtain ⟨fs, hr, hrun, hended, hW, hsame⟩ := X951.leave (v := some (.int (1 : Int32))) (fun h => by rw [Bd.returns] at h; cases h)
    refine ⟨_, _, S952 _ ?_, hrun, hended, _, _, rfl, ?_, ⟨_, rfl⟩, hW, hsame.mono (by decide) (by decide)⟩
    · exact retN X951 hx (t := .boolean) Bd.returns (by simp) (hb hby at_214) hr
    · show Q0 Z sA vA sB vB pk mm h0 n0 _ T951.heap _
      rw [e951]
      exact ⟨rfl, N951⟩
  · subst hs871
    obtain ⟨cq953, kq953, q953a, q953b, q953c⟩ := isOf hZ rfl Eq861
    obtain ⟨_, _, ⟨T953, L953, k953, n953⟩, -, X953, ⟨Lc953, hQ953, l953, y953, z953⟩, st953⟩ := X861.virtualBack hx (y := (⟨"com/example/ketproof/ketproof/MassTable", "add", "(IDD)V"⟩ : MethodName)) (z := (⟨"com/example/ketproof/ketproof/MassTable", "add", "(IDD)V"⟩ : MethodName)) hown (mvT hZ (hw _ (List.mem_of_getElem? (i := 22) rfl))) (mvT hZ (hw _ (List.mem_of_getElem? (i := 23) rfl))) (notFace_of_selects (args := #[]) (mvT hZ (hw _ (List.mem_of_getElem? (i := 25) rfl)))) (mvT hZ (hw _ (List.mem_of_getElem? (i := 25) rfl))) (mvT hZ (hw _ (List.mem_of_getElem? (i := 24) rfl))) (by decide) (backOf (W := 0) (rm4 l Z a0 hw [] b854 sA (FP.i2d vA) w839 b862 b863 (0 : Int32) kkb862 (fun _ => (0 : Int64)) kkb863 (fun _ => (0 : Int32)) T861.heap n0 Z869 Eq861 fq861_0 fq861_1 fq861_2 fq861_3 gg854 fab862 ggb862 ne864 fab863 ggb863 ne866 nn861_1_0 (own_Isz own_I0 (by decide)) (own_Istop own_I0 (by decide) _ _) own_I0.2.2.2.1 (own_fi hw839)) hZ (hw _ (List.mem_of_getElem? (i := 26) rfl)) (hw _ (List.mem_of_getElem? (i := 2) rfl)) (by decide) (by decide)) q953a q953c (g := (mkF m 112 #[.val (.int sA), .val (.int vA), .val (.int sB), .val (.int vB), .val (.int pk), .val (.int mm), .val (.int (3 : Int32)), .val (.int w837), .val (.double w839), .second, .val (.double w841), .second, .val (.int w847), .val (.int w853), .val (.ref b854)] [(.double w839), (.double (FP.i2d vA)), (.int sA), (.ref b854)])) rfl (by rw [hml]; rfl) (Steps.refl _) (argsL := [(.int sA), (.double (FP.i2d vA)), (.double w839)]) (rest := []) (lenOf pd_5 rfl) rfl (by show 2 * 0 + _ ≤ _; exact Nat.le_of_eq rfl) (hb hby at_112) (fun _ _ => ⟨rfl, rfl, (by decide : 3 + 0 ≤ _), (by decide : 116 + 0 ≤ _)⟩)
    dsimp only [Pt.U, Pt.locs, Pt.cells, Pt.slots] at X953 l953 y953 z953 st953 hQ953
    subst l953 y953 z953
    obtain ⟨rfl, N953q, K953, Eq953, fq953_0, fq953_1, fq953_2, fq953_3, fz953_0, fz953_1⟩ := hQ953
    have N953 := Fr.app N861 N953q
    have K954 : Keep h0 T953.heap [] := K868.trans K953 (allS (Or.inr sz854) (allS (Or.inr sz865) (allS (Or.inr sz867) all0)))
    have Z955 : n0 ≤ T953.heap.size := Nat.le_trans Z869 K953.1
    obtain ⟨w956, hw956⟩ : ∃ z : Int32, z = (f4_size sA (FP.i2d vA) w839 (0 : Int32) (fun _ => (0 : Int64)) (fun _ => (0 : Int32))) := ⟨_, rfl⟩
    rw [← hw956] at fq953_2
    obtain ⟨w957, hw957⟩ : ∃ z : (Nat → Int64), z = (f4_slots sA (FP.i2d vA) w839 (0 : Int32) (fun _ => (0 : Int64)) (fun _ => (0 : Int32))) := ⟨_, rfl⟩
    rw [← hw957] at fz953_0
    obtain ⟨w958, hw958⟩ : ∃ z : (Nat → Int32), z = (f4_entrySlots sA (FP.i2d vA) w839 (0 : Int32) (fun _ => (0 : Int64)) (fun _ => (0 : Int32))) := ⟨_, rfl⟩
    rw [← hw958] at fz953_1
    have I959 : own_I w957 w958 w956 1 := own_Iadd own_I0 (by decide) (own_fi hw839) hw957 hw958 hw956
    obtain ⟨cq960, kq960, q960a, q960b, q960c⟩ := isOf hZ rfl Eq953
    obtain ⟨_, _, ⟨T960, L960, k960, n960⟩, -, X960, ⟨Lc960, hQ960, l960, y960, z960⟩, st960⟩ := X953.virtualBack hx (y := (⟨"com/example/ketproof/ketproof/MassTable", "add", "(IDD)V"⟩ : MethodName)) (z := (⟨"com/example/ketproof/ketproof/MassTable", "add", "(IDD)V"⟩ : MethodName)) hown (mvT hZ (hw _ (List.mem_of_getElem? (i := 22) rfl))) (mvT hZ (hw _ (List.mem_of_getElem? (i := 23) rfl))) (notFace_of_selects (args := #[]) (mvT hZ (hw _ (List.mem_of_getElem? (i := 25) rfl)))) (mvT hZ (hw _ (List.mem_of_getElem? (i := 25) rfl))) (mvT hZ (hw _ (List.mem_of_getElem? (i := 24) rfl))) (by decide) (backOf (W := 0) (rm4 l Z a0 hw [] b854 sB (FP.i2d vB) w839 b862 b863 w956 kkb862 w957 kkb863 w958 T953.heap n0 Z955 Eq953 fq953_0 fq953_1 fq953_2 fq953_3 gg854 fz953_0 ggb862 ne864 fz953_1 ggb863 ne866 nn861_1_0 (own_Isz I959 (by decide)) (own_Istop I959 (by decide) _ _) I959.2.2.2.1 (own_fi hw839)) hZ (hw _ (List.mem_of_getElem? (i := 26) rfl)) (hw _ (List.mem_of_getElem? (i := 2) rfl)) (by decide) (by decide)) q960a q960c (g := (mkF m 128 #[.val (.int sA), .val (.int vA), .val (.int sB), .val (.int vB), .val (.int pk), .val (.int mm), .val (.int (3 : Int32)), .val (.int w837), .val (.double w839), .second, .val (.double w841), .second, .val (.int w847), .val (.int w853), .val (.ref b854)] [(.double w839), (.double (FP.i2d vB)), (.int sB), (.ref b854)])) rfl (by rw [hml]; rfl) (Steps.refl _) (argsL := [(.int sB), (.double (FP.i2d vB)), (.double w839)]) (rest := []) (lenOf pd_5 rfl) rfl (by show 2 * 0 + _ ≤ _; exact Nat.le_of_eq rfl) (hb hby at_128) (fun _ _ => ⟨rfl, rfl, (by decide : 3 + 0 ≤ _), (by decide : 116 + 0 ≤ _)⟩)
    dsimp only [Pt.U, Pt.locs, Pt.cells, Pt.slots] at X960 l960 y960 z960 st960 hQ960
    subst l960 y960 z960
    obtain ⟨rfl, N960q, K960, Eq960, fq960_0, fq960_1, fq960_2, fq960_3, fz960_0, fz960_1⟩ := hQ960
    have N960 := Fr.app N953 N960q
    have K961 : Keep h0 T960.heap [] := K954.trans K960 (allS (Or.inr sz854) (allS (Or.inr sz865) (allS (Or.inr sz867) all0)))
    have Z962 : n0 ≤ T960.heap.size := Nat.le_trans Z955 K960.1
    obtain ⟨w963, hw963⟩ : ∃ z : Int32, z = (f4_size sB (FP.i2d vB) w839 w956 w957 w958) := ⟨_, rfl⟩
    rw [← hw963] at fq960_2
    obtain ⟨w964, hw964⟩ : ∃ z : (Nat → Int64), z = (f4_slots sB (FP.i2d vB) w839 w956 w957 w958) := ⟨_, rfl⟩
    rw [← hw964] at fz960_0
    obtain ⟨w965, hw965⟩ : ∃ z : (Nat → Int32), z = (f4_entrySlots sB (FP.i2d vB) w839 w956 w957 w958) := ⟨_, rfl⟩
    rw [← hw965] at fz960_1
    have I966 : own_I w964 w965 w963 2 := own_Iadd I959 (by decide) (own_fi hw839) hw964 hw965 hw963
    obtain ⟨cq967, kq967, q967a, q967b, q967c⟩ := isOf hZ rfl Eq960
    obtain ⟨_, _, ⟨T967, L967, k967, n967⟩, -, X967, ⟨Lc967, hQ967, l967, y967, z967⟩, st967⟩ := X960.virtualBack hx (y := (⟨"com/example/ketproof/ketproof/MassTable", "add", "(IDD)V"⟩ : MethodName)) (z := (⟨"com/example/ketproof/ketproof/MassTable", "add", "(IDD)V"⟩ : MethodName)) hown (mvT hZ (hw _ (List.mem_of_getElem? (i := 22) rfl))) (mvT hZ (hw _ (List.mem_of_getElem? (i := 23) rfl))) (notFace_of_selects (args := #[]) (mvT hZ (hw _ (List.mem_of_getElem? (i := 25) rfl)))) (mvT hZ (hw _ (List.mem_of_getElem? (i := 25) rfl))) (mvT hZ (hw _ (List.mem_of_getElem? (i := 24) rfl))) (by decide) (backOf (W := 0) (rm4 l Z a0 hw [] b854 sA (FP.i2d vB) w839 b862 b863 w963 kkb862 w964 kkb863 w965 T960.heap n0 Z962 Eq960 fq960_0 fq960_1 fq960_2 fq960_3 gg854 fz960_0 ggb862 ne864 fz960_1 ggb863 ne866 nn861_1_0 (own_Isz I966 (by decide)) (own_Istop I966 (by decide) _ _) I966.2.2.2.1 (own_fi hw839)) hZ (hw _ (List.mem_of_getElem? (i := 26) rfl)) (hw _ (List.mem_of_getElem? (i := 2) rfl)) (by decide) (by decide)) q967a q967c (g := (mkF m 144 #[.val (.int sA), .val (.int vA), .val (.int sB), .val (.int vB), .val (.int pk), .val (.int mm), .val (.int (3 : Int32)), .val (.int w837), .val (.double w839), .second, .val (.double w841), .second, .val (.int w847), .val (.int w853), .val (.ref b854)] [(.double w839), (.double (FP.i2d vB)), (.int sA), (.ref b854)])) rfl (by rw [hml]; rfl) (Steps.refl _) (argsL := [(.int sA), (.double (FP.i2d vB)), (.double w839)]) (rest := []) (lenOf pd_5 rfl) rfl (by show 2 * 0 + _ ≤ _; exact Nat.le_of_eq rfl) (hb hby at_144) (fun _ _ => ⟨rfl, rfl, (by decide : 3 + 0 ≤ _), (by decide : 116 + 0 ≤ _)⟩)
    dsimp only [Pt.U, Pt.locs, Pt.cells, Pt.slots] at X967 l967 y967 z967 st967 hQ967
    subst l967 y967 z967
    obtain ⟨rfl, N967q, K967, Eq967, fq967_0, fq967_1, fq967_2, fq967_3, fz967_0, fz967_1⟩ := hQ967
    have N967 := Fr.app N960 N967q
    have K968 : Keep h0 T967.heap [] := K961.trans K967 (allS (Or.inr sz854) (allS (Or.inr sz865) (allS (Or.inr sz867) all0)))
    have Z969 : n0 ≤ T967.heap.size := Nat.le_trans Z962 K967.1
    obtain ⟨w970, hw970⟩ : ∃ z : Int32, z = (f4_size sA (FP.i2d vB) w839 w963 w964 w965) := ⟨_, rfl⟩
    rw [← hw970] at fq967_2
    obtain ⟨w971, hw971⟩ : ∃ z : (Nat → Int64), z = (f4_slots sA (FP.i2d vB) w839 w963 w964 w965) := ⟨_, rfl⟩
    rw [← hw971] at fz967_0
    obtain ⟨w972, hw972⟩ : ∃ z : (Nat → Int32), z = (f4_entrySlots sA (FP.i2d vB) w839 w963 w964 w965) := ⟨_, rfl⟩
    rw [← hw972] at fz967_1
    have I973 : own_I w971 w972 w970 3 := own_Iadd I966 (by decide) (own_fi hw839) hw971 hw972 hw970
    obtain ⟨cq974, kq974, q974a, q974b, q974c⟩ := isOf hZ rfl Eq967
    obtain ⟨_, _, ⟨T974, L974, k974, n974⟩, -, X974, ⟨Lc974, hQ974, l974, y974, z974⟩, st974⟩ := X967.virtualBack hx (y := (⟨"com/example/ketproof/ketproof/MassTable", "clear", "()V"⟩ : MethodName)) (z := (⟨"com/example/ketproof/ketproof/MassTable", "clear", "()V"⟩ : MethodName)) hown (mvT hZ (hw _ (List.mem_of_getElem? (i := 15) rfl))) (mvT hZ (hw _ (List.mem_of_getElem? (i := 16) rfl))) (notFace_of_selects (args := #[]) (mvT hZ (hw _ (List.mem_of_getElem? (i := 18) rfl)))) (mvT hZ (hw _ (List.mem_of_getElem? (i := 18) rfl))) (mvT hZ (hw _ (List.mem_of_getElem? (i := 17) rfl))) (by decide) (backOf (W := 0) (rm3 l Z a0 hw [] b854 b862 b863 w970 kkb862 w971 kkb863 w972 T967.heap n0 Z969 Eq967 fq967_0 fq967_1 fq967_2 fq967_3 gg854 fz967_0 ggb862 ne864 fz967_1 ggb863 ne866 nn861_1_0 (own_Isz I973 (by decide)) I973.2.2.1) hZ (hw _ (List.mem_of_getElem? (i := 19) rfl)) (hw _ (List.mem_of_getElem? (i := 2) rfl)) (by decide) (by decide)) q974a q974c (g := (mkF m 149 #[.val (.int sA), .val (.int vA), .val (.int sB), .val (.int vB), .val (.int pk), .val (.int mm), .val (.int (3 : Int32)), .val (.int w837), .val (.double w839), .second, .val (.double w841), .second, .val (.int w847), .val (.int w853), .val (.ref b854)] [(.ref b854)])) rfl (by rw [hml]; rfl) (Steps.refl _) (argsL := []) (rest := []) (lenOf pd_4 rfl) rfl (by show 2 * 0 + _ ≤ _; exact Nat.le_of_eq rfl) (hb hby at_149) (fun _ _ => ⟨rfl, rfl, (by decide : 3 + 0 ≤ _), (by decide : 116 + 0 ≤ _)⟩)
    dsimp only [Pt.U, Pt.locs, Pt.cells, Pt.slots] at X974 l974 y974 z974 st974 hQ974
    subst l974 y974 z974
    obtain ⟨rfl, N974q, K974, Eq974, fq974_0, fq974_1, fq974_2, fq974_3, fz974_0, fz974_1⟩ := hQ974
    have N974 := Fr.app N967 N974q
    have K975 : Keep h0 T974.heap [] := K968.trans K974 (allS (Or.inr sz854) (allS (Or.inr sz865) (allS (Or.inr sz867) all0)))
    have Z976 : n0 ≤ T974.heap.size := Nat.le_trans Z969 K974.1
    obtain ⟨w977, hw977⟩ : ∃ z : Int32, z = (f3_size w970 w971 w972) := ⟨_, rfl⟩
    rw [← hw977] at fq974_2
    obtain ⟨w978, hw978⟩ : ∃ z : (Nat → Int64), z = (f3_slots w970 w971 w972) := ⟨_, rfl⟩
    rw [← hw978] at fz974_0
    obtain ⟨w979, hw979⟩ : ∃ z : (Nat → Int32), z = (f3_entrySlots w970 w971 w972) := ⟨_, rfl⟩
    rw [← hw979] at fz974_1
    have I980 : own_I w978 w979 w977 0 := own_Iclear I973 (by decide) hw978 hw979 hw977
    obtain ⟨cq981, kq981, q981a, q981b, q981c⟩ := isOf hZ rfl Eq974
    obtain ⟨_, _, ⟨T981, L981, k981, n981⟩, -, X981, ⟨Lc981, hQ981, l981, y981, z981⟩, st981⟩ := X974.virtualBack hx (y := (⟨"com/example/ketproof/ketproof/MassTable", "add", "(IDD)V"⟩ : MethodName)) (z := (⟨"com/example/ketproof/ketproof/MassTable", "add", "(IDD)V"⟩ : MethodName)) hown (mvT hZ (hw _ (List.mem_of_getElem? (i := 22) rfl))) (mvT hZ (hw _ (List.mem_of_getElem? (i := 23) rfl))) (notFace_of_selects (args := #[]) (mvT hZ (hw _ (List.mem_of_getElem? (i := 25) rfl)))) (mvT hZ (hw _ (List.mem_of_getElem? (i := 25) rfl))) (mvT hZ (hw _ (List.mem_of_getElem? (i := 24) rfl))) (by decide) (backOf (W := 0) (rm4 l Z a0 hw [] b854 w847 (FP.i2d w853) w841 b862 b863 w977 kkb862 w978 kkb863 w979 T974.heap n0 Z976 Eq974 fq974_0 fq974_1 fq974_2 fq974_3 gg854 fz974_0 ggb862 ne864 fz974_1 ggb863 ne866 nn861_1_0 (own_Isz I980 (by decide)) (own_Istop I980 (by decide) _ _) I980.2.2.2.1 (own_fi hw841)) hZ (hw _ (List.mem_of_getElem? (i := 26) rfl)) (hw _ (List.mem_of_getElem? (i := 2) rfl)) (by decide) (by decide)) q981a q981c (g := (mkF m 161 #[.val (.int sA), .val (.int vA), .val (.int sB), .val (.int vB), .val (.int pk), .val (.int mm), .val (.int (3 : Int32)), .val (.int w837), .val (.double w839), .second, .val (.double w841), .second, .val (.int w847), .val (.int w853), .val (.ref b854)] [(.double w841), (.double (FP.i2d w853)), (.int w847), (.ref b854)])) rfl (by rw [hml]; rfl) (Steps.refl _) (argsL := [(.int w847), (.double (FP.i2d w853)), (.double w841)]) (rest := []) (lenOf pd_5 rfl) rfl (by show 2 * 0 + _ ≤ _; exact Nat.le_of_eq rfl) (hb hby at_161) (fun _ _ => ⟨rfl, rfl, (by decide : 3 + 0 ≤ _), (by decide : 116 + 0 ≤ _)⟩)
    dsimp only [Pt.U, Pt.locs, Pt.cells, Pt.slots] at X981 l981 y981 z981 st981 hQ981
    subst l981 y981 z981
    obtain ⟨rfl, N981q, K981, Eq981, fq981_0, fq981_1, fq981_2, fq981_3, fz981_0, fz981_1⟩ := hQ981
    have N981 := Fr.app N974 N981q
    have K982 : Keep h0 T981.heap [] := K975.trans K981 (allS (Or.inr sz854) (allS (Or.inr sz865) (allS (Or.inr sz867) all0)))
    have Z983 : n0 ≤ T981.heap.size := Nat.le_trans Z976 K981.1
    obtain ⟨w984, hw984⟩ : ∃ z : Int32, z = (f4_size w847 (FP.i2d w853) w841 w977 w978 w979) := ⟨_, rfl⟩
    rw [← hw984] at fq981_2
    obtain ⟨w985, hw985⟩ : ∃ z : (Nat → Int64), z = (f4_slots w847 (FP.i2d w853) w841 w977 w978 w979) := ⟨_, rfl⟩
    rw [← hw985] at fz981_0
    obtain ⟨w986, hw986⟩ : ∃ z : (Nat → Int32), z = (f4_entrySlots w847 (FP.i2d w853) w841 w977 w978 w979) := ⟨_, rfl⟩
    rw [← hw986] at fz981_1
    have I987 : own_I w985 w986 w984 1 := own_Iadd I980 (by decide) (own_fi hw841) hw985 hw986 hw984
    have B988 := own_back I980 hw985 hw986 hw984 (Jvm.Free.Fl.i2d_fin _) (own_fi hw841)
    obtain ⟨cq989, kq989, q989a, q989b, q989c⟩ := isOf hZ rfl Eq981
    obtain ⟨_, _, ⟨T989, L989, k989, n989⟩, -, X989, ⟨Lc989, hQ989, l989, y989, z989⟩, st989⟩ := X981.virtualBack hx (y := (⟨"com/example/ketproof/ketproof/MassTable", "size", "()I"⟩ : MethodName)) (z := (⟨"com/example/ketproof/ketproof/MassTable", "size", "()I"⟩ : MethodName)) hown (mvT hZ (hw _ (List.mem_of_getElem? (i := 40) rfl))) (mvT hZ (hw _ (List.mem_of_getElem? (i := 41) rfl))) (notFace_of_selects (args := #[]) (mvT hZ (hw _ (List.mem_of_getElem? (i := 43) rfl)))) (mvT hZ (hw _ (List.mem_of_getElem? (i := 43) rfl))) (mvT hZ (hw _ (List.mem_of_getElem? (i := 42) rfl))) (by decide) (backOf (W := 0) (rm7 l Z a0 hw [] b854 w984 T981.heap n0 Z983 fq981_2) hZ (hw _ (List.mem_of_getElem? (i := 44) rfl)) (hw _ (List.mem_of_getElem? (i := 2) rfl)) (by decide) (by decide)) q989a q989c (g := (mkF m 166 #[.val (.int sA), .val (.int vA), .val (.int sB), .val (.int vB), .val (.int pk), .val (.int mm), .val (.int (3 : Int32)), .val (.int w837), .val (.double w839), .second, .val (.double w841), .second, .val (.int w847), .val (.int w853), .val (.ref b854)] [(.ref b854)])) rfl (by rw [hml]; rfl) (Steps.refl _) (argsL := []) (rest := []) (lenOf pd_6 rfl) rfl (by show 2 * 0 + _ ≤ _; exact Nat.le_of_eq rfl) (hb hby at_166) (fun _ _ => ⟨rfl, rfl, (by decide : 3 + 0 ≤ _), (by decide : 116 + 0 ≤ _)⟩)
    dsimp only [Pt.U, Pt.locs, Pt.cells, Pt.slots] at X989 l989 y989 z989 st989 hQ989
    subst l989 y989 z989
    obtain ⟨rfl, N989q, e989⟩ := hQ989
    have N989 := Fr.app N981 N989q
    obtain ⟨cq990, kq990, q990a, q990b, q990c⟩ := isOf hZ e989 Eq981
    obtain ⟨_, _, ⟨T990, L990, k990, n990⟩, -, X990, ⟨Lc990, hQ990, l990, y990, z990⟩, st990⟩ := X989.virtualBack hx (y := (⟨"com/example/ketproof/ketproof/MassTable", "state", "(I)I"⟩ : MethodName)) (z := (⟨"com/example/ketproof/ketproof/MassTable", "state", "(I)I"⟩ : MethodName)) hown (mvT hZ (hw _ (List.mem_of_getElem? (i := 45) rfl))) (mvT hZ (hw _ (List.mem_of_getElem? (i := 46) rfl))) (notFace_of_selects (args := #[]) (mvT hZ (hw _ (List.mem_of_getElem? (i := 48) rfl)))) (mvT hZ (hw _ (List.mem_of_getElem? (i := 48) rfl))) (mvT hZ (hw _ (List.mem_of_getElem? (i := 47) rfl))) (by decide) (backOf (W := 0) (rm8 l Z a0 hw [] b854 (0 : Int32) b862 b863 kkb862 w985 kkb863 w986 T981.heap n0 Z983 fq981_0 fq981_1 fz981_0 fz981_1 fq981_3 ⟨by decide, by decide⟩ B988.1) hZ (hw _ (List.mem_of_getElem? (i := 49) rfl)) (hw _ (List.mem_of_getElem? (i := 2) rfl)) (by decide) (by decide)) q990a q990c (g := (mkF m 176 #[.val (.int sA), .val (.int vA), .val (.int sB), .val (.int vB), .val (.int pk), .val (.int mm), .val (.int (3 : Int32)), .val (.int w837), .val (.double w839), .second, .val (.double w841), .second, .val (.int w847), .val (.int w853), .val (.ref b854)] [(.int (0 : Int32)), (.ref b854)])) rfl (by rw [hml]; rfl) (Steps.refl _) (argsL := [(.int (0 : Int32))]) (rest := []) (lenOf pd_7 rfl) rfl (by show 2 * 0 + _ ≤ _; exact Nat.le_of_eq rfl) (hb hby at_176) (fun _ _ => ⟨rfl, e989, (by decide : 3 + 0 ≤ _), (by decide : 116 + 0 ≤ _)⟩)
    dsimp only [Pt.U, Pt.locs, Pt.cells, Pt.slots] at X990 l990 y990 z990 st990 hQ990
    subst l990 y990 z990
    obtain ⟨rfl, N990q, e990⟩ := hQ990
    have N990 := Fr.app N989 N990q
    obtain ⟨cq991, kq991, q991a, q991b, q991c⟩ := isOf hZ e990 Eq981
    obtain ⟨_, _, ⟨T991, L991, k991, n991⟩, -, X991, ⟨Lc991, hQ991, l991, y991, z991⟩, st991⟩ := X990.virtualBack hx (y := (⟨"com/example/ketproof/ketproof/MassTable", "value", "(I)D"⟩ : MethodName)) (z := (⟨"com/example/ketproof/ketproof/MassTable", "value", "(I)D"⟩ : MethodName)) hown (mvT hZ (hw _ (List.mem_of_getElem? (i := 50) rfl))) (mvT hZ (hw _ (List.mem_of_getElem? (i := 51) rfl))) (notFace_of_selects (args := #[]) (mvT hZ (hw _ (List.mem_of_getElem? (i := 53) rfl)))) (mvT hZ (hw _ (List.mem_of_getElem? (i := 53) rfl))) (mvT hZ (hw _ (List.mem_of_getElem? (i := 52) rfl))) (by decide) (backOf (W := 0) (rm9 l Z a0 hw [] b854 (0 : Int32) b862 b863 kkb862 w985 kkb863 w986 T981.heap n0 Z983 fq981_0 fq981_1 Eq981 fz981_0 fz981_1 fq981_3 ⟨by decide, by decide⟩ B988.1 B988.2.1) hZ (hw _ (List.mem_of_getElem? (i := 54) rfl)) (hw _ (List.mem_of_getElem? (i := 2) rfl)) (by decide) (by decide)) q991a q991c (g := (mkF m 187 #[.val (.int sA), .val (.int vA), .val (.int sB), .val (.int vB), .val (.int pk), .val (.int mm), .val (.int (3 : Int32)), .val (.int w837), .val (.double w839), .second, .val (.double w841), .second, .val (.int w847), .val (.int w853), .val (.ref b854)] [(.int (0 : Int32)), (.ref b854)])) rfl (by rw [hml]; rfl) (Steps.refl _) (argsL := [(.int (0 : Int32))]) (rest := []) (lenOf pd_8 rfl) rfl (by show 2 * 0 + _ ≤ _; exact Nat.le_of_eq rfl) (hb hby at_187) (fun _ _ => ⟨rfl, e990, (by decide : 3 + 0 ≤ _), (by decide : 116 + 0 ≤ _)⟩)
    dsimp only [Pt.U, Pt.locs, Pt.cells, Pt.slots] at X991 l991 y991 z991 st991 hQ991
    subst l991 y991 z991
    obtain ⟨rfl, N991q, e991⟩ := hQ991
    have N991 := Fr.app N990 N991q
    obtain ⟨cq992, kq992, q992a, q992b, q992c⟩ := isOf hZ e991 Eq981
    obtain ⟨_, _, ⟨T992, L992, k992, n992⟩, -, X992, ⟨Lc992, hQ992, l992, y992, z992⟩, st992⟩ := X991.virtualBack hx (y := (⟨"com/example/ketproof/ketproof/MassTable", "mass", "(I)D"⟩ : MethodName)) (z := (⟨"com/example/ketproof/ketproof/MassTable", "mass", "(I)D"⟩ : MethodName)) hown (mvT hZ (hw _ (List.mem_of_getElem? (i := 65) rfl))) (mvT hZ (hw _ (List.mem_of_getElem? (i := 66) rfl))) (notFace_of_selects (args := #[]) (mvT hZ (hw _ (List.mem_of_getElem? (i := 68) rfl)))) (mvT hZ (hw _ (List.mem_of_getElem? (i := 68) rfl))) (mvT hZ (hw _ (List.mem_of_getElem? (i := 67) rfl))) (by decide) (backOf (W := 0) (rm11 l Z a0 hw [] b854 (0 : Int32) b862 b863 kkb862 w985 kkb863 w986 T981.heap n0 Z983 fq981_0 fq981_1 fz981_0 fz981_1 fq981_3 ⟨by decide, by decide⟩ B988.1 B988.2.2.1) hZ (hw _ (List.mem_of_getElem? (i := 69) rfl)) (hw _ (List.mem_of_getElem? (i := 2) rfl)) (by decide) (by decide)) q992a q992c (g := (mkF m 200 #[.val (.int sA), .val (.int vA), .val (.int sB), .val (.int vB), .val (.int pk), .val (.int mm), .val (.int (3 : Int32)), .val (.int w837), .val (.double w839), .second, .val (.double w841), .second, .val (.int w847), .val (.int w853), .val (.ref b854)] [(.int (0 : Int32)), (.ref b854)])) rfl (by rw [hml]; rfl) (Steps.refl _) (argsL := [(.int (0 : Int32))]) (rest := []) (lenOf pd_8 rfl) rfl (by show 2 * 0 + _ ≤ _; exact Nat.le_of_eq rfl) (hb hby at_200) (fun _ _ => ⟨rfl, e991, (by decide : 3 + 0 ≤ _), (by decide : 116 + 0 ≤ _)⟩)
    dsimp only [Pt.U, Pt.locs, Pt.cells, Pt.slots] at X992 l992 y992 z992 st992 hQ992
    subst l992 y992 z992
    obtain ⟨rfl, N992q, e992⟩ := hQ992
    have N992 := Fr.app N991 N992q
    have S993 : ∀ t, Steps p.tables e below (T992.setTop (mkF m 214 #[.val (.int sA), .val (.int vA), .val (.int sB), .val (.int vB), .val (.int pk), .val (.int mm), .val (.int (3 : Int32)), .val (.int w837), .val (.double w839), .second, .val (.double w841), .second, .val (.int w847), .val (.int w853), .val (.ref b854)] [(.int (1 : Int32))])) t → Steps p.tables e below (s₁.setTop (entryFrame m #[(.int sA), (.int vA), (.int sB), (.int vB), (.int pk), (.int mm)] maxLocals)) t := by
      intro t k
      refine S870 t ?_
      refine XS.iload X861.here hx rfl (hb hby at_99) rfl ?_
      show Steps p.tables e below (T861.setTop (mkF m 101 #[.val (.int sA), .val (.int vA), .val (.int sB), .val (.int vB), .val (.int pk), .val (.int mm), .val (.int (3 : Int32)), .val (.int w837), .val (.double w839), .second, .val (.double w841), .second, .val (.int w847), .val (.int w853), .val (.ref b854)] [(.int (3 : Int32))])) _
      refine XS.iconst X861.here hx rfl (hb hby at_101) ?_
      show Steps p.tables e below (T861.setTop (mkF m 102 #[.val (.int sA), .val (.int vA), .val (.int sB), .val (.int vB), .val (.int pk), .val (.int mm), .val (.int (3 : Int32)), .val (.int w837), .val (.double w839), .second, .val (.double w841), .second, .val (.int w847), .val (.int w853), .val (.ref b854)] [(.int (1 : Int32)), (.int (3 : Int32))])) _
      refine XS.icmpNo X861.here hx rfl (hb hby at_102) rfl (flt (by decide : ¬ ((3 : Int32) < (1 : Int32)))).1 ?_
      show Steps p.tables e below (T861.setTop (mkF m 105 #[.val (.int sA), .val (.int vA), .val (.int sB), .val (.int vB), .val (.int pk), .val (.int mm), .val (.int (3 : Int32)), .val (.int w837), .val (.double w839), .second, .val (.double w841), .second, .val (.int w847), .val (.int w853), .val (.ref b854)] [])) _
      refine XS.aload X861.here hx rfl (hb hby at_105) rfl rfl ?_
      show Steps p.tables e below (T861.setTop (mkF m 107 #[.val (.int sA), .val (.int vA), .val (.int sB), .val (.int vB), .val (.int pk), .val (.int mm), .val (.int (3 : Int32)), .val (.int w837), .val (.double w839), .second, .val (.double w841), .second, .val (.int w847), .val (.int w853), .val (.ref b854)] [(.ref b854)])) _
      refine XS.iloadN X861.here hx rfl (hb hby at_107) rfl ?_
      show Steps p.tables e below (T861.setTop (mkF m 108 #[.val (.int sA), .val (.int vA), .val (.int sB), .val (.int vB), .val (.int pk), .val (.int mm), .val (.int (3 : Int32)), .val (.int w837), .val (.double w839), .second, .val (.double w841), .second, .val (.int w847), .val (.int w853), .val (.ref b854)] [(.int sA), (.ref b854)])) _
      refine XS.iloadN X861.here hx rfl (hb hby at_108) rfl ?_
      show Steps p.tables e below (T861.setTop (mkF m 109 #[.val (.int sA), .val (.int vA), .val (.int sB), .val (.int vB), .val (.int pk), .val (.int mm), .val (.int (3 : Int32)), .val (.int w837), .val (.double w839), .second, .val (.double w841), .second, .val (.int w847), .val (.int w853), .val (.ref b854)] [(.int vA), (.int sA), (.ref b854)])) _
      refine XS.i2dS X861.here hx rfl (hb hby at_109) rfl rfl ?_
      show Steps p.tables e below (T861.setTop (mkF m 110 #[.val (.int sA), .val (.int vA), .val (.int sB), .val (.int vB), .val (.int pk), .val (.int mm), .val (.int (3 : Int32)), .val (.int w837), .val (.double w839), .second, .val (.double w841), .second, .val (.int w847), .val (.int w853), .val (.ref b854)] [(.double (FP.i2d vA)), (.int sA), (.ref b854)])) _
      refine XS.dload X861.here hx rfl (hb hby at_110) rfl ?_
      show Steps p.tables e below (T861.setTop (mkF m 112 #[.val (.int sA), .val (.int vA), .val (.int sB), .val (.int vB), .val (.int pk), .val (.int mm), .val (.int (3 : Int32)), .val (.int w837), .val (.double w839), .second, .val (.double w841), .second, .val (.int w847), .val (.int w853), .val (.ref b854)] [(.double w839), (.double (FP.i2d vA)), (.int sA), (.ref b854)])) _
      refine st953.trans ?_
      show Steps p.tables e below (T953.setTop (mkF m 115 #[.val (.int sA), .val (.int vA), .val (.int sB), .val (.int vB), .val (.int pk), .val (.int mm), .val (.int (3 : Int32)), .val (.int w837), .val (.double w839), .second, .val (.double w841), .second, .val (.int w847), .val (.int w853), .val (.ref b854)] [])) _
      refine XS.iload X953.here hx rfl (hb hby at_115) rfl ?_
      show Steps p.tables e below (T953.setTop (mkF m 117 #[.val (.int sA), .val (.int vA), .val (.int sB), .val (.int vB), .val (.int pk), .val (.int mm), .val (.int (3 : Int32)), .val (.int w837), .val (.double w839), .second, .val (.double w841), .second, .val (.int w847), .val (.int w853), .val (.ref b854)] [(.int (3 : Int32))])) _
      refine XS.iconst X953.here hx rfl (hb hby at_117) ?_
      show Steps p.tables e below (T953.setTop (mkF m 118 #[.val (.int sA), .val (.int vA), .val (.int sB), .val (.int vB), .val (.int pk), .val (.int mm), .val (.int (3 : Int32)), .val (.int w837), .val (.double w839), .second, .val (.double w841), .second, .val (.int w847), .val (.int w853), .val (.ref b854)] [(.int (2 : Int32)), (.int (3 : Int32))])) _
      refine XS.icmpNo X953.here hx rfl (hb hby at_118) rfl (flt (by decide : ¬ ((3 : Int32) < (2 : Int32)))).1 ?_
      show Steps p.tables e below (T953.setTop (mkF m 121 #[.val (.int sA), .val (.int vA), .val (.int sB), .val (.int vB), .val (.int pk), .val (.int mm), .val (.int (3 : Int32)), .val (.int w837), .val (.double w839), .second, .val (.double w841), .second, .val (.int w847), .val (.int w853), .val (.ref b854)] [])) _
      refine XS.aload X953.here hx rfl (hb hby at_121) rfl rfl ?_
      show Steps p.tables e below (T953.setTop (mkF m 123 #[.val (.int sA), .val (.int vA), .val (.int sB), .val (.int vB), .val (.int pk), .val (.int mm), .val (.int (3 : Int32)), .val (.int w837), .val (.double w839), .second, .val (.double w841), .second, .val (.int w847), .val (.int w853), .val (.ref b854)] [(.ref b854)])) _
      refine XS.iloadN X953.here hx rfl (hb hby at_123) rfl ?_
      show Steps p.tables e below (T953.setTop (mkF m 124 #[.val (.int sA), .val (.int vA), .val (.int sB), .val (.int vB), .val (.int pk), .val (.int mm), .val (.int (3 : Int32)), .val (.int w837), .val (.double w839), .second, .val (.double w841), .second, .val (.int w847), .val (.int w853), .val (.ref b854)] [(.int sB), (.ref b854)])) _
      refine XS.iloadN X953.here hx rfl (hb hby at_124) rfl ?_
      show Steps p.tables e below (T953.setTop (mkF m 125 #[.val (.int sA), .val (.int vA), .val (.int sB), .val (.int vB), .val (.int pk), .val (.int mm), .val (.int (3 : Int32)), .val (.int w837), .val (.double w839), .second, .val (.double w841), .second, .val (.int w847), .val (.int w853), .val (.ref b854)] [(.int vB), (.int sB), (.ref b854)])) _
      refine XS.i2dS X953.here hx rfl (hb hby at_125) rfl rfl ?_
      show Steps p.tables e below (T953.setTop (mkF m 126 #[.val (.int sA), .val (.int vA), .val (.int sB), .val (.int vB), .val (.int pk), .val (.int mm), .val (.int (3 : Int32)), .val (.int w837), .val (.double w839), .second, .val (.double w841), .second, .val (.int w847), .val (.int w853), .val (.ref b854)] [(.double (FP.i2d vB)), (.int sB), (.ref b854)])) _
      refine XS.dload X953.here hx rfl (hb hby at_126) rfl ?_
      show Steps p.tables e below (T953.setTop (mkF m 128 #[.val (.int sA), .val (.int vA), .val (.int sB), .val (.int vB), .val (.int pk), .val (.int mm), .val (.int (3 : Int32)), .val (.int w837), .val (.double w839), .second, .val (.double w841), .second, .val (.int w847), .val (.int w853), .val (.ref b854)] [(.double w839), (.double (FP.i2d vB)), (.int sB), (.ref b854)])) _
      refine st960.trans ?_
      show Steps p.tables e below (T960.setTop (mkF m 131 #[.val (.int sA), .val (.int vA), .val (.int sB), .val (.int vB), .val (.int pk), .val (.int mm), .val (.int (3 : Int32)), .val (.int w837), .val (.double w839), .second, .val (.double w841), .second, .val (.int w847), .val (.int w853), .val (.ref b854)] [])) _
      refine XS.iload X960.here hx rfl (hb hby at_131) rfl ?_
      show Steps p.tables e below (T960.setTop (mkF m 133 #[.val (.int sA), .val (.int vA), .val (.int sB), .val (.int vB), .val (.int pk), .val (.int mm), .val (.int (3 : Int32)), .val (.int w837), .val (.double w839), .second, .val (.double w841), .second, .val (.int w847), .val (.int w853), .val (.ref b854)] [(.int (3 : Int32))])) _
      refine XS.iconst X960.here hx rfl (hb hby at_133) ?_
      show Steps p.tables e below (T960.setTop (mkF m 134 #[.val (.int sA), .val (.int vA), .val (.int sB), .val (.int vB), .val (.int pk), .val (.int mm), .val (.int (3 : Int32)), .val (.int w837), .val (.double w839), .second, .val (.double w841), .second, .val (.int w847), .val (.int w853), .val (.ref b854)] [(.int (3 : Int32)), (.int (3 : Int32))])) _
      refine XS.icmpNo X960.here hx rfl (hb hby at_134) rfl (flt (by decide : ¬ ((3 : Int32) < (3 : Int32)))).1 ?_
      show Steps p.tables e below (T960.setTop (mkF m 137 #[.val (.int sA), .val (.int vA), .val (.int sB), .val (.int vB), .val (.int pk), .val (.int mm), .val (.int (3 : Int32)), .val (.int w837), .val (.double w839), .second, .val (.double w841), .second, .val (.int w847), .val (.int w853), .val (.ref b854)] [])) _
      refine XS.aload X960.here hx rfl (hb hby at_137) rfl rfl ?_
      show Steps p.tables e below (T960.setTop (mkF m 139 #[.val (.int sA), .val (.int vA), .val (.int sB), .val (.int vB), .val (.int pk), .val (.int mm), .val (.int (3 : Int32)), .val (.int w837), .val (.double w839), .second, .val (.double w841), .second, .val (.int w847), .val (.int w853), .val (.ref b854)] [(.ref b854)])) _
      refine XS.iloadN X960.here hx rfl (hb hby at_139) rfl ?_
      show Steps p.tables e below (T960.setTop (mkF m 140 #[.val (.int sA), .val (.int vA), .val (.int sB), .val (.int vB), .val (.int pk), .val (.int mm), .val (.int (3 : Int32)), .val (.int w837), .val (.double w839), .second, .val (.double w841), .second, .val (.int w847), .val (.int w853), .val (.ref b854)] [(.int sA), (.ref b854)])) _
      refine XS.iloadN X960.here hx rfl (hb hby at_140) rfl ?_
      show Steps p.tables e below (T960.setTop (mkF m 141 #[.val (.int sA), .val (.int vA), .val (.int sB), .val (.int vB), .val (.int pk), .val (.int mm), .val (.int (3 : Int32)), .val (.int w837), .val (.double w839), .second, .val (.double w841), .second, .val (.int w847), .val (.int w853), .val (.ref b854)] [(.int vB), (.int sA), (.ref b854)])) _
      refine XS.i2dS X960.here hx rfl (hb hby at_141) rfl rfl ?_
      show Steps p.tables e below (T960.setTop (mkF m 142 #[.val (.int sA), .val (.int vA), .val (.int sB), .val (.int vB), .val (.int pk), .val (.int mm), .val (.int (3 : Int32)), .val (.int w837), .val (.double w839), .second, .val (.double w841), .second, .val (.int w847), .val (.int w853), .val (.ref b854)] [(.double (FP.i2d vB)), (.int sA), (.ref b854)])) _
      refine XS.dload X960.here hx rfl (hb hby at_142) rfl ?_
      show Steps p.tables e below (T960.setTop (mkF m 144 #[.val (.int sA), .val (.int vA), .val (.int sB), .val (.int vB), .val (.int pk), .val (.int mm), .val (.int (3 : Int32)), .val (.int w837), .val (.double w839), .second, .val (.double w841), .second, .val (.int w847), .val (.int w853), .val (.ref b854)] [(.double w839), (.double (FP.i2d vB)), (.int sA), (.ref b854)])) _
      refine st967.trans ?_
      show Steps p.tables e below (T967.setTop (mkF m 147 #[.val (.int sA), .val (.int vA), .val (.int sB), .val (.int vB), .val (.int pk), .val (.int mm), .val (.int (3 : Int32)), .val (.int w837), .val (.double w839), .second, .val (.double w841), .second, .val (.int w847), .val (.int w853), .val (.ref b854)] [])) _
      refine XS.aload X967.here hx rfl (hb hby at_147) rfl rfl ?_
      show Steps p.tables e below (T967.setTop (mkF m 149 #[.val (.int sA), .val (.int vA), .val (.int sB), .val (.int vB), .val (.int pk), .val (.int mm), .val (.int (3 : Int32)), .val (.int w837), .val (.double w839), .second, .val (.double w841), .second, .val (.int w847), .val (.int w853), .val (.ref b854)] [(.ref b854)])) _
      refine st974.trans ?_
      show Steps p.tables e below (T974.setTop (mkF m 152 #[.val (.int sA), .val (.int vA), .val (.int sB), .val (.int vB), .val (.int pk), .val (.int mm), .val (.int (3 : Int32)), .val (.int w837), .val (.double w839), .second, .val (.double w841), .second, .val (.int w847), .val (.int w853), .val (.ref b854)] [])) _
      refine XS.aload X974.here hx rfl (hb hby at_152) rfl rfl ?_
      show Steps p.tables e below (T974.setTop (mkF m 154 #[.val (.int sA), .val (.int vA), .val (.int sB), .val (.int vB), .val (.int pk), .val (.int mm), .val (.int (3 : Int32)), .val (.int w837), .val (.double w839), .second, .val (.double w841), .second, .val (.int w847), .val (.int w853), .val (.ref b854)] [(.ref b854)])) _
      refine XS.iload X974.here hx rfl (hb hby at_154) rfl ?_
      show Steps p.tables e below (T974.setTop (mkF m 156 #[.val (.int sA), .val (.int vA), .val (.int sB), .val (.int vB), .val (.int pk), .val (.int mm), .val (.int (3 : Int32)), .val (.int w837), .val (.double w839), .second, .val (.double w841), .second, .val (.int w847), .val (.int w853), .val (.ref b854)] [(.int w847), (.ref b854)])) _
      refine XS.iload X974.here hx rfl (hb hby at_156) rfl ?_
      show Steps p.tables e below (T974.setTop (mkF m 158 #[.val (.int sA), .val (.int vA), .val (.int sB), .val (.int vB), .val (.int pk), .val (.int mm), .val (.int (3 : Int32)), .val (.int w837), .val (.double w839), .second, .val (.double w841), .second, .val (.int w847), .val (.int w853), .val (.ref b854)] [(.int w853), (.int w847), (.ref b854)])) _
      refine XS.i2dS X974.here hx rfl (hb hby at_158) rfl rfl ?_
      show Steps p.tables e below (T974.setTop (mkF m 159 #[.val (.int sA), .val (.int vA), .val (.int sB), .val (.int vB), .val (.int pk), .val (.int mm), .val (.int (3 : Int32)), .val (.int w837), .val (.double w839), .second, .val (.double w841), .second, .val (.int w847), .val (.int w853), .val (.ref b854)] [(.double (FP.i2d w853)), (.int w847), (.ref b854)])) _
      refine XS.dload X974.here hx rfl (hb hby at_159) rfl ?_
      show Steps p.tables e below (T974.setTop (mkF m 161 #[.val (.int sA), .val (.int vA), .val (.int sB), .val (.int vB), .val (.int pk), .val (.int mm), .val (.int (3 : Int32)), .val (.int w837), .val (.double w839), .second, .val (.double w841), .second, .val (.int w847), .val (.int w853), .val (.ref b854)] [(.double w841), (.double (FP.i2d w853)), (.int w847), (.ref b854)])) _
      refine st981.trans ?_
      show Steps p.tables e below (T981.setTop (mkF m 164 #[.val (.int sA), .val (.int vA), .val (.int sB), .val (.int vB), .val (.int pk), .val (.int mm), .val (.int (3 : Int32)), .val (.int w837), .val (.double w839), .second, .val (.double w841), .second, .val (.int w847), .val (.int w853), .val (.ref b854)] [])) _
      refine XS.aload X981.here hx rfl (hb hby at_164) rfl rfl ?_
      show Steps p.tables e below (T981.setTop (mkF m 166 #[.val (.int sA), .val (.int vA), .val (.int sB), .val (.int vB), .val (.int pk), .val (.int mm), .val (.int (3 : Int32)), .val (.int w837), .val (.double w839), .second, .val (.double w841), .second, .val (.int w847), .val (.int w853), .val (.ref b854)] [(.ref b854)])) _
      refine st989.trans ?_
      show Steps p.tables e below (T989.setTop (mkF m 169 #[.val (.int sA), .val (.int vA), .val (.int sB), .val (.int vB), .val (.int pk), .val (.int mm), .val (.int (3 : Int32)), .val (.int w837), .val (.double w839), .second, .val (.double w841), .second, .val (.int w847), .val (.int w853), .val (.ref b854)] [(.int (f7 w984))])) _
      refine XS.iconst X989.here hx rfl (hb hby at_169) ?_
      show Steps p.tables e below (T989.setTop (mkF m 170 #[.val (.int sA), .val (.int vA), .val (.int sB), .val (.int vB), .val (.int pk), .val (.int mm), .val (.int (3 : Int32)), .val (.int w837), .val (.double w839), .second, .val (.double w841), .second, .val (.int w847), .val (.int w853), .val (.ref b854)] [(.int (1 : Int32)), (.int (f7 w984))])) _
      refine XS.icmpNo X989.here hx rfl (hb hby at_170) rfl (teq B988.2.2.2.1).2 ?_
      show Steps p.tables e below (T989.setTop (mkF m 173 #[.val (.int sA), .val (.int vA), .val (.int sB), .val (.int vB), .val (.int pk), .val (.int mm), .val (.int (3 : Int32)), .val (.int w837), .val (.double w839), .second, .val (.double w841), .second, .val (.int w847), .val (.int w853), .val (.ref b854)] [])) _
      refine XS.aload X989.here hx rfl (hb hby at_173) rfl rfl ?_
      show Steps p.tables e below (T989.setTop (mkF m 175 #[.val (.int sA), .val (.int vA), .val (.int sB), .val (.int vB), .val (.int pk), .val (.int mm), .val (.int (3 : Int32)), .val (.int w837), .val (.double w839), .second, .val (.double w841), .second, .val (.int w847), .val (.int w853), .val (.ref b854)] [(.ref b854)])) _
      refine XS.iconst X989.here hx rfl (hb hby at_175) ?_
      show Steps p.tables e below (T989.setTop (mkF m 176 #[.val (.int sA), .val (.int vA), .val (.int sB), .val (.int vB), .val (.int pk), .val (.int mm), .val (.int (3 : Int32)), .val (.int w837), .val (.double w839), .second, .val (.double w841), .second, .val (.int w847), .val (.int w853), .val (.ref b854)] [(.int (0 : Int32)), (.ref b854)])) _
      refine st990.trans ?_
      show Steps p.tables e below (T990.setTop (mkF m 179 #[.val (.int sA), .val (.int vA), .val (.int sB), .val (.int vB), .val (.int pk), .val (.int mm), .val (.int (3 : Int32)), .val (.int w837), .val (.double w839), .second, .val (.double w841), .second, .val (.int w847), .val (.int w853), .val (.ref b854)] [(.int (f8 (0 : Int32) w985 w986))])) _
      refine XS.iload X990.here hx rfl (hb hby at_179) rfl ?_
      show Steps p.tables e below (T990.setTop (mkF m 181 #[.val (.int sA), .val (.int vA), .val (.int sB), .val (.int vB), .val (.int pk), .val (.int mm), .val (.int (3 : Int32)), .val (.int w837), .val (.double w839), .second, .val (.double w841), .second, .val (.int w847), .val (.int w853), .val (.ref b854)] [(.int w847), (.int (f8 (0 : Int32) w985 w986))])) _
      refine XS.icmpNo X990.here hx rfl (hb hby at_181) rfl (teq B988.2.2.2.2.1).2 ?_
      show Steps p.tables e below (T990.setTop (mkF m 184 #[.val (.int sA), .val (.int vA), .val (.int sB), .val (.int vB), .val (.int pk), .val (.int mm), .val (.int (3 : Int32)), .val (.int w837), .val (.double w839), .second, .val (.double w841), .second, .val (.int w847), .val (.int w853), .val (.ref b854)] [])) _
      refine XS.aload X990.here hx rfl (hb hby at_184) rfl rfl ?_
      show Steps p.tables e below (T990.setTop (mkF m 186 #[.val (.int sA), .val (.int vA), .val (.int sB), .val (.int vB), .val (.int pk), .val (.int mm), .val (.int (3 : Int32)), .val (.int w837), .val (.double w839), .second, .val (.double w841), .second, .val (.int w847), .val (.int w853), .val (.ref b854)] [(.ref b854)])) _
      refine XS.iconst X990.here hx rfl (hb hby at_186) ?_
      show Steps p.tables e below (T990.setTop (mkF m 187 #[.val (.int sA), .val (.int vA), .val (.int sB), .val (.int vB), .val (.int pk), .val (.int mm), .val (.int (3 : Int32)), .val (.int w837), .val (.double w839), .second, .val (.double w841), .second, .val (.int w847), .val (.int w853), .val (.ref b854)] [(.int (0 : Int32)), (.ref b854)])) _
      refine st991.trans ?_
      show Steps p.tables e below (T991.setTop (mkF m 190 #[.val (.int sA), .val (.int vA), .val (.int sB), .val (.int vB), .val (.int pk), .val (.int mm), .val (.int (3 : Int32)), .val (.int w837), .val (.double w839), .second, .val (.double w841), .second, .val (.int w847), .val (.int w853), .val (.ref b854)] [(.double (f9 (0 : Int32) w985 w986))])) _
      refine XS.iload X991.here hx rfl (hb hby at_190) rfl ?_
      show Steps p.tables e below (T991.setTop (mkF m 192 #[.val (.int sA), .val (.int vA), .val (.int sB), .val (.int vB), .val (.int pk), .val (.int mm), .val (.int (3 : Int32)), .val (.int w837), .val (.double w839), .second, .val (.double w841), .second, .val (.int w847), .val (.int w853), .val (.ref b854)] [(.int w853), (.double (f9 (0 : Int32) w985 w986))])) _
      refine XS.i2dS X991.here hx rfl (hb hby at_192) rfl rfl ?_
      show Steps p.tables e below (T991.setTop (mkF m 193 #[.val (.int sA), .val (.int vA), .val (.int sB), .val (.int vB), .val (.int pk), .val (.int mm), .val (.int (3 : Int32)), .val (.int w837), .val (.double w839), .second, .val (.double w841), .second, .val (.int w847), .val (.int w853), .val (.ref b854)] [(.double (FP.i2d w853)), (.double (f9 (0 : Int32) w985 w986))])) _
      refine XS.dcmpS X991.here hx rfl (hb hby at_193) rfl rfl ?_
      show Steps p.tables e below (T991.setTop (mkF m 194 #[.val (.int sA), .val (.int vA), .val (.int sB), .val (.int vB), .val (.int pk), .val (.int mm), .val (.int (3 : Int32)), .val (.int w837), .val (.double w839), .second, .val (.double w841), .second, .val (.int w847), .val (.int w853), .val (.ref b854)] [(.int (cmpValue (FP.dcmp (f9 (0 : Int32) w985 w986) (FP.i2d w853)) .l))])) _
      refine XS.ifNo X991.here hx rfl (hb hby at_194) rfl ((if0 _ _).trans (teq B988.2.2.2.2.2.1).2) ?_
      show Steps p.tables e below (T991.setTop (mkF m 197 #[.val (.int sA), .val (.int vA), .val (.int sB), .val (.int vB), .val (.int pk), .val (.int mm), .val (.int (3 : Int32)), .val (.int w837), .val (.double w839), .second, .val (.double w841), .second, .val (.int w847), .val (.int w853), .val (.ref b854)] [])) _
      refine XS.aload X991.here hx rfl (hb hby at_197) rfl rfl ?_
      show Steps p.tables e below (T991.setTop (mkF m 199 #[.val (.int sA), .val (.int vA), .val (.int sB), .val (.int vB), .val (.int pk), .val (.int mm), .val (.int (3 : Int32)), .val (.int w837), .val (.double w839), .second, .val (.double w841), .second, .val (.int w847), .val (.int w853), .val (.ref b854)] [(.ref b854)])) _
      refine XS.iconst X991.here hx rfl (hb hby at_199) ?_
      show Steps p.tables e below (T991.setTop (mkF m 200 #[.val (.int sA), .val (.int vA), .val (.int sB), .val (.int vB), .val (.int pk), .val (.int mm), .val (.int (3 : Int32)), .val (.int w837), .val (.double w839), .second, .val (.double w841), .second, .val (.int w847), .val (.int w853), .val (.ref b854)] [(.int (0 : Int32)), (.ref b854)])) _
      refine st992.trans ?_
      show Steps p.tables e below (T992.setTop (mkF m 203 #[.val (.int sA), .val (.int vA), .val (.int sB), .val (.int vB), .val (.int pk), .val (.int mm), .val (.int (3 : Int32)), .val (.int w837), .val (.double w839), .second, .val (.double w841), .second, .val (.int w847), .val (.int w853), .val (.ref b854)] [(.double (f11 (0 : Int32) w985 w986))])) _
      refine XS.dload X992.here hx rfl (hb hby at_203) rfl ?_
      show Steps p.tables e below (T992.setTop (mkF m 205 #[.val (.int sA), .val (.int vA), .val (.int sB), .val (.int vB), .val (.int pk), .val (.int mm), .val (.int (3 : Int32)), .val (.int w837), .val (.double w839), .second, .val (.double w841), .second, .val (.int w847), .val (.int w853), .val (.ref b854)] [(.double w841), (.double (f11 (0 : Int32) w985 w986))])) _
      refine XS.dcmpS X992.here hx rfl (hb hby at_205) rfl rfl ?_
      show Steps p.tables e below (T992.setTop (mkF m 206 #[.val (.int sA), .val (.int vA), .val (.int sB), .val (.int vB), .val (.int pk), .val (.int mm), .val (.int (3 : Int32)), .val (.int w837), .val (.double w839), .second, .val (.double w841), .second, .val (.int w847), .val (.int w853), .val (.ref b854)] [(.int (cmpValue (FP.dcmp (f11 (0 : Int32) w985 w986) w841) .l))])) _
      refine XS.ifNo X992.here hx rfl (hb hby at_206) rfl ((if0 _ _).trans (teq B988.2.2.2.2.2.2).2) ?_
      show Steps p.tables e below (T992.setTop (mkF m 209 #[.val (.int sA), .val (.int vA), .val (.int sB), .val (.int vB), .val (.int pk), .val (.int mm), .val (.int (3 : Int32)), .val (.int w837), .val (.double w839), .second, .val (.double w841), .second, .val (.int w847), .val (.int w853), .val (.ref b854)] [])) _
      refine XS.iconst X992.here hx rfl (hb hby at_209) ?_
      show Steps p.tables e below (T992.setTop (mkF m 210 #[.val (.int sA), .val (.int vA), .val (.int sB), .val (.int vB), .val (.int pk), .val (.int mm), .val (.int (3 : Int32)), .val (.int w837), .val (.double w839), .second, .val (.double w841), .second, .val (.int w847), .val (.int w853), .val (.ref b854)] [(.int (1 : Int32))])) _
      refine XS.goto X992.here hx rfl (pc0 := 210) (pc' := 214) rfl (hb hby at_210) (by decide) (by decide) ?_
      show Steps p.tables e below (T992.setTop (mkF m 214 #[.val (.int sA), .val (.int vA), .val (.int sB), .val (.int vB), .val (.int pk), .val (.int mm), .val (.int (3 : Int32)), .val (.int w837), .val (.double w839), .second, .val (.double w841), .second, .val (.int w847), .val (.int w853), .val (.ref b854)] [(.int (1 : Int32))])) _
      exact k
    obtain ⟨fs, hr, hrun, hended, hW, hsame⟩ := X992.leave (v := some (.int (1 : Int32))) (fun h => by rw [Bd.returns] at h; cases h)
    refine ⟨_, _, S993 _ ?_, hrun, hended, _, _, rfl, ?_, ⟨_, rfl⟩, hW, hsame.mono (by decide) (by decide)⟩
    · exact retN X992 hx (t := .boolean) Bd.returns (by simp) (hb hby at_214) hr
    · show Q0 Z sA vA sB vB pk mm h0 n0 _ T992.heap _
      rw [e992]
      exact ⟨rfl, N992⟩
set_option maxRecDepth 65536 in
set_option maxHeartbeats 40000000 in
theorem comes_1 {Post : Tables → Env → Array Value → State → Outcome → State → Prop} (hpost : ∀ tb e args s v u, (limb_1_1.after args s (.returned v) u = true ∧ limb_1_2.after args s (.returned v) u = true ∧ True) → FrameEnd s (.returned v) u (Jvm.fieldLocs frame_1_writes args s ++ Jvm.arrayLocs frame_1_arrays args s ++ Jvm.staticLocs frame_1_statics s) 16 320 → Post tb e args s (.returned v) u) :
    ArmFor flags0 classFile x code maxLocals ret World_1 tables_1 room_1 Calls_1 rest_1 Pre_1 Post := by
  intro l hfl _ _ p e ha hc hk s m args below hf hA hF happ hP
  obtain ⟨hcalls, hrest, hpre⟩ := hP
  obtain ⟨-, -, -, hnamed, -, -, -, hat⟩ := (Spec.applies_iff hf).mp happ
  obtain ⟨hg, hn⟩ := and_e (Cond.before_iff.mp (show (Jvm.Cond.and given_1 narrow_1).before args s = true from hpre))
  obtain ⟨g1, g2⟩ := and_e hg
  obtain ⟨g3, g4⟩ := and_e g2
  obtain ⟨g5, g6⟩ := and_e g4
  obtain ⟨g7, g8⟩ := and_e g6
  obtain ⟨g9, g10⟩ := and_e g8
  obtain ⟨g11, g12⟩ := and_e g10
  obtain ⟨w0, w1, w2, w3, w4, w5, rfl⟩ : ∃ w0 w1 w2 w3 w4 w5 : Value, args = #[w0, w1, w2, w3, w4, w5] := by
    have hs : args.size = 6 := by simpa [Cond.value, given_1] using g1
    obtain ⟨L⟩ := args
    match L, hs with
    | [w0, w1, w2, w3, w4, w5], _ => exact ⟨w0, w1, w2, w3, w4, w5, rfl⟩
  have hw := fun d (hd : d ∈ tables_1) => atoms_spec (ws := Jvm.Cond.code x code maxLocals ret :: tables_1) hat d (List.mem_cons_of_mem _ hd)
  have hfit : Fit s := fun {y c} hc i hi => by
    obtain ⟨ha, rfl⟩ := Array.getElem?_eq_some_iff.mp hc
    have q := List.all_eq_true.mp ((Array.all_eq_true_iff_forall_mem.mp hF) _ (Array.getElem_mem ha)) i (List.mem_range.mpr hi)
    simpa [Array.getElem?_eq_getElem hi] using q
  obtain ⟨i0, ei0⟩ := is_v g3
  obtain rfl : w0 = (.int i0) := Option.some.inj ei0
  obtain ⟨i1, ei1⟩ := is_v g5
  obtain rfl : w1 = (.int i1) := Option.some.inj ei1
  obtain ⟨i2, ei2⟩ := is_v g7
  obtain rfl : w2 = (.int i2) := Option.some.inj ei2
  obtain ⟨i3, ei3⟩ := is_v g9
  obtain rfl : w3 = (.int i3) := Option.some.inj ei3
  obtain ⟨i4, ei4⟩ := is_v g11
  obtain rfl : w4 = (.int i4) := Option.some.inj ei4
  obtain ⟨i5, ei5⟩ := is_v g12
  obtain rfl : w5 = (.int i5) := Option.some.inj ei5
  obtain ⟨n, o, h1, h2, h3, _, L, rfl, ⟨rfl, N⟩, hq⟩ := rm0 l s _ hw tables_1 i0 i1 i2 i3 i4 i5  s.heap s.heap.size (Nat.le_refl _)  p e ha hc hk s m _ below hf ((Spec.applies_iff_loose hf).mp happ).1 ⟨rfl, State.Warmed39.refl s, rfl⟩ trivial
  refine ⟨n, _, h1, h2, h3, hpost _ _ _ _ _ _ ⟨Cond.after_iff.mpr rfl, Cond.after_iff.mpr (eq_i res_at (Term.int_eval (1)) rfl), trivial⟩ ⟨hq.1, hq.2.1, (hq.2.2.sift fun y hy => Or.inr (N y hy)).mono (by decide) (by decide)⟩⟩
theorem main_1_1 : Claimed_1_1 := comes_1 fun _ _ _ _ _ _ h hF => ⟨h.1, hF⟩
theorem main_1_2 : Claimed_1_2 := comes_1 fun _ _ _ _ _ _ h hF => ⟨h.2.1, hF⟩
end Jvm.Pilot.@@N@@
namespace Jvm.Pilot.@@N@@
open Jvm Jvm.ClassFile Sem Op Lib Jvm.Free Jvm.Stand Jvm.Pilot.@@N@@.Jvm.D
/-! MADE BY PROGRAM (witnessworld.py) out of the Statement's table words and the real class files: 16 classes; the members and pool entries that the words name. The judged class is class 1, her method 1. -/
namespace start1
open Jvm.ClassFile
def u (s : String) : CpInfo := .utf8 (stringToUtf16 s)
/-- a pool by its gaps: so many unusable entries, then the entry; so many at the end -/
def gap : Nat → List CpInfo → List CpInfo
  | 0, r => r
  | n + 1, r => .unusable :: gap n r
def poolList (es : List (Nat × CpInfo)) (last : Nat) : List CpInfo := es.foldr (fun e r => gap e.1 (e.2 :: r)) (gap last [])
def pool (es : List (Nat × CpInfo)) (last : Nat) : Array CpInfo := ⟨poolList es last⟩
def fileOf (pool : Array CpInfo) (this : Nat) (attrs : Array Attribute := #[]) (ms : Array MethodInfo := #[]) (fl : Nat := 33) (sup : Nat := 0) (ifs : Array Nat := #[]) (fds : Array FieldInfo := #[]) : ClassFile where
  minorVersion := 0
  majorVersion := 65
  constantPool := pool
  accessFlags := fl
  thisClass := this
  superClass := sup
  interfaces := ifs
  fields := fds
  methods := ms
  attributes := attrs
def plain (name : String) (sup : Option ClassId) : Class where
  name := name
  kind := .ordinary
  loader := none
  accessFlags := 33
  super := sup
  interfaces := #[]
  cf := none
  fields := #[]
  methods := #[]
  instanceTypes := #[]
  staticTypes := #[]
  resolved := #[]
  callSites := []
  init := .initialized
  statics := none
  mirror := none

def pool0 : Array CpInfo := pool [(5, u "<init>"), (0, u "()V"), (1, .class_ 10), (1, u "java/lang/Object")] 113

def k0c0 : Code := { maxStack := 0, maxLocals := 1, code := object_method_1_code, exceptionTable := #[], attributes := #[] }
def k0m0 : Method := { name := "<init>", desc := "()V", sig := { parameters := [], returnType := none }, accessFlags := 1, code := some k0c0 }
/-- java/lang/Object -/
def k0 : Class := { plain "java/lang/Object" none with
  accessFlags := 33
  interfaces := #[]
  cf := some (fileOf pool0 8 #[] #[{ accessFlags := 1, nameIndex := 5, descriptorIndex := 6, attributes := #[] }] 33 0 #[] #[])
  fields := #[]
  methods := #[k0m0]
  instanceTypes := #[]
  staticTypes := #[]
  resolved := Array.replicate 124 none
  statics := none }

def pool1 : Array CpInfo := pool [(2, .class_ 4), (0, .nameAndType 5 6), (0, u "java/lang/Object"), (0, u "<init>"), (0, u "()V"), (0, .class_ 8), (0, u "com/example/ketproof/ketproof/MassTable"), (0, .methodref 7 3), (0, .methodref 7 11), (0, .nameAndType 12 13), (0, u "add"), (0, u "(IDD)V"), (0, .methodref 7 15), (0, .nameAndType 16 6), (0, u "clear"), (0, .methodref 7 18), (0, .nameAndType 19 20), (0, u "size"), (0, u "()I"), (0, .methodref 7 22), (0, .nameAndType 23 24), (0, u "state"), (0, u "(I)I"), (0, .methodref 7 26), (0, .nameAndType 27 28), (0, u "value"), (0, u "(I)D"), (0, .methodref 7 30), (0, .nameAndType 31 28), (0, u "mass"), (0, .class_ 33), (0, u "com/example/ketproof/ketproof/MassTableClearPinLaw"), (2, u "law"), (0, u "(IIIIII)Z")] 3

def k1m0 : Method := { name := "<init>", desc := "()V", sig := { parameters := [], returnType := none }, accessFlags := 1, code := none }
def k1c1 : Code := { maxStack := 6, maxLocals := 15, code := code, exceptionTable := #[], attributes := #[] }
def k1m1 : Method := { name := "law", desc := "(IIIIII)Z", sig := { parameters := [.int, .int, .int, .int, .int, .int], returnType := some .boolean }, accessFlags := 9, code := some k1c1 }
/-- com/example/ketproof/ketproof/MassTableClearPinLaw -/
def k1 : Class := { plain "com/example/ketproof/ketproof/MassTableClearPinLaw" (some 0) with
  accessFlags := 49
  interfaces := #[]
  cf := some (fileOf pool1 32 #[] #[{ accessFlags := 1, nameIndex := 5, descriptorIndex := 6, attributes := #[] }, { accessFlags := 9, nameIndex := 36, descriptorIndex := 37, attributes := #[] }] 49 2 #[] #[])
  fields := #[]
  methods := #[k1m0, k1m1]
  instanceTypes := #[]
  staticTypes := #[]
  resolved := Array.replicate 41 none
  statics := none }

def pool2 : Array CpInfo := pool [(1, .methodref 2 3), (0, .class_ 4), (0, .nameAndType 5 6), (0, u "java/lang/Object"), (0, u "<init>"), (0, u "()V"), (0, .class_ 8), (0, u "com/example/ketproof/ketproof/MassTable"), (0, .fieldref 7 10), (0, .nameAndType 11 12), (0, u "slots"), (0, u "[J"), (0, .fieldref 7 14), (0, .nameAndType 15 16), (0, u "entrySlots"), (0, u "[I"), (0, .methodref 18 19), (0, .class_ 20), (0, .nameAndType 21 22), (0, u "java/lang/Double"), (0, u "doubleToRawLongBits"), (0, u "(D)J"), (0, .methodref 7 24), (0, .nameAndType 25 26), (0, u "add"), (0, u "(IJLjava/math/BigDecimal;D)V"), (5, u "()I"), (0, .methodref 7 34), (0, .nameAndType 35 36), (0, u "hash"), (0, u "(IJ)I"), (0, .methodref 7 38), (0, .nameAndType 39 40), (0, u "holds"), (0, u "(ILjava/math/BigDecimal;)Z"), (0, .methodref 18 42), (0, .nameAndType 43 44), (0, u "longBitsToDouble"), (0, u "(J)D"), (0, .fieldref 7 46), (0, .nameAndType 47 48), (0, u "size"), (0, u "I"), (3, .fieldref 7 53), (0, .nameAndType 54 55), (0, u "decimals"), (0, u "[Ljava/math/BigDecimal;"), (0, .methodref 7 57), (0, .nameAndType 58 59), (0, u "decimal"), (0, u "(I)Ljava/math/BigDecimal;"), (6, u "mass"), (0, u "(I)D"), (16, .long 11400714819323198485), (1, .long 13787848793156543929), (1, u "INITIAL_SLOTS"), (4, u "(IDD)V"), (2, u "state"), (0, u "(I)I"), (0, u "value"), (1, u "clear")] 4

def k2c0 : Code := { maxStack := 2, maxLocals := 1, code := prog_63_method_1_code, exceptionTable := #[], attributes := #[] }
def k2m0 : Method := { name := "<init>", desc := "()V", sig := { parameters := [], returnType := none }, accessFlags := 0, code := some k2c0 }
def k2c1 : Code := { maxStack := 7, maxLocals := 6, code := prog_63_method_2_code, exceptionTable := #[], attributes := #[] }
def k2m1 : Method := { name := "add", desc := "(IDD)V", sig := { parameters := [.int, .double, .double], returnType := none }, accessFlags := 0, code := some k2c1 }
def k2c2 : Code := { maxStack := 7, maxLocals := 9, code := prog_63_method_4_code, exceptionTable := #[], attributes := #[] }
def k2m2 : Method := { name := "add", desc := "(IJLjava/math/BigDecimal;D)V", sig := { parameters := [.int, .long, (.object "java/math/BigDecimal"), .double], returnType := none }, accessFlags := 2, code := some k2c2 }
def k2c3 : Code := { maxStack := 1, maxLocals := 1, code := prog_63_method_5_code, exceptionTable := #[], attributes := #[] }
def k2m3 : Method := { name := "size", desc := "()I", sig := { parameters := [], returnType := some .int }, accessFlags := 0, code := some k2c3 }
def k2c4 : Code := { maxStack := 4, maxLocals := 2, code := prog_63_method_6_code, exceptionTable := #[], attributes := #[] }
def k2m4 : Method := { name := "state", desc := "(I)I", sig := { parameters := [.int], returnType := some .int }, accessFlags := 0, code := some k2c4 }
def k2c5 : Code := { maxStack := 4, maxLocals := 3, code := prog_63_method_7_code, exceptionTable := #[], attributes := #[] }
def k2m5 : Method := { name := "value", desc := "(I)D", sig := { parameters := [.int], returnType := some .double }, accessFlags := 0, code := some k2c5 }
def k2c6 : Code := { maxStack := 3, maxLocals := 2, code := prog_63_method_8_code, exceptionTable := #[], attributes := #[] }
def k2m6 : Method := { name := "decimal", desc := "(I)Ljava/math/BigDecimal;", sig := { parameters := [.int], returnType := some (.object "java/math/BigDecimal") }, accessFlags := 0, code := some k2c6 }
def k2c7 : Code := { maxStack := 4, maxLocals := 2, code := prog_63_method_9_code, exceptionTable := #[], attributes := #[] }
def k2m7 : Method := { name := "mass", desc := "(I)D", sig := { parameters := [.int], returnType := some .double }, accessFlags := 0, code := some k2c7 }
def k2c8 : Code := { maxStack := 4, maxLocals := 2, code := prog_63_method_11_code, exceptionTable := #[], attributes := #[] }
def k2m8 : Method := { name := "clear", desc := "()V", sig := { parameters := [], returnType := none }, accessFlags := 0, code := some k2c8 }
def k2c9 : Code := { maxStack := 2, maxLocals := 4, code := prog_63_method_13_code, exceptionTable := #[], attributes := #[] }
def k2m9 : Method := { name := "holds", desc := "(ILjava/math/BigDecimal;)Z", sig := { parameters := [.int, (.object "java/math/BigDecimal")], returnType := some .boolean }, accessFlags := 2, code := some k2c9 }
def k2c10 : Code := { maxStack := 6, maxLocals := 5, code := prog_63_method_14_code, exceptionTable := #[], attributes := #[] }
def k2m10 : Method := { name := "hash", desc := "(IJ)I", sig := { parameters := [.int, .long], returnType := some .int }, accessFlags := 10, code := some k2c10 }
/-- com/example/ketproof/ketproof/MassTable -/
def k2 : Class := { plain "com/example/ketproof/ketproof/MassTable" (some 0) with
  accessFlags := 48
  interfaces := #[]
  cf := some (fileOf pool2 7 #[] #[{ accessFlags := 0, nameIndex := 5, descriptorIndex := 6, attributes := #[] }, { accessFlags := 0, nameIndex := 25, descriptorIndex := 93, attributes := #[] }, { accessFlags := 2, nameIndex := 25, descriptorIndex := 26, attributes := #[] }, { accessFlags := 0, nameIndex := 47, descriptorIndex := 32, attributes := #[] }, { accessFlags := 0, nameIndex := 96, descriptorIndex := 97, attributes := #[] }, { accessFlags := 0, nameIndex := 98, descriptorIndex := 67, attributes := #[] }, { accessFlags := 0, nameIndex := 58, descriptorIndex := 59, attributes := #[] }, { accessFlags := 0, nameIndex := 66, descriptorIndex := 67, attributes := #[] }, { accessFlags := 0, nameIndex := 100, descriptorIndex := 6, attributes := #[] }, { accessFlags := 2, nameIndex := 39, descriptorIndex := 40, attributes := #[] }, { accessFlags := 10, nameIndex := 35, descriptorIndex := 36, attributes := #[] }] 48 2 #[] #[{ accessFlags := 26, nameIndex := 88, descriptorIndex := 48, attributes := #[] }, { accessFlags := 2, nameIndex := 11, descriptorIndex := 12, attributes := #[] }, { accessFlags := 2, nameIndex := 54, descriptorIndex := 55, attributes := #[] }, { accessFlags := 2, nameIndex := 15, descriptorIndex := 16, attributes := #[] }, { accessFlags := 2, nameIndex := 47, descriptorIndex := 48, attributes := #[] }])
  fields := #[{ name := "INITIAL_SLOTS", type := .int, accessFlags := 26, slot := 0, constantValue := 0 }, { name := "slots", type := (.array .long), accessFlags := 2, slot := 0, constantValue := 0 }, { name := "decimals", type := (.array (.object "java/math/BigDecimal")), accessFlags := 2, slot := 1, constantValue := 0 }, { name := "entrySlots", type := (.array .int), accessFlags := 2, slot := 2, constantValue := 0 }, { name := "size", type := .int, accessFlags := 2, slot := 3, constantValue := 0 }]
  methods := #[k2m0, k2m1, k2m2, k2m3, k2m4, k2m5, k2m6, k2m7, k2m8, k2m9, k2m10]
  instanceTypes := #[(.array .long), (.array (.object "java/math/BigDecimal")), (.array .int), .int]
  staticTypes := #[.int]
  resolved := Array.replicate 105 none
  statics := none }

def pool3 : Array CpInfo := pool [(1, .class_ 2), (0, u "java/io/Serializable"), (0, .class_ 4), (0, u "java/lang/Object")] 2

/-- java/io/Serializable -/
def k3 : Class := { plain "java/io/Serializable" (some 0) with
  accessFlags := 1537
  interfaces := #[]
  cf := some (fileOf pool3 1 #[] #[] 1537 3 #[] #[])
  fields := #[]
  methods := #[]
  instanceTypes := #[]
  staticTypes := #[]
  resolved := Array.replicate 7 none
  statics := none }

def pool4 : Array CpInfo := pool [(2, .class_ 4), (1, u "java/lang/Object"), (0, u "<init>"), (0, u "()V"), (1, .class_ 10), (1, u "java/lang/Number"), (2, .class_ 14), (0, u "java/io/Serializable"), (0, u "serialVersionUID"), (0, u "J")] 20

def k4m0 : Method := { name := "<init>", desc := "()V", sig := { parameters := [], returnType := none }, accessFlags := 1, code := none }
/-- java/lang/Number -/
def k4 : Class := { plain "java/lang/Number" (some 0) with
  accessFlags := 1057
  interfaces := #[3]
  cf := some (fileOf pool4 8 #[] #[{ accessFlags := 1, nameIndex := 5, descriptorIndex := 6, attributes := #[] }] 1057 2 #[13] #[{ accessFlags := 26, nameIndex := 15, descriptorIndex := 16, attributes := #[] }])
  fields := #[{ name := "serialVersionUID", type := .long, accessFlags := 26, slot := 0, constantValue := 0 }]
  methods := #[k4m0]
  instanceTypes := #[]
  staticTypes := #[.long]
  resolved := Array.replicate 37 none
  statics := none }

def pool5 : Array CpInfo := pool [(1, .class_ 2), (0, u "java/lang/Comparable"), (0, .class_ 4), (0, u "java/lang/Object")] 7

/-- java/lang/Comparable -/
def k5 : Class := { plain "java/lang/Comparable" (some 0) with
  accessFlags := 1537
  interfaces := #[]
  cf := some (fileOf pool5 1 #[] #[] 1537 3 #[] #[])
  fields := #[]
  methods := #[]
  instanceTypes := #[]
  staticTypes := #[]
  resolved := Array.replicate 12 none
  statics := none }

def pool6 : Array CpInfo := pool [(1, .class_ 2), (0, u "java/lang/constant/Constable"), (0, .class_ 4), (0, u "java/lang/Object")] 6

/-- java/lang/constant/Constable -/
def k6 : Class := { plain "java/lang/constant/Constable" (some 0) with
  accessFlags := 1537
  interfaces := #[]
  cf := some (fileOf pool6 1 #[] #[] 1537 3 #[] #[])
  fields := #[]
  methods := #[]
  instanceTypes := #[]
  staticTypes := #[]
  resolved := Array.replicate 11 none
  statics := none }

def pool7 : Array CpInfo := pool [(1, .class_ 2), (0, u "java/lang/constant/ConstantDesc"), (0, .class_ 4), (0, u "java/lang/Object")] 32

/-- java/lang/constant/ConstantDesc -/
def k7 : Class := { plain "java/lang/constant/ConstantDesc" (some 0) with
  accessFlags := 1537
  interfaces := #[]
  cf := some (fileOf pool7 1 #[] #[] 1537 3 #[] #[])
  fields := #[]
  methods := #[]
  instanceTypes := #[]
  staticTypes := #[]
  resolved := Array.replicate 37 none
  statics := none }

def pool8 : Array CpInfo := pool [(1, .class_ 2), (0, u "java/lang/Double"), (46, u "(D)J"), (64, .class_ 116), (1, u "java/lang/Number"), (3, u "value"), (0, u "D"), (14, u "doubleToRawLongBits"), (36, u "TYPE"), (0, u "Ljava/lang/Class;"), (0, .class_ 176), (0, u "java/lang/Comparable"), (0, .class_ 178), (0, u "java/lang/constant/Constable"), (0, .class_ 180), (0, u "java/lang/constant/ConstantDesc"), (0, u "POSITIVE_INFINITY"), (3, u "NEGATIVE_INFINITY"), (2, u "NaN"), (2, u "MAX_VALUE"), (0, u "MIN_NORMAL"), (0, u "MIN_VALUE"), (2, u "SIZE"), (0, u "I"), (1, u "PRECISION"), (1, u "MAX_EXPONENT"), (1, u "MIN_EXPONENT"), (1, u "BYTES"), (3, u "serialVersionUID"), (0, u "J"), (48, u "longBitsToDouble"), (0, u "(J)D")] 29

def k8m0 : Method := { name := "doubleToRawLongBits", desc := "(D)J", sig := { parameters := [.double], returnType := some .long }, accessFlags := 265, code := none }
def k8m1 : Method := { name := "longBitsToDouble", desc := "(J)D", sig := { parameters := [.long], returnType := some .double }, accessFlags := 265, code := none }
/-- java/lang/Double -/
def k8 : Class := { plain "java/lang/Double" (some 4) with
  accessFlags := 49
  interfaces := #[5, 6, 7]
  cf := some (fileOf pool8 1 #[] #[{ accessFlags := 265, nameIndex := 136, descriptorIndex := 49, attributes := #[] }, { accessFlags := 265, nameIndex := 259, descriptorIndex := 260, attributes := #[] }] 49 114 #[175, 177, 179] #[{ accessFlags := 25, nameIndex := 181, descriptorIndex := 121, attributes := #[] }, { accessFlags := 25, nameIndex := 185, descriptorIndex := 121, attributes := #[] }, { accessFlags := 25, nameIndex := 188, descriptorIndex := 121, attributes := #[] }, { accessFlags := 25, nameIndex := 191, descriptorIndex := 121, attributes := #[] }, { accessFlags := 25, nameIndex := 192, descriptorIndex := 121, attributes := #[] }, { accessFlags := 25, nameIndex := 193, descriptorIndex := 121, attributes := #[] }, { accessFlags := 25, nameIndex := 196, descriptorIndex := 197, attributes := #[] }, { accessFlags := 25, nameIndex := 199, descriptorIndex := 197, attributes := #[] }, { accessFlags := 25, nameIndex := 201, descriptorIndex := 197, attributes := #[] }, { accessFlags := 25, nameIndex := 203, descriptorIndex := 197, attributes := #[] }, { accessFlags := 25, nameIndex := 205, descriptorIndex := 197, attributes := #[] }, { accessFlags := 25, nameIndex := 173, descriptorIndex := 174, attributes := #[] }, { accessFlags := 18, nameIndex := 120, descriptorIndex := 121, attributes := #[] }, { accessFlags := 26, nameIndex := 209, descriptorIndex := 210, attributes := #[] }])
  fields := #[{ name := "POSITIVE_INFINITY", type := .double, accessFlags := 25, slot := 0, constantValue := 0 }, { name := "NEGATIVE_INFINITY", type := .double, accessFlags := 25, slot := 1, constantValue := 0 }, { name := "NaN", type := .double, accessFlags := 25, slot := 2, constantValue := 0 }, { name := "MAX_VALUE", type := .double, accessFlags := 25, slot := 3, constantValue := 0 }, { name := "MIN_NORMAL", type := .double, accessFlags := 25, slot := 4, constantValue := 0 }, { name := "MIN_VALUE", type := .double, accessFlags := 25, slot := 5, constantValue := 0 }, { name := "SIZE", type := .int, accessFlags := 25, slot := 6, constantValue := 0 }, { name := "PRECISION", type := .int, accessFlags := 25, slot := 7, constantValue := 0 }, { name := "MAX_EXPONENT", type := .int, accessFlags := 25, slot := 8, constantValue := 0 }, { name := "MIN_EXPONENT", type := .int, accessFlags := 25, slot := 9, constantValue := 0 }, { name := "BYTES", type := .int, accessFlags := 25, slot := 10, constantValue := 0 }, { name := "TYPE", type := (.object "java/lang/Class"), accessFlags := 25, slot := 11, constantValue := 0 }, { name := "value", type := .double, accessFlags := 18, slot := 0, constantValue := 0 }, { name := "serialVersionUID", type := .long, accessFlags := 26, slot := 12, constantValue := 0 }]
  methods := #[k8m0, k8m1]
  instanceTypes := #[.double]
  staticTypes := #[.double, .double, .double, .double, .double, .double, .int, .int, .int, .int, .int, (.object "java/lang/Class"), .long]
  resolved := Array.replicate 290 none
  statics := none }

def pool9 : Array CpInfo := pool [(1, u "java/lang/Cloneable"), (0, .class_ 1), (0, u "java/lang/Object"), (0, .class_ 3)] 3

/-- java/lang/Cloneable -/
def k9 : Class := { plain "java/lang/Cloneable" (some 0) with
  accessFlags := 1537
  interfaces := #[]
  cf := some (fileOf pool9 2 #[] #[] 1537 4 #[] #[])
  fields := #[]
  methods := #[]
  instanceTypes := #[]
  staticTypes := #[]
  resolved := Array.replicate 8 none
  statics := none }

/-- the primitive byte -/
def k10 : Class := { plain "byte" none with kind := .primitive 'B', accessFlags := 0x411 }
/-- [B -/
def k11 : Class := { plain "[B" (some 0) with kind := .array 10 .byte, interfaces := #[9, 3], accessFlags := 1041 }

/-- the primitive int -/
def k12 : Class := { plain "int" none with kind := .primitive 'I', accessFlags := 0x411 }
/-- [I -/
def k13 : Class := { plain "[I" (some 0) with kind := .array 12 .int, interfaces := #[9, 3], accessFlags := 1041 }

/-- the primitive long -/
def k14 : Class := { plain "long" none with kind := .primitive 'J', accessFlags := 0x411 }
/-- [J -/
def k15 : Class := { plain "[J" (some 0) with kind := .array 14 .long, interfaces := #[9, 3], accessFlags := 1041 }

def heap : Heap := #[]
def classes : Array Class := #[k0, k1, k2, k3, k4, k5, k6, k7, k8, k9, k10, k11, k12, k13, k14, k15]
def interned : List (Array UInt16 × Addr) := []
def slotsUsed : Nat := 0
def theMethod : MethodId := ⟨1, 1⟩
def args0 : Array Value := #[.int 1, .int 2, .int 3, .int 4, .int 6, .int 5]
def aboutOver (below : List Frame) : State where
  vm := { classes := classes, interned := interned.toArray }
  heap := heap
  slotsUsed := slotsUsed
  threads := #[{ frames := .invoking theMethod args0 :: below }]
def below0 : List Frame := [.native { method := ⟨0, 0⟩, args := #[] }]
def about1 : State := aboutOver below0
def p0 : Program := .bare "" "" ""
def e0 : Env := launch0.env 0 0 0
theorem w_frames : about1.frames = Frame.invoking theMethod args0 :: below0 := rfl
set_option maxRecDepth 65536 in
theorem w_args : argsFit about1.vm theMethod args0 = true := by decide +kernel
set_option maxRecDepth 65536 in
theorem w_heap : heapFits about1 = true := by decide +kernel
set_option maxRecDepth 65536 in
theorem w_runnable : about1.curStatus? = some .runnable := by decide +kernel
set_option maxRecDepth 65536 in
theorem w_alone : about1.alone = true := by decide +kernel
set_option maxRecDepth 65536 in
theorem w_named : about1.methodNamed? x = some theMethod := by decide +kernel
set_option maxRecDepth 65536 in
theorem w_hears : about1.hears theMethod below0 = true := by decide +kernel
set_option maxRecDepth 65536 in
theorem w_ripe : about1.ripe theMethod args0 below0 = true := by decide +kernel
theorem w_running : about1.status = .running := rfl
set_option maxRecDepth 65536 in
theorem w_room : about1.hasRoom e0.platform room_1 = true :=
  launch0.hasRoom_least _ room_1 (by decide +kernel) (by decide +kernel) (by decide +kernel) (by decide +kernel) (by decide +kernel) (by decide +kernel)
theorem allAtoms_all (ts : List Jvm.Cond) (a : Array Jvm.Value) (st : Jvm.State) : (allAtoms ts).before a st = ts.all (fun c => c.before a st) := by
  induction ts with
  | nil => rfl
  | cons c t ih =>
    show (Jvm.Cond.and c (allAtoms t)).before a st = _
    rw [Jvm.Cond.before_and, ih, List.all_cons]
def words1 : List Jvm.Cond := Jvm.Cond.code x code maxLocals ret :: tables_1
/-- a 'code' word, met by the world's own term for the bytes: nothing is compared byte by byte -/
theorem code_word {y : MethodName} {bytes : ByteArray} {mx : Nat} {rt : Option FieldType} {a : Array Value} {s : State} {m : MethodId} {meth : Method} {c : Code} (h1 : s.methodNamed? y = some m) (h2 : s.vm.method? m = some meth) (h3 : meth.code = some c) (h4 : c.code = bytes)
    (h5 : (c.maxLocals == mx && c.exceptionTable.isEmpty && decide (c.maxStack ≤ mostOperands) && decide (meth.sig.returnType = rt) && !meth.locks && decide (parseMethodDescriptor y.desc = some meth.sig)) = true) : (Jvm.Cond.code y bytes mx rt).before a s = true := by
  simp only [Bool.and_eq_true, beq_iff_eq, Bool.not_eq_true', decide_eq_true_eq] at h5
  obtain ⟨⟨⟨⟨⟨g1, g2⟩, g3⟩, g4⟩, g5⟩, g6⟩ := h5
  simp [Cond.before, Cond.holds, Cond.value, h1, h2, h3, h4, g1, g2, g3, g4, g5, g6]
def isCode : Jvm.Cond → Bool
  | .code _ _ _ _ => true
  | _ => false
theorem all_split {L : List Jvm.Cond} {P : Jvm.Cond → Bool} (h1 : L.all (fun c => isCode c || P c) = true) (h2 : ∀ c ∈ L.filter isCode, P c = true) : L.all P = true := by
  refine List.all_eq_true.mpr fun c hc => ?_
  have h := List.all_eq_true.mp h1 c hc
  rcases Bool.eq_false_or_eq_true (isCode c) with hi | hi
  · exact h2 c (List.mem_filter.mpr ⟨hc, hi⟩)
  · simpa [hi] using h
set_option maxRecDepth 65536 in
theorem w_c0 : (Jvm.Cond.code x code maxLocals ret).before args0 about1 = true := code_word (m := ⟨1, 1⟩) (meth := k1m1) (c := k1c1) (by decide +kernel) rfl rfl rfl (by decide +kernel)
set_option maxRecDepth 65536 in
theorem w_c1 : (Jvm.Cond.code ({ cls := "com/example/ketproof/ketproof/MassTable", name := "<init>", desc := "()V" } : Jvm.MethodName) prog_63_method_1_code (1 : Nat) (Option.none : Option Jvm.ClassFile.FieldType)).before args0 about1 = true := code_word (m := ⟨2, 0⟩) (meth := k2m0) (c := k2c0) (by decide +kernel) rfl rfl rfl (by decide +kernel)
set_option maxRecDepth 65536 in
theorem w_c2 : (Jvm.Cond.code ({ cls := "java/lang/Object", name := "<init>", desc := "()V" } : Jvm.MethodName) object_method_1_code (1 : Nat) (Option.none : Option Jvm.ClassFile.FieldType)).before args0 about1 = true := code_word (m := ⟨0, 0⟩) (meth := k0m0) (c := k0c0) (by decide +kernel) rfl rfl rfl (by decide +kernel)
set_option maxRecDepth 65536 in
theorem w_c3 : (Jvm.Cond.code ({ cls := "com/example/ketproof/ketproof/MassTable", name := "clear", desc := "()V" } : Jvm.MethodName) prog_63_method_11_code (2 : Nat) (Option.none : Option Jvm.ClassFile.FieldType)).before args0 about1 = true := code_word (m := ⟨2, 8⟩) (meth := k2m8) (c := k2c8) (by decide +kernel) rfl rfl rfl (by decide +kernel)
set_option maxRecDepth 65536 in
theorem w_c4 : (Jvm.Cond.code ({ cls := "com/example/ketproof/ketproof/MassTable", name := "add", desc := "(IDD)V" } : Jvm.MethodName) prog_63_method_2_code (6 : Nat) (Option.none : Option Jvm.ClassFile.FieldType)).before args0 about1 = true := code_word (m := ⟨2, 1⟩) (meth := k2m1) (c := k2c1) (by decide +kernel) rfl rfl rfl (by decide +kernel)
set_option maxRecDepth 65536 in
theorem w_c5 : (Jvm.Cond.code ({ cls := "com/example/ketproof/ketproof/MassTable", name := "add", desc := "(IJLjava/math/BigDecimal;D)V" } : Jvm.MethodName) prog_63_method_4_code (9 : Nat) (Option.none : Option Jvm.ClassFile.FieldType)).before args0 about1 = true := code_word (m := ⟨2, 2⟩) (meth := k2m2) (c := k2c2) (by decide +kernel) rfl rfl rfl (by decide +kernel)
set_option maxRecDepth 65536 in
theorem w_c6 : (Jvm.Cond.code ({ cls := "com/example/ketproof/ketproof/MassTable", name := "hash", desc := "(IJ)I" } : Jvm.MethodName) prog_63_method_14_code (5 : Nat) (Option.some Jvm.ClassFile.FieldType.int)).before args0 about1 = true := code_word (m := ⟨2, 10⟩) (meth := k2m10) (c := k2c10) (by decide +kernel) rfl rfl rfl (by decide +kernel)
set_option maxRecDepth 65536 in
theorem w_c7 : (Jvm.Cond.code ({ cls := "com/example/ketproof/ketproof/MassTable", name := "size", desc := "()I" } : Jvm.MethodName) prog_63_method_5_code (1 : Nat) (Option.some Jvm.ClassFile.FieldType.int)).before args0 about1 = true := code_word (m := ⟨2, 3⟩) (meth := k2m3) (c := k2c3) (by decide +kernel) rfl rfl rfl (by decide +kernel)
set_option maxRecDepth 65536 in
theorem w_c8 : (Jvm.Cond.code ({ cls := "com/example/ketproof/ketproof/MassTable", name := "state", desc := "(I)I" } : Jvm.MethodName) prog_63_method_6_code (2 : Nat) (Option.some Jvm.ClassFile.FieldType.int)).before args0 about1 = true := code_word (m := ⟨2, 4⟩) (meth := k2m4) (c := k2c4) (by decide +kernel) rfl rfl rfl (by decide +kernel)
set_option maxRecDepth 65536 in
theorem w_c9 : (Jvm.Cond.code ({ cls := "com/example/ketproof/ketproof/MassTable", name := "value", desc := "(I)D" } : Jvm.MethodName) prog_63_method_7_code (3 : Nat) (Option.some Jvm.ClassFile.FieldType.double)).before args0 about1 = true := code_word (m := ⟨2, 5⟩) (meth := k2m5) (c := k2c5) (by decide +kernel) rfl rfl rfl (by decide +kernel)
set_option maxRecDepth 65536 in
theorem w_c10 : (Jvm.Cond.code ({ cls := "com/example/ketproof/ketproof/MassTable", name := "decimal", desc := "(I)Ljava/math/BigDecimal;" } : Jvm.MethodName) prog_63_method_8_code (2 : Nat) (Option.some (Jvm.ClassFile.FieldType.object "java/math/BigDecimal"))).before args0 about1 = true := code_word (m := ⟨2, 6⟩) (meth := k2m6) (c := k2c6) (by decide +kernel) rfl rfl rfl (by decide +kernel)
set_option maxRecDepth 65536 in
theorem w_c11 : (Jvm.Cond.code ({ cls := "com/example/ketproof/ketproof/MassTable", name := "mass", desc := "(I)D" } : Jvm.MethodName) prog_63_method_9_code (2 : Nat) (Option.some Jvm.ClassFile.FieldType.double)).before args0 about1 = true := code_word (m := ⟨2, 7⟩) (meth := k2m7) (c := k2c7) (by decide +kernel) rfl rfl rfl (by decide +kernel)
set_option maxRecDepth 65536 in
theorem w_c12 : (Jvm.Cond.code ({ cls := "com/example/ketproof/ketproof/MassTable", name := "holds", desc := "(ILjava/math/BigDecimal;)Z" } : Jvm.MethodName) prog_63_method_13_code (4 : Nat) (Option.some Jvm.ClassFile.FieldType.boolean)).before args0 about1 = true := code_word (m := ⟨2, 9⟩) (meth := k2m9) (c := k2c9) (by decide +kernel) rfl rfl rfl (by decide +kernel)
def codes1 : List Jvm.Cond := [Jvm.Cond.code x code maxLocals ret, Jvm.Cond.code ({ cls := "com/example/ketproof/ketproof/MassTable", name := "<init>", desc := "()V" } : Jvm.MethodName) prog_63_method_1_code (1 : Nat) (Option.none : Option Jvm.ClassFile.FieldType), Jvm.Cond.code ({ cls := "java/lang/Object", name := "<init>", desc := "()V" } : Jvm.MethodName) object_method_1_code (1 : Nat) (Option.none : Option Jvm.ClassFile.FieldType), Jvm.Cond.code ({ cls := "com/example/ketproof/ketproof/MassTable", name := "clear", desc := "()V" } : Jvm.MethodName) prog_63_method_11_code (2 : Nat) (Option.none : Option Jvm.ClassFile.FieldType), Jvm.Cond.code ({ cls := "com/example/ketproof/ketproof/MassTable", name := "add", desc := "(IDD)V" } : Jvm.MethodName) prog_63_method_2_code (6 : Nat) (Option.none : Option Jvm.ClassFile.FieldType), Jvm.Cond.code ({ cls := "com/example/ketproof/ketproof/MassTable", name := "add", desc := "(IJLjava/math/BigDecimal;D)V" } : Jvm.MethodName) prog_63_method_4_code (9 : Nat) (Option.none : Option Jvm.ClassFile.FieldType), Jvm.Cond.code ({ cls := "com/example/ketproof/ketproof/MassTable", name := "hash", desc := "(IJ)I" } : Jvm.MethodName) prog_63_method_14_code (5 : Nat) (Option.some Jvm.ClassFile.FieldType.int), Jvm.Cond.code ({ cls := "com/example/ketproof/ketproof/MassTable", name := "size", desc := "()I" } : Jvm.MethodName) prog_63_method_5_code (1 : Nat) (Option.some Jvm.ClassFile.FieldType.int), Jvm.Cond.code ({ cls := "com/example/ketproof/ketproof/MassTable", name := "state", desc := "(I)I" } : Jvm.MethodName) prog_63_method_6_code (2 : Nat) (Option.some Jvm.ClassFile.FieldType.int), Jvm.Cond.code ({ cls := "com/example/ketproof/ketproof/MassTable", name := "value", desc := "(I)D" } : Jvm.MethodName) prog_63_method_7_code (3 : Nat) (Option.some Jvm.ClassFile.FieldType.double), Jvm.Cond.code ({ cls := "com/example/ketproof/ketproof/MassTable", name := "decimal", desc := "(I)Ljava/math/BigDecimal;" } : Jvm.MethodName) prog_63_method_8_code (2 : Nat) (Option.some (Jvm.ClassFile.FieldType.object "java/math/BigDecimal")), Jvm.Cond.code ({ cls := "com/example/ketproof/ketproof/MassTable", name := "mass", desc := "(I)D" } : Jvm.MethodName) prog_63_method_9_code (2 : Nat) (Option.some Jvm.ClassFile.FieldType.double), Jvm.Cond.code ({ cls := "com/example/ketproof/ketproof/MassTable", name := "holds", desc := "(ILjava/math/BigDecimal;)Z" } : Jvm.MethodName) prog_63_method_13_code (4 : Nat) (Option.some Jvm.ClassFile.FieldType.boolean)]
set_option maxRecDepth 65536 in
theorem codes_eq : words1.filter isCode = codes1 := rfl
theorem w_codes : ∀ c ∈ words1.filter isCode, c.before args0 about1 = true := by
  rw [codes_eq]
  intro c hc
  simp only [codes1, List.mem_cons, List.not_mem_nil, or_false] at hc
  rcases hc with rfl | rfl | rfl | rfl | rfl | rfl | rfl | rfl | rfl | rfl | rfl | rfl | rfl
  · exact w_c0
  · exact w_c1
  · exact w_c2
  · exact w_c3
  · exact w_c4
  · exact w_c5
  · exact w_c6
  · exact w_c7
  · exact w_c8
  · exact w_c9
  · exact w_c10
  · exact w_c11
  · exact w_c12
set_option maxRecDepth 65536 in
theorem w_t1 : (words1.take 24).all (fun c => isCode c || c.before args0 about1) = true := by decide +kernel
set_option maxRecDepth 65536 in
theorem w_t2 : ((words1.drop 24).take 24).all (fun c => isCode c || c.before args0 about1) = true := by decide +kernel
set_option maxRecDepth 65536 in
theorem w_t3 : (((words1.drop 24).drop 24).take 24).all (fun c => isCode c || c.before args0 about1) = true := by decide +kernel
set_option maxRecDepth 65536 in
theorem w_t4 : (((words1.drop 24).drop 24).drop 24).all (fun c => isCode c || c.before args0 about1) = true := by decide +kernel
theorem w_tables : (allAtoms (Jvm.Cond.code x code maxLocals ret :: tables_1)).before args0 about1 = true := by
  rw [allAtoms_all]
  show words1.all (fun c => c.before args0 about1) = true
  refine all_split ?_ w_codes
  rw [← List.take_append_drop 24 words1, List.all_append, w_t1, ← List.take_append_drop 24 (words1.drop 24), List.all_append, w_t2, ← List.take_append_drop 24 ((words1.drop 24).drop 24), List.all_append, w_t3, w_t4]
  rfl
set_option maxRecDepth 65536 in
theorem w_case : (Jvm.Cond.and given_1 narrow_1).before args0 about1 = true := by decide +kernel
theorem w_applies : (headSpec (Jvm.Cond.code x code maxLocals ret :: tables_1) room_1).applies x e0.platform about1 = true :=
  (Spec.applies_iff w_frames).mpr ⟨w_running, w_runnable, w_alone, w_named, w_hears, w_ripe, w_room, w_tables⟩
theorem atStart : AtStart classFile x code maxLocals ret World_1 tables_1 room_1 Calls_1 rest_1 Pre_1 launch0 p0 e0 about1 theMethod args0 below0 :=
  ⟨lists_1, trivial, launch0.admits_env _ _ _, launch0.least_env, fairChoices_fair.cas, fairChoices_fair.clock, w_frames, w_args, w_heap, w_applies, trivial, trivial, w_case⟩
end start1
theorem witness_1 : WitnessClaimed_1 := ⟨start1.p0, start1.e0, start1.about1, start1.theMethod, start1.args0, start1.below0, start1.atStart⟩
end Jvm.Pilot.@@N@@
