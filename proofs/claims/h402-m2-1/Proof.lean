import JvmDerived
import JvmDerived.Pilot.@@N@@Statement
import JvmDerived.Pilot.@@N@@Code
set_option linter.unusedVariables false
set_option linter.unusedSimpArgs false
@@BLOCK:NumsL.lean.txt@@
namespace Jvm.Pilot.@@N@@
open Jvm Jvm.ClassFile Sem Op Lib Jvm.Free Jvm.Stand Jvm.LawKit Jvm.RoadKit Bundle Jvm.Pilot.@@N@@.Jvm.D
theorem own_nb {z : Int32} (h : z = 0 ∨ z = 1) : nar .boolean z = z := by rcases h with rfl | rfl <;> decide
theorem own_lc (x y : Int64) : lcmpW x y = if x.toInt < y.toInt then -1 else if x.toInt = y.toInt then 0 else 1 := by
  unfold lcmpW
  simp only [gt_iff_lt, Int64.lt_iff_toInt_lt, ← Int64.toInt_inj]
  by_cases h1 : x.toInt < y.toInt
  · rw [if_neg (by omega), if_neg (by omega), if_pos h1]
  · by_cases h2 : x.toInt = y.toInt
    · rw [if_neg (by omega), if_pos h2, if_neg h1, if_pos h2]
    · rw [if_pos (by omega), if_neg h1, if_neg h2]
theorem own_mod_bounds (x y : Int32) (hx : 0 ≤ x.toInt) (hy : 0 < y.toInt) : 0 ≤ (x % y).toInt ∧ (x % y).toInt < y.toInt := by
  rw [Int32.toInt_mod]; exact ⟨Int.tmod_nonneg _ hx, Int.tmod_lt_of_pos _ hy⟩
theorem own_m31 (x : Int32) : 0 ≤ (x &&& (2147483647 : Int32)).toInt := by
  rw [Jvm.Kit.i32_mask x (2147483647 : Int32) (k := 31) (by decide) (by decide)]; omega
theorem own_mask {x m : Int32} {k : Nat} (hk : k < 32) (hm : m.toBitVec.toNat = 2 ^ k - 1) : 0 ≤ (x &&& m).toInt ∧ (x &&& m).toInt < 2 ^ k := by
  rw [Jvm.Kit.i32_mask x m hk hm]
  have : (0 : Int) < 2 ^ k := Int.pow_pos (by decide)
  exact ⟨Int.emod_nonneg _ (by omega), Int.emod_lt_of_pos _ this⟩
theorem own_lc_pos (x y : Int64) : (0 : Int32) < lcmpW x y ↔ y.toInt < x.toInt := by
  rw [own_lc]
  by_cases h1 : x.toInt < y.toInt
  · rw [if_pos h1]; exact ⟨fun h => absurd h (by decide), fun h => by omega⟩
  · rw [if_neg h1]
    by_cases h2 : x.toInt = y.toInt
    · rw [if_pos h2]; exact ⟨fun h => absurd h (by decide), fun h => by omega⟩
    · rw [if_neg h2]; exact ⟨fun _ => by omega, fun _ => by decide⟩
theorem own_lc_neg (x y : Int64) : lcmpW x y < (0 : Int32) ↔ x.toInt < y.toInt := by
  rw [own_lc]
  by_cases h1 : x.toInt < y.toInt
  · rw [if_pos h1]; exact ⟨fun _ => h1, fun _ => by decide⟩
  · rw [if_neg h1]
    by_cases h2 : x.toInt = y.toInt
    · rw [if_pos h2]; exact ⟨fun h => absurd h (by decide), fun h => by omega⟩
    · rw [if_neg h2]; exact ⟨fun h => absurd h (by decide), fun h => by omega⟩
theorem own_lc_eq (x y : Int64) : lcmpW x y = (0 : Int32) ↔ x.toInt = y.toInt := by
  rw [own_lc]
  by_cases h1 : x.toInt < y.toInt
  · rw [if_pos h1]; exact ⟨fun h => absurd h (by decide), fun h => by omega⟩
  · rw [if_neg h1]
    by_cases h2 : x.toInt = y.toInt
    · rw [if_pos h2]; exact ⟨fun _ => h2, fun _ => rfl⟩
    · rw [if_neg h2]; exact ⟨fun h => absurd h (by decide), fun h => absurd h h2⟩

theorem d3_0 : decode jdk_30_method_1_code 0 = .ok (.aload_n 0, 1) := by decide +kernel
theorem d3_1 : decode jdk_30_method_1_code 1 = .ok (.invokespecial 1, 3) := by decide +kernel
theorem d3_4 : decode jdk_30_method_1_code 4 = .ok (.return_, 1) := by decide +kernel
theorem ef_3 (m : MethodId) (x0 : Addr) : entryFrame m #[(.ref x0)] 1 = mkF m 0 #[.val (.ref x0)] [] := by first | (simp [entryFrame, mkF, argsToLocals, Value.category]; done) | rfl
theorem pn_0 : plainName "java/lang/Record" = true := by first | (simp [plainName, overriddenIn]; done) | decide +kernel
def Q3 (Z : State) (a1 : Addr) (h0 : Heap) (n0 : Nat) (v : Option Value) (h : Heap) (L : List Loc) : Prop := v = none ∧ Fr n0 L ∧ h = h0
set_option maxRecDepth 65536 in
set_option maxHeartbeats 40000000 in
theorem rm3 (l : Launch) (Z : State) (a0 : Array Value) (hw : ∀ d ∈ tables_1, d.before a0 Z = true) (ws : List Jvm.Cond) (a1 : Addr) (h0 : Heap) (n0 : Nat) (Z0 : n0 ≤ h0.size)  :
    MetFree l (⟨"java/lang/Record", "<init>", "()V"⟩ : MethodName) (head1 (Jvm.Cond.code (⟨"java/lang/Record", "<init>", "()V"⟩ : MethodName) jdk_30_method_1_code 1 none :: ws) ({ frames := 1, cells := 0, slots := 0, locals := 12 } : Room)) (fun a U => a = #[(.ref a1)] ∧ Z.Warmed39 U.vm ∧ U.heap = h0) (fun _ _ _ _ _ => True) (fun _ U o U' => ∃ v L, o = .returned v ∧ Q3 Z a1 h0 n0 v U'.heap L ∧ FrameEnd U o U' L ({ frames := 1, cells := 0, slots := 0, locals := 12 } : Room).cells ({ frames := 1, cells := 0, slots := 0, locals := 12 } : Room).slots) := by
  refine MetFree.of_bodySF (plainFor_of_name pn_0) hisR ?_
  intro p e s m args below meth c s₁ Bd hml0 hP hK
  obtain ⟨rfl, hZ, hh⟩ := hP
  have hx := Bd.exec
  have hby := Bd.bytes
  have hml : c.maxLocals = 1 := hml0
  have hown : s.vm.findClass "java/lang/Record" = some m.cls := findClass_of_methodNamed Bd.named
  have hnm := (name_of_methodNamed Bd.named Bd.method).1
  have X0 : Stand p l e ({ frames := 1, cells := 0, slots := 0, locals := 12 } : Room) s m #[(.ref a1)] below meth c s₁ [] 0 0 := Stand.of_body Bd
  have e0 : s₁.heap = h0 := by rw [← hh, Bd.state]; rfl
  have N0 := Fr.nil n0
  have pre0 : ∀ t, Steps p.tables e below (s₁.setTop (mkF m 0 #[.val (.ref a1)] [])) t → Steps p.tables e below (s₁.setTop (entryFrame m #[(.ref a1)] 1)) t := fun t k => castTop (ef_3 m a1) k
  obtain ⟨T3, X3, e3, st3⟩ := initO X0 hx hZ hown (hw _ (List.mem_of_getElem? (i := 18) rfl)) (hw _ (List.mem_of_getElem? (i := 19) rfl)) (hw _ (List.mem_of_getElem? (i := 20) rfl)) e0 (g := (mkF m 1 #[.val (.ref a1)] [(.ref a1)])) rfl (by rw [hml]; rfl) rfl (hb hby d3_1) (by decide) (W := 0) (by show 2 * 0 + _ ≤ _; exact Nat.le_of_eq rfl) (by decide)
  obtain ⟨fs, hr, hrun, hended, hW, hsame⟩ := X3.leave (v := none) (fun _ => rfl)
  refine ⟨_, _, pre0 _ ?_, hrun, hended, _, _, rfl, ?_, ⟨_, rfl⟩, hW, hsame.mono (by decide) (by decide)⟩
  · refine XS.aloadN X0.here hx rfl (hb hby d3_0) rfl rfl ?_
    show Steps p.tables e below (s₁.setTop (mkF m 1 #[.val (.ref a1)] [(.ref a1)])) _
    refine st3 _ ?_
    show Steps p.tables e below (T3.setTop (mkF m 4 #[.val (.ref a1)] [])) _
    exact X3.returnOut hx Bd.returns (hb hby d3_4) hr
  · show Q3 Z a1 h0 n0 _ T3.heap _
    rw [e3]
    exact ⟨rfl, N0, rfl⟩
def f5 (dd : UInt64) : UInt64 := (FP.dadd dd (0 : UInt64))
theorem d5_0 : decode prog_5_method_2_code 0 = .ok (.dload_n 0, 1) := by decide +kernel
theorem d5_1 : decode prog_5_method_2_code 1 = .ok (.dconst 0, 1) := by decide +kernel
theorem d5_2 : decode prog_5_method_2_code 2 = .ok (.dcmp .l, 1) := by decide +kernel
theorem d5_3 : decode prog_5_method_2_code 3 = .ok (.ifCond .lt 11, 3) := by decide +kernel
theorem d5_6 : decode prog_5_method_2_code 6 = .ok (.dload_n 0, 1) := by decide +kernel
theorem d5_7 : decode prog_5_method_2_code 7 = .ok (.ldc2_w 9, 3) := by decide +kernel
theorem d5_10 : decode prog_5_method_2_code 10 = .ok (.dcmp .g, 1) := by decide +kernel
theorem d5_11 : decode prog_5_method_2_code 11 = .ok (.ifCond .lt 17, 3) := by decide +kernel
theorem d5_14 : decode prog_5_method_2_code 14 = .ok (.new 11, 3) := by decide +kernel
theorem d5_17 : decode prog_5_method_2_code 17 = .ok (.dup, 1) := by decide +kernel
theorem d5_18 : decode prog_5_method_2_code 18 = .ok (.dload_n 0, 1) := by decide +kernel
theorem d5_19 : decode prog_5_method_2_code 19 = .ok (.invokedynamic 13, 5) := by decide +kernel
theorem d5_24 : decode prog_5_method_2_code 24 = .ok (.invokespecial 17, 3) := by decide +kernel
theorem d5_27 : decode prog_5_method_2_code 27 = .ok (.athrow, 1) := by decide +kernel
theorem d5_28 : decode prog_5_method_2_code 28 = .ok (.dload_n 0, 1) := by decide +kernel
theorem d5_29 : decode prog_5_method_2_code 29 = .ok (.dconst 0, 1) := by decide +kernel
theorem d5_30 : decode prog_5_method_2_code 30 = .ok (.dadd, 1) := by decide +kernel
theorem d5_31 : decode prog_5_method_2_code 31 = .ok (.dreturn, 1) := by decide +kernel
theorem ef_5 (m : MethodId) (x0 : UInt64) : entryFrame m #[(.double x0)] 2 = mkF m 0 #[.val (.double x0), .second] [] := by first | (simp [entryFrame, mkF, argsToLocals, Value.category]; done) | rfl
theorem pn_1 : plainName "com/example/libclause/libclause/query/Boost" = true := by first | (simp [plainName, overriddenIn]; done) | decide +kernel
def Q5 (Z : State) (dd : UInt64) (h0 : Heap) (n0 : Nat) (v : Option Value) (h : Heap) (L : List Loc) : Prop := v = some (.double (f5 dd)) ∧ Fr n0 L ∧ h = h0
set_option maxRecDepth 65536 in
set_option maxHeartbeats 40000000 in
theorem rm5 (l : Launch) (Z : State) (a0 : Array Value) (hw : ∀ d ∈ tables_1, d.before a0 Z = true) (ws : List Jvm.Cond) (dd : UInt64) (h0 : Heap) (n0 : Nat) (Z0 : n0 ≤ h0.size) (hr1 : ¬ ((cmpValue (FP.dcmp dd (0 : UInt64)) .l) < (0 : Int32))) (hr2 : (cmpValue (FP.dcmp dd (9218868437227405312 : UInt64)) .g) < (0 : Int32)) (hr3 : Jvm.Free.Fl.NoNaN64 (FP.dadd dd (0 : UInt64))) :
    MetFree l (⟨"com/example/libclause/libclause/query/Boost", "checked", "(D)D"⟩ : MethodName) (head1 (Jvm.Cond.code (⟨"com/example/libclause/libclause/query/Boost", "checked", "(D)D"⟩ : MethodName) prog_5_method_2_code 2 (some .double) :: ws) ({ frames := 0, cells := 0, slots := 0, locals := 0 } : Room)) (fun a U => a = #[(.double dd)] ∧ Z.Warmed39 U.vm ∧ U.heap = h0) (fun _ _ _ _ _ => True) (fun _ U o U' => ∃ v L, o = .returned v ∧ Q5 Z dd h0 n0 v U'.heap L ∧ FrameEnd U o U' L ({ frames := 0, cells := 0, slots := 0, locals := 0 } : Room).cells ({ frames := 0, cells := 0, slots := 0, locals := 0 } : Room).slots) := by
  refine MetFree.of_bodySF (plainFor_of_name pn_1) hisR ?_
  intro p e s m args below meth c s₁ Bd hml0 hP hK
  obtain ⟨rfl, hZ, hh⟩ := hP
  have hx := Bd.exec
  have hby := Bd.bytes
  have hml : c.maxLocals = 2 := hml0
  have hown : s.vm.findClass "com/example/libclause/libclause/query/Boost" = some m.cls := findClass_of_methodNamed Bd.named
  have hnm := (name_of_methodNamed Bd.named Bd.method).1
  have X0 : Stand p l e ({ frames := 0, cells := 0, slots := 0, locals := 0 } : Room) s m #[(.double dd)] below meth c s₁ [] 0 0 := Stand.of_body Bd
  have e0 : s₁.heap = h0 := by rw [← hh, Bd.state]; rfl
  have N0 := Fr.nil n0
  have pre0 : ∀ t, Steps p.tables e below (s₁.setTop (mkF m 0 #[.val (.double dd), .second] [])) t → Steps p.tables e below (s₁.setTop (entryFrame m #[(.double dd)] 2)) t := fun t k => castTop (ef_5 m dd) k
  have S6 : ∀ t, Steps p.tables e below (s₁.setTop (mkF m 31 #[.val (.double dd), .second] [(.double (FP.dadd dd (0 : UInt64)))])) t → Steps p.tables e below (s₁.setTop (entryFrame m #[(.double dd)] 2)) t := by
    intro t k
    refine pre0 t ?_
    refine XS.dloadN X0.here hx rfl (hb hby d5_0) rfl ?_
    show Steps p.tables e below (s₁.setTop (mkF m 1 #[.val (.double dd), .second] [(.double dd)])) _
    refine XS.dconst0 X0.here hx rfl (hb hby d5_1) rfl ?_
    show Steps p.tables e below (s₁.setTop (mkF m 2 #[.val (.double dd), .second] [(.double (0 : UInt64)), (.double dd)])) _
    refine XS.dcmpS X0.here hx rfl (hb hby d5_2) rfl rfl ?_
    show Steps p.tables e below (s₁.setTop (mkF m 3 #[.val (.double dd), .second] [(.int (cmpValue (FP.dcmp dd (0 : UInt64)) .l))])) _
    refine XS.ifNo X0.here hx rfl (hb hby d5_3) rfl ((if0 _ _).trans (flt hr1).1) ?_
    show Steps p.tables e below (s₁.setTop (mkF m 6 #[.val (.double dd), .second] [])) _
    refine XS.dloadN X0.here hx rfl (hb hby d5_6) rfl ?_
    show Steps p.tables e below (s₁.setTop (mkF m 7 #[.val (.double dd), .second] [(.double dd)])) _
    refine X0.ldc2DoubleC hx hown (mvT hZ (hw _ (List.mem_of_getElem? (i := 25) rfl))) (g := (mkF m 7 #[.val (.double dd), .second] [(.double dd)])) rfl (hb hby d5_7) _ ?_
    show Steps p.tables e below (s₁.setTop (mkF m 10 #[.val (.double dd), .second] [(.double (9218868437227405312 : UInt64)), (.double dd)])) _
    refine XS.dcmpS X0.here hx rfl (hb hby d5_10) rfl rfl ?_
    show Steps p.tables e below (s₁.setTop (mkF m 11 #[.val (.double dd), .second] [(.int (cmpValue (FP.dcmp dd (9218868437227405312 : UInt64)) .g))])) _
    refine XS.ifYes X0.here hx rfl (pc0 := 11) (pc' := 28) rfl (hb hby d5_11) rfl ((if0 _ _).trans (tlt hr2).1) (by decide) (by decide) ?_
    show Steps p.tables e below (s₁.setTop (mkF m 28 #[.val (.double dd), .second] [])) _
    refine XS.dloadN X0.here hx rfl (hb hby d5_28) rfl ?_
    show Steps p.tables e below (s₁.setTop (mkF m 29 #[.val (.double dd), .second] [(.double dd)])) _
    refine XS.dconst0 X0.here hx rfl (hb hby d5_29) rfl ?_
    show Steps p.tables e below (s₁.setTop (mkF m 30 #[.val (.double dd), .second] [(.double (0 : UInt64)), (.double dd)])) _
    refine XS.daddS X0.here hx rfl (hb hby d5_30) rfl hr3 rfl ?_
    show Steps p.tables e below (s₁.setTop (mkF m 31 #[.val (.double dd), .second] [(.double (FP.dadd dd (0 : UInt64)))])) _
    exact k
  obtain ⟨w7, hw7⟩ : ∃ z : UInt64, z = (FP.dadd dd (0 : UInt64)) := ⟨_, rfl⟩
  rw [← hw7] at S6
  have hf : f5 dd = w7 := by
    unfold f5
    subst hw7
    rfl
  obtain ⟨fs, hr, hrun, hended, hW, hsame⟩ := X0.leave (v := some (.double w7)) (fun h => by rw [Bd.returns] at h; cases h)
  refine ⟨_, _, S6 _ ?_, hrun, hended, _, _, rfl, ?_, ⟨_, rfl⟩, hW, hsame.mono (by decide) (by decide)⟩
  · exact retOut X0 hx Bd.returns rfl (Or.inr (Or.inr (Or.inl ⟨rfl, rfl, _, rfl⟩))) (hb hby d5_31) hr
  · show Q5 Z dd h0 n0 _ s₁.heap _
    rw [e0]
    exact ⟨by rw [hf], N0, rfl⟩
theorem pd_0 : parseMethodDescriptor "()V" = some ⟨[], none⟩ := by decide +kernel
theorem pd_1 : parseMethodDescriptor "(D)D" = some ⟨[.double], some .double⟩ := by decide +kernel
theorem d2_0 : decode prog_11_method_1_code 0 = .ok (.aload_n 0, 1) := by decide +kernel
theorem d2_1 : decode prog_11_method_1_code 1 = .ok (.invokespecial 1, 3) := by decide +kernel
theorem d2_4 : decode prog_11_method_1_code 4 = .ok (.dload_n 1, 1) := by decide +kernel
theorem d2_5 : decode prog_11_method_1_code 5 = .ok (.invokestatic 7, 3) := by decide +kernel
theorem d2_8 : decode prog_11_method_1_code 8 = .ok (.dstore_n 1, 1) := by decide +kernel
theorem d2_9 : decode prog_11_method_1_code 9 = .ok (.aload_n 0, 1) := by decide +kernel
theorem d2_10 : decode prog_11_method_1_code 10 = .ok (.dload_n 1, 1) := by decide +kernel
theorem d2_11 : decode prog_11_method_1_code 11 = .ok (.putfield 13, 3) := by decide +kernel
theorem d2_14 : decode prog_11_method_1_code 14 = .ok (.return_, 1) := by decide +kernel
theorem ef_2 (m : MethodId) (x0 : Addr) (x1 : UInt64) : entryFrame m #[(.ref x0), (.double x1)] 3 = mkF m 0 #[.val (.ref x0), .val (.double x1), .second] [] := by first | (simp [entryFrame, mkF, argsToLocals, Value.category]; done) | rfl
theorem pn_2 : plainName "com/example/libclause/libclause/query/MatchAll" = true := by first | (simp [plainName, overriddenIn]; done) | decide +kernel
def Q2 (Z : State) (a1 : Addr) (dd : UInt64) (h0 : Heap) (n0 : Nat) (v : Option Value) (h : Heap) (L : List Loc) : Prop := v = none ∧ Fr n0 L ∧ Keep h0 h [a1] ∧ Exa Z h a1 "com/example/libclause/libclause/query/MatchAll" ∧ Fld Z h a1 "com/example/libclause/libclause/query/MatchAll" "boost" "D" (.double (f5 dd))
set_option maxRecDepth 65536 in
set_option maxHeartbeats 40000000 in
theorem rm2 (l : Launch) (Z : State) (a0 : Array Value) (hw : ∀ d ∈ tables_1, d.before a0 Z = true) (ws : List Jvm.Cond) (a1 : Addr) (dd : UInt64) (h0 : Heap) (n0 : Nat) (Z0 : n0 ≤ h0.size) (E1 : Exa Z h0 a1 "com/example/libclause/libclause/query/MatchAll") (F_boost_a1 : Fld Z h0 a1 "com/example/libclause/libclause/query/MatchAll" "boost" "D" (.double (0 : UInt64))) (g1 : n0 ≤ a1) (hr1 : ¬ ((cmpValue (FP.dcmp dd (0 : UInt64)) .l) < (0 : Int32))) (hr2 : (cmpValue (FP.dcmp dd (9218868437227405312 : UInt64)) .g) < (0 : Int32)) (hr3 : Jvm.Free.Fl.NoNaN64 (FP.dadd dd (0 : UInt64))) :
    MetFree l (⟨"com/example/libclause/libclause/query/MatchAll", "<init>", "(D)V"⟩ : MethodName) (head1 (Jvm.Cond.code (⟨"com/example/libclause/libclause/query/MatchAll", "<init>", "(D)V"⟩ : MethodName) prog_11_method_1_code 3 none :: ws) ({ frames := 2, cells := 0, slots := 0, locals := 24 } : Room)) (fun a U => a = #[(.ref a1), (.double dd)] ∧ Z.Warmed39 U.vm ∧ U.heap = h0) (fun _ _ _ _ _ => True) (fun _ U o U' => ∃ v L, o = .returned v ∧ Q2 Z a1 dd h0 n0 v U'.heap L ∧ FrameEnd U o U' L ({ frames := 2, cells := 0, slots := 0, locals := 24 } : Room).cells ({ frames := 2, cells := 0, slots := 0, locals := 24 } : Room).slots) := by
  refine MetFree.of_bodySF (plainFor_of_name pn_2) hisR ?_
  intro p e s m args below meth c s₁ Bd hml0 hP hK
  obtain ⟨rfl, hZ, hh⟩ := hP
  have hx := Bd.exec
  have hby := Bd.bytes
  have hml : c.maxLocals = 3 := hml0
  have hown : s.vm.findClass "com/example/libclause/libclause/query/MatchAll" = some m.cls := findClass_of_methodNamed Bd.named
  have hnm := (name_of_methodNamed Bd.named Bd.method).1
  have X0 : Stand p l e ({ frames := 2, cells := 0, slots := 0, locals := 24 } : Room) s m #[(.ref a1), (.double dd)] below meth c s₁ [] 0 0 := Stand.of_body Bd
  have e0 : s₁.heap = h0 := by rw [← hh, Bd.state]; rfl
  have N0 := Fr.nil n0
  have pre0 : ∀ t, Steps p.tables e below (s₁.setTop (mkF m 0 #[.val (.ref a1), .val (.double dd), .second] [])) t → Steps p.tables e below (s₁.setTop (entryFrame m #[(.ref a1), (.double dd)] 3)) t := fun t k => castTop (ef_2 m a1 dd) k
  obtain ⟨_, _, ⟨T8, L8, k8, n8⟩, -, X8, ⟨Lc8, hQ8, l8, y8, z8⟩, st8⟩ := X0.specialBack hx (y := (⟨"java/lang/Record", "<init>", "()V"⟩ : MethodName)) rfl hown (mvT hZ (hw _ (List.mem_of_getElem? (i := 13) rfl))) (mvT hZ (hw _ (List.mem_of_getElem? (i := 14) rfl))) (mvT hZ (hw _ (List.mem_of_getElem? (i := 17) rfl))) (by decide) (backOf (W := 0) (rm3 l Z a0 hw [] a1 h0 n0 Z0) hZ (hw _ (List.mem_of_getElem? (i := 17) rfl)) (hw _ (List.mem_of_getElem? (i := 16) rfl)) (by decide) (by decide)) (g := (mkF m 1 #[.val (.ref a1), .val (.double dd), .second] [(.ref a1)])) rfl (by rw [hml]; rfl) (Steps.refl _) (a := a1) (argsL := []) (rest := []) (lenOf pd_0 rfl) rfl (by show 2 * 0 + _ ≤ _; exact Nat.le_of_eq rfl) (hb hby d2_1) (fun _ _ => ⟨rfl, e0, (by decide : 0 + 0 ≤ _), (by decide : 0 + 0 ≤ _)⟩)
  dsimp only [Pt.U, Pt.locs, Pt.cells, Pt.slots] at X8 l8 y8 z8 st8 hQ8
  subst l8 y8 z8
  obtain ⟨rfl, N8q, e8⟩ := hQ8
  have N8 := Fr.app N0 N8q
  obtain ⟨_, _, ⟨T9, L9, k9, n9⟩, -, X9, ⟨Lc9, hQ9, l9, y9, z9⟩, st9⟩ := Jvm.LawKit.callS X8 hx (y := (⟨"com/example/libclause/libclause/query/Boost", "checked", "(D)D"⟩ : MethodName)) hown (mvT hZ (hw _ (List.mem_of_getElem? (i := 21) rfl))) (mvT hZ (hw _ (List.mem_of_getElem? (i := 22) rfl))) (mvT hZ (hw _ (List.mem_of_getElem? (i := 23) rfl))) (mvT hZ (hw _ (List.mem_of_getElem? (i := 24) rfl))) (by decide) (backOf (W := 0) (rm5 l Z a0 hw [] dd h0 n0 Z0 hr1 hr2 hr3) hZ (hw _ (List.mem_of_getElem? (i := 24) rfl)) (hw _ (List.mem_of_getElem? (i := 23) rfl)) (by decide) (by decide)) (g := (mkF m 5 #[.val (.ref a1), .val (.double dd), .second] [(.double dd)])) rfl (by rw [hml]; rfl) (argsL := [(.double dd)]) (rest := []) (lenOf pd_1 rfl) rfl (by show 2 * 0 + _ ≤ _; exact Nat.le_of_eq rfl) (hb hby d2_5) (fun _ _ => ⟨rfl, e8, (by decide : 0 + 0 ≤ _), (by decide : 0 + 0 ≤ _)⟩)
  dsimp only [Pt.U, Pt.locs, Pt.cells, Pt.slots] at X9 l9 y9 z9 st9 hQ9
  subst l9 y9 z9
  obtain ⟨rfl, N9q, e9⟩ := hQ9
  have N9 := Fr.app N8 N9q
  obtain ⟨T10, h10, X10, e10, W10, st10⟩ := putF X9 hx hZ hown (host := "") (Or.inl (hw _ (List.mem_of_getElem? (i := 26) rfl))) Via.refl e9 F_boost_a1 E1 (Or.inr ⟨(hw _ (List.mem_of_getElem? (i := 27) rfl)), rfl, hnm⟩) (hw _ (List.mem_of_getElem? (i := 5) rfl)) (ty := .double) (by decide) rfl rfl (g := (mkF m 11 #[.val (.ref a1), .val (.double (f5 dd)), .second] [(.double (f5 dd)), (.ref a1)])) rfl rfl (hb hby d2_11)
  have f11 : Exa Z h10 a1 "com/example/libclause/libclause/query/MatchAll" := E1.wr W10
  have f12 : Fld Z h10 a1 "com/example/libclause/libclause/query/MatchAll" "boost" "D" (.double (f5 dd)) := F_boost_a1.same W10
  have N13 := Fr.snoc X10 N9 g1
  have K14 : Keep h0 h10 [a1] := (Keep.refl h0 [a1]).wr W10 (Or.inl (List.mem_of_getElem? (i := 0) rfl))
  have Z15 : n0 ≤ h10.size := Nat.le_trans Z0 (Keep.of_wr W10).1
  obtain ⟨fs, hr, hrun, hended, hW, hsame⟩ := X10.leave (v := none) (fun _ => rfl)
  refine ⟨_, _, pre0 _ ?_, hrun, hended, _, _, rfl, ?_, ⟨_, rfl⟩, hW, hsame.mono (by decide) (by decide)⟩
  · refine XS.aloadN X0.here hx rfl (hb hby d2_0) rfl rfl ?_
    show Steps p.tables e below (s₁.setTop (mkF m 1 #[.val (.ref a1), .val (.double dd), .second] [(.ref a1)])) _
    refine st8.trans ?_
    show Steps p.tables e below (T8.setTop (mkF m 4 #[.val (.ref a1), .val (.double dd), .second] [])) _
    refine XS.dloadN X8.here hx rfl (hb hby d2_4) rfl ?_
    show Steps p.tables e below (T8.setTop (mkF m 5 #[.val (.ref a1), .val (.double dd), .second] [(.double dd)])) _
    refine st9 _ ?_
    show Steps p.tables e below (T9.setTop (mkF m 8 #[.val (.ref a1), .val (.double dd), .second] [(.double (f5 dd))])) _
    refine XS.dstoreN X9.here hx rfl (hb hby d2_8) rfl (l' := #[.val (.ref a1), .val (.double (f5 dd)), .second]) rfl ?_
    show Steps p.tables e below (T9.setTop (mkF m 9 #[.val (.ref a1), .val (.double (f5 dd)), .second] [])) _
    refine XS.aloadN X9.here hx rfl (hb hby d2_9) rfl rfl ?_
    show Steps p.tables e below (T9.setTop (mkF m 10 #[.val (.ref a1), .val (.double (f5 dd)), .second] [(.ref a1)])) _
    refine XS.dloadN X9.here hx rfl (hb hby d2_10) rfl ?_
    show Steps p.tables e below (T9.setTop (mkF m 11 #[.val (.ref a1), .val (.double (f5 dd)), .second] [(.double (f5 dd)), (.ref a1)])) _
    refine st10 _ ?_
    show Steps p.tables e below (T10.setTop (mkF m 14 #[.val (.ref a1), .val (.double (f5 dd)), .second] [])) _
    exact X10.returnOut hx Bd.returns (hb hby d2_14) hr
  · show Q2 Z a1 dd h0 n0 _ T10.heap _
    rw [e10]
    exact ⟨rfl, N13, K14, f11, f12⟩
theorem pd_2 : parseMethodDescriptor "(D)V" = some ⟨[.double], none⟩ := by decide +kernel
theorem d1_0 : decode prog_11_method_2_code 0 = .ok (.aload_n 0, 1) := by decide +kernel
theorem d1_1 : decode prog_11_method_2_code 1 = .ok (.dconst 1, 1) := by decide +kernel
theorem d1_2 : decode prog_11_method_2_code 2 = .ok (.invokespecial 19, 3) := by decide +kernel
theorem d1_5 : decode prog_11_method_2_code 5 = .ok (.return_, 1) := by decide +kernel
theorem ef_1 (m : MethodId) (x0 : Addr) : entryFrame m #[(.ref x0)] 1 = mkF m 0 #[.val (.ref x0)] [] := by first | (simp [entryFrame, mkF, argsToLocals, Value.category]; done) | rfl
def Q1 (Z : State) (a16 : Addr) (h0 : Heap) (n0 : Nat) (v : Option Value) (h : Heap) (L : List Loc) : Prop := v = none ∧ Fr n0 L ∧ Keep h0 h [a16] ∧ Exa Z h a16 "com/example/libclause/libclause/query/MatchAll" ∧ Fld Z h a16 "com/example/libclause/libclause/query/MatchAll" "boost" "D" (.double (f5 (4607182418800017408 : UInt64)))
set_option maxRecDepth 65536 in
set_option maxHeartbeats 40000000 in
theorem rm1 (l : Launch) (Z : State) (a0 : Array Value) (hw : ∀ d ∈ tables_1, d.before a0 Z = true) (ws : List Jvm.Cond) (a16 : Addr) (h0 : Heap) (n0 : Nat) (Z0 : n0 ≤ h0.size) (E1 : Exa Z h0 a16 "com/example/libclause/libclause/query/MatchAll") (F_boost_a16 : Fld Z h0 a16 "com/example/libclause/libclause/query/MatchAll" "boost" "D" (.double (0 : UInt64))) (g1 : n0 ≤ a16) :
    MetFree l (⟨"com/example/libclause/libclause/query/MatchAll", "<init>", "()V"⟩ : MethodName) (head1 (Jvm.Cond.code (⟨"com/example/libclause/libclause/query/MatchAll", "<init>", "()V"⟩ : MethodName) prog_11_method_2_code 1 none :: ws) ({ frames := 3, cells := 0, slots := 0, locals := 38 } : Room)) (fun a U => a = #[(.ref a16)] ∧ Z.Warmed39 U.vm ∧ U.heap = h0) (fun _ _ _ _ _ => True) (fun _ U o U' => ∃ v L, o = .returned v ∧ Q1 Z a16 h0 n0 v U'.heap L ∧ FrameEnd U o U' L ({ frames := 3, cells := 0, slots := 0, locals := 38 } : Room).cells ({ frames := 3, cells := 0, slots := 0, locals := 38 } : Room).slots) := by
  refine MetFree.of_bodySF (plainFor_of_name pn_2) hisR ?_
  intro p e s m args below meth c s₁ Bd hml0 hP hK
  obtain ⟨rfl, hZ, hh⟩ := hP
  have hx := Bd.exec
  have hby := Bd.bytes
  have hml : c.maxLocals = 1 := hml0
  have hown : s.vm.findClass "com/example/libclause/libclause/query/MatchAll" = some m.cls := findClass_of_methodNamed Bd.named
  have hnm := (name_of_methodNamed Bd.named Bd.method).1
  have X0 : Stand p l e ({ frames := 3, cells := 0, slots := 0, locals := 38 } : Room) s m #[(.ref a16)] below meth c s₁ [] 0 0 := Stand.of_body Bd
  have e0 : s₁.heap = h0 := by rw [← hh, Bd.state]; rfl
  have N0 := Fr.nil n0
  have pre0 : ∀ t, Steps p.tables e below (s₁.setTop (mkF m 0 #[.val (.ref a16)] [])) t → Steps p.tables e below (s₁.setTop (entryFrame m #[(.ref a16)] 1)) t := fun t k => castTop (ef_1 m a16) k
  obtain ⟨_, _, ⟨T17, L17, k17, n17⟩, -, X17, ⟨Lc17, hQ17, l17, y17, z17⟩, st17⟩ := X0.specialBack hx (y := (⟨"com/example/libclause/libclause/query/MatchAll", "<init>", "(D)V"⟩ : MethodName)) rfl hown (mvT hZ (hw _ (List.mem_of_getElem? (i := 10) rfl))) (mvT hZ (hw _ (List.mem_of_getElem? (i := 11) rfl))) (mvT hZ (hw _ (List.mem_of_getElem? (i := 12) rfl))) (by decide) (backOf (W := 0) (rm2 l Z a0 hw [] a16 (4607182418800017408 : UInt64) h0 n0 Z0 E1 F_boost_a16 g1 (by decide +kernel) (by decide +kernel) (by unfold Jvm.Free.Fl.NoNaN64; decide +kernel)) hZ (hw _ (List.mem_of_getElem? (i := 12) rfl)) (hw _ (List.mem_of_getElem? (i := 6) rfl)) (by decide) (by decide)) (g := (mkF m 2 #[.val (.ref a16)] [(.double (4607182418800017408 : UInt64)), (.ref a16)])) rfl (by rw [hml]; rfl) (Steps.refl _) (a := a16) (argsL := [(.double (4607182418800017408 : UInt64))]) (rest := []) (lenOf pd_2 rfl) rfl (by show 2 * 0 + _ ≤ _; exact Nat.le_of_eq rfl) (hb hby d1_2) (fun _ _ => ⟨rfl, e0, (by decide : 0 + 0 ≤ _), (by decide : 0 + 0 ≤ _)⟩)
  dsimp only [Pt.U, Pt.locs, Pt.cells, Pt.slots] at X17 l17 y17 z17 st17 hQ17
  subst l17 y17 z17
  obtain ⟨rfl, N17q, K17, Eq17, fq17_0⟩ := hQ17
  have N17 := Fr.app N0 N17q
  have K18 : Keep h0 T17.heap [a16] := (Keep.refl h0 [a16]).trans K17 (allS (Or.inl (List.mem_of_getElem? (i := 0) rfl)) all0)
  have Z19 : n0 ≤ T17.heap.size := Nat.le_trans Z0 K17.1
  obtain ⟨fs, hr, hrun, hended, hW, hsame⟩ := X17.leave (v := none) (fun _ => rfl)
  refine ⟨_, _, pre0 _ ?_, hrun, hended, _, _, rfl, ?_, ⟨_, rfl⟩, hW, hsame.mono (by decide) (by decide)⟩
  · refine XS.aloadN X0.here hx rfl (hb hby d1_0) rfl rfl ?_
    show Steps p.tables e below (s₁.setTop (mkF m 1 #[.val (.ref a16)] [(.ref a16)])) _
    refine XS.dconst1 X0.here hx rfl (hb hby d1_1) rfl ?_
    show Steps p.tables e below (s₁.setTop (mkF m 2 #[.val (.ref a16)] [(.double (4607182418800017408 : UInt64)), (.ref a16)])) _
    refine st17.trans ?_
    show Steps p.tables e below (T17.setTop (mkF m 5 #[.val (.ref a16)] [])) _
    exact X17.returnOut hx Bd.returns (hb hby d1_5) hr
  · show Q1 Z a16 h0 n0 _ T17.heap _
    exact ⟨rfl, N17, K18, Eq17, fq17_0⟩
theorem d6_0 : decode prog_36_method_1_code 0 = .ok (.aload_n 0, 1) := by decide +kernel
theorem d6_1 : decode prog_36_method_1_code 1 = .ok (.invokespecial 1, 3) := by decide +kernel
theorem d6_4 : decode prog_36_method_1_code 4 = .ok (.aload_n 0, 1) := by decide +kernel
theorem d6_5 : decode prog_36_method_1_code 5 = .ok (.iconst (-1), 1) := by decide +kernel
theorem d6_6 : decode prog_36_method_1_code 6 = .ok (.putfield 7, 3) := by decide +kernel
theorem d6_9 : decode prog_36_method_1_code 9 = .ok (.aload_n 0, 1) := by decide +kernel
theorem d6_10 : decode prog_36_method_1_code 10 = .ok (.iload_n 1, 1) := by decide +kernel
theorem d6_11 : decode prog_36_method_1_code 11 = .ok (.putfield 13, 3) := by decide +kernel
theorem d6_14 : decode prog_36_method_1_code 14 = .ok (.aload_n 0, 1) := by decide +kernel
theorem d6_15 : decode prog_36_method_1_code 15 = .ok (.aload_n 2, 1) := by decide +kernel
theorem d6_16 : decode prog_36_method_1_code 16 = .ok (.putfield 16, 3) := by decide +kernel
theorem d6_19 : decode prog_36_method_1_code 19 = .ok (.return_, 1) := by decide +kernel
theorem ef_6 (m : MethodId) (x0 : Addr) (x1 : Int32) (x2 : Addr) : entryFrame m #[(.ref x0), (.int x1), (.ref x2)] 3 = mkF m 0 #[.val (.ref x0), .val (.int x1), .val (.ref x2)] [] := by first | (simp [entryFrame, mkF, argsToLocals, Value.category]; done) | rfl
theorem pn_3 : plainName "com/example/libclause/libclause/search/AllDocumentsIterator" = true := by first | (simp [plainName, overriddenIn]; done) | decide +kernel
def Q6 (Z : State) (a20 : Addr) (p21 : Int32) (a22 : Addr) (h0 : Heap) (n0 : Nat) (v : Option Value) (h : Heap) (L : List Loc) : Prop := v = none ∧ Fr n0 L ∧ Keep h0 h [a20] ∧ Exa Z h a20 "com/example/libclause/libclause/search/AllDocumentsIterator" ∧ Fld Z h a20 "com/example/libclause/libclause/search/AllDocumentsIterator" "document" "I" (.int (-1 : Int32)) ∧ Fld Z h a20 "com/example/libclause/libclause/search/AllDocumentsIterator" "documentCount" "I" (.int p21) ∧ Fld Z h a20 "com/example/libclause/libclause/search/AllDocumentsIterator" "matchAll" "Lcom/example/libclause/libclause/query/MatchAll;" (.ref a22)
set_option maxRecDepth 65536 in
set_option maxHeartbeats 40000000 in
theorem rm6 (l : Launch) (Z : State) (a0 : Array Value) (hw : ∀ d ∈ tables_1, d.before a0 Z = true) (ws : List Jvm.Cond) (a20 : Addr) (p21 : Int32) (a22 : Addr) (h0 : Heap) (n0 : Nat) (Z0 : n0 ≤ h0.size) (E1 : Exa Z h0 a20 "com/example/libclause/libclause/search/AllDocumentsIterator") (F_document_a20 : Fld Z h0 a20 "com/example/libclause/libclause/search/AllDocumentsIterator" "document" "I" (.int (0 : Int32))) (F_documentCount_a20 : Fld Z h0 a20 "com/example/libclause/libclause/search/AllDocumentsIterator" "documentCount" "I" (.int (0 : Int32))) (F_matchAll_a20 : Fld Z h0 a20 "com/example/libclause/libclause/search/AllDocumentsIterator" "matchAll" "Lcom/example/libclause/libclause/query/MatchAll;" .null) (g1 : n0 ≤ a20) :
    MetFree l (⟨"com/example/libclause/libclause/search/AllDocumentsIterator", "<init>", "(ILcom/example/libclause/libclause/query/MatchAll;)V"⟩ : MethodName) (head1 (Jvm.Cond.code (⟨"com/example/libclause/libclause/search/AllDocumentsIterator", "<init>", "(ILcom/example/libclause/libclause/query/MatchAll;)V"⟩ : MethodName) prog_36_method_1_code 3 none :: ws) ({ frames := 1, cells := 0, slots := 0, locals := 12 } : Room)) (fun a U => a = #[(.ref a20), (.int p21), (.ref a22)] ∧ Z.Warmed39 U.vm ∧ U.heap = h0) (fun _ _ _ _ _ => True) (fun _ U o U' => ∃ v L, o = .returned v ∧ Q6 Z a20 p21 a22 h0 n0 v U'.heap L ∧ FrameEnd U o U' L ({ frames := 1, cells := 0, slots := 0, locals := 12 } : Room).cells ({ frames := 1, cells := 0, slots := 0, locals := 12 } : Room).slots) := by
  refine MetFree.of_bodySF (plainFor_of_name pn_3) hisR ?_
  intro p e s m args below meth c s₁ Bd hml0 hP hK
  obtain ⟨rfl, hZ, hh⟩ := hP
  have hx := Bd.exec
  have hby := Bd.bytes
  have hml : c.maxLocals = 3 := hml0
  have hown : s.vm.findClass "com/example/libclause/libclause/search/AllDocumentsIterator" = some m.cls := findClass_of_methodNamed Bd.named
  have hnm := (name_of_methodNamed Bd.named Bd.method).1
  have X0 : Stand p l e ({ frames := 1, cells := 0, slots := 0, locals := 12 } : Room) s m #[(.ref a20), (.int p21), (.ref a22)] below meth c s₁ [] 0 0 := Stand.of_body Bd
  have e0 : s₁.heap = h0 := by rw [← hh, Bd.state]; rfl
  have N0 := Fr.nil n0
  have pre0 : ∀ t, Steps p.tables e below (s₁.setTop (mkF m 0 #[.val (.ref a20), .val (.int p21), .val (.ref a22)] [])) t → Steps p.tables e below (s₁.setTop (entryFrame m #[(.ref a20), (.int p21), (.ref a22)] 3)) t := fun t k => castTop (ef_6 m a20 p21 a22) k
  obtain ⟨T23, X23, e23, st23⟩ := initO X0 hx hZ hown (hw _ (List.mem_of_getElem? (i := 31) rfl)) (hw _ (List.mem_of_getElem? (i := 19) rfl)) (hw _ (List.mem_of_getElem? (i := 20) rfl)) e0 (g := (mkF m 1 #[.val (.ref a20), .val (.int p21), .val (.ref a22)] [(.ref a20)])) rfl (by rw [hml]; rfl) rfl (hb hby d6_1) (by decide) (W := 0) (by show 2 * 0 + _ ≤ _; exact Nat.le_of_eq rfl) (by decide)
  obtain ⟨T24, h24, X24, e24, W24, st24⟩ := putF X23 hx hZ hown (host := "") (Or.inl (hw _ (List.mem_of_getElem? (i := 32) rfl))) Via.refl e23 F_document_a20 E1 (Or.inl (hw _ (List.mem_of_getElem? (i := 33) rfl))) (hw _ (List.mem_of_getElem? (i := 2) rfl)) (ty := .int) (by decide) rfl rfl (g := (mkF m 6 #[.val (.ref a20), .val (.int p21), .val (.ref a22)] [(.int (-1 : Int32)), (.ref a20)])) rfl rfl (hb hby d6_6)
  have f25 : Exa Z h24 a20 "com/example/libclause/libclause/search/AllDocumentsIterator" := E1.wr W24
  have f26 : Fld Z h24 a20 "com/example/libclause/libclause/search/AllDocumentsIterator" "document" "I" (.int (-1 : Int32)) := F_document_a20.same W24
  have f27 : Fld Z h24 a20 "com/example/libclause/libclause/search/AllDocumentsIterator" "documentCount" "I" (.int (0 : Int32)) := F_documentCount_a20.other W24 (Or.inr (slot_ne (Or.inr (hw _ (List.mem_of_getElem? (i := 35) rfl))) (Or.inl (hw _ (List.mem_of_getElem? (i := 33) rfl))) (by decide) (t := .int) (t' := .int) (by decide) (by decide)))
  have f28 : Fld Z h24 a20 "com/example/libclause/libclause/search/AllDocumentsIterator" "matchAll" "Lcom/example/libclause/libclause/query/MatchAll;" .null := F_matchAll_a20.other W24 (Or.inr (slot_ne (Or.inr (hw _ (List.mem_of_getElem? (i := 37) rfl))) (Or.inl (hw _ (List.mem_of_getElem? (i := 33) rfl))) (by decide) (t := (.object "com/example/libclause/libclause/query/MatchAll")) (t' := .int) (by decide) (by decide)))
  have N29 := Fr.snoc X24 N0 g1
  have K30 : Keep h0 h24 [a20] := (Keep.refl h0 [a20]).wr W24 (Or.inl (List.mem_of_getElem? (i := 0) rfl))
  have Z31 : n0 ≤ h24.size := Nat.le_trans Z0 (Keep.of_wr W24).1
  obtain ⟨T32, h32, X32, e32, W32, st32⟩ := putF X24 hx hZ hown (host := "") (Or.inl (hw _ (List.mem_of_getElem? (i := 34) rfl))) Via.refl e24 f27 f25 (Or.inr ⟨(hw _ (List.mem_of_getElem? (i := 35) rfl)), rfl, hnm⟩) (hw _ (List.mem_of_getElem? (i := 2) rfl)) (ty := .int) (by decide) rfl rfl (g := (mkF m 11 #[.val (.ref a20), .val (.int p21), .val (.ref a22)] [(.int p21), (.ref a20)])) rfl rfl (hb hby d6_11)
  have f33 : Exa Z h32 a20 "com/example/libclause/libclause/search/AllDocumentsIterator" := f25.wr W32
  have f34 : Fld Z h32 a20 "com/example/libclause/libclause/search/AllDocumentsIterator" "document" "I" (.int (-1 : Int32)) := f26.other W32 (Or.inr (slot_ne (Or.inl (hw _ (List.mem_of_getElem? (i := 33) rfl))) (Or.inr (hw _ (List.mem_of_getElem? (i := 35) rfl))) (by decide) (t := .int) (t' := .int) (by decide) (by decide)))
  have f35 : Fld Z h32 a20 "com/example/libclause/libclause/search/AllDocumentsIterator" "documentCount" "I" (.int p21) := f27.same W32
  have f36 : Fld Z h32 a20 "com/example/libclause/libclause/search/AllDocumentsIterator" "matchAll" "Lcom/example/libclause/libclause/query/MatchAll;" .null := f28.other W32 (Or.inr (slot_ne (Or.inr (hw _ (List.mem_of_getElem? (i := 37) rfl))) (Or.inr (hw _ (List.mem_of_getElem? (i := 35) rfl))) (by decide) (t := (.object "com/example/libclause/libclause/query/MatchAll")) (t' := .int) (by decide) (by decide)))
  have N37 := Fr.snoc X32 N29 g1
  have K38 : Keep h0 h32 [a20] := K30.wr W32 (Or.inl (List.mem_of_getElem? (i := 0) rfl))
  have Z39 : n0 ≤ h32.size := Nat.le_trans Z31 (Keep.of_wr W32).1
  obtain ⟨T40, h40, X40, e40, W40, st40⟩ := putF X32 hx hZ hown (host := "") (Or.inl (hw _ (List.mem_of_getElem? (i := 36) rfl))) Via.refl e32 f36 f33 (Or.inr ⟨(hw _ (List.mem_of_getElem? (i := 37) rfl)), rfl, hnm⟩) (hw _ (List.mem_of_getElem? (i := 2) rfl)) (ty := (.object "com/example/libclause/libclause/query/MatchAll")) (by decide) rfl rfl (g := (mkF m 16 #[.val (.ref a20), .val (.int p21), .val (.ref a22)] [(.ref a22), (.ref a20)])) rfl rfl (hb hby d6_16)
  have f41 : Exa Z h40 a20 "com/example/libclause/libclause/search/AllDocumentsIterator" := f33.wr W40
  have f42 : Fld Z h40 a20 "com/example/libclause/libclause/search/AllDocumentsIterator" "document" "I" (.int (-1 : Int32)) := f34.other W40 (Or.inr (slot_ne (Or.inl (hw _ (List.mem_of_getElem? (i := 33) rfl))) (Or.inr (hw _ (List.mem_of_getElem? (i := 37) rfl))) (by decide) (t := .int) (t' := (.object "com/example/libclause/libclause/query/MatchAll")) (by decide) (by decide)))
  have f43 : Fld Z h40 a20 "com/example/libclause/libclause/search/AllDocumentsIterator" "documentCount" "I" (.int p21) := f35.other W40 (Or.inr (slot_ne (Or.inr (hw _ (List.mem_of_getElem? (i := 35) rfl))) (Or.inr (hw _ (List.mem_of_getElem? (i := 37) rfl))) (by decide) (t := .int) (t' := (.object "com/example/libclause/libclause/query/MatchAll")) (by decide) (by decide)))
  have f44 : Fld Z h40 a20 "com/example/libclause/libclause/search/AllDocumentsIterator" "matchAll" "Lcom/example/libclause/libclause/query/MatchAll;" (.ref a22) := f36.same W40
  have N45 := Fr.snoc X40 N37 g1
  have K46 : Keep h0 h40 [a20] := K38.wr W40 (Or.inl (List.mem_of_getElem? (i := 0) rfl))
  have Z47 : n0 ≤ h40.size := Nat.le_trans Z39 (Keep.of_wr W40).1
  obtain ⟨fs, hr, hrun, hended, hW, hsame⟩ := X40.leave (v := none) (fun _ => rfl)
  refine ⟨_, _, pre0 _ ?_, hrun, hended, _, _, rfl, ?_, ⟨_, rfl⟩, hW, hsame.mono (by decide) (by decide)⟩
  · refine XS.aloadN X0.here hx rfl (hb hby d6_0) rfl rfl ?_
    show Steps p.tables e below (s₁.setTop (mkF m 1 #[.val (.ref a20), .val (.int p21), .val (.ref a22)] [(.ref a20)])) _
    refine st23 _ ?_
    show Steps p.tables e below (T23.setTop (mkF m 4 #[.val (.ref a20), .val (.int p21), .val (.ref a22)] [])) _
    refine XS.aloadN X23.here hx rfl (hb hby d6_4) rfl rfl ?_
    show Steps p.tables e below (T23.setTop (mkF m 5 #[.val (.ref a20), .val (.int p21), .val (.ref a22)] [(.ref a20)])) _
    refine XS.iconst X23.here hx rfl (hb hby d6_5) ?_
    show Steps p.tables e below (T23.setTop (mkF m 6 #[.val (.ref a20), .val (.int p21), .val (.ref a22)] [(.int (-1 : Int32)), (.ref a20)])) _
    refine st24 _ ?_
    show Steps p.tables e below (T24.setTop (mkF m 9 #[.val (.ref a20), .val (.int p21), .val (.ref a22)] [])) _
    refine XS.aloadN X24.here hx rfl (hb hby d6_9) rfl rfl ?_
    show Steps p.tables e below (T24.setTop (mkF m 10 #[.val (.ref a20), .val (.int p21), .val (.ref a22)] [(.ref a20)])) _
    refine XS.iloadN X24.here hx rfl (hb hby d6_10) rfl ?_
    show Steps p.tables e below (T24.setTop (mkF m 11 #[.val (.ref a20), .val (.int p21), .val (.ref a22)] [(.int p21), (.ref a20)])) _
    refine st32 _ ?_
    show Steps p.tables e below (T32.setTop (mkF m 14 #[.val (.ref a20), .val (.int p21), .val (.ref a22)] [])) _
    refine XS.aloadN X32.here hx rfl (hb hby d6_14) rfl rfl ?_
    show Steps p.tables e below (T32.setTop (mkF m 15 #[.val (.ref a20), .val (.int p21), .val (.ref a22)] [(.ref a20)])) _
    refine XS.aloadN X32.here hx rfl (hb hby d6_15) rfl rfl ?_
    show Steps p.tables e below (T32.setTop (mkF m 16 #[.val (.ref a20), .val (.int p21), .val (.ref a22)] [(.ref a22), (.ref a20)])) _
    refine st40 _ ?_
    show Steps p.tables e below (T40.setTop (mkF m 19 #[.val (.ref a20), .val (.int p21), .val (.ref a22)] [])) _
    exact X40.returnOut hx Bd.returns (hb hby d6_19) hr
  · show Q6 Z a20 p21 a22 h0 n0 _ T40.heap _
    rw [e40]
    exact ⟨rfl, N45, K46, f41, f42, f43, f44⟩
def f7 (z49 : Int32) : Int32 := z49
theorem d7_0 : decode prog_36_method_2_code 0 = .ok (.aload_n 0, 1) := by decide +kernel
theorem d7_1 : decode prog_36_method_2_code 1 = .ok (.getfield 7, 3) := by decide +kernel
theorem d7_4 : decode prog_36_method_2_code 4 = .ok (.ireturn, 1) := by decide +kernel
theorem ef_7 (m : MethodId) (x0 : Addr) : entryFrame m #[(.ref x0)] 1 = mkF m 0 #[.val (.ref x0)] [] := by first | (simp [entryFrame, mkF, argsToLocals, Value.category]; done) | rfl
def Q7 (Z : State) (a48 : Addr) (z49 : Int32) (h0 : Heap) (n0 : Nat) (v : Option Value) (h : Heap) (L : List Loc) : Prop := v = some (.int (f7 z49)) ∧ Fr n0 L ∧ h = h0
set_option maxRecDepth 65536 in
set_option maxHeartbeats 40000000 in
theorem rm7 (l : Launch) (Z : State) (a0 : Array Value) (hw : ∀ d ∈ tables_1, d.before a0 Z = true) (ws : List Jvm.Cond) (a48 : Addr) (z49 : Int32) (h0 : Heap) (n0 : Nat) (Z0 : n0 ≤ h0.size) (F_document_a48 : Fld Z h0 a48 "com/example/libclause/libclause/search/AllDocumentsIterator" "document" "I" (.int z49)) :
    MetFree l (⟨"com/example/libclause/libclause/search/AllDocumentsIterator", "document", "()I"⟩ : MethodName) (head1 (Jvm.Cond.code (⟨"com/example/libclause/libclause/search/AllDocumentsIterator", "document", "()I"⟩ : MethodName) prog_36_method_2_code 1 (some .int) :: ws) ({ frames := 0, cells := 0, slots := 0, locals := 0 } : Room)) (fun a U => a = #[(.ref a48)] ∧ Z.Warmed39 U.vm ∧ U.heap = h0) (fun _ _ _ _ _ => True) (fun _ U o U' => ∃ v L, o = .returned v ∧ Q7 Z a48 z49 h0 n0 v U'.heap L ∧ FrameEnd U o U' L ({ frames := 0, cells := 0, slots := 0, locals := 0 } : Room).cells ({ frames := 0, cells := 0, slots := 0, locals := 0 } : Room).slots) := by
  refine MetFree.of_bodySF (plainFor_of_name pn_3) hisR ?_
  intro p e s m args below meth c s₁ Bd hml0 hP hK
  obtain ⟨rfl, hZ, hh⟩ := hP
  have hx := Bd.exec
  have hby := Bd.bytes
  have hml : c.maxLocals = 1 := hml0
  have hown : s.vm.findClass "com/example/libclause/libclause/search/AllDocumentsIterator" = some m.cls := findClass_of_methodNamed Bd.named
  have hnm := (name_of_methodNamed Bd.named Bd.method).1
  have X0 : Stand p l e ({ frames := 0, cells := 0, slots := 0, locals := 0 } : Room) s m #[(.ref a48)] below meth c s₁ [] 0 0 := Stand.of_body Bd
  have e0 : s₁.heap = h0 := by rw [← hh, Bd.state]; rfl
  have N0 := Fr.nil n0
  have pre0 : ∀ t, Steps p.tables e below (s₁.setTop (mkF m 0 #[.val (.ref a48)] [])) t → Steps p.tables e below (s₁.setTop (entryFrame m #[(.ref a48)] 1)) t := fun t k => castTop (ef_7 m a48) k
  obtain ⟨T52, X52, e52, st52⟩ := getF X0 hx hZ hown (host := "") (Or.inl (hw _ (List.mem_of_getElem? (i := 32) rfl))) Via.refl e0 F_document_a48 (g := (mkF m 1 #[.val (.ref a48)] [(.ref a48)])) rfl rfl (hb hby d7_1)
  have S53 : ∀ t, Steps p.tables e below (T52.setTop (mkF m 4 #[.val (.ref a48)] [(.int z49)])) t → Steps p.tables e below (s₁.setTop (entryFrame m #[(.ref a48)] 1)) t := by
    intro t k
    refine pre0 t ?_
    refine XS.aloadN X0.here hx rfl (hb hby d7_0) rfl rfl ?_
    show Steps p.tables e below (s₁.setTop (mkF m 1 #[.val (.ref a48)] [(.ref a48)])) _
    refine st52 _ ?_
    show Steps p.tables e below (T52.setTop (mkF m 4 #[.val (.ref a48)] [(.int z49)])) _
    exact k
  have hf : f7 z49 = z49 := by
    unfold f7
    rfl
  obtain ⟨fs, hr, hrun, hended, hW, hsame⟩ := X52.leave (v := some (.int z49)) (fun h => by rw [Bd.returns] at h; cases h)
  refine ⟨_, _, S53 _ ?_, hrun, hended, _, _, rfl, ?_, ⟨_, rfl⟩, hW, hsame.mono (by decide) (by decide)⟩
  · exact retOut X52 hx Bd.returns rfl (Or.inl ⟨rfl, Or.inl rfl, _, rfl⟩) (hb hby d7_4) hr
  · show Q7 Z a48 z49 h0 n0 _ T52.heap _
    rw [e52]
    exact ⟨by rw [hf], N0, rfl⟩
def f9 (p54 : Int32) (p55 : Int32) : Int32 := (if p54 < p55 then p55 else p54)
theorem d9_0 : decode jdk_29_method_65_code 0 = .ok (.iload_n 0, 1) := by decide +kernel
theorem d9_1 : decode jdk_29_method_65_code 1 = .ok (.iload_n 1, 1) := by decide +kernel
theorem d9_2 : decode jdk_29_method_65_code 2 = .ok (.if_icmp .lt 7, 3) := by decide +kernel
theorem d9_5 : decode jdk_29_method_65_code 5 = .ok (.iload_n 0, 1) := by decide +kernel
theorem d9_6 : decode jdk_29_method_65_code 6 = .ok (.goto 4, 3) := by decide +kernel
theorem d9_9 : decode jdk_29_method_65_code 9 = .ok (.iload_n 1, 1) := by decide +kernel
theorem d9_10 : decode jdk_29_method_65_code 10 = .ok (.ireturn, 1) := by decide +kernel
theorem ef_9 (m : MethodId) (x0 : Int32) (x1 : Int32) : entryFrame m #[(.int x0), (.int x1)] 2 = mkF m 0 #[.val (.int x0), .val (.int x1)] [] := by first | (simp [entryFrame, mkF, argsToLocals, Value.category]; done) | rfl
def Q9 (Z : State) (p54 : Int32) (p55 : Int32) (h0 : Heap) (n0 : Nat) (v : Option Value) (h : Heap) (L : List Loc) : Prop := v = some (.int (f9 p54 p55)) ∧ Fr n0 L ∧ h = h0
set_option maxRecDepth 65536 in
set_option maxHeartbeats 40000000 in
theorem rm9 (l : Launch) (Z : State) (a0 : Array Value) (hw : ∀ d ∈ tables_1, d.before a0 Z = true) (ws : List Jvm.Cond) (p54 : Int32) (p55 : Int32) (h0 : Heap) (n0 : Nat) (Z0 : n0 ≤ h0.size)  :
    MetFree l (⟨"java/lang/Math", "max", "(II)I"⟩ : MethodName) (head1 (Jvm.Cond.code (⟨"java/lang/Math", "max", "(II)I"⟩ : MethodName) jdk_29_method_65_code 2 (some .int) :: ws) ({ frames := 0, cells := 0, slots := 0, locals := 0 } : Room)) (fun a U => a = #[(.int p54), (.int p55)] ∧ Z.Warmed39 U.vm ∧ U.heap = h0) (fun _ _ _ _ _ => True) (fun _ U o U' => ∃ v L, o = .returned v ∧ Q9 Z p54 p55 h0 n0 v U'.heap L ∧ FrameEnd U o U' L ({ frames := 0, cells := 0, slots := 0, locals := 0 } : Room).cells ({ frames := 0, cells := 0, slots := 0, locals := 0 } : Room).slots) := by
  refine MetFree.of_bodySF (Jvm.Free.JP.mathPlain rfl (by decide +kernel)) hisR ?_
  intro p e s m args below meth c s₁ Bd hml0 hP hK
  obtain ⟨rfl, hZ, hh⟩ := hP
  have hx := Bd.exec
  have hby := Bd.bytes
  have hml : c.maxLocals = 2 := hml0
  have hown : s.vm.findClass "java/lang/Math" = some m.cls := findClass_of_methodNamed Bd.named
  have hnm := (name_of_methodNamed Bd.named Bd.method).1
  have X0 : Stand p l e ({ frames := 0, cells := 0, slots := 0, locals := 0 } : Room) s m #[(.int p54), (.int p55)] below meth c s₁ [] 0 0 := Stand.of_body Bd
  have e0 : s₁.heap = h0 := by rw [← hh, Bd.state]; rfl
  have N0 := Fr.nil n0
  have pre0 : ∀ t, Steps p.tables e below (s₁.setTop (mkF m 0 #[.val (.int p54), .val (.int p55)] [])) t → Steps p.tables e below (s₁.setTop (entryFrame m #[(.int p54), (.int p55)] 2)) t := fun t k => castTop (ef_9 m p54 p55) k
  have S60 : ∀ t, Steps p.tables e below (s₁.setTop (mkF m 2 #[.val (.int p54), .val (.int p55)] [(.int p55), (.int p54)])) t → Steps p.tables e below (s₁.setTop (entryFrame m #[(.int p54), (.int p55)] 2)) t := by
    intro t k
    refine pre0 t ?_
    refine XS.iloadN X0.here hx rfl (hb hby d9_0) rfl ?_
    show Steps p.tables e below (s₁.setTop (mkF m 1 #[.val (.int p54), .val (.int p55)] [(.int p54)])) _
    refine XS.iloadN X0.here hx rfl (hb hby d9_1) rfl ?_
    show Steps p.tables e below (s₁.setTop (mkF m 2 #[.val (.int p54), .val (.int p55)] [(.int p55), (.int p54)])) _
    exact k
  have S62 : ∀ t, Steps p.tables e below (s₁.setTop (mkF m 10 #[.val (.int p54), .val (.int p55)] [(.int (if p54 < p55 then p55 else p54))])) t → Steps p.tables e below (s₁.setTop (entryFrame m #[(.int p54), (.int p55)] 2)) t := by
    intro t k
    refine S60 t ?_
    by_cases hc61 : p54 < p55
    · rw [if_pos hc61] at k
      refine XS.icmpYes X0.here hx rfl (pc0 := 2) (pc' := 9) rfl (hb hby d9_2) rfl (tlt hc61).1 (by decide) (by decide) ?_
      show Steps p.tables e below (s₁.setTop (mkF m 9 #[.val (.int p54), .val (.int p55)] [])) _
      refine XS.iloadN X0.here hx rfl (hb hby d9_9) rfl ?_
      show Steps p.tables e below (s₁.setTop (mkF m 10 #[.val (.int p54), .val (.int p55)] [(.int p55)])) _
      exact k
    · rw [if_neg hc61] at k
      refine XS.icmpNo X0.here hx rfl (hb hby d9_2) rfl (flt hc61).1 ?_
      show Steps p.tables e below (s₁.setTop (mkF m 5 #[.val (.int p54), .val (.int p55)] [])) _
      refine XS.iloadN X0.here hx rfl (hb hby d9_5) rfl ?_
      show Steps p.tables e below (s₁.setTop (mkF m 6 #[.val (.int p54), .val (.int p55)] [(.int p54)])) _
      refine XS.goto X0.here hx rfl (pc0 := 6) (pc' := 10) rfl (hb hby d9_6) (by decide) (by decide) ?_
      show Steps p.tables e below (s₁.setTop (mkF m 10 #[.val (.int p54), .val (.int p55)] [(.int p54)])) _
      exact k
  obtain ⟨w63, hw63⟩ : ∃ z : Int32, z = (if p54 < p55 then p55 else p54) := ⟨_, rfl⟩
  rw [← hw63] at S62
  have hf : f9 p54 p55 = w63 := by
    unfold f9
    subst hw63
    rfl
  obtain ⟨fs, hr, hrun, hended, hW, hsame⟩ := X0.leave (v := some (.int w63)) (fun h => by rw [Bd.returns] at h; cases h)
  refine ⟨_, _, S62 _ ?_, hrun, hended, _, _, rfl, ?_, ⟨_, rfl⟩, hW, hsame.mono (by decide) (by decide)⟩
  · exact retOut X0 hx Bd.returns rfl (Or.inl ⟨rfl, Or.inl rfl, _, rfl⟩) (hb hby d9_10) hr
  · show Q9 Z p54 p55 h0 n0 _ s₁.heap _
    rw [e0]
    exact ⟨by rw [hf], N0, rfl⟩
theorem pd_3 : parseMethodDescriptor "(II)I" = some ⟨[.int, .int], some .int⟩ := by decide +kernel
def f8 (p64 : Int32) (p65 : Int32) (p66 : Int32) : Int32 := (f9 p64 (if p65 < p66 then p65 else (2147483647 : Int32)))
theorem d8_0 : decode method_4_code 0 = .ok (.iload_n 1, 1) := by decide +kernel
theorem d8_1 : decode method_4_code 1 = .ok (.iload_n 2, 1) := by decide +kernel
theorem d8_2 : decode method_4_code 2 = .ok (.if_icmp .ge 7, 3) := by decide +kernel
theorem d8_5 : decode method_4_code 5 = .ok (.iload_n 1, 1) := by decide +kernel
theorem d8_6 : decode method_4_code 6 = .ok (.goto 5, 3) := by decide +kernel
theorem d8_9 : decode method_4_code 9 = .ok (.ldc 7, 2) := by decide +kernel
theorem d8_11 : decode method_4_code 11 = .ok (.istore_n 3, 1) := by decide +kernel
theorem d8_12 : decode method_4_code 12 = .ok (.iload_n 0, 1) := by decide +kernel
theorem d8_13 : decode method_4_code 13 = .ok (.iload_n 3, 1) := by decide +kernel
theorem d8_14 : decode method_4_code 14 = .ok (.invokestatic 47, 3) := by decide +kernel
theorem d8_17 : decode method_4_code 17 = .ok (.ireturn, 1) := by decide +kernel
theorem ef_8 (m : MethodId) (x0 : Int32) (x1 : Int32) (x2 : Int32) : entryFrame m #[(.int x0), (.int x1), (.int x2)] 4 = mkF m 0 #[.val (.int x0), .val (.int x1), .val (.int x2), .unset] [] := by first | (simp [entryFrame, mkF, argsToLocals, Value.category]; done) | rfl
theorem pn_4 : plainName "com/example/libclause/libclause/search/AllDocumentsIteratorAdvancePinLaw" = true := by first | (simp [plainName, overriddenIn]; done) | decide +kernel
def Q8 (Z : State) (p64 : Int32) (p65 : Int32) (p66 : Int32) (h0 : Heap) (n0 : Nat) (v : Option Value) (h : Heap) (L : List Loc) : Prop := v = some (.int (f8 p64 p65 p66)) ∧ Fr n0 L ∧ h = h0
set_option maxRecDepth 65536 in
set_option maxHeartbeats 40000000 in
theorem rm8 (l : Launch) (Z : State) (a0 : Array Value) (hw : ∀ d ∈ tables_1, d.before a0 Z = true) (ws : List Jvm.Cond) (p64 : Int32) (p65 : Int32) (p66 : Int32) (h0 : Heap) (n0 : Nat) (Z0 : n0 ≤ h0.size)  :
    MetFree l (⟨"com/example/libclause/libclause/search/AllDocumentsIteratorAdvancePinLaw", "expected", "(III)I"⟩ : MethodName) (head1 (Jvm.Cond.code (⟨"com/example/libclause/libclause/search/AllDocumentsIteratorAdvancePinLaw", "expected", "(III)I"⟩ : MethodName) method_4_code 4 (some .int) :: ws) ({ frames := 1, cells := 0, slots := 0, locals := 13 } : Room)) (fun a U => a = #[(.int p64), (.int p65), (.int p66)] ∧ Z.Warmed39 U.vm ∧ U.heap = h0) (fun _ _ _ _ _ => True) (fun _ U o U' => ∃ v L, o = .returned v ∧ Q8 Z p64 p65 p66 h0 n0 v U'.heap L ∧ FrameEnd U o U' L ({ frames := 1, cells := 0, slots := 0, locals := 13 } : Room).cells ({ frames := 1, cells := 0, slots := 0, locals := 13 } : Room).slots) := by
  refine MetFree.of_bodySF (plainFor_of_name pn_4) hisR ?_
  intro p e s m args below meth c s₁ Bd hml0 hP hK
  obtain ⟨rfl, hZ, hh⟩ := hP
  have hx := Bd.exec
  have hby := Bd.bytes
  have hml : c.maxLocals = 4 := hml0
  have hown : s.vm.findClass "com/example/libclause/libclause/search/AllDocumentsIteratorAdvancePinLaw" = some m.cls := findClass_of_methodNamed Bd.named
  have hnm := (name_of_methodNamed Bd.named Bd.method).1
  have X0 : Stand p l e ({ frames := 1, cells := 0, slots := 0, locals := 13 } : Room) s m #[(.int p64), (.int p65), (.int p66)] below meth c s₁ [] 0 0 := Stand.of_body Bd
  have e0 : s₁.heap = h0 := by rw [← hh, Bd.state]; rfl
  have N0 := Fr.nil n0
  have pre0 : ∀ t, Steps p.tables e below (s₁.setTop (mkF m 0 #[.val (.int p64), .val (.int p65), .val (.int p66), .unset] [])) t → Steps p.tables e below (s₁.setTop (entryFrame m #[(.int p64), (.int p65), (.int p66)] 4)) t := fun t k => castTop (ef_8 m p64 p65 p66) k
  have S74 : ∀ t, Steps p.tables e below (s₁.setTop (mkF m 2 #[.val (.int p64), .val (.int p65), .val (.int p66), .unset] [(.int p66), (.int p65)])) t → Steps p.tables e below (s₁.setTop (entryFrame m #[(.int p64), (.int p65), (.int p66)] 4)) t := by
    intro t k
    refine pre0 t ?_
    refine XS.iloadN X0.here hx rfl (hb hby d8_0) rfl ?_
    show Steps p.tables e below (s₁.setTop (mkF m 1 #[.val (.int p64), .val (.int p65), .val (.int p66), .unset] [(.int p65)])) _
    refine XS.iloadN X0.here hx rfl (hb hby d8_1) rfl ?_
    show Steps p.tables e below (s₁.setTop (mkF m 2 #[.val (.int p64), .val (.int p65), .val (.int p66), .unset] [(.int p66), (.int p65)])) _
    exact k
  have S76 : ∀ t, Steps p.tables e below (s₁.setTop (mkF m 11 #[.val (.int p64), .val (.int p65), .val (.int p66), .unset] [(.int (if p65 < p66 then p65 else (2147483647 : Int32)))])) t → Steps p.tables e below (s₁.setTop (entryFrame m #[(.int p64), (.int p65), (.int p66)] 4)) t := by
    intro t k
    refine S74 t ?_
    by_cases hc75 : p65 < p66
    · rw [if_pos hc75] at k
      refine XS.icmpNo X0.here hx rfl (hb hby d8_2) rfl (tlt hc75).2.1 ?_
      show Steps p.tables e below (s₁.setTop (mkF m 5 #[.val (.int p64), .val (.int p65), .val (.int p66), .unset] [])) _
      refine XS.iloadN X0.here hx rfl (hb hby d8_5) rfl ?_
      show Steps p.tables e below (s₁.setTop (mkF m 6 #[.val (.int p64), .val (.int p65), .val (.int p66), .unset] [(.int p65)])) _
      refine XS.goto X0.here hx rfl (pc0 := 6) (pc' := 11) rfl (hb hby d8_6) (by decide) (by decide) ?_
      show Steps p.tables e below (s₁.setTop (mkF m 11 #[.val (.int p64), .val (.int p65), .val (.int p66), .unset] [(.int p65)])) _
      exact k
    · rw [if_neg hc75] at k
      refine XS.icmpYes X0.here hx rfl (pc0 := 2) (pc' := 9) rfl (hb hby d8_2) rfl (flt hc75).2.1 (by decide) (by decide) ?_
      show Steps p.tables e below (s₁.setTop (mkF m 9 #[.val (.int p64), .val (.int p65), .val (.int p66), .unset] [])) _
      refine X0.ldcInt hx hown (mvT hZ (hw _ (List.mem_of_getElem? (i := 0) rfl))) (g := (mkF m 9 #[.val (.int p64), .val (.int p65), .val (.int p66), .unset] [])) rfl (hb hby d8_9) _ ?_
      show Steps p.tables e below (s₁.setTop (mkF m 11 #[.val (.int p64), .val (.int p65), .val (.int p66), .unset] [(.int (2147483647 : Int32))])) _
      exact k
  obtain ⟨w77, hw77⟩ : ∃ z : Int32, z = (if p65 < p66 then p65 else (2147483647 : Int32)) := ⟨_, rfl⟩
  rw [← hw77] at S76
  obtain ⟨_, _, ⟨T78, L78, k78, n78⟩, -, X78, ⟨Lc78, hQ78, l78, y78, z78⟩, st78⟩ := Jvm.LawKit.callS X0 hx (y := (⟨"java/lang/Math", "max", "(II)I"⟩ : MethodName)) hown (mvT hZ (hw _ (List.mem_of_getElem? (i := 47) rfl))) (mvT hZ (hw _ (List.mem_of_getElem? (i := 48) rfl))) (mvT hZ (hw _ (List.mem_of_getElem? (i := 49) rfl))) (mvT hZ (hw _ (List.mem_of_getElem? (i := 50) rfl))) (by decide) (backOf (W := 0) (rm9 l Z a0 hw [] p64 w77 h0 n0 Z0) hZ (hw _ (List.mem_of_getElem? (i := 50) rfl)) (hw _ (List.mem_of_getElem? (i := 49) rfl)) (by decide) (by decide)) (g := (mkF m 14 #[.val (.int p64), .val (.int p65), .val (.int p66), .val (.int w77)] [(.int w77), (.int p64)])) rfl (by rw [hml]; rfl) (argsL := [(.int p64), (.int w77)]) (rest := []) (lenOf pd_3 rfl) rfl (by show 2 * 0 + _ ≤ _; exact Nat.le_of_eq rfl) (hb hby d8_14) (fun _ _ => ⟨rfl, e0, (by decide : 0 + 0 ≤ _), (by decide : 0 + 0 ≤ _)⟩)
  dsimp only [Pt.U, Pt.locs, Pt.cells, Pt.slots] at X78 l78 y78 z78 st78 hQ78
  subst l78 y78 z78
  obtain ⟨rfl, N78q, e78⟩ := hQ78
  have N78 := Fr.app N0 N78q
  have S79 : ∀ t, Steps p.tables e below (T78.setTop (mkF m 17 #[.val (.int p64), .val (.int p65), .val (.int p66), .val (.int w77)] [(.int (f9 p64 w77))])) t → Steps p.tables e below (s₁.setTop (entryFrame m #[(.int p64), (.int p65), (.int p66)] 4)) t := by
    intro t k
    refine S76 t ?_
    refine XS.istoreN X0.here hx rfl (hb hby d8_11) rfl (l' := #[.val (.int p64), .val (.int p65), .val (.int p66), .val (.int w77)]) rfl ?_
    show Steps p.tables e below (s₁.setTop (mkF m 12 #[.val (.int p64), .val (.int p65), .val (.int p66), .val (.int w77)] [])) _
    refine XS.iloadN X0.here hx rfl (hb hby d8_12) rfl ?_
    show Steps p.tables e below (s₁.setTop (mkF m 13 #[.val (.int p64), .val (.int p65), .val (.int p66), .val (.int w77)] [(.int p64)])) _
    refine XS.iloadN X0.here hx rfl (hb hby d8_13) rfl ?_
    show Steps p.tables e below (s₁.setTop (mkF m 14 #[.val (.int p64), .val (.int p65), .val (.int p66), .val (.int w77)] [(.int w77), (.int p64)])) _
    refine st78 _ ?_
    show Steps p.tables e below (T78.setTop (mkF m 17 #[.val (.int p64), .val (.int p65), .val (.int p66), .val (.int w77)] [(.int (f9 p64 w77))])) _
    exact k
  obtain ⟨w80, hw80⟩ : ∃ z : Int32, z = (f9 p64 w77) := ⟨_, rfl⟩
  rw [← hw80] at S79
  have hf : f8 p64 p65 p66 = w80 := by
    unfold f8
    subst hw77 hw80
    rfl
  obtain ⟨fs, hr, hrun, hended, hW, hsame⟩ := X78.leave (v := some (.int w80)) (fun h => by rw [Bd.returns] at h; cases h)
  refine ⟨_, _, S79 _ ?_, hrun, hended, _, _, rfl, ?_, ⟨_, rfl⟩, hW, hsame.mono (by decide) (by decide)⟩
  · exact retOut X78 hx Bd.returns rfl (Or.inl ⟨rfl, Or.inl rfl, _, rfl⟩) (hb hby d8_17) hr
  · show Q8 Z p64 p65 p66 h0 n0 _ T78.heap _
    rw [e78]
    exact ⟨by rw [hf], N78, rfl⟩
def f10_ret (p82 : Int32) (z_document : Int32) (z_documentCount : Int32) : Int32 := (if z_document < p82 then (if p82 < z_documentCount then p82 else (2147483647 : Int32)) else z_document)
def f10_document (p82 : Int32) (z_document : Int32) (z_documentCount : Int32) : Int32 := (if z_document < p82 then (if p82 < z_documentCount then p82 else (2147483647 : Int32)) else z_document)
def f10_documentCount (p82 : Int32) (z_document : Int32) (z_documentCount : Int32) : Int32 := (if z_document < p82 then z_documentCount else z_documentCount)
theorem d10_0 : decode prog_36_method_3_code 0 = .ok (.aload_n 0, 1) := by decide +kernel
theorem d10_1 : decode prog_36_method_3_code 1 = .ok (.getfield 7, 3) := by decide +kernel
theorem d10_4 : decode prog_36_method_3_code 4 = .ok (.iload_n 1, 1) := by decide +kernel
theorem d10_5 : decode prog_36_method_3_code 5 = .ok (.if_icmp .ge 21, 3) := by decide +kernel
theorem d10_8 : decode prog_36_method_3_code 8 = .ok (.aload_n 0, 1) := by decide +kernel
theorem d10_9 : decode prog_36_method_3_code 9 = .ok (.iload_n 1, 1) := by decide +kernel
theorem d10_10 : decode prog_36_method_3_code 10 = .ok (.aload_n 0, 1) := by decide +kernel
theorem d10_11 : decode prog_36_method_3_code 11 = .ok (.getfield 13, 3) := by decide +kernel
theorem d10_14 : decode prog_36_method_3_code 14 = .ok (.if_icmp .ge 7, 3) := by decide +kernel
theorem d10_17 : decode prog_36_method_3_code 17 = .ok (.iload_n 1, 1) := by decide +kernel
theorem d10_18 : decode prog_36_method_3_code 18 = .ok (.goto 5, 3) := by decide +kernel
theorem d10_21 : decode prog_36_method_3_code 21 = .ok (.ldc 22, 2) := by decide +kernel
theorem d10_23 : decode prog_36_method_3_code 23 = .ok (.putfield 7, 3) := by decide +kernel
theorem d10_26 : decode prog_36_method_3_code 26 = .ok (.aload_n 0, 1) := by decide +kernel
theorem d10_27 : decode prog_36_method_3_code 27 = .ok (.getfield 7, 3) := by decide +kernel
theorem d10_30 : decode prog_36_method_3_code 30 = .ok (.ireturn, 1) := by decide +kernel
theorem ef_10 (m : MethodId) (x0 : Addr) (x1 : Int32) : entryFrame m #[(.ref x0), (.int x1)] 2 = mkF m 0 #[.val (.ref x0), .val (.int x1)] [] := by first | (simp [entryFrame, mkF, argsToLocals, Value.category]; done) | rfl
def Q10 (Z : State) (a81 : Addr) (p82 : Int32) (z_document : Int32) (z_documentCount : Int32) (z_matchAll : Addr) (h0 : Heap) (n0 : Nat) (v : Option Value) (h : Heap) (L : List Loc) : Prop := v = some (.int (f10_ret p82 z_document z_documentCount)) ∧ Fr n0 L ∧ Keep h0 h [a81] ∧ Exa Z h a81 "com/example/libclause/libclause/search/AllDocumentsIterator" ∧ Fld Z h a81 "com/example/libclause/libclause/search/AllDocumentsIterator" "document" "I" (.int (f10_document p82 z_document z_documentCount)) ∧ Fld Z h a81 "com/example/libclause/libclause/search/AllDocumentsIterator" "documentCount" "I" (.int (f10_documentCount p82 z_document z_documentCount)) ∧ Fld Z h a81 "com/example/libclause/libclause/search/AllDocumentsIterator" "matchAll" "Lcom/example/libclause/libclause/query/MatchAll;" (.ref z_matchAll)
set_option maxRecDepth 65536 in
set_option maxHeartbeats 40000000 in
theorem rm10 (l : Launch) (Z : State) (a0 : Array Value) (hw : ∀ d ∈ tables_1, d.before a0 Z = true) (ws : List Jvm.Cond) (a81 : Addr) (p82 : Int32) (z_document : Int32) (z_documentCount : Int32) (z_matchAll : Addr) (h0 : Heap) (n0 : Nat) (Z0 : n0 ≤ h0.size) (E1 : Exa Z h0 a81 "com/example/libclause/libclause/search/AllDocumentsIterator") (F_document_a81 : Fld Z h0 a81 "com/example/libclause/libclause/search/AllDocumentsIterator" "document" "I" (.int z_document)) (F_documentCount_a81 : Fld Z h0 a81 "com/example/libclause/libclause/search/AllDocumentsIterator" "documentCount" "I" (.int z_documentCount)) (F_matchAll_a81 : Fld Z h0 a81 "com/example/libclause/libclause/search/AllDocumentsIterator" "matchAll" "Lcom/example/libclause/libclause/query/MatchAll;" (.ref z_matchAll)) (g1 : n0 ≤ a81) :
    MetFree l (⟨"com/example/libclause/libclause/search/AllDocumentsIterator", "advance", "(I)I"⟩ : MethodName) (head1 (Jvm.Cond.code (⟨"com/example/libclause/libclause/search/AllDocumentsIterator", "advance", "(I)I"⟩ : MethodName) prog_36_method_3_code 2 (some .int) :: ws) ({ frames := 0, cells := 0, slots := 0, locals := 0 } : Room)) (fun a U => a = #[(.ref a81), (.int p82)] ∧ Z.Warmed39 U.vm ∧ U.heap = h0) (fun _ _ _ _ _ => True) (fun _ U o U' => ∃ v L, o = .returned v ∧ Q10 Z a81 p82 z_document z_documentCount z_matchAll h0 n0 v U'.heap L ∧ FrameEnd U o U' L ({ frames := 0, cells := 0, slots := 0, locals := 0 } : Room).cells ({ frames := 0, cells := 0, slots := 0, locals := 0 } : Room).slots) := by
  refine MetFree.of_bodySF (plainFor_of_name pn_3) hisR ?_
  intro p e s m args below meth c s₁ Bd hml0 hP hK
  obtain ⟨rfl, hZ, hh⟩ := hP
  have hx := Bd.exec
  have hby := Bd.bytes
  have hml : c.maxLocals = 2 := hml0
  have hown : s.vm.findClass "com/example/libclause/libclause/search/AllDocumentsIterator" = some m.cls := findClass_of_methodNamed Bd.named
  have hnm := (name_of_methodNamed Bd.named Bd.method).1
  have X0 : Stand p l e ({ frames := 0, cells := 0, slots := 0, locals := 0 } : Room) s m #[(.ref a81), (.int p82)] below meth c s₁ [] 0 0 := Stand.of_body Bd
  have e0 : s₁.heap = h0 := by rw [← hh, Bd.state]; rfl
  have N0 := Fr.nil n0
  have pre0 : ∀ t, Steps p.tables e below (s₁.setTop (mkF m 0 #[.val (.ref a81), .val (.int p82)] [])) t → Steps p.tables e below (s₁.setTop (entryFrame m #[(.ref a81), (.int p82)] 2)) t := fun t k => castTop (ef_10 m a81 p82) k
  obtain ⟨T83, X83, e83, st83⟩ := getF X0 hx hZ hown (host := "") (Or.inl (hw _ (List.mem_of_getElem? (i := 32) rfl))) Via.refl e0 F_document_a81 (g := (mkF m 1 #[.val (.ref a81), .val (.int p82)] [(.ref a81)])) rfl rfl (hb hby d10_1)
  have S84 : ∀ t, Steps p.tables e below (T83.setTop (mkF m 5 #[.val (.ref a81), .val (.int p82)] [(.int p82), (.int z_document)])) t → Steps p.tables e below (s₁.setTop (entryFrame m #[(.ref a81), (.int p82)] 2)) t := by
    intro t k
    refine pre0 t ?_
    refine XS.aloadN X0.here hx rfl (hb hby d10_0) rfl rfl ?_
    show Steps p.tables e below (s₁.setTop (mkF m 1 #[.val (.ref a81), .val (.int p82)] [(.ref a81)])) _
    refine st83 _ ?_
    show Steps p.tables e below (T83.setTop (mkF m 4 #[.val (.ref a81), .val (.int p82)] [(.int z_document)])) _
    refine XS.iloadN X83.here hx rfl (hb hby d10_4) rfl ?_
    show Steps p.tables e below (T83.setTop (mkF m 5 #[.val (.ref a81), .val (.int p82)] [(.int p82), (.int z_document)])) _
    exact k
  by_cases hc85 : z_document < p82
  · obtain ⟨T86, X86, e86, st86⟩ := getF X83 hx hZ hown (host := "") (Or.inl (hw _ (List.mem_of_getElem? (i := 34) rfl))) Via.refl e83 F_documentCount_a81 (g := (mkF m 11 #[.val (.ref a81), .val (.int p82)] [(.ref a81), (.int p82), (.ref a81)])) rfl rfl (hb hby d10_11)
    have S87 : ∀ t, Steps p.tables e below (T86.setTop (mkF m 14 #[.val (.ref a81), .val (.int p82)] [(.int z_documentCount), (.int p82), (.ref a81)])) t → Steps p.tables e below (s₁.setTop (entryFrame m #[(.ref a81), (.int p82)] 2)) t := by
      intro t k
      refine S84 t ?_
      refine XS.icmpNo X83.here hx rfl (hb hby d10_5) rfl (tlt hc85).2.1 ?_
      show Steps p.tables e below (T83.setTop (mkF m 8 #[.val (.ref a81), .val (.int p82)] [])) _
      refine XS.aloadN X83.here hx rfl (hb hby d10_8) rfl rfl ?_
      show Steps p.tables e below (T83.setTop (mkF m 9 #[.val (.ref a81), .val (.int p82)] [(.ref a81)])) _
      refine XS.iloadN X83.here hx rfl (hb hby d10_9) rfl ?_
      show Steps p.tables e below (T83.setTop (mkF m 10 #[.val (.ref a81), .val (.int p82)] [(.int p82), (.ref a81)])) _
      refine XS.aloadN X83.here hx rfl (hb hby d10_10) rfl rfl ?_
      show Steps p.tables e below (T83.setTop (mkF m 11 #[.val (.ref a81), .val (.int p82)] [(.ref a81), (.int p82), (.ref a81)])) _
      refine st86 _ ?_
      show Steps p.tables e below (T86.setTop (mkF m 14 #[.val (.ref a81), .val (.int p82)] [(.int z_documentCount), (.int p82), (.ref a81)])) _
      exact k
    have S89 : ∀ t, Steps p.tables e below (T86.setTop (mkF m 23 #[.val (.ref a81), .val (.int p82)] [(.int (if p82 < z_documentCount then p82 else (2147483647 : Int32))), (.ref a81)])) t → Steps p.tables e below (s₁.setTop (entryFrame m #[(.ref a81), (.int p82)] 2)) t := by
      intro t k
      refine S87 t ?_
      by_cases hc88 : p82 < z_documentCount
      · rw [if_pos hc88] at k
        refine XS.icmpNo X86.here hx rfl (hb hby d10_14) rfl (tlt hc88).2.1 ?_
        show Steps p.tables e below (T86.setTop (mkF m 17 #[.val (.ref a81), .val (.int p82)] [(.ref a81)])) _
        refine XS.iloadN X86.here hx rfl (hb hby d10_17) rfl ?_
        show Steps p.tables e below (T86.setTop (mkF m 18 #[.val (.ref a81), .val (.int p82)] [(.int p82), (.ref a81)])) _
        refine XS.goto X86.here hx rfl (pc0 := 18) (pc' := 23) rfl (hb hby d10_18) (by decide) (by decide) ?_
        show Steps p.tables e below (T86.setTop (mkF m 23 #[.val (.ref a81), .val (.int p82)] [(.int p82), (.ref a81)])) _
        exact k
      · rw [if_neg hc88] at k
        refine XS.icmpYes X86.here hx rfl (pc0 := 14) (pc' := 21) rfl (hb hby d10_14) rfl (flt hc88).2.1 (by decide) (by decide) ?_
        show Steps p.tables e below (T86.setTop (mkF m 21 #[.val (.ref a81), .val (.int p82)] [(.ref a81)])) _
        refine X86.ldcInt hx hown (mvT hZ (hw _ (List.mem_of_getElem? (i := 56) rfl))) (g := (mkF m 21 #[.val (.ref a81), .val (.int p82)] [(.ref a81)])) rfl (hb hby d10_21) _ ?_
        show Steps p.tables e below (T86.setTop (mkF m 23 #[.val (.ref a81), .val (.int p82)] [(.int (2147483647 : Int32)), (.ref a81)])) _
        exact k
    obtain ⟨w90, hw90⟩ : ∃ z : Int32, z = (if p82 < z_documentCount then p82 else (2147483647 : Int32)) := ⟨_, rfl⟩
    rw [← hw90] at S89
    obtain ⟨T91, h91, X91, e91, W91, st91⟩ := putF X86 hx hZ hown (host := "") (Or.inl (hw _ (List.mem_of_getElem? (i := 32) rfl))) Via.refl e86 F_document_a81 E1 (Or.inl (hw _ (List.mem_of_getElem? (i := 33) rfl))) (hw _ (List.mem_of_getElem? (i := 2) rfl)) (ty := .int) (by decide) rfl rfl (g := (mkF m 23 #[.val (.ref a81), .val (.int p82)] [(.int w90), (.ref a81)])) rfl rfl (hb hby d10_23)
    have f92 : Exa Z h91 a81 "com/example/libclause/libclause/search/AllDocumentsIterator" := E1.wr W91
    have f93 : Fld Z h91 a81 "com/example/libclause/libclause/search/AllDocumentsIterator" "document" "I" (.int w90) := F_document_a81.same W91
    have f94 : Fld Z h91 a81 "com/example/libclause/libclause/search/AllDocumentsIterator" "documentCount" "I" (.int z_documentCount) := F_documentCount_a81.other W91 (Or.inr (slot_ne (Or.inr (hw _ (List.mem_of_getElem? (i := 35) rfl))) (Or.inl (hw _ (List.mem_of_getElem? (i := 33) rfl))) (by decide) (t := .int) (t' := .int) (by decide) (by decide)))
    have f95 : Fld Z h91 a81 "com/example/libclause/libclause/search/AllDocumentsIterator" "matchAll" "Lcom/example/libclause/libclause/query/MatchAll;" (.ref z_matchAll) := F_matchAll_a81.other W91 (Or.inr (slot_ne (Or.inr (hw _ (List.mem_of_getElem? (i := 37) rfl))) (Or.inl (hw _ (List.mem_of_getElem? (i := 33) rfl))) (by decide) (t := (.object "com/example/libclause/libclause/query/MatchAll")) (t' := .int) (by decide) (by decide)))
    have N96 := Fr.snoc X91 N0 g1
    have K97 : Keep h0 h91 [a81] := (Keep.refl h0 [a81]).wr W91 (Or.inl (List.mem_of_getElem? (i := 0) rfl))
    have Z98 : n0 ≤ h91.size := Nat.le_trans Z0 (Keep.of_wr W91).1
    obtain ⟨T99, X99, e99, st99⟩ := getF X91 hx hZ hown (host := "") (Or.inl (hw _ (List.mem_of_getElem? (i := 32) rfl))) Via.refl e91 f93 (g := (mkF m 27 #[.val (.ref a81), .val (.int p82)] [(.ref a81)])) rfl rfl (hb hby d10_27)
    have S100 : ∀ t, Steps p.tables e below (T99.setTop (mkF m 30 #[.val (.ref a81), .val (.int p82)] [(.int w90)])) t → Steps p.tables e below (s₁.setTop (entryFrame m #[(.ref a81), (.int p82)] 2)) t := by
      intro t k
      refine S89 t ?_
      refine st91 _ ?_
      show Steps p.tables e below (T91.setTop (mkF m 26 #[.val (.ref a81), .val (.int p82)] [])) _
      refine XS.aloadN X91.here hx rfl (hb hby d10_26) rfl rfl ?_
      show Steps p.tables e below (T91.setTop (mkF m 27 #[.val (.ref a81), .val (.int p82)] [(.ref a81)])) _
      refine st99 _ ?_
      show Steps p.tables e below (T99.setTop (mkF m 30 #[.val (.ref a81), .val (.int p82)] [(.int w90)])) _
      exact k
    have hf_ret : f10_ret p82 z_document z_documentCount = w90 := by
      unfold f10_ret
      subst hw90
      first | rfl | (rw [if_pos hc85])
    have hf_document : f10_document p82 z_document z_documentCount = w90 := by
      unfold f10_document
      subst hw90
      first | rfl | (rw [if_pos hc85])
    have hf_documentCount : f10_documentCount p82 z_document z_documentCount = z_documentCount := by
      unfold f10_documentCount
      subst hw90
      first | rfl | (rw [if_pos hc85])
    obtain ⟨fs, hr, hrun, hended, hW, hsame⟩ := X99.leave (v := some (.int w90)) (fun h => by rw [Bd.returns] at h; cases h)
    refine ⟨_, _, S100 _ ?_, hrun, hended, _, _, rfl, ?_, ⟨_, rfl⟩, hW, hsame.mono (by decide) (by decide)⟩
    · exact retOut X99 hx Bd.returns rfl (Or.inl ⟨rfl, Or.inl rfl, _, rfl⟩) (hb hby d10_30) hr
    · show Q10 Z a81 p82 z_document z_documentCount z_matchAll h0 n0 _ T99.heap _
      rw [e99]
      exact ⟨by rw [hf_ret], N96, K97, f92, by rw [hf_document]; exact f93, by rw [hf_documentCount]; exact f94, f95⟩
  · obtain ⟨T101, X101, e101, st101⟩ := getF X83 hx hZ hown (host := "") (Or.inl (hw _ (List.mem_of_getElem? (i := 32) rfl))) Via.refl e83 F_document_a81 (g := (mkF m 27 #[.val (.ref a81), .val (.int p82)] [(.ref a81)])) rfl rfl (hb hby d10_27)
    have S102 : ∀ t, Steps p.tables e below (T101.setTop (mkF m 30 #[.val (.ref a81), .val (.int p82)] [(.int z_document)])) t → Steps p.tables e below (s₁.setTop (entryFrame m #[(.ref a81), (.int p82)] 2)) t := by
      intro t k
      refine S84 t ?_
      refine XS.icmpYes X83.here hx rfl (pc0 := 5) (pc' := 26) rfl (hb hby d10_5) rfl (flt hc85).2.1 (by decide) (by decide) ?_
      show Steps p.tables e below (T83.setTop (mkF m 26 #[.val (.ref a81), .val (.int p82)] [])) _
      refine XS.aloadN X83.here hx rfl (hb hby d10_26) rfl rfl ?_
      show Steps p.tables e below (T83.setTop (mkF m 27 #[.val (.ref a81), .val (.int p82)] [(.ref a81)])) _
      refine st101 _ ?_
      show Steps p.tables e below (T101.setTop (mkF m 30 #[.val (.ref a81), .val (.int p82)] [(.int z_document)])) _
      exact k
    have hf_ret : f10_ret p82 z_document z_documentCount = z_document := by
      unfold f10_ret
      first | rfl | (rw [if_neg hc85])
    have hf_document : f10_document p82 z_document z_documentCount = z_document := by
      unfold f10_document
      first | rfl | (rw [if_neg hc85])
    have hf_documentCount : f10_documentCount p82 z_document z_documentCount = z_documentCount := by
      unfold f10_documentCount
      first | rfl | (rw [if_neg hc85])
    obtain ⟨fs, hr, hrun, hended, hW, hsame⟩ := X101.leave (v := some (.int z_document)) (fun h => by rw [Bd.returns] at h; cases h)
    refine ⟨_, _, S102 _ ?_, hrun, hended, _, _, rfl, ?_, ⟨_, rfl⟩, hW, hsame.mono (by decide) (by decide)⟩
    · exact retOut X101 hx Bd.returns rfl (Or.inl ⟨rfl, Or.inl rfl, _, rfl⟩) (hb hby d10_30) hr
    · show Q10 Z a81 p82 z_document z_documentCount z_matchAll h0 n0 _ T101.heap _
      rw [e101]
      exact ⟨by rw [hf_ret], N0, (Keep.refl h0 [a81]), E1, by rw [hf_document]; exact F_document_a81, by rw [hf_documentCount]; exact F_documentCount_a81, F_matchAll_a81⟩
def f12 (q103 : Int64) (q104 : Int64) : Int64 := (if (0 : Int32) < (lcmpW q103 q104) then q104 else q103)
theorem d12_0 : decode jdk_29_method_70_code 0 = .ok (.lload_n 0, 1) := by decide +kernel
theorem d12_1 : decode jdk_29_method_70_code 1 = .ok (.lload_n 2, 1) := by decide +kernel
theorem d12_2 : decode jdk_29_method_70_code 2 = .ok (.lcmp, 1) := by decide +kernel
theorem d12_3 : decode jdk_29_method_70_code 3 = .ok (.ifCond .gt 7, 3) := by decide +kernel
theorem d12_6 : decode jdk_29_method_70_code 6 = .ok (.lload_n 0, 1) := by decide +kernel
theorem d12_7 : decode jdk_29_method_70_code 7 = .ok (.goto 4, 3) := by decide +kernel
theorem d12_10 : decode jdk_29_method_70_code 10 = .ok (.lload_n 2, 1) := by decide +kernel
theorem d12_11 : decode jdk_29_method_70_code 11 = .ok (.lreturn, 1) := by decide +kernel
theorem ef_12 (m : MethodId) (x0 : Int64) (x1 : Int64) : entryFrame m #[(.long x0), (.long x1)] 4 = mkF m 0 #[.val (.long x0), .second, .val (.long x1), .second] [] := by first | (simp [entryFrame, mkF, argsToLocals, Value.category]; done) | rfl
def Q12 (Z : State) (q103 : Int64) (q104 : Int64) (h0 : Heap) (n0 : Nat) (v : Option Value) (h : Heap) (L : List Loc) : Prop := v = some (.long (f12 q103 q104)) ∧ Fr n0 L ∧ h = h0
set_option maxRecDepth 65536 in
set_option maxHeartbeats 40000000 in
theorem rm12 (l : Launch) (Z : State) (a0 : Array Value) (hw : ∀ d ∈ tables_1, d.before a0 Z = true) (ws : List Jvm.Cond) (q103 : Int64) (q104 : Int64) (h0 : Heap) (n0 : Nat) (Z0 : n0 ≤ h0.size)  :
    MetFree l (⟨"java/lang/Math", "min", "(JJ)J"⟩ : MethodName) (head1 (Jvm.Cond.code (⟨"java/lang/Math", "min", "(JJ)J"⟩ : MethodName) jdk_29_method_70_code 4 (some .long) :: ws) ({ frames := 0, cells := 0, slots := 0, locals := 0 } : Room)) (fun a U => a = #[(.long q103), (.long q104)] ∧ Z.Warmed39 U.vm ∧ U.heap = h0) (fun _ _ _ _ _ => True) (fun _ U o U' => ∃ v L, o = .returned v ∧ Q12 Z q103 q104 h0 n0 v U'.heap L ∧ FrameEnd U o U' L ({ frames := 0, cells := 0, slots := 0, locals := 0 } : Room).cells ({ frames := 0, cells := 0, slots := 0, locals := 0 } : Room).slots) := by
  refine MetFree.of_bodySF (Jvm.Free.JP.mathPlain rfl (by decide +kernel)) hisR ?_
  intro p e s m args below meth c s₁ Bd hml0 hP hK
  obtain ⟨rfl, hZ, hh⟩ := hP
  have hx := Bd.exec
  have hby := Bd.bytes
  have hml : c.maxLocals = 4 := hml0
  have hown : s.vm.findClass "java/lang/Math" = some m.cls := findClass_of_methodNamed Bd.named
  have hnm := (name_of_methodNamed Bd.named Bd.method).1
  have X0 : Stand p l e ({ frames := 0, cells := 0, slots := 0, locals := 0 } : Room) s m #[(.long q103), (.long q104)] below meth c s₁ [] 0 0 := Stand.of_body Bd
  have e0 : s₁.heap = h0 := by rw [← hh, Bd.state]; rfl
  have N0 := Fr.nil n0
  have pre0 : ∀ t, Steps p.tables e below (s₁.setTop (mkF m 0 #[.val (.long q103), .second, .val (.long q104), .second] [])) t → Steps p.tables e below (s₁.setTop (entryFrame m #[(.long q103), (.long q104)] 4)) t := fun t k => castTop (ef_12 m q103 q104) k
  have S110 : ∀ t, Steps p.tables e below (s₁.setTop (mkF m 3 #[.val (.long q103), .second, .val (.long q104), .second] [(.int (lcmpW q103 q104))])) t → Steps p.tables e below (s₁.setTop (entryFrame m #[(.long q103), (.long q104)] 4)) t := by
    intro t k
    refine pre0 t ?_
    refine XS.lloadN X0.here hx rfl (hb hby d12_0) rfl ?_
    show Steps p.tables e below (s₁.setTop (mkF m 1 #[.val (.long q103), .second, .val (.long q104), .second] [(.long q103)])) _
    refine XS.lloadN X0.here hx rfl (hb hby d12_1) rfl ?_
    show Steps p.tables e below (s₁.setTop (mkF m 2 #[.val (.long q103), .second, .val (.long q104), .second] [(.long q104), (.long q103)])) _
    refine XS.lcmp X0.here hx rfl (hb hby d12_2) rfl ?_
    show Steps p.tables e below (s₁.setTop (mkF m 3 #[.val (.long q103), .second, .val (.long q104), .second] [(.int (lcmpW q103 q104))])) _
    exact k
  obtain ⟨w111, hw111⟩ : ∃ z : Int32, z = (lcmpW q103 q104) := ⟨_, rfl⟩
  rw [← hw111] at S110
  have S113 : ∀ t, Steps p.tables e below (s₁.setTop (mkF m 11 #[.val (.long q103), .second, .val (.long q104), .second] [(.long (if (0 : Int32) < w111 then q104 else q103))])) t → Steps p.tables e below (s₁.setTop (entryFrame m #[(.long q103), (.long q104)] 4)) t := by
    intro t k
    refine S110 t ?_
    by_cases hc112 : (0 : Int32) < w111
    · rw [if_pos hc112] at k
      refine XS.ifYes X0.here hx rfl (pc0 := 3) (pc' := 10) rfl (hb hby d12_3) rfl ((if0 _ _).trans (tlt hc112).2.2.1) (by decide) (by decide) ?_
      show Steps p.tables e below (s₁.setTop (mkF m 10 #[.val (.long q103), .second, .val (.long q104), .second] [])) _
      refine XS.lloadN X0.here hx rfl (hb hby d12_10) rfl ?_
      show Steps p.tables e below (s₁.setTop (mkF m 11 #[.val (.long q103), .second, .val (.long q104), .second] [(.long q104)])) _
      exact k
    · rw [if_neg hc112] at k
      refine XS.ifNo X0.here hx rfl (hb hby d12_3) rfl ((if0 _ _).trans (flt hc112).2.2.1) ?_
      show Steps p.tables e below (s₁.setTop (mkF m 6 #[.val (.long q103), .second, .val (.long q104), .second] [])) _
      refine XS.lloadN X0.here hx rfl (hb hby d12_6) rfl ?_
      show Steps p.tables e below (s₁.setTop (mkF m 7 #[.val (.long q103), .second, .val (.long q104), .second] [(.long q103)])) _
      refine XS.goto X0.here hx rfl (pc0 := 7) (pc' := 11) rfl (hb hby d12_7) (by decide) (by decide) ?_
      show Steps p.tables e below (s₁.setTop (mkF m 11 #[.val (.long q103), .second, .val (.long q104), .second] [(.long q103)])) _
      exact k
  obtain ⟨w114, hw114⟩ : ∃ z : Int64, z = (if (0 : Int32) < w111 then q104 else q103) := ⟨_, rfl⟩
  rw [← hw114] at S113
  have hf : f12 q103 q104 = w114 := by
    unfold f12
    subst hw111 hw114
    rfl
  obtain ⟨fs, hr, hrun, hended, hW, hsame⟩ := X0.leave (v := some (.long w114)) (fun h => by rw [Bd.returns] at h; cases h)
  refine ⟨_, _, S113 _ ?_, hrun, hended, _, _, rfl, ?_, ⟨_, rfl⟩, hW, hsame.mono (by decide) (by decide)⟩
  · exact retOut X0 hx Bd.returns rfl (Or.inr (Or.inl ⟨rfl, rfl, _, rfl⟩)) (hb hby d12_11) hr
  · show Q12 Z q103 q104 h0 n0 _ s₁.heap _
    rw [e0]
    exact ⟨by rw [hf], N0, rfl⟩
def f13 (q115 : Int64) (q116 : Int64) : Int64 := (if (lcmpW q115 q116) < (0 : Int32) then q116 else q115)
theorem d13_0 : decode jdk_29_method_66_code 0 = .ok (.lload_n 0, 1) := by decide +kernel
theorem d13_1 : decode jdk_29_method_66_code 1 = .ok (.lload_n 2, 1) := by decide +kernel
theorem d13_2 : decode jdk_29_method_66_code 2 = .ok (.lcmp, 1) := by decide +kernel
theorem d13_3 : decode jdk_29_method_66_code 3 = .ok (.ifCond .lt 7, 3) := by decide +kernel
theorem d13_6 : decode jdk_29_method_66_code 6 = .ok (.lload_n 0, 1) := by decide +kernel
theorem d13_7 : decode jdk_29_method_66_code 7 = .ok (.goto 4, 3) := by decide +kernel
theorem d13_10 : decode jdk_29_method_66_code 10 = .ok (.lload_n 2, 1) := by decide +kernel
theorem d13_11 : decode jdk_29_method_66_code 11 = .ok (.lreturn, 1) := by decide +kernel
theorem ef_13 (m : MethodId) (x0 : Int64) (x1 : Int64) : entryFrame m #[(.long x0), (.long x1)] 4 = mkF m 0 #[.val (.long x0), .second, .val (.long x1), .second] [] := by first | (simp [entryFrame, mkF, argsToLocals, Value.category]; done) | rfl
def Q13 (Z : State) (q115 : Int64) (q116 : Int64) (h0 : Heap) (n0 : Nat) (v : Option Value) (h : Heap) (L : List Loc) : Prop := v = some (.long (f13 q115 q116)) ∧ Fr n0 L ∧ h = h0
set_option maxRecDepth 65536 in
set_option maxHeartbeats 40000000 in
theorem rm13 (l : Launch) (Z : State) (a0 : Array Value) (hw : ∀ d ∈ tables_1, d.before a0 Z = true) (ws : List Jvm.Cond) (q115 : Int64) (q116 : Int64) (h0 : Heap) (n0 : Nat) (Z0 : n0 ≤ h0.size)  :
    MetFree l (⟨"java/lang/Math", "max", "(JJ)J"⟩ : MethodName) (head1 (Jvm.Cond.code (⟨"java/lang/Math", "max", "(JJ)J"⟩ : MethodName) jdk_29_method_66_code 4 (some .long) :: ws) ({ frames := 0, cells := 0, slots := 0, locals := 0 } : Room)) (fun a U => a = #[(.long q115), (.long q116)] ∧ Z.Warmed39 U.vm ∧ U.heap = h0) (fun _ _ _ _ _ => True) (fun _ U o U' => ∃ v L, o = .returned v ∧ Q13 Z q115 q116 h0 n0 v U'.heap L ∧ FrameEnd U o U' L ({ frames := 0, cells := 0, slots := 0, locals := 0 } : Room).cells ({ frames := 0, cells := 0, slots := 0, locals := 0 } : Room).slots) := by
  refine MetFree.of_bodySF (Jvm.Free.JP.mathPlain rfl (by decide +kernel)) hisR ?_
  intro p e s m args below meth c s₁ Bd hml0 hP hK
  obtain ⟨rfl, hZ, hh⟩ := hP
  have hx := Bd.exec
  have hby := Bd.bytes
  have hml : c.maxLocals = 4 := hml0
  have hown : s.vm.findClass "java/lang/Math" = some m.cls := findClass_of_methodNamed Bd.named
  have hnm := (name_of_methodNamed Bd.named Bd.method).1
  have X0 : Stand p l e ({ frames := 0, cells := 0, slots := 0, locals := 0 } : Room) s m #[(.long q115), (.long q116)] below meth c s₁ [] 0 0 := Stand.of_body Bd
  have e0 : s₁.heap = h0 := by rw [← hh, Bd.state]; rfl
  have N0 := Fr.nil n0
  have pre0 : ∀ t, Steps p.tables e below (s₁.setTop (mkF m 0 #[.val (.long q115), .second, .val (.long q116), .second] [])) t → Steps p.tables e below (s₁.setTop (entryFrame m #[(.long q115), (.long q116)] 4)) t := fun t k => castTop (ef_13 m q115 q116) k
  have S122 : ∀ t, Steps p.tables e below (s₁.setTop (mkF m 3 #[.val (.long q115), .second, .val (.long q116), .second] [(.int (lcmpW q115 q116))])) t → Steps p.tables e below (s₁.setTop (entryFrame m #[(.long q115), (.long q116)] 4)) t := by
    intro t k
    refine pre0 t ?_
    refine XS.lloadN X0.here hx rfl (hb hby d13_0) rfl ?_
    show Steps p.tables e below (s₁.setTop (mkF m 1 #[.val (.long q115), .second, .val (.long q116), .second] [(.long q115)])) _
    refine XS.lloadN X0.here hx rfl (hb hby d13_1) rfl ?_
    show Steps p.tables e below (s₁.setTop (mkF m 2 #[.val (.long q115), .second, .val (.long q116), .second] [(.long q116), (.long q115)])) _
    refine XS.lcmp X0.here hx rfl (hb hby d13_2) rfl ?_
    show Steps p.tables e below (s₁.setTop (mkF m 3 #[.val (.long q115), .second, .val (.long q116), .second] [(.int (lcmpW q115 q116))])) _
    exact k
  obtain ⟨w123, hw123⟩ : ∃ z : Int32, z = (lcmpW q115 q116) := ⟨_, rfl⟩
  rw [← hw123] at S122
  have S125 : ∀ t, Steps p.tables e below (s₁.setTop (mkF m 11 #[.val (.long q115), .second, .val (.long q116), .second] [(.long (if w123 < (0 : Int32) then q116 else q115))])) t → Steps p.tables e below (s₁.setTop (entryFrame m #[(.long q115), (.long q116)] 4)) t := by
    intro t k
    refine S122 t ?_
    by_cases hc124 : w123 < (0 : Int32)
    · rw [if_pos hc124] at k
      refine XS.ifYes X0.here hx rfl (pc0 := 3) (pc' := 10) rfl (hb hby d13_3) rfl ((if0 _ _).trans (tlt hc124).1) (by decide) (by decide) ?_
      show Steps p.tables e below (s₁.setTop (mkF m 10 #[.val (.long q115), .second, .val (.long q116), .second] [])) _
      refine XS.lloadN X0.here hx rfl (hb hby d13_10) rfl ?_
      show Steps p.tables e below (s₁.setTop (mkF m 11 #[.val (.long q115), .second, .val (.long q116), .second] [(.long q116)])) _
      exact k
    · rw [if_neg hc124] at k
      refine XS.ifNo X0.here hx rfl (hb hby d13_3) rfl ((if0 _ _).trans (flt hc124).1) ?_
      show Steps p.tables e below (s₁.setTop (mkF m 6 #[.val (.long q115), .second, .val (.long q116), .second] [])) _
      refine XS.lloadN X0.here hx rfl (hb hby d13_6) rfl ?_
      show Steps p.tables e below (s₁.setTop (mkF m 7 #[.val (.long q115), .second, .val (.long q116), .second] [(.long q115)])) _
      refine XS.goto X0.here hx rfl (pc0 := 7) (pc' := 11) rfl (hb hby d13_7) (by decide) (by decide) ?_
      show Steps p.tables e below (s₁.setTop (mkF m 11 #[.val (.long q115), .second, .val (.long q116), .second] [(.long q115)])) _
      exact k
  obtain ⟨w126, hw126⟩ : ∃ z : Int64, z = (if w123 < (0 : Int32) then q116 else q115) := ⟨_, rfl⟩
  rw [← hw126] at S125
  have hf : f13 q115 q116 = w126 := by
    unfold f13
    subst hw123 hw126
    rfl
  obtain ⟨fs, hr, hrun, hended, hW, hsame⟩ := X0.leave (v := some (.long w126)) (fun h => by rw [Bd.returns] at h; cases h)
  refine ⟨_, _, S125 _ ?_, hrun, hended, _, _, rfl, ?_, ⟨_, rfl⟩, hW, hsame.mono (by decide) (by decide)⟩
  · exact retOut X0 hx Bd.returns rfl (Or.inr (Or.inl ⟨rfl, rfl, _, rfl⟩)) (hb hby d13_11) hr
  · show Q13 Z q115 q116 h0 n0 _ s₁.heap _
    rw [e0]
    exact ⟨by rw [hf], N0, rfl⟩
theorem pd_4 : parseMethodDescriptor "(JJ)J" = some ⟨[.long, .long], some .long⟩ := by decide +kernel
def f11 (q127 : Int64) : Int32 := (f13 (0 : Int64) (f12 (2147483647 : Int64) q127)).toInt32
theorem d11_0 : decode method_3_code 0 = .ok (.lconst 0, 1) := by decide +kernel
theorem d11_1 : decode method_3_code 1 = .ok (.ldc2_w 34, 3) := by decide +kernel
theorem d11_4 : decode method_3_code 4 = .ok (.lload_n 0, 1) := by decide +kernel
theorem d11_5 : decode method_3_code 5 = .ok (.invokestatic 36, 3) := by decide +kernel
theorem d11_8 : decode method_3_code 8 = .ok (.invokestatic 42, 3) := by decide +kernel
theorem d11_11 : decode method_3_code 11 = .ok (.l2i, 1) := by decide +kernel
theorem d11_12 : decode method_3_code 12 = .ok (.ireturn, 1) := by decide +kernel
theorem ef_11 (m : MethodId) (x0 : Int64) : entryFrame m #[(.long x0)] 2 = mkF m 0 #[.val (.long x0), .second] [] := by first | (simp [entryFrame, mkF, argsToLocals, Value.category]; done) | rfl
def Q11 (Z : State) (q127 : Int64) (h0 : Heap) (n0 : Nat) (v : Option Value) (h : Heap) (L : List Loc) : Prop := v = some (.int (f11 q127)) ∧ Fr n0 L ∧ h = h0
set_option maxRecDepth 65536 in
set_option maxHeartbeats 40000000 in
theorem rm11 (l : Launch) (Z : State) (a0 : Array Value) (hw : ∀ d ∈ tables_1, d.before a0 Z = true) (ws : List Jvm.Cond) (q127 : Int64) (h0 : Heap) (n0 : Nat) (Z0 : n0 ≤ h0.size)  :
    MetFree l (⟨"com/example/libclause/libclause/search/AllDocumentsIteratorAdvancePinLaw", "clamp", "(J)I"⟩ : MethodName) (head1 (Jvm.Cond.code (⟨"com/example/libclause/libclause/search/AllDocumentsIteratorAdvancePinLaw", "clamp", "(J)I"⟩ : MethodName) method_3_code 2 (some .int) :: ws) ({ frames := 1, cells := 0, slots := 0, locals := 17 } : Room)) (fun a U => a = #[(.long q127)] ∧ Z.Warmed39 U.vm ∧ U.heap = h0) (fun _ _ _ _ _ => True) (fun _ U o U' => ∃ v L, o = .returned v ∧ Q11 Z q127 h0 n0 v U'.heap L ∧ FrameEnd U o U' L ({ frames := 1, cells := 0, slots := 0, locals := 17 } : Room).cells ({ frames := 1, cells := 0, slots := 0, locals := 17 } : Room).slots) := by
  refine MetFree.of_bodySF (plainFor_of_name pn_4) hisR ?_
  intro p e s m args below meth c s₁ Bd hml0 hP hK
  obtain ⟨rfl, hZ, hh⟩ := hP
  have hx := Bd.exec
  have hby := Bd.bytes
  have hml : c.maxLocals = 2 := hml0
  have hown : s.vm.findClass "com/example/libclause/libclause/search/AllDocumentsIteratorAdvancePinLaw" = some m.cls := findClass_of_methodNamed Bd.named
  have hnm := (name_of_methodNamed Bd.named Bd.method).1
  have X0 : Stand p l e ({ frames := 1, cells := 0, slots := 0, locals := 17 } : Room) s m #[(.long q127)] below meth c s₁ [] 0 0 := Stand.of_body Bd
  have e0 : s₁.heap = h0 := by rw [← hh, Bd.state]; rfl
  have N0 := Fr.nil n0
  have pre0 : ∀ t, Steps p.tables e below (s₁.setTop (mkF m 0 #[.val (.long q127), .second] [])) t → Steps p.tables e below (s₁.setTop (entryFrame m #[(.long q127)] 2)) t := fun t k => castTop (ef_11 m q127) k
  obtain ⟨_, _, ⟨T132, L132, k132, n132⟩, -, X132, ⟨Lc132, hQ132, l132, y132, z132⟩, st132⟩ := Jvm.LawKit.callS X0 hx (y := (⟨"java/lang/Math", "min", "(JJ)J"⟩ : MethodName)) hown (mvT hZ (hw _ (List.mem_of_getElem? (i := 61) rfl))) (mvT hZ (hw _ (List.mem_of_getElem? (i := 62) rfl))) (mvT hZ (hw _ (List.mem_of_getElem? (i := 49) rfl))) (mvT hZ (hw _ (List.mem_of_getElem? (i := 63) rfl))) (by decide) (backOf (W := 2) (rm12 l Z a0 hw [] (2147483647 : Int64) q127 h0 n0 Z0) hZ (hw _ (List.mem_of_getElem? (i := 63) rfl)) (hw _ (List.mem_of_getElem? (i := 49) rfl)) (by decide) (by decide)) (g := (mkF m 5 #[.val (.long q127), .second] [(.long q127), (.long (2147483647 : Int64)), (.long (0 : Int64))])) rfl (by rw [hml]; rfl) (argsL := [(.long (2147483647 : Int64)), (.long q127)]) (rest := [(.long (0 : Int64))]) (lenOf pd_4 rfl) rfl (by show 2 * 0 + _ ≤ _; exact Nat.le_of_eq rfl) (hb hby d11_5) (fun _ _ => ⟨rfl, e0, (by decide : 0 + 0 ≤ _), (by decide : 0 + 0 ≤ _)⟩)
  dsimp only [Pt.U, Pt.locs, Pt.cells, Pt.slots] at X132 l132 y132 z132 st132 hQ132
  subst l132 y132 z132
  obtain ⟨rfl, N132q, e132⟩ := hQ132
  have N132 := Fr.app N0 N132q
  obtain ⟨_, _, ⟨T133, L133, k133, n133⟩, -, X133, ⟨Lc133, hQ133, l133, y133, z133⟩, st133⟩ := Jvm.LawKit.callS X132 hx (y := (⟨"java/lang/Math", "max", "(JJ)J"⟩ : MethodName)) hown (mvT hZ (hw _ (List.mem_of_getElem? (i := 64) rfl))) (mvT hZ (hw _ (List.mem_of_getElem? (i := 65) rfl))) (mvT hZ (hw _ (List.mem_of_getElem? (i := 49) rfl))) (mvT hZ (hw _ (List.mem_of_getElem? (i := 66) rfl))) (by decide) (backOf (W := 0) (rm13 l Z a0 hw [] (0 : Int64) (f12 (2147483647 : Int64) q127) h0 n0 Z0) hZ (hw _ (List.mem_of_getElem? (i := 66) rfl)) (hw _ (List.mem_of_getElem? (i := 49) rfl)) (by decide) (by decide)) (g := (mkF m 8 #[.val (.long q127), .second] [(.long (f12 (2147483647 : Int64) q127)), (.long (0 : Int64))])) rfl (by rw [hml]; rfl) (argsL := [(.long (0 : Int64)), (.long (f12 (2147483647 : Int64) q127))]) (rest := []) (lenOf pd_4 rfl) rfl (by show 2 * 0 + _ ≤ _; exact Nat.le_of_eq rfl) (hb hby d11_8) (fun _ _ => ⟨rfl, e132, (by decide : 0 + 0 ≤ _), (by decide : 0 + 0 ≤ _)⟩)
  dsimp only [Pt.U, Pt.locs, Pt.cells, Pt.slots] at X133 l133 y133 z133 st133 hQ133
  subst l133 y133 z133
  obtain ⟨rfl, N133q, e133⟩ := hQ133
  have N133 := Fr.app N132 N133q
  have S134 : ∀ t, Steps p.tables e below (T133.setTop (mkF m 12 #[.val (.long q127), .second] [(.int (f13 (0 : Int64) (f12 (2147483647 : Int64) q127)).toInt32)])) t → Steps p.tables e below (s₁.setTop (entryFrame m #[(.long q127)] 2)) t := by
    intro t k
    refine pre0 t ?_
    refine XS.lconst X0.here hx rfl (hb hby d11_0) ?_
    show Steps p.tables e below (s₁.setTop (mkF m 1 #[.val (.long q127), .second] [(.long (0 : Int64))])) _
    refine X0.ldc2Long hx hown (mvT hZ (hw _ (List.mem_of_getElem? (i := 60) rfl))) (g := (mkF m 1 #[.val (.long q127), .second] [(.long (0 : Int64))])) rfl (hb hby d11_1) _ ?_
    show Steps p.tables e below (s₁.setTop (mkF m 4 #[.val (.long q127), .second] [(.long (2147483647 : Int64)), (.long (0 : Int64))])) _
    refine XS.lloadN X0.here hx rfl (hb hby d11_4) rfl ?_
    show Steps p.tables e below (s₁.setTop (mkF m 5 #[.val (.long q127), .second] [(.long q127), (.long (2147483647 : Int64)), (.long (0 : Int64))])) _
    refine st132 _ ?_
    show Steps p.tables e below (T132.setTop (mkF m 8 #[.val (.long q127), .second] [(.long (f12 (2147483647 : Int64) q127)), (.long (0 : Int64))])) _
    refine st133 _ ?_
    show Steps p.tables e below (T133.setTop (mkF m 11 #[.val (.long q127), .second] [(.long (f13 (0 : Int64) (f12 (2147483647 : Int64) q127)))])) _
    refine XS.l2i X133.here hx rfl (hb hby d11_11) rfl ?_
    show Steps p.tables e below (T133.setTop (mkF m 12 #[.val (.long q127), .second] [(.int (f13 (0 : Int64) (f12 (2147483647 : Int64) q127)).toInt32)])) _
    exact k
  obtain ⟨w135, hw135⟩ : ∃ z : Int32, z = (f13 (0 : Int64) (f12 (2147483647 : Int64) q127)).toInt32 := ⟨_, rfl⟩
  rw [← hw135] at S134
  have hf : f11 q127 = w135 := by
    unfold f11
    subst hw135
    rfl
  obtain ⟨fs, hr, hrun, hended, hW, hsame⟩ := X133.leave (v := some (.int w135)) (fun h => by rw [Bd.returns] at h; cases h)
  refine ⟨_, _, S134 _ ?_, hrun, hended, _, _, rfl, ?_, ⟨_, rfl⟩, hW, hsame.mono (by decide) (by decide)⟩
  · exact retOut X133 hx Bd.returns rfl (Or.inl ⟨rfl, Or.inl rfl, _, rfl⟩) (hb hby d11_12) hr
  · show Q11 Z q127 h0 n0 _ T133.heap _
    rw [e133]
    exact ⟨by rw [hf], N133, rfl⟩
theorem own_cnt (t d n : Int32) : f10_documentCount t d n = n := by unfold f10_documentCount; split <;> rfl
theorem own_adv (t d n : Int32) (ht : 0 ≤ t.toInt) (hi : d.toInt = -1 ∨ d.toInt < n.toInt ∨ d.toInt = 2147483647) :
    f10_ret t d n = f8 d t n ∧ f10_document t d n = f8 d t n ∧ ((f8 d t n).toInt = -1 ∨ (f8 d t n).toInt < n.toInt ∨ (f8 d t n).toInt = 2147483647) := by
  have M : (2147483647 : Int32).toInt = 2147483647 := by decide
  have T1 := t.toInt_lt
  have D1 := d.toInt_lt
  have k : f10_ret t d n = f8 d t n ∧ ((f8 d t n).toInt = -1 ∨ (f8 d t n).toInt < n.toInt ∨ (f8 d t n).toInt = 2147483647) := by
    unfold f10_ret f8 f9
    by_cases h2 : t < n
    · have q2 := Int32.lt_iff_toInt_lt.mp h2
      simp only [if_pos h2]
      by_cases h1 : d < t
      · simp only [if_pos h1]; exact ⟨trivial, Or.inr (Or.inl q2)⟩
      · simp only [if_neg h1]; exact ⟨trivial, hi⟩
    · have q2 : ¬ t.toInt < n.toInt := fun q => h2 (Int32.lt_iff_toInt_lt.mpr q)
      simp only [if_neg h2]
      by_cases h1 : d < t
      · have q1 := Int32.lt_iff_toInt_lt.mp h1
        have h3 : d < (2147483647 : Int32) := Int32.lt_iff_toInt_lt.mpr (by omega)
        simp only [if_pos h1, if_pos h3]; exact ⟨trivial, Or.inr (Or.inr M)⟩
      · have q1 : ¬ d.toInt < t.toInt := fun q => h1 (Int32.lt_iff_toInt_lt.mpr q)
        have h3 : d.toInt = 2147483647 := by omega
        have h4 : d = (2147483647 : Int32) := Int32.toInt_inj.mp (by rw [h3, M])
        simp only [if_neg h1]
        rw [h4]
        exact ⟨rfl, Or.inr (Or.inr M)⟩
  exact ⟨k.1, k.1, k.2⟩
theorem own_start (n : Int32) : (-1 : Int32).toInt = -1 ∨ (-1 : Int32).toInt < n.toInt ∨ (-1 : Int32).toInt = 2147483647 := Or.inl (by decide)
theorem own_ch1 (t1 n : Int32) (h1 : 0 ≤ t1.toInt) : f10_ret t1 (-1) n = f8 (-1) t1 n ∧ f7 (f10_document t1 (-1) n) = f8 (-1) t1 n := by
  have a := own_adv t1 (-1) n h1 (own_start n)
  exact ⟨a.1, a.2.1⟩
theorem own_ch2 (t1 t2 n : Int32) (h1 : 0 ≤ t1.toInt) (h2 : 0 ≤ t2.toInt) : f10_ret t2 (f10_document t1 (-1) n) (f10_documentCount t1 (-1) n) = f8 (f8 (-1) t1 n) t2 n ∧ f7 (f10_document t2 (f10_document t1 (-1) n) (f10_documentCount t1 (-1) n)) = f8 (f8 (-1) t1 n) t2 n := by
  have a := own_adv t1 (-1) n h1 (own_start n)
  have b := own_adv t2 _ n h2 a.2.2
  rw [own_cnt, a.2.1]
  exact ⟨b.1, b.2.1⟩
theorem own_ch3 (t1 t2 t3 n : Int32) (h1 : 0 ≤ t1.toInt) (h2 : 0 ≤ t2.toInt) (h3 : 0 ≤ t3.toInt) :
    f10_ret t3 (f10_document t2 (f10_document t1 (-1) n) (f10_documentCount t1 (-1) n)) (f10_documentCount t2 (f10_document t1 (-1) n) (f10_documentCount t1 (-1) n)) = f8 (f8 (f8 (-1) t1 n) t2 n) t3 n ∧
    f7 (f10_document t3 (f10_document t2 (f10_document t1 (-1) n) (f10_documentCount t1 (-1) n)) (f10_documentCount t2 (f10_document t1 (-1) n) (f10_documentCount t1 (-1) n))) = f8 (f8 (f8 (-1) t1 n) t2 n) t3 n := by
  have a := own_adv t1 (-1) n h1 (own_start n)
  have b := own_adv t2 _ n h2 a.2.2
  have c := own_adv t3 _ n h3 b.2.2
  rw [own_cnt, own_cnt, a.2.1, b.2.1]
  exact ⟨c.1, c.2.1⟩
theorem own_clamp (x : Int64) : 0 ≤ (f11 x).toInt := by
  unfold f11
  have M : (2147483647 : Int64).toInt = 2147483647 := by decide
  have k0 : (0 : Int64).toInt = 0 := by decide
  have h1 : (f12 (2147483647 : Int64) x).toInt ≤ 2147483647 := by
    unfold f12
    by_cases h : (0 : Int32) < lcmpW (2147483647 : Int64) x
    · rw [if_pos h]; have := (own_lc_pos _ _).mp h; omega
    · rw [if_neg h]; omega
  have h2 : 0 ≤ (f13 (0 : Int64) (f12 (2147483647 : Int64) x)).toInt ∧ (f13 (0 : Int64) (f12 (2147483647 : Int64) x)).toInt ≤ 2147483647 := by
    unfold f13
    by_cases h : lcmpW (0 : Int64) (f12 (2147483647 : Int64) x) < (0 : Int32)
    · rw [if_pos h]; have := (own_lc_neg _ _).mp h; omega
    · rw [if_neg h]; omega
  rw [Jvm.Kit.i32_of_i64] <;> omega
theorem own_t {c : Prop} [Decidable c] (b : Int32) (x : Int64) : 0 ≤ (if c then (b &&& (2147483647 : Int32)) else (f11 x)).toInt := by
  split
  · exact own_m31 b
  · exact own_clamp x
theorem pd_5 : parseMethodDescriptor "(J)I" = some ⟨[.long], some .int⟩ := by decide +kernel
theorem pd_6 : parseMethodDescriptor "(ILcom/example/libclause/libclause/query/MatchAll;)V" = some ⟨[.int, (.object "com/example/libclause/libclause/query/MatchAll")], none⟩ := by decide +kernel
theorem pd_7 : parseMethodDescriptor "()I" = some ⟨[], some .int⟩ := by decide +kernel
theorem pd_8 : parseMethodDescriptor "(III)I" = some ⟨[.int, .int, .int], some .int⟩ := by decide +kernel
theorem pd_9 : parseMethodDescriptor "(I)I" = some ⟨[.int], some .int⟩ := by decide +kernel
set_option maxRecDepth 65536 in
theorem own_r1 (cn : Int32) (a : Int32) (b : Int32) (c0 : Int32) (mode : Int32)  (v0 : Int32) (hv0 : v0 = (a &&& (2147483647 : Int32))) (v1 : Int32) (hv1 : v1 = (mode &&& (1 : Int32))) (v2 : Int32) (hv2 : v2 = (if v1 = (0 : Int32) then (b &&& (2147483647 : Int32)) else (f11 (v0.toInt64 + ((b &&& (3 : Int32)) - (1 : Int32)).toInt64)))) (v3 : Int32) (hv3 : v3 = (mode &&& (2 : Int32))) (v4 : Int32) (hv4 : v4 = (if v3 = (0 : Int32) then (c0 &&& (2147483647 : Int32)) else (f11 (v2.toInt64 + ((c0 &&& (3 : Int32)) - (1 : Int32)).toInt64)))) (v5 : Int32) (hv5 : v5 = (mode &&& (4 : Int32))) (v6 : Int32) (hv6 : v6 = (if v5 = (0 : Int32) then (cn &&& (2147483647 : Int32)) else (f11 (v0.toInt64 + ((cn &&& (3 : Int32)) - (1 : Int32)).toInt64)))) (v7 : Int32) (hv7 : v7 = (f7 (-1 : Int32))) (v8 : Int32) (hv8 : v8 = (if v7 = (-1 : Int32) then (1 : Int32) else (0 : Int32)))  : ¬ (v8 = (0 : Int32)) := by
  subst_vars
  decide
set_option maxRecDepth 65536 in
theorem own_r2 (cn : Int32) (a : Int32) (b : Int32) (c0 : Int32) (mode : Int32)  (v0 : Int32) (hv0 : v0 = (a &&& (2147483647 : Int32))) (v1 : Int32) (hv1 : v1 = (mode &&& (1 : Int32))) (v2 : Int32) (hv2 : v2 = (if v1 = (0 : Int32) then (b &&& (2147483647 : Int32)) else (f11 (v0.toInt64 + ((b &&& (3 : Int32)) - (1 : Int32)).toInt64)))) (v3 : Int32) (hv3 : v3 = (mode &&& (2 : Int32))) (v4 : Int32) (hv4 : v4 = (if v3 = (0 : Int32) then (c0 &&& (2147483647 : Int32)) else (f11 (v2.toInt64 + ((c0 &&& (3 : Int32)) - (1 : Int32)).toInt64)))) (v5 : Int32) (hv5 : v5 = (mode &&& (4 : Int32))) (v6 : Int32) (hv6 : v6 = (if v5 = (0 : Int32) then (cn &&& (2147483647 : Int32)) else (f11 (v0.toInt64 + ((cn &&& (3 : Int32)) - (1 : Int32)).toInt64)))) (v7 : Int32) (hv7 : v7 = (f7 (-1 : Int32))) (v8 : Int32) (hv8 : v8 = (if v7 = (-1 : Int32) then (1 : Int32) else (0 : Int32)))  : (f10_ret v0 (-1 : Int32) v6) = (f8 (-1 : Int32) v0 v6) := by
  subst_vars
  exact (own_ch1 _ _ (own_m31 a)).1
set_option maxRecDepth 65536 in
theorem own_r3 (cn : Int32) (a : Int32) (b : Int32) (c0 : Int32) (mode : Int32)  (v0 : Int32) (hv0 : v0 = (a &&& (2147483647 : Int32))) (v1 : Int32) (hv1 : v1 = (mode &&& (1 : Int32))) (v2 : Int32) (hv2 : v2 = (if v1 = (0 : Int32) then (b &&& (2147483647 : Int32)) else (f11 (v0.toInt64 + ((b &&& (3 : Int32)) - (1 : Int32)).toInt64)))) (v3 : Int32) (hv3 : v3 = (mode &&& (2 : Int32))) (v4 : Int32) (hv4 : v4 = (if v3 = (0 : Int32) then (c0 &&& (2147483647 : Int32)) else (f11 (v2.toInt64 + ((c0 &&& (3 : Int32)) - (1 : Int32)).toInt64)))) (v5 : Int32) (hv5 : v5 = (mode &&& (4 : Int32))) (v6 : Int32) (hv6 : v6 = (if v5 = (0 : Int32) then (cn &&& (2147483647 : Int32)) else (f11 (v0.toInt64 + ((cn &&& (3 : Int32)) - (1 : Int32)).toInt64)))) (v7 : Int32) (hv7 : v7 = (f7 (-1 : Int32))) (v8 : Int32) (hv8 : v8 = (if v7 = (-1 : Int32) then (1 : Int32) else (0 : Int32)))  : (f7 (f10_document v0 (-1 : Int32) v6)) = (f8 (-1 : Int32) v0 v6) := by
  subst_vars
  exact (own_ch1 _ _ (own_m31 a)).2
set_option maxRecDepth 65536 in
theorem own_r4 (cn : Int32) (a : Int32) (b : Int32) (c0 : Int32) (mode : Int32)  (v0 : Int32) (hv0 : v0 = (a &&& (2147483647 : Int32))) (v1 : Int32) (hv1 : v1 = (mode &&& (1 : Int32))) (v2 : Int32) (hv2 : v2 = (if v1 = (0 : Int32) then (b &&& (2147483647 : Int32)) else (f11 (v0.toInt64 + ((b &&& (3 : Int32)) - (1 : Int32)).toInt64)))) (v3 : Int32) (hv3 : v3 = (mode &&& (2 : Int32))) (v4 : Int32) (hv4 : v4 = (if v3 = (0 : Int32) then (c0 &&& (2147483647 : Int32)) else (f11 (v2.toInt64 + ((c0 &&& (3 : Int32)) - (1 : Int32)).toInt64)))) (v5 : Int32) (hv5 : v5 = (mode &&& (4 : Int32))) (v6 : Int32) (hv6 : v6 = (if v5 = (0 : Int32) then (cn &&& (2147483647 : Int32)) else (f11 (v0.toInt64 + ((cn &&& (3 : Int32)) - (1 : Int32)).toInt64)))) (v7 : Int32) (hv7 : v7 = (f7 (-1 : Int32))) (v8 : Int32) (hv8 : v8 = (if v7 = (-1 : Int32) then (1 : Int32) else (0 : Int32))) (v9 : Int32) (hv9 : v9 = (f8 (-1 : Int32) v0 v6)) (v10 : Int32) (hv10 : v10 = (f10_ret v0 (-1 : Int32) v6)) (v11 : Int32) (hv11 : v11 = (f8 v9 v2 v6)) (v12 : Int32) (hv12 : v12 = (f10_ret v2 (f10_document v0 (-1 : Int32) v6) (f10_documentCount v0 (-1 : Int32) v6)))  : ¬ ((1 : Int32) = (0 : Int32)) := by
  subst_vars
  decide
set_option maxRecDepth 65536 in
theorem own_r5 (cn : Int32) (a : Int32) (b : Int32) (c0 : Int32) (mode : Int32)  (v0 : Int32) (hv0 : v0 = (a &&& (2147483647 : Int32))) (v1 : Int32) (hv1 : v1 = (mode &&& (1 : Int32))) (v2 : Int32) (hv2 : v2 = (if v1 = (0 : Int32) then (b &&& (2147483647 : Int32)) else (f11 (v0.toInt64 + ((b &&& (3 : Int32)) - (1 : Int32)).toInt64)))) (v3 : Int32) (hv3 : v3 = (mode &&& (2 : Int32))) (v4 : Int32) (hv4 : v4 = (if v3 = (0 : Int32) then (c0 &&& (2147483647 : Int32)) else (f11 (v2.toInt64 + ((c0 &&& (3 : Int32)) - (1 : Int32)).toInt64)))) (v5 : Int32) (hv5 : v5 = (mode &&& (4 : Int32))) (v6 : Int32) (hv6 : v6 = (if v5 = (0 : Int32) then (cn &&& (2147483647 : Int32)) else (f11 (v0.toInt64 + ((cn &&& (3 : Int32)) - (1 : Int32)).toInt64)))) (v7 : Int32) (hv7 : v7 = (f7 (-1 : Int32))) (v8 : Int32) (hv8 : v8 = (if v7 = (-1 : Int32) then (1 : Int32) else (0 : Int32))) (v9 : Int32) (hv9 : v9 = (f8 (-1 : Int32) v0 v6)) (v10 : Int32) (hv10 : v10 = (f10_ret v0 (-1 : Int32) v6)) (v11 : Int32) (hv11 : v11 = (f8 v9 v2 v6)) (v12 : Int32) (hv12 : v12 = (f10_ret v2 (f10_document v0 (-1 : Int32) v6) (f10_documentCount v0 (-1 : Int32) v6)))  : v12 = v11 := by
  subst_vars
  exact (own_ch2 _ _ _ (own_m31 a) (own_t _ _)).1
set_option maxRecDepth 65536 in
theorem own_r6 (cn : Int32) (a : Int32) (b : Int32) (c0 : Int32) (mode : Int32)  (v0 : Int32) (hv0 : v0 = (a &&& (2147483647 : Int32))) (v1 : Int32) (hv1 : v1 = (mode &&& (1 : Int32))) (v2 : Int32) (hv2 : v2 = (if v1 = (0 : Int32) then (b &&& (2147483647 : Int32)) else (f11 (v0.toInt64 + ((b &&& (3 : Int32)) - (1 : Int32)).toInt64)))) (v3 : Int32) (hv3 : v3 = (mode &&& (2 : Int32))) (v4 : Int32) (hv4 : v4 = (if v3 = (0 : Int32) then (c0 &&& (2147483647 : Int32)) else (f11 (v2.toInt64 + ((c0 &&& (3 : Int32)) - (1 : Int32)).toInt64)))) (v5 : Int32) (hv5 : v5 = (mode &&& (4 : Int32))) (v6 : Int32) (hv6 : v6 = (if v5 = (0 : Int32) then (cn &&& (2147483647 : Int32)) else (f11 (v0.toInt64 + ((cn &&& (3 : Int32)) - (1 : Int32)).toInt64)))) (v7 : Int32) (hv7 : v7 = (f7 (-1 : Int32))) (v8 : Int32) (hv8 : v8 = (if v7 = (-1 : Int32) then (1 : Int32) else (0 : Int32))) (v9 : Int32) (hv9 : v9 = (f8 (-1 : Int32) v0 v6)) (v10 : Int32) (hv10 : v10 = (f10_ret v0 (-1 : Int32) v6)) (v11 : Int32) (hv11 : v11 = (f8 v9 v2 v6)) (v12 : Int32) (hv12 : v12 = (f10_ret v2 (f10_document v0 (-1 : Int32) v6) (f10_documentCount v0 (-1 : Int32) v6)))  : (f7 (f10_document v2 (f10_document v0 (-1 : Int32) v6) (f10_documentCount v0 (-1 : Int32) v6))) = v11 := by
  subst_vars
  exact (own_ch2 _ _ _ (own_m31 a) (own_t _ _)).2
set_option maxRecDepth 65536 in
theorem own_r7 (cn : Int32) (a : Int32) (b : Int32) (c0 : Int32) (mode : Int32)  (v0 : Int32) (hv0 : v0 = (a &&& (2147483647 : Int32))) (v1 : Int32) (hv1 : v1 = (mode &&& (1 : Int32))) (v2 : Int32) (hv2 : v2 = (if v1 = (0 : Int32) then (b &&& (2147483647 : Int32)) else (f11 (v0.toInt64 + ((b &&& (3 : Int32)) - (1 : Int32)).toInt64)))) (v3 : Int32) (hv3 : v3 = (mode &&& (2 : Int32))) (v4 : Int32) (hv4 : v4 = (if v3 = (0 : Int32) then (c0 &&& (2147483647 : Int32)) else (f11 (v2.toInt64 + ((c0 &&& (3 : Int32)) - (1 : Int32)).toInt64)))) (v5 : Int32) (hv5 : v5 = (mode &&& (4 : Int32))) (v6 : Int32) (hv6 : v6 = (if v5 = (0 : Int32) then (cn &&& (2147483647 : Int32)) else (f11 (v0.toInt64 + ((cn &&& (3 : Int32)) - (1 : Int32)).toInt64)))) (v7 : Int32) (hv7 : v7 = (f7 (-1 : Int32))) (v8 : Int32) (hv8 : v8 = (if v7 = (-1 : Int32) then (1 : Int32) else (0 : Int32))) (v9 : Int32) (hv9 : v9 = (f8 (-1 : Int32) v0 v6)) (v10 : Int32) (hv10 : v10 = (f10_ret v0 (-1 : Int32) v6)) (v11 : Int32) (hv11 : v11 = (f8 v9 v2 v6)) (v12 : Int32) (hv12 : v12 = (f10_ret v2 (f10_document v0 (-1 : Int32) v6) (f10_documentCount v0 (-1 : Int32) v6))) (v13 : Int32) (hv13 : v13 = (f8 v11 v4 v6)) (v14 : Int32) (hv14 : v14 = (f10_ret v4 (f10_document v2 (f10_document v0 (-1 : Int32) v6) (f10_documentCount v0 (-1 : Int32) v6)) (f10_documentCount v2 (f10_document v0 (-1 : Int32) v6) (f10_documentCount v0 (-1 : Int32) v6))))  : ¬ ((1 : Int32) = (0 : Int32)) := by
  subst_vars
  decide
set_option maxRecDepth 65536 in
theorem own_r8 (cn : Int32) (a : Int32) (b : Int32) (c0 : Int32) (mode : Int32)  (v0 : Int32) (hv0 : v0 = (a &&& (2147483647 : Int32))) (v1 : Int32) (hv1 : v1 = (mode &&& (1 : Int32))) (v2 : Int32) (hv2 : v2 = (if v1 = (0 : Int32) then (b &&& (2147483647 : Int32)) else (f11 (v0.toInt64 + ((b &&& (3 : Int32)) - (1 : Int32)).toInt64)))) (v3 : Int32) (hv3 : v3 = (mode &&& (2 : Int32))) (v4 : Int32) (hv4 : v4 = (if v3 = (0 : Int32) then (c0 &&& (2147483647 : Int32)) else (f11 (v2.toInt64 + ((c0 &&& (3 : Int32)) - (1 : Int32)).toInt64)))) (v5 : Int32) (hv5 : v5 = (mode &&& (4 : Int32))) (v6 : Int32) (hv6 : v6 = (if v5 = (0 : Int32) then (cn &&& (2147483647 : Int32)) else (f11 (v0.toInt64 + ((cn &&& (3 : Int32)) - (1 : Int32)).toInt64)))) (v7 : Int32) (hv7 : v7 = (f7 (-1 : Int32))) (v8 : Int32) (hv8 : v8 = (if v7 = (-1 : Int32) then (1 : Int32) else (0 : Int32))) (v9 : Int32) (hv9 : v9 = (f8 (-1 : Int32) v0 v6)) (v10 : Int32) (hv10 : v10 = (f10_ret v0 (-1 : Int32) v6)) (v11 : Int32) (hv11 : v11 = (f8 v9 v2 v6)) (v12 : Int32) (hv12 : v12 = (f10_ret v2 (f10_document v0 (-1 : Int32) v6) (f10_documentCount v0 (-1 : Int32) v6))) (v13 : Int32) (hv13 : v13 = (f8 v11 v4 v6)) (v14 : Int32) (hv14 : v14 = (f10_ret v4 (f10_document v2 (f10_document v0 (-1 : Int32) v6) (f10_documentCount v0 (-1 : Int32) v6)) (f10_documentCount v2 (f10_document v0 (-1 : Int32) v6) (f10_documentCount v0 (-1 : Int32) v6))))  : v14 = v13 := by
  subst_vars
  exact (own_ch3 _ _ _ _ (own_m31 a) (own_t _ _) (own_t _ _)).1
set_option maxRecDepth 65536 in
theorem own_r9 (cn : Int32) (a : Int32) (b : Int32) (c0 : Int32) (mode : Int32)  (v0 : Int32) (hv0 : v0 = (a &&& (2147483647 : Int32))) (v1 : Int32) (hv1 : v1 = (mode &&& (1 : Int32))) (v2 : Int32) (hv2 : v2 = (if v1 = (0 : Int32) then (b &&& (2147483647 : Int32)) else (f11 (v0.toInt64 + ((b &&& (3 : Int32)) - (1 : Int32)).toInt64)))) (v3 : Int32) (hv3 : v3 = (mode &&& (2 : Int32))) (v4 : Int32) (hv4 : v4 = (if v3 = (0 : Int32) then (c0 &&& (2147483647 : Int32)) else (f11 (v2.toInt64 + ((c0 &&& (3 : Int32)) - (1 : Int32)).toInt64)))) (v5 : Int32) (hv5 : v5 = (mode &&& (4 : Int32))) (v6 : Int32) (hv6 : v6 = (if v5 = (0 : Int32) then (cn &&& (2147483647 : Int32)) else (f11 (v0.toInt64 + ((cn &&& (3 : Int32)) - (1 : Int32)).toInt64)))) (v7 : Int32) (hv7 : v7 = (f7 (-1 : Int32))) (v8 : Int32) (hv8 : v8 = (if v7 = (-1 : Int32) then (1 : Int32) else (0 : Int32))) (v9 : Int32) (hv9 : v9 = (f8 (-1 : Int32) v0 v6)) (v10 : Int32) (hv10 : v10 = (f10_ret v0 (-1 : Int32) v6)) (v11 : Int32) (hv11 : v11 = (f8 v9 v2 v6)) (v12 : Int32) (hv12 : v12 = (f10_ret v2 (f10_document v0 (-1 : Int32) v6) (f10_documentCount v0 (-1 : Int32) v6))) (v13 : Int32) (hv13 : v13 = (f8 v11 v4 v6)) (v14 : Int32) (hv14 : v14 = (f10_ret v4 (f10_document v2 (f10_document v0 (-1 : Int32) v6) (f10_documentCount v0 (-1 : Int32) v6)) (f10_documentCount v2 (f10_document v0 (-1 : Int32) v6) (f10_documentCount v0 (-1 : Int32) v6))))  : (f7 (f10_document v4 (f10_document v2 (f10_document v0 (-1 : Int32) v6) (f10_documentCount v0 (-1 : Int32) v6)) (f10_documentCount v2 (f10_document v0 (-1 : Int32) v6) (f10_documentCount v0 (-1 : Int32) v6)))) = v13 := by
  subst_vars
  exact (own_ch3 _ _ _ _ (own_m31 a) (own_t _ _) (own_t _ _)).2
theorem ef_0 (m : MethodId) (x0 : Int32) (x1 : Int32) (x2 : Int32) (x3 : Int32) (x4 : Int32) : entryFrame m #[(.int x0), (.int x1), (.int x2), (.int x3), (.int x4)] maxLocals = mkF m 0 #[.val (.int x0), .val (.int x1), .val (.int x2), .val (.int x3), .val (.int x4), .unset, .unset, .unset, .unset, .unset, .unset, .unset, .unset, .unset, .unset, .unset, .unset] [] := by first | (simp [entryFrame, mkF, argsToLocals, Value.category, maxLocals]; done) | rfl
def Q0 (Z : State) (cn : Int32) (aXq : Int32) (bXq : Int32) (c0 : Int32) (mode : Int32) (h0 : Heap) (n0 : Nat) (v : Option Value) (h : Heap) (L : List Loc) : Prop := v = some (.int 1) ∧ Fr n0 L
set_option maxRecDepth 65536 in
set_option maxHeartbeats 40000000 in
theorem rm0 (l : Launch) (Z : State) (a0 : Array Value) (hw : ∀ d ∈ tables_1, d.before a0 Z = true) (ws : List Jvm.Cond) (cn : Int32) (aXq : Int32) (bXq : Int32) (c0 : Int32) (mode : Int32) (h0 : Heap) (n0 : Nat) (Z0 : n0 ≤ h0.size)  :
    MetFree l x (head1 (Jvm.Cond.code x code maxLocals ret :: ws) room_1) (fun a U => a = #[(.int cn), (.int aXq), (.int bXq), (.int c0), (.int mode)] ∧ Z.Warmed39 U.vm ∧ U.heap = h0) (fun _ _ _ _ _ => True) (fun _ U o U' => ∃ v L, o = .returned v ∧ Q0 Z cn aXq bXq c0 mode h0 n0 v U'.heap L ∧ FrameEnd U o U' L room_1.cells room_1.slots) := by
  refine MetFree.of_bodySF (plainFor_of_name pn_4) hisR ?_
  intro p e s m args below meth c s₁ Bd hml0 hP hK
  obtain ⟨rfl, hZ, hh⟩ := hP
  have hx := Bd.exec
  have hby := Bd.bytes
  have hml : c.maxLocals = 17 := hml0
  have hown : s.vm.findClass "com/example/libclause/libclause/search/AllDocumentsIteratorAdvancePinLaw" = some m.cls := findClass_of_methodNamed Bd.named
  have hnm := (name_of_methodNamed Bd.named Bd.method).1
  have X0 : Stand p l e room_1 s m #[(.int cn), (.int aXq), (.int bXq), (.int c0), (.int mode)] below meth c s₁ [] 0 0 := Stand.of_body Bd
  have e0 : s₁.heap = h0 := by rw [← hh, Bd.state]; rfl
  have N0 := Fr.nil n0
  have pre0 : ∀ t, Steps p.tables e below (s₁.setTop (mkF m 0 #[.val (.int cn), .val (.int aXq), .val (.int bXq), .val (.int c0), .val (.int mode), .unset, .unset, .unset, .unset, .unset, .unset, .unset, .unset, .unset, .unset, .unset, .unset] [])) t → Steps p.tables e below (s₁.setTop (entryFrame m #[(.int cn), (.int aXq), (.int bXq), (.int c0), (.int mode)] maxLocals)) t := fun t k => castTop (ef_0 m cn aXq bXq c0 mode) k
  have S136 : ∀ t, Steps p.tables e below (s₁.setTop (mkF m 10 #[.val (.int cn), .val (.int aXq), .val (.int bXq), .val (.int c0), .val (.int mode), .val (.int (aXq &&& (2147483647 : Int32))), .unset, .unset, .unset, .unset, .unset, .unset, .unset, .unset, .unset, .unset, .unset] [(.int (mode &&& (1 : Int32)))])) t → Steps p.tables e below (s₁.setTop (entryFrame m #[(.int cn), (.int aXq), (.int bXq), (.int c0), (.int mode)] maxLocals)) t := by
    intro t k
    refine pre0 t ?_
    refine XS.iloadN X0.here hx rfl (hb hby at_0) rfl ?_
    show Steps p.tables e below (s₁.setTop (mkF m 1 #[.val (.int cn), .val (.int aXq), .val (.int bXq), .val (.int c0), .val (.int mode), .unset, .unset, .unset, .unset, .unset, .unset, .unset, .unset, .unset, .unset, .unset, .unset] [(.int aXq)])) _
    refine X0.ldcInt hx hown (mvT hZ (hw _ (List.mem_of_getElem? (i := 0) rfl))) (g := (mkF m 1 #[.val (.int cn), .val (.int aXq), .val (.int bXq), .val (.int c0), .val (.int mode), .unset, .unset, .unset, .unset, .unset, .unset, .unset, .unset, .unset, .unset, .unset, .unset] [(.int aXq)])) rfl (hb hby at_1) _ ?_
    show Steps p.tables e below (s₁.setTop (mkF m 3 #[.val (.int cn), .val (.int aXq), .val (.int bXq), .val (.int c0), .val (.int mode), .unset, .unset, .unset, .unset, .unset, .unset, .unset, .unset, .unset, .unset, .unset, .unset] [(.int (2147483647 : Int32)), (.int aXq)])) _
    refine XS.iand X0.here hx rfl (hb hby at_3) rfl ?_
    show Steps p.tables e below (s₁.setTop (mkF m 4 #[.val (.int cn), .val (.int aXq), .val (.int bXq), .val (.int c0), .val (.int mode), .unset, .unset, .unset, .unset, .unset, .unset, .unset, .unset, .unset, .unset, .unset, .unset] [(.int (aXq &&& (2147483647 : Int32)))])) _
    refine XS.istore X0.here hx rfl (hb hby at_4) rfl (l' := #[.val (.int cn), .val (.int aXq), .val (.int bXq), .val (.int c0), .val (.int mode), .val (.int (aXq &&& (2147483647 : Int32))), .unset, .unset, .unset, .unset, .unset, .unset, .unset, .unset, .unset, .unset, .unset]) rfl ?_
    show Steps p.tables e below (s₁.setTop (mkF m 6 #[.val (.int cn), .val (.int aXq), .val (.int bXq), .val (.int c0), .val (.int mode), .val (.int (aXq &&& (2147483647 : Int32))), .unset, .unset, .unset, .unset, .unset, .unset, .unset, .unset, .unset, .unset, .unset] [])) _
    refine XS.iload X0.here hx rfl (hb hby at_6) rfl ?_
    show Steps p.tables e below (s₁.setTop (mkF m 8 #[.val (.int cn), .val (.int aXq), .val (.int bXq), .val (.int c0), .val (.int mode), .val (.int (aXq &&& (2147483647 : Int32))), .unset, .unset, .unset, .unset, .unset, .unset, .unset, .unset, .unset, .unset, .unset] [(.int mode)])) _
    refine XS.iconst X0.here hx rfl (hb hby at_8) ?_
    show Steps p.tables e below (s₁.setTop (mkF m 9 #[.val (.int cn), .val (.int aXq), .val (.int bXq), .val (.int c0), .val (.int mode), .val (.int (aXq &&& (2147483647 : Int32))), .unset, .unset, .unset, .unset, .unset, .unset, .unset, .unset, .unset, .unset, .unset] [(.int (1 : Int32)), (.int mode)])) _
    refine XS.iand X0.here hx rfl (hb hby at_9) rfl ?_
    show Steps p.tables e below (s₁.setTop (mkF m 10 #[.val (.int cn), .val (.int aXq), .val (.int bXq), .val (.int c0), .val (.int mode), .val (.int (aXq &&& (2147483647 : Int32))), .unset, .unset, .unset, .unset, .unset, .unset, .unset, .unset, .unset, .unset, .unset] [(.int (mode &&& (1 : Int32)))])) _
    exact k
  obtain ⟨w137, hw137⟩ : ∃ z : Int32, z = (aXq &&& (2147483647 : Int32)) := ⟨_, rfl⟩
  rw [← hw137] at S136
  obtain ⟨w138, hw138⟩ : ∃ z : Int32, z = (mode &&& (1 : Int32)) := ⟨_, rfl⟩
  rw [← hw138] at S136
  obtain ⟨T143, L143, X143, N143, e143, S143⟩ : ∃ (T' : State) (L' : List Loc), Stand p l e room_1 s m #[(.int cn), (.int aXq), (.int bXq), (.int c0), (.int mode)] below meth c T' L' 0 0 ∧ Fr n0 L' ∧ T'.heap = h0 ∧ ∀ t, Steps p.tables e below (T'.setTop (mkF m 33 #[.val (.int cn), .val (.int aXq), .val (.int bXq), .val (.int c0), .val (.int mode), .val (.int w137), .unset, .unset, .unset, .unset, .unset, .unset, .unset, .unset, .unset, .unset, .unset] [(.int (if w138 = (0 : Int32) then (bXq &&& (2147483647 : Int32)) else (f11 (w137.toInt64 + ((bXq &&& (3 : Int32)) - (1 : Int32)).toInt64))))])) t → Steps p.tables e below (s₁.setTop (entryFrame m #[(.int cn), (.int aXq), (.int bXq), (.int c0), (.int mode)] maxLocals)) t := by
    by_cases hc139 : w138 = (0 : Int32)
    · rw [if_pos hc139]
      have S140 : ∀ t, Steps p.tables e below (s₁.setTop (mkF m 33 #[.val (.int cn), .val (.int aXq), .val (.int bXq), .val (.int c0), .val (.int mode), .val (.int w137), .unset, .unset, .unset, .unset, .unset, .unset, .unset, .unset, .unset, .unset, .unset] [(.int (bXq &&& (2147483647 : Int32)))])) t → Steps p.tables e below (s₁.setTop (entryFrame m #[(.int cn), (.int aXq), (.int bXq), (.int c0), (.int mode)] maxLocals)) t := by
        intro t k
        refine S136 t ?_
        refine XS.ifYes X0.here hx rfl (pc0 := 10) (pc' := 29) rfl (hb hby at_10) rfl ((if0 _ _).trans (teq hc139).1) (by decide) (by decide) ?_
        show Steps p.tables e below (s₁.setTop (mkF m 29 #[.val (.int cn), .val (.int aXq), .val (.int bXq), .val (.int c0), .val (.int mode), .val (.int w137), .unset, .unset, .unset, .unset, .unset, .unset, .unset, .unset, .unset, .unset, .unset] [])) _
        refine XS.iloadN X0.here hx rfl (hb hby at_29) rfl ?_
        show Steps p.tables e below (s₁.setTop (mkF m 30 #[.val (.int cn), .val (.int aXq), .val (.int bXq), .val (.int c0), .val (.int mode), .val (.int w137), .unset, .unset, .unset, .unset, .unset, .unset, .unset, .unset, .unset, .unset, .unset] [(.int bXq)])) _
        refine X0.ldcInt hx hown (mvT hZ (hw _ (List.mem_of_getElem? (i := 0) rfl))) (g := (mkF m 30 #[.val (.int cn), .val (.int aXq), .val (.int bXq), .val (.int c0), .val (.int mode), .val (.int w137), .unset, .unset, .unset, .unset, .unset, .unset, .unset, .unset, .unset, .unset, .unset] [(.int bXq)])) rfl (hb hby at_30) _ ?_
        show Steps p.tables e below (s₁.setTop (mkF m 32 #[.val (.int cn), .val (.int aXq), .val (.int bXq), .val (.int c0), .val (.int mode), .val (.int w137), .unset, .unset, .unset, .unset, .unset, .unset, .unset, .unset, .unset, .unset, .unset] [(.int (2147483647 : Int32)), (.int bXq)])) _
        refine XS.iand X0.here hx rfl (hb hby at_32) rfl ?_
        show Steps p.tables e below (s₁.setTop (mkF m 33 #[.val (.int cn), .val (.int aXq), .val (.int bXq), .val (.int c0), .val (.int mode), .val (.int w137), .unset, .unset, .unset, .unset, .unset, .unset, .unset, .unset, .unset, .unset, .unset] [(.int (bXq &&& (2147483647 : Int32)))])) _
        exact k
      exact ⟨s₁, _, X0, N0, e0, S140⟩
    · rw [if_neg hc139]
      obtain ⟨_, _, ⟨T141, L141, k141, n141⟩, -, X141, ⟨Lc141, hQ141, l141, y141, z141⟩, st141⟩ := Jvm.LawKit.callS X0 hx (y := (⟨"com/example/libclause/libclause/search/AllDocumentsIteratorAdvancePinLaw", "clamp", "(J)I"⟩ : MethodName)) hown (mvT hZ (hw _ (List.mem_of_getElem? (i := 57) rfl))) (mvT hZ (hw _ (List.mem_of_getElem? (i := 58) rfl))) (mvT hZ (hw _ (List.mem_of_getElem? (i := 45) rfl))) (mvT hZ (hw _ (List.mem_of_getElem? (i := 59) rfl))) (by decide) (backOf (W := 0) (rm11 l Z a0 hw [] (w137.toInt64 + ((bXq &&& (3 : Int32)) - (1 : Int32)).toInt64) h0 n0 Z0) hZ (hw _ (List.mem_of_getElem? (i := 59) rfl)) (hw _ (List.mem_of_getElem? (i := 45) rfl)) (by decide) (by decide)) (g := (mkF m 23 #[.val (.int cn), .val (.int aXq), .val (.int bXq), .val (.int c0), .val (.int mode), .val (.int w137), .unset, .unset, .unset, .unset, .unset, .unset, .unset, .unset, .unset, .unset, .unset] [(.long (w137.toInt64 + ((bXq &&& (3 : Int32)) - (1 : Int32)).toInt64))])) rfl (by rw [hml]; rfl) (argsL := [(.long (w137.toInt64 + ((bXq &&& (3 : Int32)) - (1 : Int32)).toInt64))]) (rest := []) (lenOf pd_5 rfl) rfl (by show 2 * 0 + _ ≤ _; exact Nat.le_of_eq rfl) (hb hby at_23) (fun _ _ => ⟨rfl, e0, (by decide : 0 + 0 ≤ _), (by decide : 0 + 0 ≤ _)⟩)
      dsimp only [Pt.U, Pt.locs, Pt.cells, Pt.slots] at X141 l141 y141 z141 st141 hQ141
      subst l141 y141 z141
      obtain ⟨rfl, N141q, e141⟩ := hQ141
      have N141 := Fr.app N0 N141q
      have S142 : ∀ t, Steps p.tables e below (T141.setTop (mkF m 33 #[.val (.int cn), .val (.int aXq), .val (.int bXq), .val (.int c0), .val (.int mode), .val (.int w137), .unset, .unset, .unset, .unset, .unset, .unset, .unset, .unset, .unset, .unset, .unset] [(.int (f11 (w137.toInt64 + ((bXq &&& (3 : Int32)) - (1 : Int32)).toInt64)))])) t → Steps p.tables e below (s₁.setTop (entryFrame m #[(.int cn), (.int aXq), (.int bXq), (.int c0), (.int mode)] maxLocals)) t := by
        intro t k
        refine S136 t ?_
        refine XS.ifNo X0.here hx rfl (hb hby at_10) rfl ((if0 _ _).trans (feq hc139).1) ?_
        show Steps p.tables e below (s₁.setTop (mkF m 13 #[.val (.int cn), .val (.int aXq), .val (.int bXq), .val (.int c0), .val (.int mode), .val (.int w137), .unset, .unset, .unset, .unset, .unset, .unset, .unset, .unset, .unset, .unset, .unset] [])) _
        refine XS.iload X0.here hx rfl (hb hby at_13) rfl ?_
        show Steps p.tables e below (s₁.setTop (mkF m 15 #[.val (.int cn), .val (.int aXq), .val (.int bXq), .val (.int c0), .val (.int mode), .val (.int w137), .unset, .unset, .unset, .unset, .unset, .unset, .unset, .unset, .unset, .unset, .unset] [(.int w137)])) _
        refine XS.i2l X0.here hx rfl (hb hby at_15) rfl ?_
        show Steps p.tables e below (s₁.setTop (mkF m 16 #[.val (.int cn), .val (.int aXq), .val (.int bXq), .val (.int c0), .val (.int mode), .val (.int w137), .unset, .unset, .unset, .unset, .unset, .unset, .unset, .unset, .unset, .unset, .unset] [(.long w137.toInt64)])) _
        refine XS.iloadN X0.here hx rfl (hb hby at_16) rfl ?_
        show Steps p.tables e below (s₁.setTop (mkF m 17 #[.val (.int cn), .val (.int aXq), .val (.int bXq), .val (.int c0), .val (.int mode), .val (.int w137), .unset, .unset, .unset, .unset, .unset, .unset, .unset, .unset, .unset, .unset, .unset] [(.int bXq), (.long w137.toInt64)])) _
        refine XS.iconst X0.here hx rfl (hb hby at_17) ?_
        show Steps p.tables e below (s₁.setTop (mkF m 18 #[.val (.int cn), .val (.int aXq), .val (.int bXq), .val (.int c0), .val (.int mode), .val (.int w137), .unset, .unset, .unset, .unset, .unset, .unset, .unset, .unset, .unset, .unset, .unset] [(.int (3 : Int32)), (.int bXq), (.long w137.toInt64)])) _
        refine XS.iand X0.here hx rfl (hb hby at_18) rfl ?_
        show Steps p.tables e below (s₁.setTop (mkF m 19 #[.val (.int cn), .val (.int aXq), .val (.int bXq), .val (.int c0), .val (.int mode), .val (.int w137), .unset, .unset, .unset, .unset, .unset, .unset, .unset, .unset, .unset, .unset, .unset] [(.int (bXq &&& (3 : Int32))), (.long w137.toInt64)])) _
        refine XS.iconst X0.here hx rfl (hb hby at_19) ?_
        show Steps p.tables e below (s₁.setTop (mkF m 20 #[.val (.int cn), .val (.int aXq), .val (.int bXq), .val (.int c0), .val (.int mode), .val (.int w137), .unset, .unset, .unset, .unset, .unset, .unset, .unset, .unset, .unset, .unset, .unset] [(.int (1 : Int32)), (.int (bXq &&& (3 : Int32))), (.long w137.toInt64)])) _
        refine XS.isub X0.here hx rfl (hb hby at_20) rfl ?_
        show Steps p.tables e below (s₁.setTop (mkF m 21 #[.val (.int cn), .val (.int aXq), .val (.int bXq), .val (.int c0), .val (.int mode), .val (.int w137), .unset, .unset, .unset, .unset, .unset, .unset, .unset, .unset, .unset, .unset, .unset] [(.int ((bXq &&& (3 : Int32)) - (1 : Int32))), (.long w137.toInt64)])) _
        refine XS.i2l X0.here hx rfl (hb hby at_21) rfl ?_
        show Steps p.tables e below (s₁.setTop (mkF m 22 #[.val (.int cn), .val (.int aXq), .val (.int bXq), .val (.int c0), .val (.int mode), .val (.int w137), .unset, .unset, .unset, .unset, .unset, .unset, .unset, .unset, .unset, .unset, .unset] [(.long ((bXq &&& (3 : Int32)) - (1 : Int32)).toInt64), (.long w137.toInt64)])) _
        refine XS.ladd X0.here hx rfl (hb hby at_22) rfl ?_
        show Steps p.tables e below (s₁.setTop (mkF m 23 #[.val (.int cn), .val (.int aXq), .val (.int bXq), .val (.int c0), .val (.int mode), .val (.int w137), .unset, .unset, .unset, .unset, .unset, .unset, .unset, .unset, .unset, .unset, .unset] [(.long (w137.toInt64 + ((bXq &&& (3 : Int32)) - (1 : Int32)).toInt64))])) _
        refine st141 _ ?_
        show Steps p.tables e below (T141.setTop (mkF m 26 #[.val (.int cn), .val (.int aXq), .val (.int bXq), .val (.int c0), .val (.int mode), .val (.int w137), .unset, .unset, .unset, .unset, .unset, .unset, .unset, .unset, .unset, .unset, .unset] [(.int (f11 (w137.toInt64 + ((bXq &&& (3 : Int32)) - (1 : Int32)).toInt64)))])) _
        refine XS.goto X141.here hx rfl (pc0 := 26) (pc' := 33) rfl (hb hby at_26) (by decide) (by decide) ?_
        show Steps p.tables e below (T141.setTop (mkF m 33 #[.val (.int cn), .val (.int aXq), .val (.int bXq), .val (.int c0), .val (.int mode), .val (.int w137), .unset, .unset, .unset, .unset, .unset, .unset, .unset, .unset, .unset, .unset, .unset] [(.int (f11 (w137.toInt64 + ((bXq &&& (3 : Int32)) - (1 : Int32)).toInt64)))])) _
        exact k
      exact ⟨T141, _, X141, N141, e141, S142⟩
  obtain ⟨w144, hw144⟩ : ∃ z : Int32, z = (if w138 = (0 : Int32) then (bXq &&& (2147483647 : Int32)) else (f11 (w137.toInt64 + ((bXq &&& (3 : Int32)) - (1 : Int32)).toInt64))) := ⟨_, rfl⟩
  rw [← hw144] at S143
  have S145 : ∀ t, Steps p.tables e below (T143.setTop (mkF m 39 #[.val (.int cn), .val (.int aXq), .val (.int bXq), .val (.int c0), .val (.int mode), .val (.int w137), .val (.int w144), .unset, .unset, .unset, .unset, .unset, .unset, .unset, .unset, .unset, .unset] [(.int (mode &&& (2 : Int32)))])) t → Steps p.tables e below (s₁.setTop (entryFrame m #[(.int cn), (.int aXq), (.int bXq), (.int c0), (.int mode)] maxLocals)) t := by
    intro t k
    refine S143 t ?_
    refine XS.istore X143.here hx rfl (hb hby at_33) rfl (l' := #[.val (.int cn), .val (.int aXq), .val (.int bXq), .val (.int c0), .val (.int mode), .val (.int w137), .val (.int w144), .unset, .unset, .unset, .unset, .unset, .unset, .unset, .unset, .unset, .unset]) rfl ?_
    show Steps p.tables e below (T143.setTop (mkF m 35 #[.val (.int cn), .val (.int aXq), .val (.int bXq), .val (.int c0), .val (.int mode), .val (.int w137), .val (.int w144), .unset, .unset, .unset, .unset, .unset, .unset, .unset, .unset, .unset, .unset] [])) _
    refine XS.iload X143.here hx rfl (hb hby at_35) rfl ?_
    show Steps p.tables e below (T143.setTop (mkF m 37 #[.val (.int cn), .val (.int aXq), .val (.int bXq), .val (.int c0), .val (.int mode), .val (.int w137), .val (.int w144), .unset, .unset, .unset, .unset, .unset, .unset, .unset, .unset, .unset, .unset] [(.int mode)])) _
    refine XS.iconst X143.here hx rfl (hb hby at_37) ?_
    show Steps p.tables e below (T143.setTop (mkF m 38 #[.val (.int cn), .val (.int aXq), .val (.int bXq), .val (.int c0), .val (.int mode), .val (.int w137), .val (.int w144), .unset, .unset, .unset, .unset, .unset, .unset, .unset, .unset, .unset, .unset] [(.int (2 : Int32)), (.int mode)])) _
    refine XS.iand X143.here hx rfl (hb hby at_38) rfl ?_
    show Steps p.tables e below (T143.setTop (mkF m 39 #[.val (.int cn), .val (.int aXq), .val (.int bXq), .val (.int c0), .val (.int mode), .val (.int w137), .val (.int w144), .unset, .unset, .unset, .unset, .unset, .unset, .unset, .unset, .unset, .unset] [(.int (mode &&& (2 : Int32)))])) _
    exact k
  obtain ⟨w146, hw146⟩ : ∃ z : Int32, z = (mode &&& (2 : Int32)) := ⟨_, rfl⟩
  rw [← hw146] at S145
  obtain ⟨T151, L151, X151, N151, e151, S151⟩ : ∃ (T' : State) (L' : List Loc), Stand p l e room_1 s m #[(.int cn), (.int aXq), (.int bXq), (.int c0), (.int mode)] below meth c T' L' 0 0 ∧ Fr n0 L' ∧ T'.heap = h0 ∧ ∀ t, Steps p.tables e below (T'.setTop (mkF m 62 #[.val (.int cn), .val (.int aXq), .val (.int bXq), .val (.int c0), .val (.int mode), .val (.int w137), .val (.int w144), .unset, .unset, .unset, .unset, .unset, .unset, .unset, .unset, .unset, .unset] [(.int (if w146 = (0 : Int32) then (c0 &&& (2147483647 : Int32)) else (f11 (w144.toInt64 + ((c0 &&& (3 : Int32)) - (1 : Int32)).toInt64))))])) t → Steps p.tables e below (s₁.setTop (entryFrame m #[(.int cn), (.int aXq), (.int bXq), (.int c0), (.int mode)] maxLocals)) t := by
    by_cases hc147 : w146 = (0 : Int32)
    · rw [if_pos hc147]
      have S148 : ∀ t, Steps p.tables e below (T143.setTop (mkF m 62 #[.val (.int cn), .val (.int aXq), .val (.int bXq), .val (.int c0), .val (.int mode), .val (.int w137), .val (.int w144), .unset, .unset, .unset, .unset, .unset, .unset, .unset, .unset, .unset, .unset] [(.int (c0 &&& (2147483647 : Int32)))])) t → Steps p.tables e below (s₁.setTop (entryFrame m #[(.int cn), (.int aXq), (.int bXq), (.int c0), (.int mode)] maxLocals)) t := by
        intro t k
        refine S145 t ?_
        refine XS.ifYes X143.here hx rfl (pc0 := 39) (pc' := 58) rfl (hb hby at_39) rfl ((if0 _ _).trans (teq hc147).1) (by decide) (by decide) ?_
        show Steps p.tables e below (T143.setTop (mkF m 58 #[.val (.int cn), .val (.int aXq), .val (.int bXq), .val (.int c0), .val (.int mode), .val (.int w137), .val (.int w144), .unset, .unset, .unset, .unset, .unset, .unset, .unset, .unset, .unset, .unset] [])) _
        refine XS.iloadN X143.here hx rfl (hb hby at_58) rfl ?_
        show Steps p.tables e below (T143.setTop (mkF m 59 #[.val (.int cn), .val (.int aXq), .val (.int bXq), .val (.int c0), .val (.int mode), .val (.int w137), .val (.int w144), .unset, .unset, .unset, .unset, .unset, .unset, .unset, .unset, .unset, .unset] [(.int c0)])) _
        refine X143.ldcInt hx hown (mvT hZ (hw _ (List.mem_of_getElem? (i := 0) rfl))) (g := (mkF m 59 #[.val (.int cn), .val (.int aXq), .val (.int bXq), .val (.int c0), .val (.int mode), .val (.int w137), .val (.int w144), .unset, .unset, .unset, .unset, .unset, .unset, .unset, .unset, .unset, .unset] [(.int c0)])) rfl (hb hby at_59) _ ?_
        show Steps p.tables e below (T143.setTop (mkF m 61 #[.val (.int cn), .val (.int aXq), .val (.int bXq), .val (.int c0), .val (.int mode), .val (.int w137), .val (.int w144), .unset, .unset, .unset, .unset, .unset, .unset, .unset, .unset, .unset, .unset] [(.int (2147483647 : Int32)), (.int c0)])) _
        refine XS.iand X143.here hx rfl (hb hby at_61) rfl ?_
        show Steps p.tables e below (T143.setTop (mkF m 62 #[.val (.int cn), .val (.int aXq), .val (.int bXq), .val (.int c0), .val (.int mode), .val (.int w137), .val (.int w144), .unset, .unset, .unset, .unset, .unset, .unset, .unset, .unset, .unset, .unset] [(.int (c0 &&& (2147483647 : Int32)))])) _
        exact k
      exact ⟨T143, _, X143, N143, e143, S148⟩
    · rw [if_neg hc147]
      obtain ⟨_, _, ⟨T149, L149, k149, n149⟩, -, X149, ⟨Lc149, hQ149, l149, y149, z149⟩, st149⟩ := Jvm.LawKit.callS X143 hx (y := (⟨"com/example/libclause/libclause/search/AllDocumentsIteratorAdvancePinLaw", "clamp", "(J)I"⟩ : MethodName)) hown (mvT hZ (hw _ (List.mem_of_getElem? (i := 57) rfl))) (mvT hZ (hw _ (List.mem_of_getElem? (i := 58) rfl))) (mvT hZ (hw _ (List.mem_of_getElem? (i := 45) rfl))) (mvT hZ (hw _ (List.mem_of_getElem? (i := 59) rfl))) (by decide) (backOf (W := 0) (rm11 l Z a0 hw [] (w144.toInt64 + ((c0 &&& (3 : Int32)) - (1 : Int32)).toInt64) h0 n0 Z0) hZ (hw _ (List.mem_of_getElem? (i := 59) rfl)) (hw _ (List.mem_of_getElem? (i := 45) rfl)) (by decide) (by decide)) (g := (mkF m 52 #[.val (.int cn), .val (.int aXq), .val (.int bXq), .val (.int c0), .val (.int mode), .val (.int w137), .val (.int w144), .unset, .unset, .unset, .unset, .unset, .unset, .unset, .unset, .unset, .unset] [(.long (w144.toInt64 + ((c0 &&& (3 : Int32)) - (1 : Int32)).toInt64))])) rfl (by rw [hml]; rfl) (argsL := [(.long (w144.toInt64 + ((c0 &&& (3 : Int32)) - (1 : Int32)).toInt64))]) (rest := []) (lenOf pd_5 rfl) rfl (by show 2 * 0 + _ ≤ _; exact Nat.le_of_eq rfl) (hb hby at_52) (fun _ _ => ⟨rfl, e143, (by decide : 0 + 0 ≤ _), (by decide : 0 + 0 ≤ _)⟩)
      dsimp only [Pt.U, Pt.locs, Pt.cells, Pt.slots] at X149 l149 y149 z149 st149 hQ149
      subst l149 y149 z149
      obtain ⟨rfl, N149q, e149⟩ := hQ149
      have N149 := Fr.app N143 N149q
      have S150 : ∀ t, Steps p.tables e below (T149.setTop (mkF m 62 #[.val (.int cn), .val (.int aXq), .val (.int bXq), .val (.int c0), .val (.int mode), .val (.int w137), .val (.int w144), .unset, .unset, .unset, .unset, .unset, .unset, .unset, .unset, .unset, .unset] [(.int (f11 (w144.toInt64 + ((c0 &&& (3 : Int32)) - (1 : Int32)).toInt64)))])) t → Steps p.tables e below (s₁.setTop (entryFrame m #[(.int cn), (.int aXq), (.int bXq), (.int c0), (.int mode)] maxLocals)) t := by
        intro t k
        refine S145 t ?_
        refine XS.ifNo X143.here hx rfl (hb hby at_39) rfl ((if0 _ _).trans (feq hc147).1) ?_
        show Steps p.tables e below (T143.setTop (mkF m 42 #[.val (.int cn), .val (.int aXq), .val (.int bXq), .val (.int c0), .val (.int mode), .val (.int w137), .val (.int w144), .unset, .unset, .unset, .unset, .unset, .unset, .unset, .unset, .unset, .unset] [])) _
        refine XS.iload X143.here hx rfl (hb hby at_42) rfl ?_
        show Steps p.tables e below (T143.setTop (mkF m 44 #[.val (.int cn), .val (.int aXq), .val (.int bXq), .val (.int c0), .val (.int mode), .val (.int w137), .val (.int w144), .unset, .unset, .unset, .unset, .unset, .unset, .unset, .unset, .unset, .unset] [(.int w144)])) _
        refine XS.i2l X143.here hx rfl (hb hby at_44) rfl ?_
        show Steps p.tables e below (T143.setTop (mkF m 45 #[.val (.int cn), .val (.int aXq), .val (.int bXq), .val (.int c0), .val (.int mode), .val (.int w137), .val (.int w144), .unset, .unset, .unset, .unset, .unset, .unset, .unset, .unset, .unset, .unset] [(.long w144.toInt64)])) _
        refine XS.iloadN X143.here hx rfl (hb hby at_45) rfl ?_
        show Steps p.tables e below (T143.setTop (mkF m 46 #[.val (.int cn), .val (.int aXq), .val (.int bXq), .val (.int c0), .val (.int mode), .val (.int w137), .val (.int w144), .unset, .unset, .unset, .unset, .unset, .unset, .unset, .unset, .unset, .unset] [(.int c0), (.long w144.toInt64)])) _
        refine XS.iconst X143.here hx rfl (hb hby at_46) ?_
        show Steps p.tables e below (T143.setTop (mkF m 47 #[.val (.int cn), .val (.int aXq), .val (.int bXq), .val (.int c0), .val (.int mode), .val (.int w137), .val (.int w144), .unset, .unset, .unset, .unset, .unset, .unset, .unset, .unset, .unset, .unset] [(.int (3 : Int32)), (.int c0), (.long w144.toInt64)])) _
        refine XS.iand X143.here hx rfl (hb hby at_47) rfl ?_
        show Steps p.tables e below (T143.setTop (mkF m 48 #[.val (.int cn), .val (.int aXq), .val (.int bXq), .val (.int c0), .val (.int mode), .val (.int w137), .val (.int w144), .unset, .unset, .unset, .unset, .unset, .unset, .unset, .unset, .unset, .unset] [(.int (c0 &&& (3 : Int32))), (.long w144.toInt64)])) _
        refine XS.iconst X143.here hx rfl (hb hby at_48) ?_
        show Steps p.tables e below (T143.setTop (mkF m 49 #[.val (.int cn), .val (.int aXq), .val (.int bXq), .val (.int c0), .val (.int mode), .val (.int w137), .val (.int w144), .unset, .unset, .unset, .unset, .unset, .unset, .unset, .unset, .unset, .unset] [(.int (1 : Int32)), (.int (c0 &&& (3 : Int32))), (.long w144.toInt64)])) _
        refine XS.isub X143.here hx rfl (hb hby at_49) rfl ?_
        show Steps p.tables e below (T143.setTop (mkF m 50 #[.val (.int cn), .val (.int aXq), .val (.int bXq), .val (.int c0), .val (.int mode), .val (.int w137), .val (.int w144), .unset, .unset, .unset, .unset, .unset, .unset, .unset, .unset, .unset, .unset] [(.int ((c0 &&& (3 : Int32)) - (1 : Int32))), (.long w144.toInt64)])) _
        refine XS.i2l X143.here hx rfl (hb hby at_50) rfl ?_
        show Steps p.tables e below (T143.setTop (mkF m 51 #[.val (.int cn), .val (.int aXq), .val (.int bXq), .val (.int c0), .val (.int mode), .val (.int w137), .val (.int w144), .unset, .unset, .unset, .unset, .unset, .unset, .unset, .unset, .unset, .unset] [(.long ((c0 &&& (3 : Int32)) - (1 : Int32)).toInt64), (.long w144.toInt64)])) _
        refine XS.ladd X143.here hx rfl (hb hby at_51) rfl ?_
        show Steps p.tables e below (T143.setTop (mkF m 52 #[.val (.int cn), .val (.int aXq), .val (.int bXq), .val (.int c0), .val (.int mode), .val (.int w137), .val (.int w144), .unset, .unset, .unset, .unset, .unset, .unset, .unset, .unset, .unset, .unset] [(.long (w144.toInt64 + ((c0 &&& (3 : Int32)) - (1 : Int32)).toInt64))])) _
        refine st149 _ ?_
        show Steps p.tables e below (T149.setTop (mkF m 55 #[.val (.int cn), .val (.int aXq), .val (.int bXq), .val (.int c0), .val (.int mode), .val (.int w137), .val (.int w144), .unset, .unset, .unset, .unset, .unset, .unset, .unset, .unset, .unset, .unset] [(.int (f11 (w144.toInt64 + ((c0 &&& (3 : Int32)) - (1 : Int32)).toInt64)))])) _
        refine XS.goto X149.here hx rfl (pc0 := 55) (pc' := 62) rfl (hb hby at_55) (by decide) (by decide) ?_
        show Steps p.tables e below (T149.setTop (mkF m 62 #[.val (.int cn), .val (.int aXq), .val (.int bXq), .val (.int c0), .val (.int mode), .val (.int w137), .val (.int w144), .unset, .unset, .unset, .unset, .unset, .unset, .unset, .unset, .unset, .unset] [(.int (f11 (w144.toInt64 + ((c0 &&& (3 : Int32)) - (1 : Int32)).toInt64)))])) _
        exact k
      exact ⟨T149, _, X149, N149, e149, S150⟩
  obtain ⟨w152, hw152⟩ : ∃ z : Int32, z = (if w146 = (0 : Int32) then (c0 &&& (2147483647 : Int32)) else (f11 (w144.toInt64 + ((c0 &&& (3 : Int32)) - (1 : Int32)).toInt64))) := ⟨_, rfl⟩
  rw [← hw152] at S151
  have S153 : ∀ t, Steps p.tables e below (T151.setTop (mkF m 68 #[.val (.int cn), .val (.int aXq), .val (.int bXq), .val (.int c0), .val (.int mode), .val (.int w137), .val (.int w144), .val (.int w152), .unset, .unset, .unset, .unset, .unset, .unset, .unset, .unset, .unset] [(.int (mode &&& (4 : Int32)))])) t → Steps p.tables e below (s₁.setTop (entryFrame m #[(.int cn), (.int aXq), (.int bXq), (.int c0), (.int mode)] maxLocals)) t := by
    intro t k
    refine S151 t ?_
    refine XS.istore X151.here hx rfl (hb hby at_62) rfl (l' := #[.val (.int cn), .val (.int aXq), .val (.int bXq), .val (.int c0), .val (.int mode), .val (.int w137), .val (.int w144), .val (.int w152), .unset, .unset, .unset, .unset, .unset, .unset, .unset, .unset, .unset]) rfl ?_
    show Steps p.tables e below (T151.setTop (mkF m 64 #[.val (.int cn), .val (.int aXq), .val (.int bXq), .val (.int c0), .val (.int mode), .val (.int w137), .val (.int w144), .val (.int w152), .unset, .unset, .unset, .unset, .unset, .unset, .unset, .unset, .unset] [])) _
    refine XS.iload X151.here hx rfl (hb hby at_64) rfl ?_
    show Steps p.tables e below (T151.setTop (mkF m 66 #[.val (.int cn), .val (.int aXq), .val (.int bXq), .val (.int c0), .val (.int mode), .val (.int w137), .val (.int w144), .val (.int w152), .unset, .unset, .unset, .unset, .unset, .unset, .unset, .unset, .unset] [(.int mode)])) _
    refine XS.iconst X151.here hx rfl (hb hby at_66) ?_
    show Steps p.tables e below (T151.setTop (mkF m 67 #[.val (.int cn), .val (.int aXq), .val (.int bXq), .val (.int c0), .val (.int mode), .val (.int w137), .val (.int w144), .val (.int w152), .unset, .unset, .unset, .unset, .unset, .unset, .unset, .unset, .unset] [(.int (4 : Int32)), (.int mode)])) _
    refine XS.iand X151.here hx rfl (hb hby at_67) rfl ?_
    show Steps p.tables e below (T151.setTop (mkF m 68 #[.val (.int cn), .val (.int aXq), .val (.int bXq), .val (.int c0), .val (.int mode), .val (.int w137), .val (.int w144), .val (.int w152), .unset, .unset, .unset, .unset, .unset, .unset, .unset, .unset, .unset] [(.int (mode &&& (4 : Int32)))])) _
    exact k
  obtain ⟨w154, hw154⟩ : ∃ z : Int32, z = (mode &&& (4 : Int32)) := ⟨_, rfl⟩
  rw [← hw154] at S153
  obtain ⟨T159, L159, X159, N159, e159, S159⟩ : ∃ (T' : State) (L' : List Loc), Stand p l e room_1 s m #[(.int cn), (.int aXq), (.int bXq), (.int c0), (.int mode)] below meth c T' L' 0 0 ∧ Fr n0 L' ∧ T'.heap = h0 ∧ ∀ t, Steps p.tables e below (T'.setTop (mkF m 91 #[.val (.int cn), .val (.int aXq), .val (.int bXq), .val (.int c0), .val (.int mode), .val (.int w137), .val (.int w144), .val (.int w152), .unset, .unset, .unset, .unset, .unset, .unset, .unset, .unset, .unset] [(.int (if w154 = (0 : Int32) then (cn &&& (2147483647 : Int32)) else (f11 (w137.toInt64 + ((cn &&& (3 : Int32)) - (1 : Int32)).toInt64))))])) t → Steps p.tables e below (s₁.setTop (entryFrame m #[(.int cn), (.int aXq), (.int bXq), (.int c0), (.int mode)] maxLocals)) t := by
    by_cases hc155 : w154 = (0 : Int32)
    · rw [if_pos hc155]
      have S156 : ∀ t, Steps p.tables e below (T151.setTop (mkF m 91 #[.val (.int cn), .val (.int aXq), .val (.int bXq), .val (.int c0), .val (.int mode), .val (.int w137), .val (.int w144), .val (.int w152), .unset, .unset, .unset, .unset, .unset, .unset, .unset, .unset, .unset] [(.int (cn &&& (2147483647 : Int32)))])) t → Steps p.tables e below (s₁.setTop (entryFrame m #[(.int cn), (.int aXq), (.int bXq), (.int c0), (.int mode)] maxLocals)) t := by
        intro t k
        refine S153 t ?_
        refine XS.ifYes X151.here hx rfl (pc0 := 68) (pc' := 87) rfl (hb hby at_68) rfl ((if0 _ _).trans (teq hc155).1) (by decide) (by decide) ?_
        show Steps p.tables e below (T151.setTop (mkF m 87 #[.val (.int cn), .val (.int aXq), .val (.int bXq), .val (.int c0), .val (.int mode), .val (.int w137), .val (.int w144), .val (.int w152), .unset, .unset, .unset, .unset, .unset, .unset, .unset, .unset, .unset] [])) _
        refine XS.iloadN X151.here hx rfl (hb hby at_87) rfl ?_
        show Steps p.tables e below (T151.setTop (mkF m 88 #[.val (.int cn), .val (.int aXq), .val (.int bXq), .val (.int c0), .val (.int mode), .val (.int w137), .val (.int w144), .val (.int w152), .unset, .unset, .unset, .unset, .unset, .unset, .unset, .unset, .unset] [(.int cn)])) _
        refine X151.ldcInt hx hown (mvT hZ (hw _ (List.mem_of_getElem? (i := 0) rfl))) (g := (mkF m 88 #[.val (.int cn), .val (.int aXq), .val (.int bXq), .val (.int c0), .val (.int mode), .val (.int w137), .val (.int w144), .val (.int w152), .unset, .unset, .unset, .unset, .unset, .unset, .unset, .unset, .unset] [(.int cn)])) rfl (hb hby at_88) _ ?_
        show Steps p.tables e below (T151.setTop (mkF m 90 #[.val (.int cn), .val (.int aXq), .val (.int bXq), .val (.int c0), .val (.int mode), .val (.int w137), .val (.int w144), .val (.int w152), .unset, .unset, .unset, .unset, .unset, .unset, .unset, .unset, .unset] [(.int (2147483647 : Int32)), (.int cn)])) _
        refine XS.iand X151.here hx rfl (hb hby at_90) rfl ?_
        show Steps p.tables e below (T151.setTop (mkF m 91 #[.val (.int cn), .val (.int aXq), .val (.int bXq), .val (.int c0), .val (.int mode), .val (.int w137), .val (.int w144), .val (.int w152), .unset, .unset, .unset, .unset, .unset, .unset, .unset, .unset, .unset] [(.int (cn &&& (2147483647 : Int32)))])) _
        exact k
      exact ⟨T151, _, X151, N151, e151, S156⟩
    · rw [if_neg hc155]
      obtain ⟨_, _, ⟨T157, L157, k157, n157⟩, -, X157, ⟨Lc157, hQ157, l157, y157, z157⟩, st157⟩ := Jvm.LawKit.callS X151 hx (y := (⟨"com/example/libclause/libclause/search/AllDocumentsIteratorAdvancePinLaw", "clamp", "(J)I"⟩ : MethodName)) hown (mvT hZ (hw _ (List.mem_of_getElem? (i := 57) rfl))) (mvT hZ (hw _ (List.mem_of_getElem? (i := 58) rfl))) (mvT hZ (hw _ (List.mem_of_getElem? (i := 45) rfl))) (mvT hZ (hw _ (List.mem_of_getElem? (i := 59) rfl))) (by decide) (backOf (W := 0) (rm11 l Z a0 hw [] (w137.toInt64 + ((cn &&& (3 : Int32)) - (1 : Int32)).toInt64) h0 n0 Z0) hZ (hw _ (List.mem_of_getElem? (i := 59) rfl)) (hw _ (List.mem_of_getElem? (i := 45) rfl)) (by decide) (by decide)) (g := (mkF m 81 #[.val (.int cn), .val (.int aXq), .val (.int bXq), .val (.int c0), .val (.int mode), .val (.int w137), .val (.int w144), .val (.int w152), .unset, .unset, .unset, .unset, .unset, .unset, .unset, .unset, .unset] [(.long (w137.toInt64 + ((cn &&& (3 : Int32)) - (1 : Int32)).toInt64))])) rfl (by rw [hml]; rfl) (argsL := [(.long (w137.toInt64 + ((cn &&& (3 : Int32)) - (1 : Int32)).toInt64))]) (rest := []) (lenOf pd_5 rfl) rfl (by show 2 * 0 + _ ≤ _; exact Nat.le_of_eq rfl) (hb hby at_81) (fun _ _ => ⟨rfl, e151, (by decide : 0 + 0 ≤ _), (by decide : 0 + 0 ≤ _)⟩)
      dsimp only [Pt.U, Pt.locs, Pt.cells, Pt.slots] at X157 l157 y157 z157 st157 hQ157
      subst l157 y157 z157
      obtain ⟨rfl, N157q, e157⟩ := hQ157
      have N157 := Fr.app N151 N157q
      have S158 : ∀ t, Steps p.tables e below (T157.setTop (mkF m 91 #[.val (.int cn), .val (.int aXq), .val (.int bXq), .val (.int c0), .val (.int mode), .val (.int w137), .val (.int w144), .val (.int w152), .unset, .unset, .unset, .unset, .unset, .unset, .unset, .unset, .unset] [(.int (f11 (w137.toInt64 + ((cn &&& (3 : Int32)) - (1 : Int32)).toInt64)))])) t → Steps p.tables e below (s₁.setTop (entryFrame m #[(.int cn), (.int aXq), (.int bXq), (.int c0), (.int mode)] maxLocals)) t := by
        intro t k
        refine S153 t ?_
        refine XS.ifNo X151.here hx rfl (hb hby at_68) rfl ((if0 _ _).trans (feq hc155).1) ?_
        show Steps p.tables e below (T151.setTop (mkF m 71 #[.val (.int cn), .val (.int aXq), .val (.int bXq), .val (.int c0), .val (.int mode), .val (.int w137), .val (.int w144), .val (.int w152), .unset, .unset, .unset, .unset, .unset, .unset, .unset, .unset, .unset] [])) _
        refine XS.iload X151.here hx rfl (hb hby at_71) rfl ?_
        show Steps p.tables e below (T151.setTop (mkF m 73 #[.val (.int cn), .val (.int aXq), .val (.int bXq), .val (.int c0), .val (.int mode), .val (.int w137), .val (.int w144), .val (.int w152), .unset, .unset, .unset, .unset, .unset, .unset, .unset, .unset, .unset] [(.int w137)])) _
        refine XS.i2l X151.here hx rfl (hb hby at_73) rfl ?_
        show Steps p.tables e below (T151.setTop (mkF m 74 #[.val (.int cn), .val (.int aXq), .val (.int bXq), .val (.int c0), .val (.int mode), .val (.int w137), .val (.int w144), .val (.int w152), .unset, .unset, .unset, .unset, .unset, .unset, .unset, .unset, .unset] [(.long w137.toInt64)])) _
        refine XS.iloadN X151.here hx rfl (hb hby at_74) rfl ?_
        show Steps p.tables e below (T151.setTop (mkF m 75 #[.val (.int cn), .val (.int aXq), .val (.int bXq), .val (.int c0), .val (.int mode), .val (.int w137), .val (.int w144), .val (.int w152), .unset, .unset, .unset, .unset, .unset, .unset, .unset, .unset, .unset] [(.int cn), (.long w137.toInt64)])) _
        refine XS.iconst X151.here hx rfl (hb hby at_75) ?_
        show Steps p.tables e below (T151.setTop (mkF m 76 #[.val (.int cn), .val (.int aXq), .val (.int bXq), .val (.int c0), .val (.int mode), .val (.int w137), .val (.int w144), .val (.int w152), .unset, .unset, .unset, .unset, .unset, .unset, .unset, .unset, .unset] [(.int (3 : Int32)), (.int cn), (.long w137.toInt64)])) _
        refine XS.iand X151.here hx rfl (hb hby at_76) rfl ?_
        show Steps p.tables e below (T151.setTop (mkF m 77 #[.val (.int cn), .val (.int aXq), .val (.int bXq), .val (.int c0), .val (.int mode), .val (.int w137), .val (.int w144), .val (.int w152), .unset, .unset, .unset, .unset, .unset, .unset, .unset, .unset, .unset] [(.int (cn &&& (3 : Int32))), (.long w137.toInt64)])) _
        refine XS.iconst X151.here hx rfl (hb hby at_77) ?_
        show Steps p.tables e below (T151.setTop (mkF m 78 #[.val (.int cn), .val (.int aXq), .val (.int bXq), .val (.int c0), .val (.int mode), .val (.int w137), .val (.int w144), .val (.int w152), .unset, .unset, .unset, .unset, .unset, .unset, .unset, .unset, .unset] [(.int (1 : Int32)), (.int (cn &&& (3 : Int32))), (.long w137.toInt64)])) _
        refine XS.isub X151.here hx rfl (hb hby at_78) rfl ?_
        show Steps p.tables e below (T151.setTop (mkF m 79 #[.val (.int cn), .val (.int aXq), .val (.int bXq), .val (.int c0), .val (.int mode), .val (.int w137), .val (.int w144), .val (.int w152), .unset, .unset, .unset, .unset, .unset, .unset, .unset, .unset, .unset] [(.int ((cn &&& (3 : Int32)) - (1 : Int32))), (.long w137.toInt64)])) _
        refine XS.i2l X151.here hx rfl (hb hby at_79) rfl ?_
        show Steps p.tables e below (T151.setTop (mkF m 80 #[.val (.int cn), .val (.int aXq), .val (.int bXq), .val (.int c0), .val (.int mode), .val (.int w137), .val (.int w144), .val (.int w152), .unset, .unset, .unset, .unset, .unset, .unset, .unset, .unset, .unset] [(.long ((cn &&& (3 : Int32)) - (1 : Int32)).toInt64), (.long w137.toInt64)])) _
        refine XS.ladd X151.here hx rfl (hb hby at_80) rfl ?_
        show Steps p.tables e below (T151.setTop (mkF m 81 #[.val (.int cn), .val (.int aXq), .val (.int bXq), .val (.int c0), .val (.int mode), .val (.int w137), .val (.int w144), .val (.int w152), .unset, .unset, .unset, .unset, .unset, .unset, .unset, .unset, .unset] [(.long (w137.toInt64 + ((cn &&& (3 : Int32)) - (1 : Int32)).toInt64))])) _
        refine st157 _ ?_
        show Steps p.tables e below (T157.setTop (mkF m 84 #[.val (.int cn), .val (.int aXq), .val (.int bXq), .val (.int c0), .val (.int mode), .val (.int w137), .val (.int w144), .val (.int w152), .unset, .unset, .unset, .unset, .unset, .unset, .unset, .unset, .unset] [(.int (f11 (w137.toInt64 + ((cn &&& (3 : Int32)) - (1 : Int32)).toInt64)))])) _
        refine XS.goto X157.here hx rfl (pc0 := 84) (pc' := 91) rfl (hb hby at_84) (by decide) (by decide) ?_
        show Steps p.tables e below (T157.setTop (mkF m 91 #[.val (.int cn), .val (.int aXq), .val (.int bXq), .val (.int c0), .val (.int mode), .val (.int w137), .val (.int w144), .val (.int w152), .unset, .unset, .unset, .unset, .unset, .unset, .unset, .unset, .unset] [(.int (f11 (w137.toInt64 + ((cn &&& (3 : Int32)) - (1 : Int32)).toInt64)))])) _
        exact k
      exact ⟨T157, _, X157, N157, e157, S158⟩
  obtain ⟨w160, hw160⟩ : ∃ z : Int32, z = (if w154 = (0 : Int32) then (cn &&& (2147483647 : Int32)) else (f11 (w137.toInt64 + ((cn &&& (3 : Int32)) - (1 : Int32)).toInt64))) := ⟨_, rfl⟩
  rw [← hw160] at S159
  obtain ⟨T161, h161, X161, e161, E161, A161, D161, -, st161⟩ := newO X159 hx hZ hown (hw _ (List.mem_of_getElem? (i := 1) rfl)) (hw _ (List.mem_of_getElem? (i := 2) rfl)) (hw _ (List.mem_of_getElem? (i := 3) rfl)) e159 (g := (mkF m 93 #[.val (.int cn), .val (.int aXq), .val (.int bXq), .val (.int c0), .val (.int mode), .val (.int w137), .val (.int w144), .val (.int w152), .val (.int w160), .unset, .unset, .unset, .unset, .unset, .unset, .unset, .unset] [])) rfl (hb hby at_93) (by decide) (by decide)
  obtain ⟨b161, g161⟩ : ∃ z, z = h0.size := ⟨_, rfl⟩
  rw [← g161] at A161 D161 st161
  have gg161 : n0 ≤ b161 := Nat.le_trans Z0 (Nat.le_of_eq g161.symm)
  have sz161 : h0.size ≤ b161 := Nat.le_trans (Keep.refl h0 []).1 (Nat.le_of_eq g161.symm)
  have K162 : Keep h0 h161 [] := (Keep.refl h0 []).ext E161
  have Z163 : n0 ≤ h161.size := Nat.le_trans Z0 E161.1
  have f164 : Fld Z h161 b161 "com/example/libclause/libclause/search/AllDocumentsIterator" "document" "I" (.int (0 : Int32)) := D161 (Or.inl (hw _ (List.mem_of_getElem? (i := 33) rfl))) (ty := .int) (by decide)
  have f165 : Fld Z h161 b161 "com/example/libclause/libclause/search/AllDocumentsIterator" "documentCount" "I" (.int (0 : Int32)) := D161 (Or.inr (hw _ (List.mem_of_getElem? (i := 35) rfl))) (ty := .int) (by decide)
  have f166 : Fld Z h161 b161 "com/example/libclause/libclause/search/AllDocumentsIterator" "matchAll" "Lcom/example/libclause/libclause/query/MatchAll;" .null := D161 (Or.inr (hw _ (List.mem_of_getElem? (i := 37) rfl))) (ty := (.object "com/example/libclause/libclause/query/MatchAll")) (by decide)
  obtain ⟨T167, h167, X167, e167, E167, A167, D167, -, st167⟩ := newO X161 hx hZ hown (hw _ (List.mem_of_getElem? (i := 4) rfl)) (hw _ (List.mem_of_getElem? (i := 5) rfl)) (hw _ (List.mem_of_getElem? (i := 6) rfl)) e161 (g := (mkF m 99 #[.val (.int cn), .val (.int aXq), .val (.int bXq), .val (.int c0), .val (.int mode), .val (.int w137), .val (.int w144), .val (.int w152), .val (.int w160), .unset, .unset, .unset, .unset, .unset, .unset, .unset, .unset] [(.int w160), (.ref b161), (.ref b161)])) rfl (hb hby at_99) (by decide) (by decide)
  obtain ⟨b167, g167⟩ : ∃ z, z = h161.size := ⟨_, rfl⟩
  rw [← g167] at A167 D167 st167
  have ne168 : b161 ≠ b167 := Nat.ne_of_lt (Nat.lt_of_lt_of_le A161.lt (Nat.le_of_eq g167.symm))
  have gg167 : n0 ≤ b167 := Nat.le_trans Z163 (Nat.le_of_eq g167.symm)
  have sz167 : h0.size ≤ b167 := Nat.le_trans K162.1 (Nat.le_of_eq g167.symm)
  have f169 : Exa Z h167 b161 "com/example/libclause/libclause/search/AllDocumentsIterator" := A161.ext E167
  have f170 : Fld Z h167 b161 "com/example/libclause/libclause/search/AllDocumentsIterator" "document" "I" (.int (0 : Int32)) := f164.ext E167
  have f171 : Fld Z h167 b161 "com/example/libclause/libclause/search/AllDocumentsIterator" "documentCount" "I" (.int (0 : Int32)) := f165.ext E167
  have f172 : Fld Z h167 b161 "com/example/libclause/libclause/search/AllDocumentsIterator" "matchAll" "Lcom/example/libclause/libclause/query/MatchAll;" .null := f166.ext E167
  have K173 : Keep h0 h167 [] := K162.ext E167
  have Z174 : n0 ≤ h167.size := Nat.le_trans Z163 E167.1
  have f175 : Fld Z h167 b167 "com/example/libclause/libclause/query/MatchAll" "boost" "D" (.double (0 : UInt64)) := D167 (Or.inr (hw _ (List.mem_of_getElem? (i := 27) rfl))) (ty := .double) (by decide)
  obtain ⟨_, _, ⟨T176, L176, k176, n176⟩, -, X176, ⟨Lc176, hQ176, l176, y176, z176⟩, st176⟩ := X167.specialBack hx (y := (⟨"com/example/libclause/libclause/query/MatchAll", "<init>", "()V"⟩ : MethodName)) rfl hown (mvT hZ (hw _ (List.mem_of_getElem? (i := 7) rfl))) (mvT hZ (hw _ (List.mem_of_getElem? (i := 8) rfl))) (mvT hZ (hw _ (List.mem_of_getElem? (i := 9) rfl))) (by decide) (backOf (W := 4) (rm1 l Z a0 hw [] b167 h167 n0 Z174 A167 f175 gg167) hZ (hw _ (List.mem_of_getElem? (i := 9) rfl)) (hw _ (List.mem_of_getElem? (i := 6) rfl)) (by decide) (by decide)) (g := (mkF m 103 #[.val (.int cn), .val (.int aXq), .val (.int bXq), .val (.int c0), .val (.int mode), .val (.int w137), .val (.int w144), .val (.int w152), .val (.int w160), .unset, .unset, .unset, .unset, .unset, .unset, .unset, .unset] [(.ref b167), (.ref b167), (.int w160), (.ref b161), (.ref b161)])) rfl (by rw [hml]; rfl) (Steps.refl _) (a := b167) (argsL := []) (rest := [(.ref b167), (.int w160), (.ref b161), (.ref b161)]) (lenOf pd_0 rfl) rfl (by show 2 * 0 + _ ≤ _; exact Nat.le_of_eq rfl) (hb hby at_103) (fun _ _ => ⟨rfl, e167, (by decide : 2 + 0 ≤ _), (by decide : 4 + 0 ≤ _)⟩)
  dsimp only [Pt.U, Pt.locs, Pt.cells, Pt.slots] at X176 l176 y176 z176 st176 hQ176
  subst l176 y176 z176
  obtain ⟨rfl, N176q, K176, Eq176, fq176_0⟩ := hQ176
  have N176 := Fr.app N159 N176q
  have f177 : Exa Z T176.heap b161 "com/example/libclause/libclause/search/AllDocumentsIterator" := f169.keep K176
  have f178 : Fld Z T176.heap b161 "com/example/libclause/libclause/search/AllDocumentsIterator" "document" "I" (.int (0 : Int32)) := f170.keep K176 (ninS ne168 nin0)
  have f179 : Fld Z T176.heap b161 "com/example/libclause/libclause/search/AllDocumentsIterator" "documentCount" "I" (.int (0 : Int32)) := f171.keep K176 (ninS ne168 nin0)
  have f180 : Fld Z T176.heap b161 "com/example/libclause/libclause/search/AllDocumentsIterator" "matchAll" "Lcom/example/libclause/libclause/query/MatchAll;" .null := f172.keep K176 (ninS ne168 nin0)
  have K181 : Keep h0 T176.heap [] := K173.trans K176 (allS (Or.inr sz167) all0)
  have Z182 : n0 ≤ T176.heap.size := Nat.le_trans Z174 K176.1
  obtain ⟨_, _, ⟨T183, L183, k183, n183⟩, -, X183, ⟨Lc183, hQ183, l183, y183, z183⟩, st183⟩ := X176.specialBack hx (y := (⟨"com/example/libclause/libclause/search/AllDocumentsIterator", "<init>", "(ILcom/example/libclause/libclause/query/MatchAll;)V"⟩ : MethodName)) rfl hown (mvT hZ (hw _ (List.mem_of_getElem? (i := 28) rfl))) (mvT hZ (hw _ (List.mem_of_getElem? (i := 29) rfl))) (mvT hZ (hw _ (List.mem_of_getElem? (i := 30) rfl))) (by decide) (backOf (W := 1) (rm6 l Z a0 hw [] b161 w160 b167 T176.heap n0 Z182 f177 f178 f179 f180 gg161) hZ (hw _ (List.mem_of_getElem? (i := 30) rfl)) (hw _ (List.mem_of_getElem? (i := 3) rfl)) (by decide) (by decide)) (g := (mkF m 106 #[.val (.int cn), .val (.int aXq), .val (.int bXq), .val (.int c0), .val (.int mode), .val (.int w137), .val (.int w144), .val (.int w152), .val (.int w160), .unset, .unset, .unset, .unset, .unset, .unset, .unset, .unset] [(.ref b167), (.int w160), (.ref b161), (.ref b161)])) rfl (by rw [hml]; rfl) (Steps.refl _) (a := b161) (argsL := [(.int w160), (.ref b167)]) (rest := [(.ref b161)]) (lenOf pd_6 rfl) rfl (by show 2 * 0 + _ ≤ _; exact Nat.le_of_eq rfl) (hb hby at_106) (fun _ _ => ⟨rfl, rfl, (by decide : 2 + 0 ≤ _), (by decide : 4 + 0 ≤ _)⟩)
  dsimp only [Pt.U, Pt.locs, Pt.cells, Pt.slots] at X183 l183 y183 z183 st183 hQ183
  subst l183 y183 z183
  obtain ⟨rfl, N183q, K183, Eq183, fq183_0, fq183_1, fq183_2⟩ := hQ183
  have N183 := Fr.app N176 N183q
  have f184 : Exa Z T183.heap b167 "com/example/libclause/libclause/query/MatchAll" := Eq176.keep K183
  have f185 : Fld Z T183.heap b167 "com/example/libclause/libclause/query/MatchAll" "boost" "D" (.double (f5 (4607182418800017408 : UInt64))) := fq176_0.keep K183 (ninS (Ne.symm ne168) nin0)
  have K186 : Keep h0 T183.heap [] := K181.trans K183 (allS (Or.inr sz161) all0)
  have Z187 : n0 ≤ T183.heap.size := Nat.le_trans Z182 K183.1
  obtain ⟨cq188, kq188, q188a, q188b, q188c⟩ := isOf hZ rfl Eq183
  obtain ⟨_, _, ⟨T188, L188, k188, n188⟩, -, X188, ⟨Lc188, hQ188, l188, y188, z188⟩, st188⟩ := X183.virtualBack hx (y := (⟨"com/example/libclause/libclause/search/AllDocumentsIterator", "document", "()I"⟩ : MethodName)) (z := (⟨"com/example/libclause/libclause/search/AllDocumentsIterator", "document", "()I"⟩ : MethodName)) hown (mvT hZ (hw _ (List.mem_of_getElem? (i := 38) rfl))) (mvT hZ (hw _ (List.mem_of_getElem? (i := 39) rfl))) (notFace_of_selects (args := #[]) (mvT hZ (hw _ (List.mem_of_getElem? (i := 41) rfl)))) (mvT hZ (hw _ (List.mem_of_getElem? (i := 41) rfl))) (mvT hZ (hw _ (List.mem_of_getElem? (i := 40) rfl))) (by decide) (backOf (W := 0) (rm7 l Z a0 hw [] b161 (-1 : Int32) T183.heap n0 Z187 fq183_0) hZ (hw _ (List.mem_of_getElem? (i := 42) rfl)) (hw _ (List.mem_of_getElem? (i := 3) rfl)) (by decide) (by decide)) q188a q188c (g := (mkF m 113 #[.val (.int cn), .val (.int aXq), .val (.int bXq), .val (.int c0), .val (.int mode), .val (.int w137), .val (.int w144), .val (.int w152), .val (.int w160), .val (.ref b161), .unset, .unset, .unset, .unset, .unset, .unset, .unset] [(.ref b161)])) rfl (by rw [hml]; rfl) (Steps.refl _) (argsL := []) (rest := []) (lenOf pd_7 rfl) rfl (by show 2 * 0 + _ ≤ _; exact Nat.le_of_eq rfl) (hb hby at_113) (fun _ _ => ⟨rfl, rfl, (by decide : 2 + 0 ≤ _), (by decide : 4 + 0 ≤ _)⟩)
  dsimp only [Pt.U, Pt.locs, Pt.cells, Pt.slots] at X188 l188 y188 z188 st188 hQ188
  subst l188 y188 z188
  obtain ⟨rfl, N188q, e188⟩ := hQ188
  have N188 := Fr.app N183 N188q
  have S189 : ∀ t, Steps p.tables e below (T188.setTop (mkF m 117 #[.val (.int cn), .val (.int aXq), .val (.int bXq), .val (.int c0), .val (.int mode), .val (.int w137), .val (.int w144), .val (.int w152), .val (.int w160), .val (.ref b161), .unset, .unset, .unset, .unset, .unset, .unset, .unset] [(.int (-1 : Int32)), (.int (f7 (-1 : Int32)))])) t → Steps p.tables e below (s₁.setTop (entryFrame m #[(.int cn), (.int aXq), (.int bXq), (.int c0), (.int mode)] maxLocals)) t := by
    intro t k
    refine S159 t ?_
    refine XS.istore X159.here hx rfl (hb hby at_91) rfl (l' := #[.val (.int cn), .val (.int aXq), .val (.int bXq), .val (.int c0), .val (.int mode), .val (.int w137), .val (.int w144), .val (.int w152), .val (.int w160), .unset, .unset, .unset, .unset, .unset, .unset, .unset, .unset]) rfl ?_
    show Steps p.tables e below (T159.setTop (mkF m 93 #[.val (.int cn), .val (.int aXq), .val (.int bXq), .val (.int c0), .val (.int mode), .val (.int w137), .val (.int w144), .val (.int w152), .val (.int w160), .unset, .unset, .unset, .unset, .unset, .unset, .unset, .unset] [])) _
    refine st161 _ ?_
    show Steps p.tables e below (T161.setTop (mkF m 96 #[.val (.int cn), .val (.int aXq), .val (.int bXq), .val (.int c0), .val (.int mode), .val (.int w137), .val (.int w144), .val (.int w152), .val (.int w160), .unset, .unset, .unset, .unset, .unset, .unset, .unset, .unset] [(.ref b161)])) _
    refine XS.dup X161.here hx rfl (hb hby at_96) rfl rfl ?_
    show Steps p.tables e below (T161.setTop (mkF m 97 #[.val (.int cn), .val (.int aXq), .val (.int bXq), .val (.int c0), .val (.int mode), .val (.int w137), .val (.int w144), .val (.int w152), .val (.int w160), .unset, .unset, .unset, .unset, .unset, .unset, .unset, .unset] [(.ref b161), (.ref b161)])) _
    refine XS.iload X161.here hx rfl (hb hby at_97) rfl ?_
    show Steps p.tables e below (T161.setTop (mkF m 99 #[.val (.int cn), .val (.int aXq), .val (.int bXq), .val (.int c0), .val (.int mode), .val (.int w137), .val (.int w144), .val (.int w152), .val (.int w160), .unset, .unset, .unset, .unset, .unset, .unset, .unset, .unset] [(.int w160), (.ref b161), (.ref b161)])) _
    refine st167 _ ?_
    show Steps p.tables e below (T167.setTop (mkF m 102 #[.val (.int cn), .val (.int aXq), .val (.int bXq), .val (.int c0), .val (.int mode), .val (.int w137), .val (.int w144), .val (.int w152), .val (.int w160), .unset, .unset, .unset, .unset, .unset, .unset, .unset, .unset] [(.ref b167), (.int w160), (.ref b161), (.ref b161)])) _
    refine XS.dup X167.here hx rfl (hb hby at_102) rfl rfl ?_
    show Steps p.tables e below (T167.setTop (mkF m 103 #[.val (.int cn), .val (.int aXq), .val (.int bXq), .val (.int c0), .val (.int mode), .val (.int w137), .val (.int w144), .val (.int w152), .val (.int w160), .unset, .unset, .unset, .unset, .unset, .unset, .unset, .unset] [(.ref b167), (.ref b167), (.int w160), (.ref b161), (.ref b161)])) _
    refine st176.trans ?_
    show Steps p.tables e below (T176.setTop (mkF m 106 #[.val (.int cn), .val (.int aXq), .val (.int bXq), .val (.int c0), .val (.int mode), .val (.int w137), .val (.int w144), .val (.int w152), .val (.int w160), .unset, .unset, .unset, .unset, .unset, .unset, .unset, .unset] [(.ref b167), (.int w160), (.ref b161), (.ref b161)])) _
    refine st183.trans ?_
    show Steps p.tables e below (T183.setTop (mkF m 109 #[.val (.int cn), .val (.int aXq), .val (.int bXq), .val (.int c0), .val (.int mode), .val (.int w137), .val (.int w144), .val (.int w152), .val (.int w160), .unset, .unset, .unset, .unset, .unset, .unset, .unset, .unset] [(.ref b161)])) _
    refine XS.astore X183.here hx rfl (hb hby at_109) rfl rfl (l' := #[.val (.int cn), .val (.int aXq), .val (.int bXq), .val (.int c0), .val (.int mode), .val (.int w137), .val (.int w144), .val (.int w152), .val (.int w160), .val (.ref b161), .unset, .unset, .unset, .unset, .unset, .unset, .unset]) rfl ?_
    show Steps p.tables e below (T183.setTop (mkF m 111 #[.val (.int cn), .val (.int aXq), .val (.int bXq), .val (.int c0), .val (.int mode), .val (.int w137), .val (.int w144), .val (.int w152), .val (.int w160), .val (.ref b161), .unset, .unset, .unset, .unset, .unset, .unset, .unset] [])) _
    refine XS.aload X183.here hx rfl (hb hby at_111) rfl rfl ?_
    show Steps p.tables e below (T183.setTop (mkF m 113 #[.val (.int cn), .val (.int aXq), .val (.int bXq), .val (.int c0), .val (.int mode), .val (.int w137), .val (.int w144), .val (.int w152), .val (.int w160), .val (.ref b161), .unset, .unset, .unset, .unset, .unset, .unset, .unset] [(.ref b161)])) _
    refine st188.trans ?_
    show Steps p.tables e below (T188.setTop (mkF m 116 #[.val (.int cn), .val (.int aXq), .val (.int bXq), .val (.int c0), .val (.int mode), .val (.int w137), .val (.int w144), .val (.int w152), .val (.int w160), .val (.ref b161), .unset, .unset, .unset, .unset, .unset, .unset, .unset] [(.int (f7 (-1 : Int32)))])) _
    refine XS.iconst X188.here hx rfl (hb hby at_116) ?_
    show Steps p.tables e below (T188.setTop (mkF m 117 #[.val (.int cn), .val (.int aXq), .val (.int bXq), .val (.int c0), .val (.int mode), .val (.int w137), .val (.int w144), .val (.int w152), .val (.int w160), .val (.ref b161), .unset, .unset, .unset, .unset, .unset, .unset, .unset] [(.int (-1 : Int32)), (.int (f7 (-1 : Int32)))])) _
    exact k
  obtain ⟨w190, hw190⟩ : ∃ z : Int32, z = (f7 (-1 : Int32)) := ⟨_, rfl⟩
  rw [← hw190] at S189
  have S192 : ∀ t, Steps p.tables e below (T188.setTop (mkF m 125 #[.val (.int cn), .val (.int aXq), .val (.int bXq), .val (.int c0), .val (.int mode), .val (.int w137), .val (.int w144), .val (.int w152), .val (.int w160), .val (.ref b161), .unset, .unset, .unset, .unset, .unset, .unset, .unset] [(.int (if w190 = (-1 : Int32) then (1 : Int32) else (0 : Int32)))])) t → Steps p.tables e below (s₁.setTop (entryFrame m #[(.int cn), (.int aXq), (.int bXq), (.int c0), (.int mode)] maxLocals)) t := by
    intro t k
    refine S189 t ?_
    by_cases hc191 : w190 = (-1 : Int32)
    · rw [if_pos hc191] at k
      refine XS.icmpNo X188.here hx rfl (hb hby at_117) rfl (teq hc191).2 ?_
      show Steps p.tables e below (T188.setTop (mkF m 120 #[.val (.int cn), .val (.int aXq), .val (.int bXq), .val (.int c0), .val (.int mode), .val (.int w137), .val (.int w144), .val (.int w152), .val (.int w160), .val (.ref b161), .unset, .unset, .unset, .unset, .unset, .unset, .unset] [])) _
      refine XS.iconst X188.here hx rfl (hb hby at_120) ?_
      show Steps p.tables e below (T188.setTop (mkF m 121 #[.val (.int cn), .val (.int aXq), .val (.int bXq), .val (.int c0), .val (.int mode), .val (.int w137), .val (.int w144), .val (.int w152), .val (.int w160), .val (.ref b161), .unset, .unset, .unset, .unset, .unset, .unset, .unset] [(.int (1 : Int32))])) _
      refine XS.goto X188.here hx rfl (pc0 := 121) (pc' := 125) rfl (hb hby at_121) (by decide) (by decide) ?_
      show Steps p.tables e below (T188.setTop (mkF m 125 #[.val (.int cn), .val (.int aXq), .val (.int bXq), .val (.int c0), .val (.int mode), .val (.int w137), .val (.int w144), .val (.int w152), .val (.int w160), .val (.ref b161), .unset, .unset, .unset, .unset, .unset, .unset, .unset] [(.int (1 : Int32))])) _
      exact k
    · rw [if_neg hc191] at k
      refine XS.icmpYes X188.here hx rfl (pc0 := 117) (pc' := 124) rfl (hb hby at_117) rfl (feq hc191).2 (by decide) (by decide) ?_
      show Steps p.tables e below (T188.setTop (mkF m 124 #[.val (.int cn), .val (.int aXq), .val (.int bXq), .val (.int c0), .val (.int mode), .val (.int w137), .val (.int w144), .val (.int w152), .val (.int w160), .val (.ref b161), .unset, .unset, .unset, .unset, .unset, .unset, .unset] [])) _
      refine XS.iconst X188.here hx rfl (hb hby at_124) ?_
      show Steps p.tables e below (T188.setTop (mkF m 125 #[.val (.int cn), .val (.int aXq), .val (.int bXq), .val (.int c0), .val (.int mode), .val (.int w137), .val (.int w144), .val (.int w152), .val (.int w160), .val (.ref b161), .unset, .unset, .unset, .unset, .unset, .unset, .unset] [(.int (0 : Int32))])) _
      exact k
  obtain ⟨w193, hw193⟩ : ∃ z : Int32, z = (if w190 = (-1 : Int32) then (1 : Int32) else (0 : Int32)) := ⟨_, rfl⟩
  rw [← hw193] at S192
  obtain ⟨_, _, ⟨T194, L194, k194, n194⟩, -, X194, ⟨Lc194, hQ194, l194, y194, z194⟩, st194⟩ := Jvm.LawKit.callS X188 hx (y := (⟨"com/example/libclause/libclause/search/AllDocumentsIteratorAdvancePinLaw", "expected", "(III)I"⟩ : MethodName)) hown (mvT hZ (hw _ (List.mem_of_getElem? (i := 43) rfl))) (mvT hZ (hw _ (List.mem_of_getElem? (i := 44) rfl))) (mvT hZ (hw _ (List.mem_of_getElem? (i := 45) rfl))) (mvT hZ (hw _ (List.mem_of_getElem? (i := 46) rfl))) (by decide) (backOf (W := 0) (rm8 l Z a0 hw [] (-1 : Int32) w137 w160 T183.heap n0 Z187) hZ (hw _ (List.mem_of_getElem? (i := 46) rfl)) (hw _ (List.mem_of_getElem? (i := 45) rfl)) (by decide) (by decide)) (g := (mkF m 132 #[.val (.int cn), .val (.int aXq), .val (.int bXq), .val (.int c0), .val (.int mode), .val (.int w137), .val (.int w144), .val (.int w152), .val (.int w160), .val (.ref b161), .val (.int w193), .unset, .unset, .unset, .unset, .unset, .unset] [(.int w160), (.int w137), (.int (-1 : Int32))])) rfl (by rw [hml]; rfl) (argsL := [(.int (-1 : Int32)), (.int w137), (.int w160)]) (rest := []) (lenOf pd_8 rfl) rfl (by show 2 * 0 + _ ≤ _; exact Nat.le_of_eq rfl) (hb hby at_132) (fun _ _ => ⟨rfl, e188, (by decide : 2 + 0 ≤ _), (by decide : 4 + 0 ≤ _)⟩)
  dsimp only [Pt.U, Pt.locs, Pt.cells, Pt.slots] at X194 l194 y194 z194 st194 hQ194
  subst l194 y194 z194
  obtain ⟨rfl, N194q, e194⟩ := hQ194
  have N194 := Fr.app N188 N194q
  obtain ⟨cq195, kq195, q195a, q195b, q195c⟩ := isOf hZ e194 Eq183
  obtain ⟨_, _, ⟨T195, L195, k195, n195⟩, -, X195, ⟨Lc195, hQ195, l195, y195, z195⟩, st195⟩ := X194.virtualBack hx (y := (⟨"com/example/libclause/libclause/search/AllDocumentsIterator", "advance", "(I)I"⟩ : MethodName)) (z := (⟨"com/example/libclause/libclause/search/AllDocumentsIterator", "advance", "(I)I"⟩ : MethodName)) hown (mvT hZ (hw _ (List.mem_of_getElem? (i := 51) rfl))) (mvT hZ (hw _ (List.mem_of_getElem? (i := 52) rfl))) (notFace_of_selects (args := #[]) (mvT hZ (hw _ (List.mem_of_getElem? (i := 54) rfl)))) (mvT hZ (hw _ (List.mem_of_getElem? (i := 54) rfl))) (mvT hZ (hw _ (List.mem_of_getElem? (i := 53) rfl))) (by decide) (backOf (W := 0) (rm10 l Z a0 hw [] b161 w137 (-1 : Int32) w160 b167 T183.heap n0 Z187 Eq183 fq183_0 fq183_1 fq183_2 gg161) hZ (hw _ (List.mem_of_getElem? (i := 55) rfl)) (hw _ (List.mem_of_getElem? (i := 3) rfl)) (by decide) (by decide)) q195a q195c (g := (mkF m 141 #[.val (.int cn), .val (.int aXq), .val (.int bXq), .val (.int c0), .val (.int mode), .val (.int w137), .val (.int w144), .val (.int w152), .val (.int w160), .val (.ref b161), .val (.int w193), .val (.int (f8 (-1 : Int32) w137 w160)), .unset, .unset, .unset, .unset, .unset] [(.int w137), (.ref b161)])) rfl (by rw [hml]; rfl) (Steps.refl _) (argsL := [(.int w137)]) (rest := []) (lenOf pd_9 rfl) rfl (by show 2 * 0 + _ ≤ _; exact Nat.le_of_eq rfl) (hb hby at_141) (fun _ _ => ⟨rfl, e194, (by decide : 2 + 0 ≤ _), (by decide : 4 + 0 ≤ _)⟩)
  dsimp only [Pt.U, Pt.locs, Pt.cells, Pt.slots] at X195 l195 y195 z195 st195 hQ195
  subst l195 y195 z195
  obtain ⟨rfl, N195q, K195, Eq195, fq195_0, fq195_1, fq195_2⟩ := hQ195
  have N195 := Fr.app N194 N195q
  have f196 : Exa Z T195.heap b167 "com/example/libclause/libclause/query/MatchAll" := f184.keep K195
  have f197 : Fld Z T195.heap b167 "com/example/libclause/libclause/query/MatchAll" "boost" "D" (.double (f5 (4607182418800017408 : UInt64))) := f185.keep K195 (ninS (Ne.symm ne168) nin0)
  have K198 : Keep h0 T195.heap [] := K186.trans K195 (allS (Or.inr sz161) all0)
  have Z199 : n0 ≤ T195.heap.size := Nat.le_trans Z187 K195.1
  obtain ⟨cq200, kq200, q200a, q200b, q200c⟩ := isOf hZ rfl Eq195
  obtain ⟨_, _, ⟨T200, L200, k200, n200⟩, -, X200, ⟨Lc200, hQ200, l200, y200, z200⟩, st200⟩ := X195.virtualBack hx (y := (⟨"com/example/libclause/libclause/search/AllDocumentsIterator", "document", "()I"⟩ : MethodName)) (z := (⟨"com/example/libclause/libclause/search/AllDocumentsIterator", "document", "()I"⟩ : MethodName)) hown (mvT hZ (hw _ (List.mem_of_getElem? (i := 38) rfl))) (mvT hZ (hw _ (List.mem_of_getElem? (i := 39) rfl))) (notFace_of_selects (args := #[]) (mvT hZ (hw _ (List.mem_of_getElem? (i := 41) rfl)))) (mvT hZ (hw _ (List.mem_of_getElem? (i := 41) rfl))) (mvT hZ (hw _ (List.mem_of_getElem? (i := 40) rfl))) (by decide) (backOf (W := 0) (rm7 l Z a0 hw [] b161 (f10_document w137 (-1 : Int32) w160) T195.heap n0 Z199 fq195_0) hZ (hw _ (List.mem_of_getElem? (i := 42) rfl)) (hw _ (List.mem_of_getElem? (i := 3) rfl)) (by decide) (by decide)) q200a q200c (g := (mkF m 160 #[.val (.int cn), .val (.int aXq), .val (.int bXq), .val (.int c0), .val (.int mode), .val (.int w137), .val (.int w144), .val (.int w152), .val (.int w160), .val (.ref b161), .val (.int w193), .val (.int (f8 (-1 : Int32) w137 w160)), .val (.int (f10_ret w137 (-1 : Int32) w160)), .unset, .unset, .unset, .unset] [(.ref b161)])) rfl (by rw [hml]; rfl) (Steps.refl _) (argsL := []) (rest := []) (lenOf pd_7 rfl) rfl (by show 2 * 0 + _ ≤ _; exact Nat.le_of_eq rfl) (hb hby at_160) (fun _ _ => ⟨rfl, rfl, (by decide : 2 + 0 ≤ _), (by decide : 4 + 0 ≤ _)⟩)
  dsimp only [Pt.U, Pt.locs, Pt.cells, Pt.slots] at X200 l200 y200 z200 st200 hQ200
  subst l200 y200 z200
  obtain ⟨rfl, N200q, e200⟩ := hQ200
  have N200 := Fr.app N195 N200q
  obtain ⟨_, _, ⟨T201, L201, k201, n201⟩, -, X201, ⟨Lc201, hQ201, l201, y201, z201⟩, st201⟩ := Jvm.LawKit.callS X200 hx (y := (⟨"com/example/libclause/libclause/search/AllDocumentsIteratorAdvancePinLaw", "expected", "(III)I"⟩ : MethodName)) hown (mvT hZ (hw _ (List.mem_of_getElem? (i := 43) rfl))) (mvT hZ (hw _ (List.mem_of_getElem? (i := 44) rfl))) (mvT hZ (hw _ (List.mem_of_getElem? (i := 45) rfl))) (mvT hZ (hw _ (List.mem_of_getElem? (i := 46) rfl))) (by decide) (backOf (W := 0) (rm8 l Z a0 hw [] (f8 (-1 : Int32) w137 w160) w144 w160 T195.heap n0 Z199) hZ (hw _ (List.mem_of_getElem? (i := 46) rfl)) (hw _ (List.mem_of_getElem? (i := 45) rfl)) (by decide) (by decide)) (g := (mkF m 181 #[.val (.int cn), .val (.int aXq), .val (.int bXq), .val (.int c0), .val (.int mode), .val (.int w137), .val (.int w144), .val (.int w152), .val (.int w160), .val (.ref b161), .val (.int (1 : Int32)), .val (.int (f8 (-1 : Int32) w137 w160)), .val (.int (f10_ret w137 (-1 : Int32) w160)), .unset, .unset, .unset, .unset] [(.int w160), (.int w144), (.int (f8 (-1 : Int32) w137 w160))])) rfl (by rw [hml]; rfl) (argsL := [(.int (f8 (-1 : Int32) w137 w160)), (.int w144), (.int w160)]) (rest := []) (lenOf pd_8 rfl) rfl (by show 2 * 0 + _ ≤ _; exact Nat.le_of_eq rfl) (hb hby at_181) (fun _ _ => ⟨rfl, e200, (by decide : 2 + 0 ≤ _), (by decide : 4 + 0 ≤ _)⟩)
  dsimp only [Pt.U, Pt.locs, Pt.cells, Pt.slots] at X201 l201 y201 z201 st201 hQ201
  subst l201 y201 z201
  obtain ⟨rfl, N201q, e201⟩ := hQ201
  have N201 := Fr.app N200 N201q
  obtain ⟨cq202, kq202, q202a, q202b, q202c⟩ := isOf hZ e201 Eq195
  obtain ⟨_, _, ⟨T202, L202, k202, n202⟩, -, X202, ⟨Lc202, hQ202, l202, y202, z202⟩, st202⟩ := X201.virtualBack hx (y := (⟨"com/example/libclause/libclause/search/AllDocumentsIterator", "advance", "(I)I"⟩ : MethodName)) (z := (⟨"com/example/libclause/libclause/search/AllDocumentsIterator", "advance", "(I)I"⟩ : MethodName)) hown (mvT hZ (hw _ (List.mem_of_getElem? (i := 51) rfl))) (mvT hZ (hw _ (List.mem_of_getElem? (i := 52) rfl))) (notFace_of_selects (args := #[]) (mvT hZ (hw _ (List.mem_of_getElem? (i := 54) rfl)))) (mvT hZ (hw _ (List.mem_of_getElem? (i := 54) rfl))) (mvT hZ (hw _ (List.mem_of_getElem? (i := 53) rfl))) (by decide) (backOf (W := 0) (rm10 l Z a0 hw [] b161 w144 (f10_document w137 (-1 : Int32) w160) (f10_documentCount w137 (-1 : Int32) w160) b167 T195.heap n0 Z199 Eq195 fq195_0 fq195_1 fq195_2 gg161) hZ (hw _ (List.mem_of_getElem? (i := 55) rfl)) (hw _ (List.mem_of_getElem? (i := 3) rfl)) (by decide) (by decide)) q202a q202c (g := (mkF m 190 #[.val (.int cn), .val (.int aXq), .val (.int bXq), .val (.int c0), .val (.int mode), .val (.int w137), .val (.int w144), .val (.int w152), .val (.int w160), .val (.ref b161), .val (.int (1 : Int32)), .val (.int (f8 (-1 : Int32) w137 w160)), .val (.int (f10_ret w137 (-1 : Int32) w160)), .val (.int (f8 (f8 (-1 : Int32) w137 w160) w144 w160)), .unset, .unset, .unset] [(.int w144), (.ref b161)])) rfl (by rw [hml]; rfl) (Steps.refl _) (argsL := [(.int w144)]) (rest := []) (lenOf pd_9 rfl) rfl (by show 2 * 0 + _ ≤ _; exact Nat.le_of_eq rfl) (hb hby at_190) (fun _ _ => ⟨rfl, e201, (by decide : 2 + 0 ≤ _), (by decide : 4 + 0 ≤ _)⟩)
  dsimp only [Pt.U, Pt.locs, Pt.cells, Pt.slots] at X202 l202 y202 z202 st202 hQ202
  subst l202 y202 z202
  obtain ⟨rfl, N202q, K202, Eq202, fq202_0, fq202_1, fq202_2⟩ := hQ202
  have N202 := Fr.app N201 N202q
  have f203 : Exa Z T202.heap b167 "com/example/libclause/libclause/query/MatchAll" := f196.keep K202
  have f204 : Fld Z T202.heap b167 "com/example/libclause/libclause/query/MatchAll" "boost" "D" (.double (f5 (4607182418800017408 : UInt64))) := f197.keep K202 (ninS (Ne.symm ne168) nin0)
  have K205 : Keep h0 T202.heap [] := K198.trans K202 (allS (Or.inr sz161) all0)
  have Z206 : n0 ≤ T202.heap.size := Nat.le_trans Z199 K202.1
  have S207 : ∀ t, Steps p.tables e below (T202.setTop (mkF m 195 #[.val (.int cn), .val (.int aXq), .val (.int bXq), .val (.int c0), .val (.int mode), .val (.int w137), .val (.int w144), .val (.int w152), .val (.int w160), .val (.ref b161), .val (.int (1 : Int32)), .val (.int (f8 (-1 : Int32) w137 w160)), .val (.int (f10_ret w137 (-1 : Int32) w160)), .val (.int (f8 (f8 (-1 : Int32) w137 w160) w144 w160)), .val (.int (f10_ret w144 (f10_document w137 (-1 : Int32) w160) (f10_documentCount w137 (-1 : Int32) w160))), .unset, .unset] [])) t → Steps p.tables e below (s₁.setTop (entryFrame m #[(.int cn), (.int aXq), (.int bXq), (.int c0), (.int mode)] maxLocals)) t := by
    intro t k
    refine S192 t ?_
    refine XS.istore X188.here hx rfl (hb hby at_125) rfl (l' := #[.val (.int cn), .val (.int aXq), .val (.int bXq), .val (.int c0), .val (.int mode), .val (.int w137), .val (.int w144), .val (.int w152), .val (.int w160), .val (.ref b161), .val (.int w193), .unset, .unset, .unset, .unset, .unset, .unset]) rfl ?_
    show Steps p.tables e below (T188.setTop (mkF m 127 #[.val (.int cn), .val (.int aXq), .val (.int bXq), .val (.int c0), .val (.int mode), .val (.int w137), .val (.int w144), .val (.int w152), .val (.int w160), .val (.ref b161), .val (.int w193), .unset, .unset, .unset, .unset, .unset, .unset] [])) _
    refine XS.iconst X188.here hx rfl (hb hby at_127) ?_
    show Steps p.tables e below (T188.setTop (mkF m 128 #[.val (.int cn), .val (.int aXq), .val (.int bXq), .val (.int c0), .val (.int mode), .val (.int w137), .val (.int w144), .val (.int w152), .val (.int w160), .val (.ref b161), .val (.int w193), .unset, .unset, .unset, .unset, .unset, .unset] [(.int (-1 : Int32))])) _
    refine XS.iload X188.here hx rfl (hb hby at_128) rfl ?_
    show Steps p.tables e below (T188.setTop (mkF m 130 #[.val (.int cn), .val (.int aXq), .val (.int bXq), .val (.int c0), .val (.int mode), .val (.int w137), .val (.int w144), .val (.int w152), .val (.int w160), .val (.ref b161), .val (.int w193), .unset, .unset, .unset, .unset, .unset, .unset] [(.int w137), (.int (-1 : Int32))])) _
    refine XS.iload X188.here hx rfl (hb hby at_130) rfl ?_
    show Steps p.tables e below (T188.setTop (mkF m 132 #[.val (.int cn), .val (.int aXq), .val (.int bXq), .val (.int c0), .val (.int mode), .val (.int w137), .val (.int w144), .val (.int w152), .val (.int w160), .val (.ref b161), .val (.int w193), .unset, .unset, .unset, .unset, .unset, .unset] [(.int w160), (.int w137), (.int (-1 : Int32))])) _
    refine st194 _ ?_
    show Steps p.tables e below (T194.setTop (mkF m 135 #[.val (.int cn), .val (.int aXq), .val (.int bXq), .val (.int c0), .val (.int mode), .val (.int w137), .val (.int w144), .val (.int w152), .val (.int w160), .val (.ref b161), .val (.int w193), .unset, .unset, .unset, .unset, .unset, .unset] [(.int (f8 (-1 : Int32) w137 w160))])) _
    refine XS.istore X194.here hx rfl (hb hby at_135) rfl (l' := #[.val (.int cn), .val (.int aXq), .val (.int bXq), .val (.int c0), .val (.int mode), .val (.int w137), .val (.int w144), .val (.int w152), .val (.int w160), .val (.ref b161), .val (.int w193), .val (.int (f8 (-1 : Int32) w137 w160)), .unset, .unset, .unset, .unset, .unset]) rfl ?_
    show Steps p.tables e below (T194.setTop (mkF m 137 #[.val (.int cn), .val (.int aXq), .val (.int bXq), .val (.int c0), .val (.int mode), .val (.int w137), .val (.int w144), .val (.int w152), .val (.int w160), .val (.ref b161), .val (.int w193), .val (.int (f8 (-1 : Int32) w137 w160)), .unset, .unset, .unset, .unset, .unset] [])) _
    refine XS.aload X194.here hx rfl (hb hby at_137) rfl rfl ?_
    show Steps p.tables e below (T194.setTop (mkF m 139 #[.val (.int cn), .val (.int aXq), .val (.int bXq), .val (.int c0), .val (.int mode), .val (.int w137), .val (.int w144), .val (.int w152), .val (.int w160), .val (.ref b161), .val (.int w193), .val (.int (f8 (-1 : Int32) w137 w160)), .unset, .unset, .unset, .unset, .unset] [(.ref b161)])) _
    refine XS.iload X194.here hx rfl (hb hby at_139) rfl ?_
    show Steps p.tables e below (T194.setTop (mkF m 141 #[.val (.int cn), .val (.int aXq), .val (.int bXq), .val (.int c0), .val (.int mode), .val (.int w137), .val (.int w144), .val (.int w152), .val (.int w160), .val (.ref b161), .val (.int w193), .val (.int (f8 (-1 : Int32) w137 w160)), .unset, .unset, .unset, .unset, .unset] [(.int w137), (.ref b161)])) _
    refine st195.trans ?_
    show Steps p.tables e below (T195.setTop (mkF m 144 #[.val (.int cn), .val (.int aXq), .val (.int bXq), .val (.int c0), .val (.int mode), .val (.int w137), .val (.int w144), .val (.int w152), .val (.int w160), .val (.ref b161), .val (.int w193), .val (.int (f8 (-1 : Int32) w137 w160)), .unset, .unset, .unset, .unset, .unset] [(.int (f10_ret w137 (-1 : Int32) w160))])) _
    refine XS.istore X195.here hx rfl (hb hby at_144) rfl (l' := #[.val (.int cn), .val (.int aXq), .val (.int bXq), .val (.int c0), .val (.int mode), .val (.int w137), .val (.int w144), .val (.int w152), .val (.int w160), .val (.ref b161), .val (.int w193), .val (.int (f8 (-1 : Int32) w137 w160)), .val (.int (f10_ret w137 (-1 : Int32) w160)), .unset, .unset, .unset, .unset]) rfl ?_
    show Steps p.tables e below (T195.setTop (mkF m 146 #[.val (.int cn), .val (.int aXq), .val (.int bXq), .val (.int c0), .val (.int mode), .val (.int w137), .val (.int w144), .val (.int w152), .val (.int w160), .val (.ref b161), .val (.int w193), .val (.int (f8 (-1 : Int32) w137 w160)), .val (.int (f10_ret w137 (-1 : Int32) w160)), .unset, .unset, .unset, .unset] [])) _
    refine XS.iload X195.here hx rfl (hb hby at_146) rfl ?_
    show Steps p.tables e below (T195.setTop (mkF m 148 #[.val (.int cn), .val (.int aXq), .val (.int bXq), .val (.int c0), .val (.int mode), .val (.int w137), .val (.int w144), .val (.int w152), .val (.int w160), .val (.ref b161), .val (.int w193), .val (.int (f8 (-1 : Int32) w137 w160)), .val (.int (f10_ret w137 (-1 : Int32) w160)), .unset, .unset, .unset, .unset] [(.int w193)])) _
    refine XS.ifNo X195.here hx rfl (hb hby at_148) rfl ((if0 _ _).trans (feq (own_r1 cn aXq bXq c0 mode w137 hw137 w138 hw138 w144 hw144 w146 hw146 w152 hw152 w154 hw154 w160 hw160 w190 hw190 w193 hw193)).1) ?_
    show Steps p.tables e below (T195.setTop (mkF m 151 #[.val (.int cn), .val (.int aXq), .val (.int bXq), .val (.int c0), .val (.int mode), .val (.int w137), .val (.int w144), .val (.int w152), .val (.int w160), .val (.ref b161), .val (.int w193), .val (.int (f8 (-1 : Int32) w137 w160)), .val (.int (f10_ret w137 (-1 : Int32) w160)), .unset, .unset, .unset, .unset] [])) _
    refine XS.iload X195.here hx rfl (hb hby at_151) rfl ?_
    show Steps p.tables e below (T195.setTop (mkF m 153 #[.val (.int cn), .val (.int aXq), .val (.int bXq), .val (.int c0), .val (.int mode), .val (.int w137), .val (.int w144), .val (.int w152), .val (.int w160), .val (.ref b161), .val (.int w193), .val (.int (f8 (-1 : Int32) w137 w160)), .val (.int (f10_ret w137 (-1 : Int32) w160)), .unset, .unset, .unset, .unset] [(.int (f10_ret w137 (-1 : Int32) w160))])) _
    refine XS.iload X195.here hx rfl (hb hby at_153) rfl ?_
    show Steps p.tables e below (T195.setTop (mkF m 155 #[.val (.int cn), .val (.int aXq), .val (.int bXq), .val (.int c0), .val (.int mode), .val (.int w137), .val (.int w144), .val (.int w152), .val (.int w160), .val (.ref b161), .val (.int w193), .val (.int (f8 (-1 : Int32) w137 w160)), .val (.int (f10_ret w137 (-1 : Int32) w160)), .unset, .unset, .unset, .unset] [(.int (f8 (-1 : Int32) w137 w160)), (.int (f10_ret w137 (-1 : Int32) w160))])) _
    refine XS.icmpNo X195.here hx rfl (hb hby at_155) rfl (teq (own_r2 cn aXq bXq c0 mode w137 hw137 w138 hw138 w144 hw144 w146 hw146 w152 hw152 w154 hw154 w160 hw160 w190 hw190 w193 hw193)).2 ?_
    show Steps p.tables e below (T195.setTop (mkF m 158 #[.val (.int cn), .val (.int aXq), .val (.int bXq), .val (.int c0), .val (.int mode), .val (.int w137), .val (.int w144), .val (.int w152), .val (.int w160), .val (.ref b161), .val (.int w193), .val (.int (f8 (-1 : Int32) w137 w160)), .val (.int (f10_ret w137 (-1 : Int32) w160)), .unset, .unset, .unset, .unset] [])) _
    refine XS.aload X195.here hx rfl (hb hby at_158) rfl rfl ?_
    show Steps p.tables e below (T195.setTop (mkF m 160 #[.val (.int cn), .val (.int aXq), .val (.int bXq), .val (.int c0), .val (.int mode), .val (.int w137), .val (.int w144), .val (.int w152), .val (.int w160), .val (.ref b161), .val (.int w193), .val (.int (f8 (-1 : Int32) w137 w160)), .val (.int (f10_ret w137 (-1 : Int32) w160)), .unset, .unset, .unset, .unset] [(.ref b161)])) _
    refine st200.trans ?_
    show Steps p.tables e below (T200.setTop (mkF m 163 #[.val (.int cn), .val (.int aXq), .val (.int bXq), .val (.int c0), .val (.int mode), .val (.int w137), .val (.int w144), .val (.int w152), .val (.int w160), .val (.ref b161), .val (.int w193), .val (.int (f8 (-1 : Int32) w137 w160)), .val (.int (f10_ret w137 (-1 : Int32) w160)), .unset, .unset, .unset, .unset] [(.int (f7 (f10_document w137 (-1 : Int32) w160)))])) _
    refine XS.iload X200.here hx rfl (hb hby at_163) rfl ?_
    show Steps p.tables e below (T200.setTop (mkF m 165 #[.val (.int cn), .val (.int aXq), .val (.int bXq), .val (.int c0), .val (.int mode), .val (.int w137), .val (.int w144), .val (.int w152), .val (.int w160), .val (.ref b161), .val (.int w193), .val (.int (f8 (-1 : Int32) w137 w160)), .val (.int (f10_ret w137 (-1 : Int32) w160)), .unset, .unset, .unset, .unset] [(.int (f8 (-1 : Int32) w137 w160)), (.int (f7 (f10_document w137 (-1 : Int32) w160)))])) _
    refine XS.icmpNo X200.here hx rfl (hb hby at_165) rfl (teq (own_r3 cn aXq bXq c0 mode w137 hw137 w138 hw138 w144 hw144 w146 hw146 w152 hw152 w154 hw154 w160 hw160 w190 hw190 w193 hw193)).2 ?_
    show Steps p.tables e below (T200.setTop (mkF m 168 #[.val (.int cn), .val (.int aXq), .val (.int bXq), .val (.int c0), .val (.int mode), .val (.int w137), .val (.int w144), .val (.int w152), .val (.int w160), .val (.ref b161), .val (.int w193), .val (.int (f8 (-1 : Int32) w137 w160)), .val (.int (f10_ret w137 (-1 : Int32) w160)), .unset, .unset, .unset, .unset] [])) _
    refine XS.iconst X200.here hx rfl (hb hby at_168) ?_
    show Steps p.tables e below (T200.setTop (mkF m 169 #[.val (.int cn), .val (.int aXq), .val (.int bXq), .val (.int c0), .val (.int mode), .val (.int w137), .val (.int w144), .val (.int w152), .val (.int w160), .val (.ref b161), .val (.int w193), .val (.int (f8 (-1 : Int32) w137 w160)), .val (.int (f10_ret w137 (-1 : Int32) w160)), .unset, .unset, .unset, .unset] [(.int (1 : Int32))])) _
    refine XS.goto X200.here hx rfl (pc0 := 169) (pc' := 173) rfl (hb hby at_169) (by decide) (by decide) ?_
    show Steps p.tables e below (T200.setTop (mkF m 173 #[.val (.int cn), .val (.int aXq), .val (.int bXq), .val (.int c0), .val (.int mode), .val (.int w137), .val (.int w144), .val (.int w152), .val (.int w160), .val (.ref b161), .val (.int w193), .val (.int (f8 (-1 : Int32) w137 w160)), .val (.int (f10_ret w137 (-1 : Int32) w160)), .unset, .unset, .unset, .unset] [(.int (1 : Int32))])) _
    refine XS.istore X200.here hx rfl (hb hby at_173) rfl (l' := #[.val (.int cn), .val (.int aXq), .val (.int bXq), .val (.int c0), .val (.int mode), .val (.int w137), .val (.int w144), .val (.int w152), .val (.int w160), .val (.ref b161), .val (.int (1 : Int32)), .val (.int (f8 (-1 : Int32) w137 w160)), .val (.int (f10_ret w137 (-1 : Int32) w160)), .unset, .unset, .unset, .unset]) rfl ?_
    show Steps p.tables e below (T200.setTop (mkF m 175 #[.val (.int cn), .val (.int aXq), .val (.int bXq), .val (.int c0), .val (.int mode), .val (.int w137), .val (.int w144), .val (.int w152), .val (.int w160), .val (.ref b161), .val (.int (1 : Int32)), .val (.int (f8 (-1 : Int32) w137 w160)), .val (.int (f10_ret w137 (-1 : Int32) w160)), .unset, .unset, .unset, .unset] [])) _
    refine XS.iload X200.here hx rfl (hb hby at_175) rfl ?_
    show Steps p.tables e below (T200.setTop (mkF m 177 #[.val (.int cn), .val (.int aXq), .val (.int bXq), .val (.int c0), .val (.int mode), .val (.int w137), .val (.int w144), .val (.int w152), .val (.int w160), .val (.ref b161), .val (.int (1 : Int32)), .val (.int (f8 (-1 : Int32) w137 w160)), .val (.int (f10_ret w137 (-1 : Int32) w160)), .unset, .unset, .unset, .unset] [(.int (f8 (-1 : Int32) w137 w160))])) _
    refine XS.iload X200.here hx rfl (hb hby at_177) rfl ?_
    show Steps p.tables e below (T200.setTop (mkF m 179 #[.val (.int cn), .val (.int aXq), .val (.int bXq), .val (.int c0), .val (.int mode), .val (.int w137), .val (.int w144), .val (.int w152), .val (.int w160), .val (.ref b161), .val (.int (1 : Int32)), .val (.int (f8 (-1 : Int32) w137 w160)), .val (.int (f10_ret w137 (-1 : Int32) w160)), .unset, .unset, .unset, .unset] [(.int w144), (.int (f8 (-1 : Int32) w137 w160))])) _
    refine XS.iload X200.here hx rfl (hb hby at_179) rfl ?_
    show Steps p.tables e below (T200.setTop (mkF m 181 #[.val (.int cn), .val (.int aXq), .val (.int bXq), .val (.int c0), .val (.int mode), .val (.int w137), .val (.int w144), .val (.int w152), .val (.int w160), .val (.ref b161), .val (.int (1 : Int32)), .val (.int (f8 (-1 : Int32) w137 w160)), .val (.int (f10_ret w137 (-1 : Int32) w160)), .unset, .unset, .unset, .unset] [(.int w160), (.int w144), (.int (f8 (-1 : Int32) w137 w160))])) _
    refine st201 _ ?_
    show Steps p.tables e below (T201.setTop (mkF m 184 #[.val (.int cn), .val (.int aXq), .val (.int bXq), .val (.int c0), .val (.int mode), .val (.int w137), .val (.int w144), .val (.int w152), .val (.int w160), .val (.ref b161), .val (.int (1 : Int32)), .val (.int (f8 (-1 : Int32) w137 w160)), .val (.int (f10_ret w137 (-1 : Int32) w160)), .unset, .unset, .unset, .unset] [(.int (f8 (f8 (-1 : Int32) w137 w160) w144 w160))])) _
    refine XS.istore X201.here hx rfl (hb hby at_184) rfl (l' := #[.val (.int cn), .val (.int aXq), .val (.int bXq), .val (.int c0), .val (.int mode), .val (.int w137), .val (.int w144), .val (.int w152), .val (.int w160), .val (.ref b161), .val (.int (1 : Int32)), .val (.int (f8 (-1 : Int32) w137 w160)), .val (.int (f10_ret w137 (-1 : Int32) w160)), .val (.int (f8 (f8 (-1 : Int32) w137 w160) w144 w160)), .unset, .unset, .unset]) rfl ?_
    show Steps p.tables e below (T201.setTop (mkF m 186 #[.val (.int cn), .val (.int aXq), .val (.int bXq), .val (.int c0), .val (.int mode), .val (.int w137), .val (.int w144), .val (.int w152), .val (.int w160), .val (.ref b161), .val (.int (1 : Int32)), .val (.int (f8 (-1 : Int32) w137 w160)), .val (.int (f10_ret w137 (-1 : Int32) w160)), .val (.int (f8 (f8 (-1 : Int32) w137 w160) w144 w160)), .unset, .unset, .unset] [])) _
    refine XS.aload X201.here hx rfl (hb hby at_186) rfl rfl ?_
    show Steps p.tables e below (T201.setTop (mkF m 188 #[.val (.int cn), .val (.int aXq), .val (.int bXq), .val (.int c0), .val (.int mode), .val (.int w137), .val (.int w144), .val (.int w152), .val (.int w160), .val (.ref b161), .val (.int (1 : Int32)), .val (.int (f8 (-1 : Int32) w137 w160)), .val (.int (f10_ret w137 (-1 : Int32) w160)), .val (.int (f8 (f8 (-1 : Int32) w137 w160) w144 w160)), .unset, .unset, .unset] [(.ref b161)])) _
    refine XS.iload X201.here hx rfl (hb hby at_188) rfl ?_
    show Steps p.tables e below (T201.setTop (mkF m 190 #[.val (.int cn), .val (.int aXq), .val (.int bXq), .val (.int c0), .val (.int mode), .val (.int w137), .val (.int w144), .val (.int w152), .val (.int w160), .val (.ref b161), .val (.int (1 : Int32)), .val (.int (f8 (-1 : Int32) w137 w160)), .val (.int (f10_ret w137 (-1 : Int32) w160)), .val (.int (f8 (f8 (-1 : Int32) w137 w160) w144 w160)), .unset, .unset, .unset] [(.int w144), (.ref b161)])) _
    refine st202.trans ?_
    show Steps p.tables e below (T202.setTop (mkF m 193 #[.val (.int cn), .val (.int aXq), .val (.int bXq), .val (.int c0), .val (.int mode), .val (.int w137), .val (.int w144), .val (.int w152), .val (.int w160), .val (.ref b161), .val (.int (1 : Int32)), .val (.int (f8 (-1 : Int32) w137 w160)), .val (.int (f10_ret w137 (-1 : Int32) w160)), .val (.int (f8 (f8 (-1 : Int32) w137 w160) w144 w160)), .unset, .unset, .unset] [(.int (f10_ret w144 (f10_document w137 (-1 : Int32) w160) (f10_documentCount w137 (-1 : Int32) w160)))])) _
    refine XS.istore X202.here hx rfl (hb hby at_193) rfl (l' := #[.val (.int cn), .val (.int aXq), .val (.int bXq), .val (.int c0), .val (.int mode), .val (.int w137), .val (.int w144), .val (.int w152), .val (.int w160), .val (.ref b161), .val (.int (1 : Int32)), .val (.int (f8 (-1 : Int32) w137 w160)), .val (.int (f10_ret w137 (-1 : Int32) w160)), .val (.int (f8 (f8 (-1 : Int32) w137 w160) w144 w160)), .val (.int (f10_ret w144 (f10_document w137 (-1 : Int32) w160) (f10_documentCount w137 (-1 : Int32) w160))), .unset, .unset]) rfl ?_
    show Steps p.tables e below (T202.setTop (mkF m 195 #[.val (.int cn), .val (.int aXq), .val (.int bXq), .val (.int c0), .val (.int mode), .val (.int w137), .val (.int w144), .val (.int w152), .val (.int w160), .val (.ref b161), .val (.int (1 : Int32)), .val (.int (f8 (-1 : Int32) w137 w160)), .val (.int (f10_ret w137 (-1 : Int32) w160)), .val (.int (f8 (f8 (-1 : Int32) w137 w160) w144 w160)), .val (.int (f10_ret w144 (f10_document w137 (-1 : Int32) w160) (f10_documentCount w137 (-1 : Int32) w160))), .unset, .unset] [])) _
    exact k
  obtain ⟨w208, hw208⟩ : ∃ z : Int32, z = (f8 (-1 : Int32) w137 w160) := ⟨_, rfl⟩
  rw [← hw208] at S207
  obtain ⟨w209, hw209⟩ : ∃ z : Int32, z = (f10_ret w137 (-1 : Int32) w160) := ⟨_, rfl⟩
  rw [← hw209] at S207
  obtain ⟨w210, hw210⟩ : ∃ z : Int32, z = (f8 w208 w144 w160) := ⟨_, rfl⟩
  rw [← hw210] at S207
  obtain ⟨w211, hw211⟩ : ∃ z : Int32, z = (f10_ret w144 (f10_document w137 (-1 : Int32) w160) (f10_documentCount w137 (-1 : Int32) w160)) := ⟨_, rfl⟩
  rw [← hw211] at S207
  obtain ⟨cq212, kq212, q212a, q212b, q212c⟩ := isOf hZ rfl Eq202
  obtain ⟨_, _, ⟨T212, L212, k212, n212⟩, -, X212, ⟨Lc212, hQ212, l212, y212, z212⟩, st212⟩ := X202.virtualBack hx (y := (⟨"com/example/libclause/libclause/search/AllDocumentsIterator", "document", "()I"⟩ : MethodName)) (z := (⟨"com/example/libclause/libclause/search/AllDocumentsIterator", "document", "()I"⟩ : MethodName)) hown (mvT hZ (hw _ (List.mem_of_getElem? (i := 38) rfl))) (mvT hZ (hw _ (List.mem_of_getElem? (i := 39) rfl))) (notFace_of_selects (args := #[]) (mvT hZ (hw _ (List.mem_of_getElem? (i := 41) rfl)))) (mvT hZ (hw _ (List.mem_of_getElem? (i := 41) rfl))) (mvT hZ (hw _ (List.mem_of_getElem? (i := 40) rfl))) (by decide) (backOf (W := 0) (rm7 l Z a0 hw [] b161 (f10_document w144 (f10_document w137 (-1 : Int32) w160) (f10_documentCount w137 (-1 : Int32) w160)) T202.heap n0 Z206 fq202_0) hZ (hw _ (List.mem_of_getElem? (i := 42) rfl)) (hw _ (List.mem_of_getElem? (i := 3) rfl)) (by decide) (by decide)) q212a q212c (g := (mkF m 209 #[.val (.int cn), .val (.int aXq), .val (.int bXq), .val (.int c0), .val (.int mode), .val (.int w137), .val (.int w144), .val (.int w152), .val (.int w160), .val (.ref b161), .val (.int (1 : Int32)), .val (.int w208), .val (.int w209), .val (.int w210), .val (.int w211), .unset, .unset] [(.ref b161)])) rfl (by rw [hml]; rfl) (Steps.refl _) (argsL := []) (rest := []) (lenOf pd_7 rfl) rfl (by show 2 * 0 + _ ≤ _; exact Nat.le_of_eq rfl) (hb hby at_209) (fun _ _ => ⟨rfl, rfl, (by decide : 2 + 0 ≤ _), (by decide : 4 + 0 ≤ _)⟩)
  dsimp only [Pt.U, Pt.locs, Pt.cells, Pt.slots] at X212 l212 y212 z212 st212 hQ212
  subst l212 y212 z212
  obtain ⟨rfl, N212q, e212⟩ := hQ212
  have N212 := Fr.app N202 N212q
  obtain ⟨_, _, ⟨T213, L213, k213, n213⟩, -, X213, ⟨Lc213, hQ213, l213, y213, z213⟩, st213⟩ := Jvm.LawKit.callS X212 hx (y := (⟨"com/example/libclause/libclause/search/AllDocumentsIteratorAdvancePinLaw", "expected", "(III)I"⟩ : MethodName)) hown (mvT hZ (hw _ (List.mem_of_getElem? (i := 43) rfl))) (mvT hZ (hw _ (List.mem_of_getElem? (i := 44) rfl))) (mvT hZ (hw _ (List.mem_of_getElem? (i := 45) rfl))) (mvT hZ (hw _ (List.mem_of_getElem? (i := 46) rfl))) (by decide) (backOf (W := 0) (rm8 l Z a0 hw [] w210 w152 w160 T202.heap n0 Z206) hZ (hw _ (List.mem_of_getElem? (i := 46) rfl)) (hw _ (List.mem_of_getElem? (i := 45) rfl)) (by decide) (by decide)) (g := (mkF m 230 #[.val (.int cn), .val (.int aXq), .val (.int bXq), .val (.int c0), .val (.int mode), .val (.int w137), .val (.int w144), .val (.int w152), .val (.int w160), .val (.ref b161), .val (.int (1 : Int32)), .val (.int w208), .val (.int w209), .val (.int w210), .val (.int w211), .unset, .unset] [(.int w160), (.int w152), (.int w210)])) rfl (by rw [hml]; rfl) (argsL := [(.int w210), (.int w152), (.int w160)]) (rest := []) (lenOf pd_8 rfl) rfl (by show 2 * 0 + _ ≤ _; exact Nat.le_of_eq rfl) (hb hby at_230) (fun _ _ => ⟨rfl, e212, (by decide : 2 + 0 ≤ _), (by decide : 4 + 0 ≤ _)⟩)
  dsimp only [Pt.U, Pt.locs, Pt.cells, Pt.slots] at X213 l213 y213 z213 st213 hQ213
  subst l213 y213 z213
  obtain ⟨rfl, N213q, e213⟩ := hQ213
  have N213 := Fr.app N212 N213q
  obtain ⟨cq214, kq214, q214a, q214b, q214c⟩ := isOf hZ e213 Eq202
  obtain ⟨_, _, ⟨T214, L214, k214, n214⟩, -, X214, ⟨Lc214, hQ214, l214, y214, z214⟩, st214⟩ := X213.virtualBack hx (y := (⟨"com/example/libclause/libclause/search/AllDocumentsIterator", "advance", "(I)I"⟩ : MethodName)) (z := (⟨"com/example/libclause/libclause/search/AllDocumentsIterator", "advance", "(I)I"⟩ : MethodName)) hown (mvT hZ (hw _ (List.mem_of_getElem? (i := 51) rfl))) (mvT hZ (hw _ (List.mem_of_getElem? (i := 52) rfl))) (notFace_of_selects (args := #[]) (mvT hZ (hw _ (List.mem_of_getElem? (i := 54) rfl)))) (mvT hZ (hw _ (List.mem_of_getElem? (i := 54) rfl))) (mvT hZ (hw _ (List.mem_of_getElem? (i := 53) rfl))) (by decide) (backOf (W := 0) (rm10 l Z a0 hw [] b161 w152 (f10_document w144 (f10_document w137 (-1 : Int32) w160) (f10_documentCount w137 (-1 : Int32) w160)) (f10_documentCount w144 (f10_document w137 (-1 : Int32) w160) (f10_documentCount w137 (-1 : Int32) w160)) b167 T202.heap n0 Z206 Eq202 fq202_0 fq202_1 fq202_2 gg161) hZ (hw _ (List.mem_of_getElem? (i := 55) rfl)) (hw _ (List.mem_of_getElem? (i := 3) rfl)) (by decide) (by decide)) q214a q214c (g := (mkF m 239 #[.val (.int cn), .val (.int aXq), .val (.int bXq), .val (.int c0), .val (.int mode), .val (.int w137), .val (.int w144), .val (.int w152), .val (.int w160), .val (.ref b161), .val (.int (1 : Int32)), .val (.int w208), .val (.int w209), .val (.int w210), .val (.int w211), .val (.int (f8 w210 w152 w160)), .unset] [(.int w152), (.ref b161)])) rfl (by rw [hml]; rfl) (Steps.refl _) (argsL := [(.int w152)]) (rest := []) (lenOf pd_9 rfl) rfl (by show 2 * 0 + _ ≤ _; exact Nat.le_of_eq rfl) (hb hby at_239) (fun _ _ => ⟨rfl, e213, (by decide : 2 + 0 ≤ _), (by decide : 4 + 0 ≤ _)⟩)
  dsimp only [Pt.U, Pt.locs, Pt.cells, Pt.slots] at X214 l214 y214 z214 st214 hQ214
  subst l214 y214 z214
  obtain ⟨rfl, N214q, K214, Eq214, fq214_0, fq214_1, fq214_2⟩ := hQ214
  have N214 := Fr.app N213 N214q
  have f215 : Exa Z T214.heap b167 "com/example/libclause/libclause/query/MatchAll" := f203.keep K214
  have f216 : Fld Z T214.heap b167 "com/example/libclause/libclause/query/MatchAll" "boost" "D" (.double (f5 (4607182418800017408 : UInt64))) := f204.keep K214 (ninS (Ne.symm ne168) nin0)
  have K217 : Keep h0 T214.heap [] := K205.trans K214 (allS (Or.inr sz161) all0)
  have Z218 : n0 ≤ T214.heap.size := Nat.le_trans Z206 K214.1
  have S219 : ∀ t, Steps p.tables e below (T214.setTop (mkF m 244 #[.val (.int cn), .val (.int aXq), .val (.int bXq), .val (.int c0), .val (.int mode), .val (.int w137), .val (.int w144), .val (.int w152), .val (.int w160), .val (.ref b161), .val (.int (1 : Int32)), .val (.int w208), .val (.int w209), .val (.int w210), .val (.int w211), .val (.int (f8 w210 w152 w160)), .val (.int (f10_ret w152 (f10_document w144 (f10_document w137 (-1 : Int32) w160) (f10_documentCount w137 (-1 : Int32) w160)) (f10_documentCount w144 (f10_document w137 (-1 : Int32) w160) (f10_documentCount w137 (-1 : Int32) w160))))] [])) t → Steps p.tables e below (s₁.setTop (entryFrame m #[(.int cn), (.int aXq), (.int bXq), (.int c0), (.int mode)] maxLocals)) t := by
    intro t k
    refine S207 t ?_
    refine XS.iload X202.here hx rfl (hb hby at_195) rfl ?_
    show Steps p.tables e below (T202.setTop (mkF m 197 #[.val (.int cn), .val (.int aXq), .val (.int bXq), .val (.int c0), .val (.int mode), .val (.int w137), .val (.int w144), .val (.int w152), .val (.int w160), .val (.ref b161), .val (.int (1 : Int32)), .val (.int w208), .val (.int w209), .val (.int w210), .val (.int w211), .unset, .unset] [(.int (1 : Int32))])) _
    refine XS.ifNo X202.here hx rfl (hb hby at_197) rfl ((if0 _ _).trans (feq (by decide : ¬ ((1 : Int32) = (0 : Int32)))).1) ?_
    show Steps p.tables e below (T202.setTop (mkF m 200 #[.val (.int cn), .val (.int aXq), .val (.int bXq), .val (.int c0), .val (.int mode), .val (.int w137), .val (.int w144), .val (.int w152), .val (.int w160), .val (.ref b161), .val (.int (1 : Int32)), .val (.int w208), .val (.int w209), .val (.int w210), .val (.int w211), .unset, .unset] [])) _
    refine XS.iload X202.here hx rfl (hb hby at_200) rfl ?_
    show Steps p.tables e below (T202.setTop (mkF m 202 #[.val (.int cn), .val (.int aXq), .val (.int bXq), .val (.int c0), .val (.int mode), .val (.int w137), .val (.int w144), .val (.int w152), .val (.int w160), .val (.ref b161), .val (.int (1 : Int32)), .val (.int w208), .val (.int w209), .val (.int w210), .val (.int w211), .unset, .unset] [(.int w211)])) _
    refine XS.iload X202.here hx rfl (hb hby at_202) rfl ?_
    show Steps p.tables e below (T202.setTop (mkF m 204 #[.val (.int cn), .val (.int aXq), .val (.int bXq), .val (.int c0), .val (.int mode), .val (.int w137), .val (.int w144), .val (.int w152), .val (.int w160), .val (.ref b161), .val (.int (1 : Int32)), .val (.int w208), .val (.int w209), .val (.int w210), .val (.int w211), .unset, .unset] [(.int w210), (.int w211)])) _
    refine XS.icmpNo X202.here hx rfl (hb hby at_204) rfl (teq (own_r5 cn aXq bXq c0 mode w137 hw137 w138 hw138 w144 hw144 w146 hw146 w152 hw152 w154 hw154 w160 hw160 w190 hw190 w193 hw193 w208 hw208 w209 hw209 w210 hw210 w211 hw211)).2 ?_
    show Steps p.tables e below (T202.setTop (mkF m 207 #[.val (.int cn), .val (.int aXq), .val (.int bXq), .val (.int c0), .val (.int mode), .val (.int w137), .val (.int w144), .val (.int w152), .val (.int w160), .val (.ref b161), .val (.int (1 : Int32)), .val (.int w208), .val (.int w209), .val (.int w210), .val (.int w211), .unset, .unset] [])) _
    refine XS.aload X202.here hx rfl (hb hby at_207) rfl rfl ?_
    show Steps p.tables e below (T202.setTop (mkF m 209 #[.val (.int cn), .val (.int aXq), .val (.int bXq), .val (.int c0), .val (.int mode), .val (.int w137), .val (.int w144), .val (.int w152), .val (.int w160), .val (.ref b161), .val (.int (1 : Int32)), .val (.int w208), .val (.int w209), .val (.int w210), .val (.int w211), .unset, .unset] [(.ref b161)])) _
    refine st212.trans ?_
    show Steps p.tables e below (T212.setTop (mkF m 212 #[.val (.int cn), .val (.int aXq), .val (.int bXq), .val (.int c0), .val (.int mode), .val (.int w137), .val (.int w144), .val (.int w152), .val (.int w160), .val (.ref b161), .val (.int (1 : Int32)), .val (.int w208), .val (.int w209), .val (.int w210), .val (.int w211), .unset, .unset] [(.int (f7 (f10_document w144 (f10_document w137 (-1 : Int32) w160) (f10_documentCount w137 (-1 : Int32) w160))))])) _
    refine XS.iload X212.here hx rfl (hb hby at_212) rfl ?_
    show Steps p.tables e below (T212.setTop (mkF m 214 #[.val (.int cn), .val (.int aXq), .val (.int bXq), .val (.int c0), .val (.int mode), .val (.int w137), .val (.int w144), .val (.int w152), .val (.int w160), .val (.ref b161), .val (.int (1 : Int32)), .val (.int w208), .val (.int w209), .val (.int w210), .val (.int w211), .unset, .unset] [(.int w210), (.int (f7 (f10_document w144 (f10_document w137 (-1 : Int32) w160) (f10_documentCount w137 (-1 : Int32) w160))))])) _
    refine XS.icmpNo X212.here hx rfl (hb hby at_214) rfl (teq (own_r6 cn aXq bXq c0 mode w137 hw137 w138 hw138 w144 hw144 w146 hw146 w152 hw152 w154 hw154 w160 hw160 w190 hw190 w193 hw193 w208 hw208 w209 hw209 w210 hw210 w211 hw211)).2 ?_
    show Steps p.tables e below (T212.setTop (mkF m 217 #[.val (.int cn), .val (.int aXq), .val (.int bXq), .val (.int c0), .val (.int mode), .val (.int w137), .val (.int w144), .val (.int w152), .val (.int w160), .val (.ref b161), .val (.int (1 : Int32)), .val (.int w208), .val (.int w209), .val (.int w210), .val (.int w211), .unset, .unset] [])) _
    refine XS.iconst X212.here hx rfl (hb hby at_217) ?_
    show Steps p.tables e below (T212.setTop (mkF m 218 #[.val (.int cn), .val (.int aXq), .val (.int bXq), .val (.int c0), .val (.int mode), .val (.int w137), .val (.int w144), .val (.int w152), .val (.int w160), .val (.ref b161), .val (.int (1 : Int32)), .val (.int w208), .val (.int w209), .val (.int w210), .val (.int w211), .unset, .unset] [(.int (1 : Int32))])) _
    refine XS.goto X212.here hx rfl (pc0 := 218) (pc' := 222) rfl (hb hby at_218) (by decide) (by decide) ?_
    show Steps p.tables e below (T212.setTop (mkF m 222 #[.val (.int cn), .val (.int aXq), .val (.int bXq), .val (.int c0), .val (.int mode), .val (.int w137), .val (.int w144), .val (.int w152), .val (.int w160), .val (.ref b161), .val (.int (1 : Int32)), .val (.int w208), .val (.int w209), .val (.int w210), .val (.int w211), .unset, .unset] [(.int (1 : Int32))])) _
    refine XS.istore X212.here hx rfl (hb hby at_222) rfl (l' := #[.val (.int cn), .val (.int aXq), .val (.int bXq), .val (.int c0), .val (.int mode), .val (.int w137), .val (.int w144), .val (.int w152), .val (.int w160), .val (.ref b161), .val (.int (1 : Int32)), .val (.int w208), .val (.int w209), .val (.int w210), .val (.int w211), .unset, .unset]) rfl ?_
    show Steps p.tables e below (T212.setTop (mkF m 224 #[.val (.int cn), .val (.int aXq), .val (.int bXq), .val (.int c0), .val (.int mode), .val (.int w137), .val (.int w144), .val (.int w152), .val (.int w160), .val (.ref b161), .val (.int (1 : Int32)), .val (.int w208), .val (.int w209), .val (.int w210), .val (.int w211), .unset, .unset] [])) _
    refine XS.iload X212.here hx rfl (hb hby at_224) rfl ?_
    show Steps p.tables e below (T212.setTop (mkF m 226 #[.val (.int cn), .val (.int aXq), .val (.int bXq), .val (.int c0), .val (.int mode), .val (.int w137), .val (.int w144), .val (.int w152), .val (.int w160), .val (.ref b161), .val (.int (1 : Int32)), .val (.int w208), .val (.int w209), .val (.int w210), .val (.int w211), .unset, .unset] [(.int w210)])) _
    refine XS.iload X212.here hx rfl (hb hby at_226) rfl ?_
    show Steps p.tables e below (T212.setTop (mkF m 228 #[.val (.int cn), .val (.int aXq), .val (.int bXq), .val (.int c0), .val (.int mode), .val (.int w137), .val (.int w144), .val (.int w152), .val (.int w160), .val (.ref b161), .val (.int (1 : Int32)), .val (.int w208), .val (.int w209), .val (.int w210), .val (.int w211), .unset, .unset] [(.int w152), (.int w210)])) _
    refine XS.iload X212.here hx rfl (hb hby at_228) rfl ?_
    show Steps p.tables e below (T212.setTop (mkF m 230 #[.val (.int cn), .val (.int aXq), .val (.int bXq), .val (.int c0), .val (.int mode), .val (.int w137), .val (.int w144), .val (.int w152), .val (.int w160), .val (.ref b161), .val (.int (1 : Int32)), .val (.int w208), .val (.int w209), .val (.int w210), .val (.int w211), .unset, .unset] [(.int w160), (.int w152), (.int w210)])) _
    refine st213 _ ?_
    show Steps p.tables e below (T213.setTop (mkF m 233 #[.val (.int cn), .val (.int aXq), .val (.int bXq), .val (.int c0), .val (.int mode), .val (.int w137), .val (.int w144), .val (.int w152), .val (.int w160), .val (.ref b161), .val (.int (1 : Int32)), .val (.int w208), .val (.int w209), .val (.int w210), .val (.int w211), .unset, .unset] [(.int (f8 w210 w152 w160))])) _
    refine XS.istore X213.here hx rfl (hb hby at_233) rfl (l' := #[.val (.int cn), .val (.int aXq), .val (.int bXq), .val (.int c0), .val (.int mode), .val (.int w137), .val (.int w144), .val (.int w152), .val (.int w160), .val (.ref b161), .val (.int (1 : Int32)), .val (.int w208), .val (.int w209), .val (.int w210), .val (.int w211), .val (.int (f8 w210 w152 w160)), .unset]) rfl ?_
    show Steps p.tables e below (T213.setTop (mkF m 235 #[.val (.int cn), .val (.int aXq), .val (.int bXq), .val (.int c0), .val (.int mode), .val (.int w137), .val (.int w144), .val (.int w152), .val (.int w160), .val (.ref b161), .val (.int (1 : Int32)), .val (.int w208), .val (.int w209), .val (.int w210), .val (.int w211), .val (.int (f8 w210 w152 w160)), .unset] [])) _
    refine XS.aload X213.here hx rfl (hb hby at_235) rfl rfl ?_
    show Steps p.tables e below (T213.setTop (mkF m 237 #[.val (.int cn), .val (.int aXq), .val (.int bXq), .val (.int c0), .val (.int mode), .val (.int w137), .val (.int w144), .val (.int w152), .val (.int w160), .val (.ref b161), .val (.int (1 : Int32)), .val (.int w208), .val (.int w209), .val (.int w210), .val (.int w211), .val (.int (f8 w210 w152 w160)), .unset] [(.ref b161)])) _
    refine XS.iload X213.here hx rfl (hb hby at_237) rfl ?_
    show Steps p.tables e below (T213.setTop (mkF m 239 #[.val (.int cn), .val (.int aXq), .val (.int bXq), .val (.int c0), .val (.int mode), .val (.int w137), .val (.int w144), .val (.int w152), .val (.int w160), .val (.ref b161), .val (.int (1 : Int32)), .val (.int w208), .val (.int w209), .val (.int w210), .val (.int w211), .val (.int (f8 w210 w152 w160)), .unset] [(.int w152), (.ref b161)])) _
    refine st214.trans ?_
    show Steps p.tables e below (T214.setTop (mkF m 242 #[.val (.int cn), .val (.int aXq), .val (.int bXq), .val (.int c0), .val (.int mode), .val (.int w137), .val (.int w144), .val (.int w152), .val (.int w160), .val (.ref b161), .val (.int (1 : Int32)), .val (.int w208), .val (.int w209), .val (.int w210), .val (.int w211), .val (.int (f8 w210 w152 w160)), .unset] [(.int (f10_ret w152 (f10_document w144 (f10_document w137 (-1 : Int32) w160) (f10_documentCount w137 (-1 : Int32) w160)) (f10_documentCount w144 (f10_document w137 (-1 : Int32) w160) (f10_documentCount w137 (-1 : Int32) w160))))])) _
    refine XS.istore X214.here hx rfl (hb hby at_242) rfl (l' := #[.val (.int cn), .val (.int aXq), .val (.int bXq), .val (.int c0), .val (.int mode), .val (.int w137), .val (.int w144), .val (.int w152), .val (.int w160), .val (.ref b161), .val (.int (1 : Int32)), .val (.int w208), .val (.int w209), .val (.int w210), .val (.int w211), .val (.int (f8 w210 w152 w160)), .val (.int (f10_ret w152 (f10_document w144 (f10_document w137 (-1 : Int32) w160) (f10_documentCount w137 (-1 : Int32) w160)) (f10_documentCount w144 (f10_document w137 (-1 : Int32) w160) (f10_documentCount w137 (-1 : Int32) w160))))]) rfl ?_
    show Steps p.tables e below (T214.setTop (mkF m 244 #[.val (.int cn), .val (.int aXq), .val (.int bXq), .val (.int c0), .val (.int mode), .val (.int w137), .val (.int w144), .val (.int w152), .val (.int w160), .val (.ref b161), .val (.int (1 : Int32)), .val (.int w208), .val (.int w209), .val (.int w210), .val (.int w211), .val (.int (f8 w210 w152 w160)), .val (.int (f10_ret w152 (f10_document w144 (f10_document w137 (-1 : Int32) w160) (f10_documentCount w137 (-1 : Int32) w160)) (f10_documentCount w144 (f10_document w137 (-1 : Int32) w160) (f10_documentCount w137 (-1 : Int32) w160))))] [])) _
    exact k
  obtain ⟨w220, hw220⟩ : ∃ z : Int32, z = (f8 w210 w152 w160) := ⟨_, rfl⟩
  rw [← hw220] at S219
  obtain ⟨w221, hw221⟩ : ∃ z : Int32, z = (f10_ret w152 (f10_document w144 (f10_document w137 (-1 : Int32) w160) (f10_documentCount w137 (-1 : Int32) w160)) (f10_documentCount w144 (f10_document w137 (-1 : Int32) w160) (f10_documentCount w137 (-1 : Int32) w160))) := ⟨_, rfl⟩
  rw [← hw221] at S219
  obtain ⟨cq222, kq222, q222a, q222b, q222c⟩ := isOf hZ rfl Eq214
  obtain ⟨_, _, ⟨T222, L222, k222, n222⟩, -, X222, ⟨Lc222, hQ222, l222, y222, z222⟩, st222⟩ := X214.virtualBack hx (y := (⟨"com/example/libclause/libclause/search/AllDocumentsIterator", "document", "()I"⟩ : MethodName)) (z := (⟨"com/example/libclause/libclause/search/AllDocumentsIterator", "document", "()I"⟩ : MethodName)) hown (mvT hZ (hw _ (List.mem_of_getElem? (i := 38) rfl))) (mvT hZ (hw _ (List.mem_of_getElem? (i := 39) rfl))) (notFace_of_selects (args := #[]) (mvT hZ (hw _ (List.mem_of_getElem? (i := 41) rfl)))) (mvT hZ (hw _ (List.mem_of_getElem? (i := 41) rfl))) (mvT hZ (hw _ (List.mem_of_getElem? (i := 40) rfl))) (by decide) (backOf (W := 0) (rm7 l Z a0 hw [] b161 (f10_document w152 (f10_document w144 (f10_document w137 (-1 : Int32) w160) (f10_documentCount w137 (-1 : Int32) w160)) (f10_documentCount w144 (f10_document w137 (-1 : Int32) w160) (f10_documentCount w137 (-1 : Int32) w160))) T214.heap n0 Z218 fq214_0) hZ (hw _ (List.mem_of_getElem? (i := 42) rfl)) (hw _ (List.mem_of_getElem? (i := 3) rfl)) (by decide) (by decide)) q222a q222c (g := (mkF m 258 #[.val (.int cn), .val (.int aXq), .val (.int bXq), .val (.int c0), .val (.int mode), .val (.int w137), .val (.int w144), .val (.int w152), .val (.int w160), .val (.ref b161), .val (.int (1 : Int32)), .val (.int w208), .val (.int w209), .val (.int w210), .val (.int w211), .val (.int w220), .val (.int w221)] [(.ref b161)])) rfl (by rw [hml]; rfl) (Steps.refl _) (argsL := []) (rest := []) (lenOf pd_7 rfl) rfl (by show 2 * 0 + _ ≤ _; exact Nat.le_of_eq rfl) (hb hby at_258) (fun _ _ => ⟨rfl, rfl, (by decide : 2 + 0 ≤ _), (by decide : 4 + 0 ≤ _)⟩)
  dsimp only [Pt.U, Pt.locs, Pt.cells, Pt.slots] at X222 l222 y222 z222 st222 hQ222
  subst l222 y222 z222
  obtain ⟨rfl, N222q, e222⟩ := hQ222
  have N222 := Fr.app N214 N222q
  have S223 : ∀ t, Steps p.tables e below (T222.setTop (mkF m 275 #[.val (.int cn), .val (.int aXq), .val (.int bXq), .val (.int c0), .val (.int mode), .val (.int w137), .val (.int w144), .val (.int w152), .val (.int w160), .val (.ref b161), .val (.int (1 : Int32)), .val (.int w208), .val (.int w209), .val (.int w210), .val (.int w211), .val (.int w220), .val (.int w221)] [(.int (1 : Int32))])) t → Steps p.tables e below (s₁.setTop (entryFrame m #[(.int cn), (.int aXq), (.int bXq), (.int c0), (.int mode)] maxLocals)) t := by
    intro t k
    refine S219 t ?_
    refine XS.iload X214.here hx rfl (hb hby at_244) rfl ?_
    show Steps p.tables e below (T214.setTop (mkF m 246 #[.val (.int cn), .val (.int aXq), .val (.int bXq), .val (.int c0), .val (.int mode), .val (.int w137), .val (.int w144), .val (.int w152), .val (.int w160), .val (.ref b161), .val (.int (1 : Int32)), .val (.int w208), .val (.int w209), .val (.int w210), .val (.int w211), .val (.int w220), .val (.int w221)] [(.int (1 : Int32))])) _
    refine XS.ifNo X214.here hx rfl (hb hby at_246) rfl ((if0 _ _).trans (feq (by decide : ¬ ((1 : Int32) = (0 : Int32)))).1) ?_
    show Steps p.tables e below (T214.setTop (mkF m 249 #[.val (.int cn), .val (.int aXq), .val (.int bXq), .val (.int c0), .val (.int mode), .val (.int w137), .val (.int w144), .val (.int w152), .val (.int w160), .val (.ref b161), .val (.int (1 : Int32)), .val (.int w208), .val (.int w209), .val (.int w210), .val (.int w211), .val (.int w220), .val (.int w221)] [])) _
    refine XS.iload X214.here hx rfl (hb hby at_249) rfl ?_
    show Steps p.tables e below (T214.setTop (mkF m 251 #[.val (.int cn), .val (.int aXq), .val (.int bXq), .val (.int c0), .val (.int mode), .val (.int w137), .val (.int w144), .val (.int w152), .val (.int w160), .val (.ref b161), .val (.int (1 : Int32)), .val (.int w208), .val (.int w209), .val (.int w210), .val (.int w211), .val (.int w220), .val (.int w221)] [(.int w221)])) _
    refine XS.iload X214.here hx rfl (hb hby at_251) rfl ?_
    show Steps p.tables e below (T214.setTop (mkF m 253 #[.val (.int cn), .val (.int aXq), .val (.int bXq), .val (.int c0), .val (.int mode), .val (.int w137), .val (.int w144), .val (.int w152), .val (.int w160), .val (.ref b161), .val (.int (1 : Int32)), .val (.int w208), .val (.int w209), .val (.int w210), .val (.int w211), .val (.int w220), .val (.int w221)] [(.int w220), (.int w221)])) _
    refine XS.icmpNo X214.here hx rfl (hb hby at_253) rfl (teq (own_r8 cn aXq bXq c0 mode w137 hw137 w138 hw138 w144 hw144 w146 hw146 w152 hw152 w154 hw154 w160 hw160 w190 hw190 w193 hw193 w208 hw208 w209 hw209 w210 hw210 w211 hw211 w220 hw220 w221 hw221)).2 ?_
    show Steps p.tables e below (T214.setTop (mkF m 256 #[.val (.int cn), .val (.int aXq), .val (.int bXq), .val (.int c0), .val (.int mode), .val (.int w137), .val (.int w144), .val (.int w152), .val (.int w160), .val (.ref b161), .val (.int (1 : Int32)), .val (.int w208), .val (.int w209), .val (.int w210), .val (.int w211), .val (.int w220), .val (.int w221)] [])) _
    refine XS.aload X214.here hx rfl (hb hby at_256) rfl rfl ?_
    show Steps p.tables e below (T214.setTop (mkF m 258 #[.val (.int cn), .val (.int aXq), .val (.int bXq), .val (.int c0), .val (.int mode), .val (.int w137), .val (.int w144), .val (.int w152), .val (.int w160), .val (.ref b161), .val (.int (1 : Int32)), .val (.int w208), .val (.int w209), .val (.int w210), .val (.int w211), .val (.int w220), .val (.int w221)] [(.ref b161)])) _
    refine st222.trans ?_
    show Steps p.tables e below (T222.setTop (mkF m 261 #[.val (.int cn), .val (.int aXq), .val (.int bXq), .val (.int c0), .val (.int mode), .val (.int w137), .val (.int w144), .val (.int w152), .val (.int w160), .val (.ref b161), .val (.int (1 : Int32)), .val (.int w208), .val (.int w209), .val (.int w210), .val (.int w211), .val (.int w220), .val (.int w221)] [(.int (f7 (f10_document w152 (f10_document w144 (f10_document w137 (-1 : Int32) w160) (f10_documentCount w137 (-1 : Int32) w160)) (f10_documentCount w144 (f10_document w137 (-1 : Int32) w160) (f10_documentCount w137 (-1 : Int32) w160)))))])) _
    refine XS.iload X222.here hx rfl (hb hby at_261) rfl ?_
    show Steps p.tables e below (T222.setTop (mkF m 263 #[.val (.int cn), .val (.int aXq), .val (.int bXq), .val (.int c0), .val (.int mode), .val (.int w137), .val (.int w144), .val (.int w152), .val (.int w160), .val (.ref b161), .val (.int (1 : Int32)), .val (.int w208), .val (.int w209), .val (.int w210), .val (.int w211), .val (.int w220), .val (.int w221)] [(.int w220), (.int (f7 (f10_document w152 (f10_document w144 (f10_document w137 (-1 : Int32) w160) (f10_documentCount w137 (-1 : Int32) w160)) (f10_documentCount w144 (f10_document w137 (-1 : Int32) w160) (f10_documentCount w137 (-1 : Int32) w160)))))])) _
    refine XS.icmpNo X222.here hx rfl (hb hby at_263) rfl (teq (own_r9 cn aXq bXq c0 mode w137 hw137 w138 hw138 w144 hw144 w146 hw146 w152 hw152 w154 hw154 w160 hw160 w190 hw190 w193 hw193 w208 hw208 w209 hw209 w210 hw210 w211 hw211 w220 hw220 w221 hw221)).2 ?_
    show Steps p.tables e below (T222.setTop (mkF m 266 #[.val (.int cn), .val (.int aXq), .val (.int bXq), .val (.int c0), .val (.int mode), .val (.int w137), .val (.int w144), .val (.int w152), .val (.int w160), .val (.ref b161), .val (.int (1 : Int32)), .val (.int w208), .val (.int w209), .val (.int w210), .val (.int w211), .val (.int w220), .val (.int w221)] [])) _
    refine XS.iconst X222.here hx rfl (hb hby at_266) ?_
    show Steps p.tables e below (T222.setTop (mkF m 267 #[.val (.int cn), .val (.int aXq), .val (.int bXq), .val (.int c0), .val (.int mode), .val (.int w137), .val (.int w144), .val (.int w152), .val (.int w160), .val (.ref b161), .val (.int (1 : Int32)), .val (.int w208), .val (.int w209), .val (.int w210), .val (.int w211), .val (.int w220), .val (.int w221)] [(.int (1 : Int32))])) _
    refine XS.goto X222.here hx rfl (pc0 := 267) (pc' := 271) rfl (hb hby at_267) (by decide) (by decide) ?_
    show Steps p.tables e below (T222.setTop (mkF m 271 #[.val (.int cn), .val (.int aXq), .val (.int bXq), .val (.int c0), .val (.int mode), .val (.int w137), .val (.int w144), .val (.int w152), .val (.int w160), .val (.ref b161), .val (.int (1 : Int32)), .val (.int w208), .val (.int w209), .val (.int w210), .val (.int w211), .val (.int w220), .val (.int w221)] [(.int (1 : Int32))])) _
    refine XS.istore X222.here hx rfl (hb hby at_271) rfl (l' := #[.val (.int cn), .val (.int aXq), .val (.int bXq), .val (.int c0), .val (.int mode), .val (.int w137), .val (.int w144), .val (.int w152), .val (.int w160), .val (.ref b161), .val (.int (1 : Int32)), .val (.int w208), .val (.int w209), .val (.int w210), .val (.int w211), .val (.int w220), .val (.int w221)]) rfl ?_
    show Steps p.tables e below (T222.setTop (mkF m 273 #[.val (.int cn), .val (.int aXq), .val (.int bXq), .val (.int c0), .val (.int mode), .val (.int w137), .val (.int w144), .val (.int w152), .val (.int w160), .val (.ref b161), .val (.int (1 : Int32)), .val (.int w208), .val (.int w209), .val (.int w210), .val (.int w211), .val (.int w220), .val (.int w221)] [])) _
    refine XS.iload X222.here hx rfl (hb hby at_273) rfl ?_
    show Steps p.tables e below (T222.setTop (mkF m 275 #[.val (.int cn), .val (.int aXq), .val (.int bXq), .val (.int c0), .val (.int mode), .val (.int w137), .val (.int w144), .val (.int w152), .val (.int w160), .val (.ref b161), .val (.int (1 : Int32)), .val (.int w208), .val (.int w209), .val (.int w210), .val (.int w211), .val (.int w220), .val (.int w221)] [(.int (1 : Int32))])) _
    exact k
  obtain ⟨fs, hr, hrun, hended, hW, hsame⟩ := X222.leave (v := some (.int (1 : Int32))) (fun h => by rw [Bd.returns] at h; cases h)
  refine ⟨_, _, S223 _ ?_, hrun, hended, _, _, rfl, ?_, ⟨_, rfl⟩, hW, hsame.mono (by decide) (by decide)⟩
  · exact retN X222 hx (t := .boolean) Bd.returns (by simp) (hb hby at_275) hr
  · show Q0 Z cn aXq bXq c0 mode h0 n0 _ T222.heap _
    rw [e222]
    exact ⟨rfl, N222⟩
set_option maxRecDepth 65536 in
set_option maxHeartbeats 40000000 in
theorem comes_1 {Post : Tables → Env → Array Value → State → Outcome → State → Prop} (hpost : ∀ tb e args s v u, (limb_1_1.after args s (.returned v) u = true ∧ limb_1_2.after args s (.returned v) u = true ∧ True) → FrameEnd s (.returned v) u (Jvm.fieldLocs frame_1_writes args s ++ Jvm.arrayLocs frame_1_arrays args s ++ Jvm.staticLocs frame_1_statics s) 16 128 → Post tb e args s (.returned v) u) :
    ArmFor flags0 classFile x code maxLocals ret World_1 tables_1 room_1 Calls_1 rest_1 Pre_1 Post := by
  intro l hfl _ _ p e ha hc hk s m args below hf hA hF happ hP
  obtain ⟨hcalls, hrest, hpre⟩ := hP
  obtain ⟨-, -, -, hnamed, -, -, -, hat⟩ := (Spec.applies_iff hf).mp happ
  obtain ⟨hg, hn⟩ := and_e (Cond.before_iff.mp (show (Jvm.Cond.and given_1 narrow_1).before args s = true from hpre))
  obtain ⟨g1, g2⟩ := and_e hg
  obtain ⟨g3, g4⟩ := and_e g2
  obtain ⟨g5, g6⟩ := and_e g4
  obtain ⟨g7, g8⟩ := and_e g6
  obtain ⟨g9, g10⟩ := and_e g8
  obtain ⟨w0, w1, w2, w3, w4, rfl⟩ : ∃ w0 w1 w2 w3 w4 : Value, args = #[w0, w1, w2, w3, w4] := by
    have hs : args.size = 5 := by simpa [Cond.value, given_1] using g1
    obtain ⟨L⟩ := args
    match L, hs with
    | [w0, w1, w2, w3, w4], _ => exact ⟨w0, w1, w2, w3, w4, rfl⟩
  have hw := fun d (hd : d ∈ tables_1) => atoms_spec (ws := Jvm.Cond.code x code maxLocals ret :: tables_1) hat d (List.mem_cons_of_mem _ hd)
  have hfit : Fit s := fun {y c} hc i hi => by
    obtain ⟨ha, rfl⟩ := Array.getElem?_eq_some_iff.mp hc
    have q := List.all_eq_true.mp ((Array.all_eq_true_iff_forall_mem.mp hF) _ (Array.getElem_mem ha)) i (List.mem_range.mpr hi)
    simpa [Array.getElem?_eq_getElem hi] using q
  obtain ⟨i0, ei0⟩ := is_v g3
  obtain rfl : w0 = (.int i0) := Option.some.inj ei0
  obtain ⟨i1, ei1⟩ := is_v g5
  obtain rfl : w1 = (.int i1) := Option.some.inj ei1
  obtain ⟨i2, ei2⟩ := is_v g7
  obtain rfl : w2 = (.int i2) := Option.some.inj ei2
  obtain ⟨i3, ei3⟩ := is_v g9
  obtain rfl : w3 = (.int i3) := Option.some.inj ei3
  obtain ⟨i4, ei4⟩ := is_v g10
  obtain rfl : w4 = (.int i4) := Option.some.inj ei4
  obtain ⟨n, o, h1, h2, h3, _, L, rfl, ⟨rfl, N⟩, hq⟩ := rm0 l s _ hw tables_1 i0 i1 i2 i3 i4  s.heap s.heap.size (Nat.le_refl _)  p e ha hc hk s m _ below hf ((Spec.applies_iff_loose hf).mp happ).1 ⟨rfl, State.Warmed39.refl s, rfl⟩ trivial
  refine ⟨n, _, h1, h2, h3, hpost _ _ _ _ _ _ ⟨Cond.after_iff.mpr rfl, Cond.after_iff.mpr (eq_i res_at (Term.int_eval (1)) rfl), trivial⟩ ⟨hq.1, hq.2.1, (hq.2.2.sift fun y hy => Or.inr (N y hy)).mono (by decide) (by decide)⟩⟩
theorem main_1_1 : Claimed_1_1 := comes_1 fun _ _ _ _ _ _ h hF => ⟨h.1, hF⟩
theorem main_1_2 : Claimed_1_2 := comes_1 fun _ _ _ _ _ _ h hF => ⟨h.2.1, hF⟩
end Jvm.Pilot.@@N@@
namespace Jvm.Pilot.@@N@@
open Jvm Jvm.ClassFile Sem Op Lib Jvm.Free Jvm.Stand Jvm.Pilot.@@N@@.Jvm.D
/-! MADE BY PROGRAM (witnessworld.py) out of the Statement's table words and the real class files: 16 classes; the members and pool entries that the words name. The judged class is class 1, her method 1. -/
namespace start1
open Jvm.ClassFile
def u (s : String) : CpInfo := .utf8 (stringToUtf16 s)
/-- a pool by its gaps: so many unusable entries, then the entry; so many at the end -/
def gap : Nat → List CpInfo → List CpInfo
  | 0, r => r
  | n + 1, r => .unusable :: gap n r
def poolList (es : List (Nat × CpInfo)) (last : Nat) : List CpInfo := es.foldr (fun e r => gap e.1 (e.2 :: r)) (gap last [])
def pool (es : List (Nat × CpInfo)) (last : Nat) : Array CpInfo := ⟨poolList es last⟩
def fileOf (pool : Array CpInfo) (this : Nat) (attrs : Array Attribute := #[]) (ms : Array MethodInfo := #[]) (fl : Nat := 33) (sup : Nat := 0) (ifs : Array Nat := #[]) (fds : Array FieldInfo := #[]) : ClassFile where
  minorVersion := 0
  majorVersion := 65
  constantPool := pool
  accessFlags := fl
  thisClass := this
  superClass := sup
  interfaces := ifs
  fields := fds
  methods := ms
  attributes := attrs
def plain (name : String) (sup : Option ClassId) : Class where
  name := name
  kind := .ordinary
  loader := none
  accessFlags := 33
  super := sup
  interfaces := #[]
  cf := none
  fields := #[]
  methods := #[]
  instanceTypes := #[]
  staticTypes := #[]
  resolved := #[]
  callSites := []
  init := .initialized
  statics := none
  mirror := none

def pool0 : Array CpInfo := pool [(5, u "<init>"), (0, u "()V"), (1, .class_ 10), (1, u "java/lang/Object")] 113

def k0c0 : Code := { maxStack := 0, maxLocals := 1, code := object_method_1_code, exceptionTable := #[], attributes := #[] }
def k0m0 : Method := { name := "<init>", desc := "()V", sig := { parameters := [], returnType := none }, accessFlags := 1, code := some k0c0 }
/-- java/lang/Object -/
def k0 : Class := { plain "java/lang/Object" none with
  accessFlags := 33
  interfaces := #[]
  cf := some (fileOf pool0 8 #[] #[{ accessFlags := 1, nameIndex := 5, descriptorIndex := 6, attributes := #[] }] 33 0 #[] #[])
  fields := #[]
  methods := #[k0m0]
  instanceTypes := #[]
  staticTypes := #[]
  resolved := Array.replicate 124 none
  statics := none }

def pool1 : Array CpInfo := pool [(2, .class_ 4), (0, .nameAndType 5 6), (0, u "java/lang/Object"), (0, u "<init>"), (0, u "()V"), (0, .integer 2147483647), (0, .methodref 9 10), (0, .class_ 11), (0, .nameAndType 12 13), (0, u "com/example/libclause/libclause/search/AllDocumentsIteratorAdvancePinLaw"), (0, u "clamp"), (0, u "(J)I"), (0, .class_ 15), (0, u "com/example/libclause/libclause/search/AllDocumentsIterator"), (0, .class_ 17), (0, u "com/example/libclause/libclause/query/MatchAll"), (0, .methodref 16 3), (0, .methodref 14 20), (0, .nameAndType 5 21), (0, u "(ILcom/example/libclause/libclause/query/MatchAll;)V"), (0, .methodref 14 23), (0, .nameAndType 24 25), (0, u "document"), (0, u "()I"), (0, .methodref 9 27), (0, .nameAndType 28 29), (0, u "expected"), (0, u "(III)I"), (0, .methodref 14 31), (0, .nameAndType 32 33), (0, u "advance"), (0, u "(I)I"), (0, .long 2147483647), (1, .methodref 37 38), (0, .class_ 39), (0, .nameAndType 40 41), (0, u "java/lang/Math"), (0, u "min"), (0, u "(JJ)J"), (0, .methodref 37 43), (0, .nameAndType 44 41), (0, u "max"), (2, .methodref 37 48), (0, .nameAndType 44 49), (0, u "(II)I"), (2, u "law"), (0, u "(IIIII)Z")] 3

def k1m0 : Method := { name := "<init>", desc := "()V", sig := { parameters := [], returnType := none }, accessFlags := 2, code := none }
def k1c1 : Code := { maxStack := 5, maxLocals := 17, code := code, exceptionTable := #[], attributes := #[] }
def k1m1 : Method := { name := "law", desc := "(IIIII)Z", sig := { parameters := [.int, .int, .int, .int, .int], returnType := some .boolean }, accessFlags := 9, code := some k1c1 }
def k1c2 : Code := { maxStack := 6, maxLocals := 2, code := method_3_code, exceptionTable := #[], attributes := #[] }
def k1m2 : Method := { name := "clamp", desc := "(J)I", sig := { parameters := [.long], returnType := some .int }, accessFlags := 10, code := some k1c2 }
def k1c3 : Code := { maxStack := 2, maxLocals := 4, code := method_4_code, exceptionTable := #[], attributes := #[] }
def k1m3 : Method := { name := "expected", desc := "(III)I", sig := { parameters := [.int, .int, .int], returnType := some .int }, accessFlags := 10, code := some k1c3 }
/-- com/example/libclause/libclause/search/AllDocumentsIteratorAdvancePinLaw -/
def k1 : Class := { plain "com/example/libclause/libclause/search/AllDocumentsIteratorAdvancePinLaw" (some 0) with
  accessFlags := 49
  interfaces := #[]
  cf := some (fileOf pool1 9 #[] #[{ accessFlags := 2, nameIndex := 5, descriptorIndex := 6, attributes := #[] }, { accessFlags := 9, nameIndex := 52, descriptorIndex := 53, attributes := #[] }, { accessFlags := 10, nameIndex := 12, descriptorIndex := 13, attributes := #[] }, { accessFlags := 10, nameIndex := 28, descriptorIndex := 29, attributes := #[] }] 49 2 #[] #[])
  fields := #[]
  methods := #[k1m0, k1m1, k1m2, k1m3]
  instanceTypes := #[]
  staticTypes := #[]
  resolved := Array.replicate 57 none
  statics := none }

def pool2 : Array CpInfo := pool [(4, .class_ 6), (1, u "com/example/libclause/libclause/search/DocIterator"), (37, .class_ 45), (0, u "java/lang/Object"), (0, u "NO_MORE_DOCUMENTS"), (0, u "I"), (1, u "DEFERRED")] 14

/-- com/example/libclause/libclause/search/DocIterator -/
def k2 : Class := { plain "com/example/libclause/libclause/search/DocIterator" (some 0) with
  accessFlags := 1536
  interfaces := #[]
  cf := some (fileOf pool2 4 #[] #[] 1536 44 #[] #[{ accessFlags := 25, nameIndex := 46, descriptorIndex := 47, attributes := #[] }, { accessFlags := 25, nameIndex := 49, descriptorIndex := 47, attributes := #[] }])
  fields := #[{ name := "NO_MORE_DOCUMENTS", type := .int, accessFlags := 25, slot := 0, constantValue := 0 }, { name := "DEFERRED", type := .int, accessFlags := 25, slot := 1, constantValue := 0 }]
  methods := #[]
  instanceTypes := #[]
  staticTypes := #[.int, .int]
  resolved := Array.replicate 64 none
  statics := none }

def pool3 : Array CpInfo := pool [(2, .class_ 4), (1, u "com/example/libclause/libclause/search/LeafIterator"), (25, .class_ 31), (0, u "java/lang/Object"), (0, .class_ 33), (0, u "com/example/libclause/libclause/search/DocIterator")] 10

/-- com/example/libclause/libclause/search/LeafIterator -/
def k3 : Class := { plain "com/example/libclause/libclause/search/LeafIterator" (some 0) with
  accessFlags := 1536
  interfaces := #[2]
  cf := some (fileOf pool3 2 #[] #[] 1536 30 #[32] #[])
  fields := #[]
  methods := #[]
  instanceTypes := #[]
  staticTypes := #[]
  resolved := Array.replicate 44 none
  statics := none }

def pool4 : Array CpInfo := pool [(1, .methodref 2 3), (0, .class_ 4), (0, .nameAndType 5 6), (0, u "java/lang/Object"), (0, u "<init>"), (0, u "()V"), (0, .fieldref 8 9), (0, .class_ 10), (0, .nameAndType 11 12), (0, u "com/example/libclause/libclause/search/AllDocumentsIterator"), (0, u "document"), (0, u "I"), (0, .fieldref 8 14), (0, .nameAndType 15 12), (0, u "documentCount"), (0, .fieldref 8 17), (0, .nameAndType 18 19), (0, u "matchAll"), (0, u "Lcom/example/libclause/libclause/query/MatchAll;"), (2, .integer 2147483647), (10, .class_ 34), (0, u "com/example/libclause/libclause/search/LeafIterator"), (0, u "(ILcom/example/libclause/libclause/query/MatchAll;)V"), (2, u "()I"), (0, u "advance"), (0, u "(I)I")] 7

def k4c0 : Code := { maxStack := 2, maxLocals := 3, code := prog_36_method_1_code, exceptionTable := #[], attributes := #[] }
def k4m0 : Method := { name := "<init>", desc := "(ILcom/example/libclause/libclause/query/MatchAll;)V", sig := { parameters := [.int, (.object "com/example/libclause/libclause/query/MatchAll")], returnType := none }, accessFlags := 0, code := some k4c0 }
def k4c1 : Code := { maxStack := 1, maxLocals := 1, code := prog_36_method_2_code, exceptionTable := #[], attributes := #[] }
def k4m1 : Method := { name := "document", desc := "()I", sig := { parameters := [], returnType := some .int }, accessFlags := 1, code := some k4c1 }
def k4c2 : Code := { maxStack := 3, maxLocals := 2, code := prog_36_method_3_code, exceptionTable := #[], attributes := #[] }
def k4m2 : Method := { name := "advance", desc := "(I)I", sig := { parameters := [.int], returnType := some .int }, accessFlags := 1, code := some k4c2 }
/-- com/example/libclause/libclause/search/AllDocumentsIterator -/
def k4 : Class := { plain "com/example/libclause/libclause/search/AllDocumentsIterator" (some 0) with
  accessFlags := 32
  interfaces := #[3]
  cf := some (fileOf pool4 8 #[] #[{ accessFlags := 0, nameIndex := 5, descriptorIndex := 35, attributes := #[] }, { accessFlags := 1, nameIndex := 11, descriptorIndex := 38, attributes := #[] }, { accessFlags := 1, nameIndex := 39, descriptorIndex := 40, attributes := #[] }] 32 2 #[33] #[{ accessFlags := 18, nameIndex := 15, descriptorIndex := 12, attributes := #[] }, { accessFlags := 18, nameIndex := 18, descriptorIndex := 19, attributes := #[] }, { accessFlags := 2, nameIndex := 11, descriptorIndex := 12, attributes := #[] }])
  fields := #[{ name := "documentCount", type := .int, accessFlags := 18, slot := 0, constantValue := 0 }, { name := "matchAll", type := (.object "com/example/libclause/libclause/query/MatchAll"), accessFlags := 18, slot := 1, constantValue := 0 }, { name := "document", type := .int, accessFlags := 2, slot := 2, constantValue := 0 }]
  methods := #[k4m0, k4m1, k4m2]
  instanceTypes := #[.int, (.object "com/example/libclause/libclause/query/MatchAll"), .int]
  staticTypes := #[]
  resolved := Array.replicate 48 none
  statics := none }

def pool5 : Array CpInfo := pool [(1, .methodref 2 3), (0, .class_ 4), (0, .nameAndType 5 6), (0, u "java/lang/Object"), (0, u "<init>"), (0, u "()V"), (0, .class_ 8), (0, u "java/lang/Record")] 13

def k5c0 : Code := { maxStack := 1, maxLocals := 1, code := jdk_30_method_1_code, exceptionTable := #[], attributes := #[] }
def k5m0 : Method := { name := "<init>", desc := "()V", sig := { parameters := [], returnType := none }, accessFlags := 4, code := some k5c0 }
/-- java/lang/Record -/
def k5 : Class := { plain "java/lang/Record" (some 0) with
  accessFlags := 1057
  interfaces := #[]
  cf := some (fileOf pool5 7 #[] #[{ accessFlags := 4, nameIndex := 5, descriptorIndex := 6, attributes := #[] }] 1057 2 #[] #[])
  fields := #[]
  methods := #[k5m0]
  instanceTypes := #[]
  staticTypes := #[]
  resolved := Array.replicate 22 none
  statics := none }

def pool6 : Array CpInfo := pool [(19, .class_ 20), (0, u "com/example/libclause/libclause/query/Query"), (0, .class_ 22), (0, u "java/lang/Object")] 22

/-- com/example/libclause/libclause/query/Query -/
def k6 : Class := { plain "com/example/libclause/libclause/query/Query" (some 0) with
  accessFlags := 1537
  interfaces := #[]
  cf := some (fileOf pool6 19 #[] #[] 1537 21 #[] #[])
  fields := #[]
  methods := #[]
  instanceTypes := #[]
  staticTypes := #[]
  resolved := Array.replicate 45 none
  statics := none }

def pool7 : Array CpInfo := pool [(1, .methodref 2 3), (0, .class_ 4), (0, .nameAndType 5 6), (0, u "java/lang/Record"), (0, u "<init>"), (0, u "()V"), (0, .methodref 8 9), (0, .class_ 10), (0, .nameAndType 11 12), (0, u "com/example/libclause/libclause/query/Boost"), (0, u "checked"), (0, u "(D)D"), (0, .fieldref 14 15), (0, .class_ 16), (0, .nameAndType 17 18), (0, u "com/example/libclause/libclause/query/MatchAll"), (0, u "boost"), (0, u "D"), (0, .methodref 14 20), (0, .nameAndType 5 21), (0, u "(D)V"), (16, .class_ 39), (0, u "com/example/libclause/libclause/query/Query")] 28

def k7c0 : Code := { maxStack := 3, maxLocals := 3, code := prog_11_method_1_code, exceptionTable := #[], attributes := #[] }
def k7m0 : Method := { name := "<init>", desc := "(D)V", sig := { parameters := [.double], returnType := none }, accessFlags := 1, code := some k7c0 }
def k7c1 : Code := { maxStack := 3, maxLocals := 1, code := prog_11_method_2_code, exceptionTable := #[], attributes := #[] }
def k7m1 : Method := { name := "<init>", desc := "()V", sig := { parameters := [], returnType := none }, accessFlags := 1, code := some k7c1 }
/-- com/example/libclause/libclause/query/MatchAll -/
def k7 : Class := { plain "com/example/libclause/libclause/query/MatchAll" (some 5) with
  accessFlags := 49
  interfaces := #[6]
  cf := some (fileOf pool7 14 #[] #[{ accessFlags := 1, nameIndex := 5, descriptorIndex := 21, attributes := #[] }, { accessFlags := 1, nameIndex := 5, descriptorIndex := 6, attributes := #[] }] 49 2 #[38] #[{ accessFlags := 18, nameIndex := 17, descriptorIndex := 18, attributes := #[] }])
  fields := #[{ name := "boost", type := .double, accessFlags := 18, slot := 0, constantValue := 0 }]
  methods := #[k7m0, k7m1]
  instanceTypes := #[.double]
  staticTypes := #[]
  resolved := Array.replicate 68 none
  statics := none }

def pool8 : Array CpInfo := pool [(2, .class_ 4), (1, u "java/lang/Object"), (0, u "<init>"), (0, u "()V"), (2, .double 9218868437227405312), (10, .class_ 21), (0, u "com/example/libclause/libclause/query/Boost"), (2, u "checked"), (0, u "(D)D")] 18

def k8m0 : Method := { name := "<init>", desc := "()V", sig := { parameters := [], returnType := none }, accessFlags := 2, code := none }
def k8c1 : Code := { maxStack := 4, maxLocals := 2, code := prog_5_method_2_code, exceptionTable := #[], attributes := #[] }
def k8m1 : Method := { name := "checked", desc := "(D)D", sig := { parameters := [.double], returnType := some .double }, accessFlags := 8, code := some k8c1 }
/-- com/example/libclause/libclause/query/Boost -/
def k8 : Class := { plain "com/example/libclause/libclause/query/Boost" (some 0) with
  accessFlags := 32
  interfaces := #[]
  cf := some (fileOf pool8 20 #[] #[{ accessFlags := 2, nameIndex := 5, descriptorIndex := 6, attributes := #[] }, { accessFlags := 8, nameIndex := 24, descriptorIndex := 25, attributes := #[] }] 32 2 #[] #[])
  fields := #[]
  methods := #[k8m0, k8m1]
  instanceTypes := #[]
  staticTypes := #[]
  resolved := Array.replicate 44 none
  statics := none }

def pool9 : Array CpInfo := pool [(1, .class_ 2), (0, u "java/lang/Math"), (1, .class_ 6), (1, u "java/lang/Object"), (0, u "<init>"), (0, u "()V"), (89, .class_ 100), (1, u "java/lang/Math$RandomNumberGeneratorHolder"), (20, u "(JJ)J"), (50, u "negativeZeroFloatBits"), (0, u "J"), (2, u "negativeZeroDoubleBits"), (21, u "max"), (2, u "min"), (43, u "$assertionsDisabled"), (0, u "Z"), (88, u "(II)I"), (2, u "twoToTheDoubleScaleDown"), (0, u "D"), (4, u "twoToTheDoubleScaleUp"), (9, u "E"), (3, u "PI"), (2, u "TAU"), (2, u "DEGREES_TO_RADIANS"), (0, u "RADIANS_TO_DEGREES")] 94

def k9m0 : Method := { name := "<init>", desc := "()V", sig := { parameters := [], returnType := none }, accessFlags := 2, code := none }
def k9c1 : Code := { maxStack := 2, maxLocals := 2, code := jdk_29_method_65_code, exceptionTable := #[], attributes := #[] }
def k9m1 : Method := { name := "max", desc := "(II)I", sig := { parameters := [.int, .int], returnType := some .int }, accessFlags := 9, code := some k9c1 }
def k9c2 : Code := { maxStack := 4, maxLocals := 4, code := jdk_29_method_66_code, exceptionTable := #[], attributes := #[] }
def k9m2 : Method := { name := "max", desc := "(JJ)J", sig := { parameters := [.long, .long], returnType := some .long }, accessFlags := 9, code := some k9c2 }
def k9c3 : Code := { maxStack := 4, maxLocals := 4, code := jdk_29_method_70_code, exceptionTable := #[], attributes := #[] }
def k9m3 : Method := { name := "min", desc := "(JJ)J", sig := { parameters := [.long, .long], returnType := some .long }, accessFlags := 9, code := some k9c3 }
/-- java/lang/Math -/
def k9 : Class := { plain "java/lang/Math" (some 0) with
  accessFlags := 49
  interfaces := #[]
  cf := some (fileOf pool9 1 #[.nestMembers #[98]] #[{ accessFlags := 2, nameIndex := 7, descriptorIndex := 8, attributes := #[] }, { accessFlags := 9, nameIndex := 198, descriptorIndex := 335, attributes := #[] }, { accessFlags := 9, nameIndex := 198, descriptorIndex := 121, attributes := #[] }, { accessFlags := 9, nameIndex := 201, descriptorIndex := 121, attributes := #[] }] 49 4 #[] #[{ accessFlags := 25, nameIndex := 354, descriptorIndex := 339, attributes := #[] }, { accessFlags := 25, nameIndex := 358, descriptorIndex := 339, attributes := #[] }, { accessFlags := 25, nameIndex := 361, descriptorIndex := 339, attributes := #[] }, { accessFlags := 26, nameIndex := 364, descriptorIndex := 339, attributes := #[] }, { accessFlags := 26, nameIndex := 365, descriptorIndex := 339, attributes := #[] }, { accessFlags := 26, nameIndex := 172, descriptorIndex := 173, attributes := #[] }, { accessFlags := 26, nameIndex := 176, descriptorIndex := 173, attributes := #[] }, { accessFlags := 8, nameIndex := 344, descriptorIndex := 339, attributes := #[] }, { accessFlags := 8, nameIndex := 338, descriptorIndex := 339, attributes := #[] }, { accessFlags := 4120, nameIndex := 245, descriptorIndex := 246, attributes := #[] }])
  fields := #[{ name := "E", type := .double, accessFlags := 25, slot := 0, constantValue := 0 }, { name := "PI", type := .double, accessFlags := 25, slot := 1, constantValue := 0 }, { name := "TAU", type := .double, accessFlags := 25, slot := 2, constantValue := 0 }, { name := "DEGREES_TO_RADIANS", type := .double, accessFlags := 26, slot := 3, constantValue := 0 }, { name := "RADIANS_TO_DEGREES", type := .double, accessFlags := 26, slot := 4, constantValue := 0 }, { name := "negativeZeroFloatBits", type := .long, accessFlags := 26, slot := 5, constantValue := 0 }, { name := "negativeZeroDoubleBits", type := .long, accessFlags := 26, slot := 6, constantValue := 0 }, { name := "twoToTheDoubleScaleUp", type := .double, accessFlags := 8, slot := 7, constantValue := 0 }, { name := "twoToTheDoubleScaleDown", type := .double, accessFlags := 8, slot := 8, constantValue := 0 }, { name := "$assertionsDisabled", type := .boolean, accessFlags := 4120, slot := 9, constantValue := 0 }]
  methods := #[k9m0, k9m1, k9m2, k9m3]
  instanceTypes := #[]
  staticTypes := #[.double, .double, .double, .double, .double, .long, .long, .double, .double, .boolean]
  resolved := Array.replicate 460 none
  statics := none }

def pool10 : Array CpInfo := pool [(1, u "java/lang/Cloneable"), (0, .class_ 1), (0, u "java/lang/Object"), (0, .class_ 3)] 3

/-- java/lang/Cloneable -/
def k10 : Class := { plain "java/lang/Cloneable" (some 0) with
  accessFlags := 1537
  interfaces := #[]
  cf := some (fileOf pool10 2 #[] #[] 1537 4 #[] #[])
  fields := #[]
  methods := #[]
  instanceTypes := #[]
  staticTypes := #[]
  resolved := Array.replicate 8 none
  statics := none }

def pool11 : Array CpInfo := pool [(1, u "java/io/Serializable"), (0, .class_ 1), (0, u "java/lang/Object"), (0, .class_ 3)] 3

/-- java/io/Serializable -/
def k11 : Class := { plain "java/io/Serializable" (some 0) with
  accessFlags := 1537
  interfaces := #[]
  cf := some (fileOf pool11 2 #[] #[] 1537 4 #[] #[])
  fields := #[]
  methods := #[]
  instanceTypes := #[]
  staticTypes := #[]
  resolved := Array.replicate 8 none
  statics := none }

/-- the primitive byte -/
def k12 : Class := { plain "byte" none with kind := .primitive 'B', accessFlags := 0x411 }
/-- [B -/
def k13 : Class := { plain "[B" (some 0) with kind := .array 12 .byte, interfaces := #[10, 11], accessFlags := 1041 }

/-- the primitive int -/
def k14 : Class := { plain "int" none with kind := .primitive 'I', accessFlags := 0x411 }
/-- [I -/
def k15 : Class := { plain "[I" (some 0) with kind := .array 14 .int, interfaces := #[10, 11], accessFlags := 1041 }

def heap : Heap := #[]
def classes : Array Class := #[k0, k1, k2, k3, k4, k5, k6, k7, k8, k9, k10, k11, k12, k13, k14, k15]
def interned : List (Array UInt16 × Addr) := []
def slotsUsed : Nat := 0
def theMethod : MethodId := ⟨1, 1⟩
def args0 : Array Value := #[.int 5, .int 6, .int 3, .int 2, .int 0]
def aboutOver (below : List Frame) : State where
  vm := { classes := classes, interned := interned.toArray }
  heap := heap
  slotsUsed := slotsUsed
  threads := #[{ frames := .invoking theMethod args0 :: below }]
def below0 : List Frame := [.native { method := ⟨0, 0⟩, args := #[] }]
def about1 : State := aboutOver below0
def p0 : Program := .bare "" "" ""
def e0 : Env := launch0.env 0 0 0
theorem w_frames : about1.frames = Frame.invoking theMethod args0 :: below0 := rfl
set_option maxRecDepth 65536 in
theorem w_args : argsFit about1.vm theMethod args0 = true := by decide +kernel
set_option maxRecDepth 65536 in
theorem w_heap : heapFits about1 = true := by decide +kernel
set_option maxRecDepth 65536 in
theorem w_runnable : about1.curStatus? = some .runnable := by decide +kernel
set_option maxRecDepth 65536 in
theorem w_alone : about1.alone = true := by decide +kernel
set_option maxRecDepth 65536 in
theorem w_named : about1.methodNamed? x = some theMethod := by decide +kernel
set_option maxRecDepth 65536 in
theorem w_hears : about1.hears theMethod below0 = true := by decide +kernel
set_option maxRecDepth 65536 in
theorem w_ripe : about1.ripe theMethod args0 below0 = true := by decide +kernel
theorem w_running : about1.status = .running := rfl
set_option maxRecDepth 65536 in
theorem w_room : about1.hasRoom e0.platform room_1 = true :=
  launch0.hasRoom_least _ room_1 (by decide +kernel) (by decide +kernel) (by decide +kernel) (by decide +kernel) (by decide +kernel) (by decide +kernel)
theorem allAtoms_all (ts : List Jvm.Cond) (a : Array Jvm.Value) (st : Jvm.State) : (allAtoms ts).before a st = ts.all (fun c => c.before a st) := by
  induction ts with
  | nil => rfl
  | cons c t ih =>
    show (Jvm.Cond.and c (allAtoms t)).before a st = _
    rw [Jvm.Cond.before_and, ih, List.all_cons]
def words1 : List Jvm.Cond := Jvm.Cond.code x code maxLocals ret :: tables_1
/-- a 'code' word, met by the world's own term for the bytes: nothing is compared byte by byte -/
theorem code_word {y : MethodName} {bytes : ByteArray} {mx : Nat} {rt : Option FieldType} {a : Array Value} {s : State} {m : MethodId} {meth : Method} {c : Code} (h1 : s.methodNamed? y = some m) (h2 : s.vm.method? m = some meth) (h3 : meth.code = some c) (h4 : c.code = bytes)
    (h5 : (c.maxLocals == mx && c.exceptionTable.isEmpty && decide (c.maxStack ≤ mostOperands) && decide (meth.sig.returnType = rt) && !meth.locks && decide (parseMethodDescriptor y.desc = some meth.sig)) = true) : (Jvm.Cond.code y bytes mx rt).before a s = true := by
  simp only [Bool.and_eq_true, beq_iff_eq, Bool.not_eq_true', decide_eq_true_eq] at h5
  obtain ⟨⟨⟨⟨⟨g1, g2⟩, g3⟩, g4⟩, g5⟩, g6⟩ := h5
  simp [Cond.before, Cond.holds, Cond.value, h1, h2, h3, h4, g1, g2, g3, g4, g5, g6]
def isCode : Jvm.Cond → Bool
  | .code _ _ _ _ => true
  | _ => false
theorem all_split {L : List Jvm.Cond} {P : Jvm.Cond → Bool} (h1 : L.all (fun c => isCode c || P c) = true) (h2 : ∀ c ∈ L.filter isCode, P c = true) : L.all P = true := by
  refine List.all_eq_true.mpr fun c hc => ?_
  have h := List.all_eq_true.mp h1 c hc
  rcases Bool.eq_false_or_eq_true (isCode c) with hi | hi
  · exact h2 c (List.mem_filter.mpr ⟨hc, hi⟩)
  · simpa [hi] using h
set_option maxRecDepth 65536 in
theorem w_c0 : (Jvm.Cond.code x code maxLocals ret).before args0 about1 = true := code_word (m := ⟨1, 1⟩) (meth := k1m1) (c := k1c1) (by decide +kernel) rfl rfl rfl (by decide +kernel)
set_option maxRecDepth 65536 in
theorem w_c1 : (Jvm.Cond.code ({ cls := "com/example/libclause/libclause/query/MatchAll", name := "<init>", desc := "()V" } : Jvm.MethodName) prog_11_method_2_code (1 : Nat) (Option.none : Option Jvm.ClassFile.FieldType)).before args0 about1 = true := code_word (m := ⟨7, 1⟩) (meth := k7m1) (c := k7c1) (by decide +kernel) rfl rfl rfl (by decide +kernel)
set_option maxRecDepth 65536 in
theorem w_c2 : (Jvm.Cond.code ({ cls := "com/example/libclause/libclause/query/MatchAll", name := "<init>", desc := "(D)V" } : Jvm.MethodName) prog_11_method_1_code (3 : Nat) (Option.none : Option Jvm.ClassFile.FieldType)).before args0 about1 = true := code_word (m := ⟨7, 0⟩) (meth := k7m0) (c := k7c0) (by decide +kernel) rfl rfl rfl (by decide +kernel)
set_option maxRecDepth 65536 in
theorem w_c3 : (Jvm.Cond.code ({ cls := "java/lang/Record", name := "<init>", desc := "()V" } : Jvm.MethodName) jdk_30_method_1_code (1 : Nat) (Option.none : Option Jvm.ClassFile.FieldType)).before args0 about1 = true := code_word (m := ⟨5, 0⟩) (meth := k5m0) (c := k5c0) (by decide +kernel) rfl rfl rfl (by decide +kernel)
set_option maxRecDepth 65536 in
theorem w_c4 : (Jvm.Cond.code ({ cls := "java/lang/Object", name := "<init>", desc := "()V" } : Jvm.MethodName) object_method_1_code (1 : Nat) (Option.none : Option Jvm.ClassFile.FieldType)).before args0 about1 = true := code_word (m := ⟨0, 0⟩) (meth := k0m0) (c := k0c0) (by decide +kernel) rfl rfl rfl (by decide +kernel)
set_option maxRecDepth 65536 in
theorem w_c5 : (Jvm.Cond.code ({ cls := "com/example/libclause/libclause/query/Boost", name := "checked", desc := "(D)D" } : Jvm.MethodName) prog_5_method_2_code (2 : Nat) (Option.some Jvm.ClassFile.FieldType.double)).before args0 about1 = true := code_word (m := ⟨8, 1⟩) (meth := k8m1) (c := k8c1) (by decide +kernel) rfl rfl rfl (by decide +kernel)
set_option maxRecDepth 65536 in
theorem w_c6 : (Jvm.Cond.code ({ cls := "com/example/libclause/libclause/search/AllDocumentsIterator", name := "<init>", desc := "(ILcom/example/libclause/libclause/query/MatchAll;)V" } : Jvm.MethodName) prog_36_method_1_code (3 : Nat) (Option.none : Option Jvm.ClassFile.FieldType)).before args0 about1 = true := code_word (m := ⟨4, 0⟩) (meth := k4m0) (c := k4c0) (by decide +kernel) rfl rfl rfl (by decide +kernel)
set_option maxRecDepth 65536 in
theorem w_c7 : (Jvm.Cond.code ({ cls := "com/example/libclause/libclause/search/AllDocumentsIterator", name := "document", desc := "()I" } : Jvm.MethodName) prog_36_method_2_code (1 : Nat) (Option.some Jvm.ClassFile.FieldType.int)).before args0 about1 = true := code_word (m := ⟨4, 1⟩) (meth := k4m1) (c := k4c1) (by decide +kernel) rfl rfl rfl (by decide +kernel)
set_option maxRecDepth 65536 in
theorem w_c8 : (Jvm.Cond.code ({ cls := "com/example/libclause/libclause/search/AllDocumentsIteratorAdvancePinLaw", name := "expected", desc := "(III)I" } : Jvm.MethodName) method_4_code (4 : Nat) (Option.some Jvm.ClassFile.FieldType.int)).before args0 about1 = true := code_word (m := ⟨1, 3⟩) (meth := k1m3) (c := k1c3) (by decide +kernel) rfl rfl rfl (by decide +kernel)
set_option maxRecDepth 65536 in
theorem w_c9 : (Jvm.Cond.code ({ cls := "java/lang/Math", name := "max", desc := "(II)I" } : Jvm.MethodName) jdk_29_method_65_code (2 : Nat) (Option.some Jvm.ClassFile.FieldType.int)).before args0 about1 = true := code_word (m := ⟨9, 1⟩) (meth := k9m1) (c := k9c1) (by decide +kernel) rfl rfl rfl (by decide +kernel)
set_option maxRecDepth 65536 in
theorem w_c10 : (Jvm.Cond.code ({ cls := "com/example/libclause/libclause/search/AllDocumentsIterator", name := "advance", desc := "(I)I" } : Jvm.MethodName) prog_36_method_3_code (2 : Nat) (Option.some Jvm.ClassFile.FieldType.int)).before args0 about1 = true := code_word (m := ⟨4, 2⟩) (meth := k4m2) (c := k4c2) (by decide +kernel) rfl rfl rfl (by decide +kernel)
set_option maxRecDepth 65536 in
theorem w_c11 : (Jvm.Cond.code ({ cls := "com/example/libclause/libclause/search/AllDocumentsIteratorAdvancePinLaw", name := "clamp", desc := "(J)I" } : Jvm.MethodName) method_3_code (2 : Nat) (Option.some Jvm.ClassFile.FieldType.int)).before args0 about1 = true := code_word (m := ⟨1, 2⟩) (meth := k1m2) (c := k1c2) (by decide +kernel) rfl rfl rfl (by decide +kernel)
set_option maxRecDepth 65536 in
theorem w_c12 : (Jvm.Cond.code ({ cls := "java/lang/Math", name := "min", desc := "(JJ)J" } : Jvm.MethodName) jdk_29_method_70_code (4 : Nat) (Option.some Jvm.ClassFile.FieldType.long)).before args0 about1 = true := code_word (m := ⟨9, 3⟩) (meth := k9m3) (c := k9c3) (by decide +kernel) rfl rfl rfl (by decide +kernel)
set_option maxRecDepth 65536 in
theorem w_c13 : (Jvm.Cond.code ({ cls := "java/lang/Math", name := "max", desc := "(JJ)J" } : Jvm.MethodName) jdk_29_method_66_code (4 : Nat) (Option.some Jvm.ClassFile.FieldType.long)).before args0 about1 = true := code_word (m := ⟨9, 2⟩) (meth := k9m2) (c := k9c2) (by decide +kernel) rfl rfl rfl (by decide +kernel)
def codes1 : List Jvm.Cond := [Jvm.Cond.code x code maxLocals ret, Jvm.Cond.code ({ cls := "com/example/libclause/libclause/query/MatchAll", name := "<init>", desc := "()V" } : Jvm.MethodName) prog_11_method_2_code (1 : Nat) (Option.none : Option Jvm.ClassFile.FieldType), Jvm.Cond.code ({ cls := "com/example/libclause/libclause/query/MatchAll", name := "<init>", desc := "(D)V" } : Jvm.MethodName) prog_11_method_1_code (3 : Nat) (Option.none : Option Jvm.ClassFile.FieldType), Jvm.Cond.code ({ cls := "java/lang/Record", name := "<init>", desc := "()V" } : Jvm.MethodName) jdk_30_method_1_code (1 : Nat) (Option.none : Option Jvm.ClassFile.FieldType), Jvm.Cond.code ({ cls := "java/lang/Object", name := "<init>", desc := "()V" } : Jvm.MethodName) object_method_1_code (1 : Nat) (Option.none : Option Jvm.ClassFile.FieldType), Jvm.Cond.code ({ cls := "com/example/libclause/libclause/query/Boost", name := "checked", desc := "(D)D" } : Jvm.MethodName) prog_5_method_2_code (2 : Nat) (Option.some Jvm.ClassFile.FieldType.double), Jvm.Cond.code ({ cls := "com/example/libclause/libclause/search/AllDocumentsIterator", name := "<init>", desc := "(ILcom/example/libclause/libclause/query/MatchAll;)V" } : Jvm.MethodName) prog_36_method_1_code (3 : Nat) (Option.none : Option Jvm.ClassFile.FieldType), Jvm.Cond.code ({ cls := "com/example/libclause/libclause/search/AllDocumentsIterator", name := "document", desc := "()I" } : Jvm.MethodName) prog_36_method_2_code (1 : Nat) (Option.some Jvm.ClassFile.FieldType.int), Jvm.Cond.code ({ cls := "com/example/libclause/libclause/search/AllDocumentsIteratorAdvancePinLaw", name := "expected", desc := "(III)I" } : Jvm.MethodName) method_4_code (4 : Nat) (Option.some Jvm.ClassFile.FieldType.int), Jvm.Cond.code ({ cls := "java/lang/Math", name := "max", desc := "(II)I" } : Jvm.MethodName) jdk_29_method_65_code (2 : Nat) (Option.some Jvm.ClassFile.FieldType.int), Jvm.Cond.code ({ cls := "com/example/libclause/libclause/search/AllDocumentsIterator", name := "advance", desc := "(I)I" } : Jvm.MethodName) prog_36_method_3_code (2 : Nat) (Option.some Jvm.ClassFile.FieldType.int), Jvm.Cond.code ({ cls := "com/example/libclause/libclause/search/AllDocumentsIteratorAdvancePinLaw", name := "clamp", desc := "(J)I" } : Jvm.MethodName) method_3_code (2 : Nat) (Option.some Jvm.ClassFile.FieldType.int), Jvm.Cond.code ({ cls := "java/lang/Math", name := "min", desc := "(JJ)J" } : Jvm.MethodName) jdk_29_method_70_code (4 : Nat) (Option.some Jvm.ClassFile.FieldType.long), Jvm.Cond.code ({ cls := "java/lang/Math", name := "max", desc := "(JJ)J" } : Jvm.MethodName) jdk_29_method_66_code (4 : Nat) (Option.some Jvm.ClassFile.FieldType.long)]
set_option maxRecDepth 65536 in
theorem codes_eq : words1.filter isCode = codes1 := rfl
theorem w_codes : ∀ c ∈ words1.filter isCode, c.before args0 about1 = true := by
  rw [codes_eq]
  intro c hc
  simp only [codes1, List.mem_cons, List.not_mem_nil, or_false] at hc
  rcases hc with rfl | rfl | rfl | rfl | rfl | rfl | rfl | rfl | rfl | rfl | rfl | rfl | rfl | rfl
  · exact w_c0
  · exact w_c1
  · exact w_c2
  · exact w_c3
  · exact w_c4
  · exact w_c5
  · exact w_c6
  · exact w_c7
  · exact w_c8
  · exact w_c9
  · exact w_c10
  · exact w_c11
  · exact w_c12
  · exact w_c13
set_option maxRecDepth 65536 in
theorem w_t1 : (words1.take 24).all (fun c => isCode c || c.before args0 about1) = true := by decide +kernel
set_option maxRecDepth 65536 in
theorem w_t2 : ((words1.drop 24).take 24).all (fun c => isCode c || c.before args0 about1) = true := by decide +kernel
set_option maxRecDepth 65536 in
theorem w_t3 : ((words1.drop 24).drop 24).all (fun c => isCode c || c.before args0 about1) = true := by decide +kernel
theorem w_tables : (allAtoms (Jvm.Cond.code x code maxLocals ret :: tables_1)).before args0 about1 = true := by
  rw [allAtoms_all]
  show words1.all (fun c => c.before args0 about1) = true
  refine all_split ?_ w_codes
  rw [← List.take_append_drop 24 words1, List.all_append, w_t1, ← List.take_append_drop 24 (words1.drop 24), List.all_append, w_t2, w_t3]
  rfl
set_option maxRecDepth 65536 in
theorem w_case : (Jvm.Cond.and given_1 narrow_1).before args0 about1 = true := by decide +kernel
theorem w_applies : (headSpec (Jvm.Cond.code x code maxLocals ret :: tables_1) room_1).applies x e0.platform about1 = true :=
  (Spec.applies_iff w_frames).mpr ⟨w_running, w_runnable, w_alone, w_named, w_hears, w_ripe, w_room, w_tables⟩
theorem atStart : AtStart classFile x code maxLocals ret World_1 tables_1 room_1 Calls_1 rest_1 Pre_1 launch0 p0 e0 about1 theMethod args0 below0 :=
  ⟨lists_1, trivial, launch0.admits_env _ _ _, launch0.least_env, fairChoices_fair.cas, fairChoices_fair.clock, w_frames, w_args, w_heap, w_applies, trivial, trivial, w_case⟩
end start1
theorem witness_1 : WitnessClaimed_1 := ⟨start1.p0, start1.e0, start1.about1, start1.theMethod, start1.args0, start1.below0, start1.atStart⟩
end Jvm.Pilot.@@N@@
