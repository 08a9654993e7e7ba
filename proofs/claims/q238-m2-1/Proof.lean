import JvmDerived
import JvmDerived.Pilot.@@N@@Statement
import JvmDerived.Pilot.@@N@@Code
set_option linter.unusedVariables false
set_option linter.unusedSimpArgs false
@@BLOCK:NumsL.lean.txt@@
namespace Jvm.Pilot.@@N@@
open Jvm Jvm.ClassFile Sem Op Lib Jvm.Free Jvm.Stand Jvm.LawKit Jvm.RoadKit Bundle Jvm.Pilot.@@N@@.Jvm.D
/-- from the state T with the frame g the run comes to an end that P speaks of -/
def own_Goes (tb : Tables) (e : Env) (below : List Frame) (P : Outcome → State → Prop) (T : State) (g : JFrame) : Prop :=
  ∃ s₂ o, Steps tb e below (T.setTop g) s₂ ∧ s₂.status = .running ∧ Ended s₂ below o ∧ P o s₂
theorem own_Goes.via {tb : Tables} {e : Env} {below : List Frame} {P : Outcome → State → Prop} {T T' : State} {g g' : JFrame} (h : ∀ t, Steps tb e below (T'.setTop g') t → Steps tb e below (T.setTop g) t) (k : own_Goes tb e below P T' g') : own_Goes tb e below P T g := by
  obtain ⟨s₂, o, a, b⟩ := k
  exact ⟨s₂, o, h _ a, b⟩
theorem own_Goes.fin {tb : Tables} {e : Env} {below : List Frame} {P : Outcome → State → Prop} {T s₂ : State} {g : JFrame} {o : Outcome} (h1 : Steps tb e below (T.setTop g) s₂) (h2 : s₂.status = .running) (h3 : Ended s₂ below o) (h4 : P o s₂) : own_Goes tb e below P T g := ⟨s₂, o, h1, h2, h3, h4⟩
theorem own_ltT {x y : Int64} (h : x < y) : ifCond.holds .lt (lcmpW x y) = true ∧ ifCond.holds .ge (lcmpW x y) = false := by
  have q : lcmpW x y < 0 := by rw [lcW]; exact (lc_lt x y).mpr h
  exact ⟨(if0 _ _).trans (tlt q).1, (if0 _ _).trans (tlt q).2.1⟩
theorem own_ltF {x y : Int64} (h : ¬ x < y) : ifCond.holds .lt (lcmpW x y) = false ∧ ifCond.holds .ge (lcmpW x y) = true := by
  have q : ¬ lcmpW x y < 0 := by rw [lcW]; exact fun z => h ((lc_lt x y).mp z)
  exact ⟨(if0 _ _).trans (flt q).1, (if0 _ _).trans (flt q).2.1⟩
theorem own_gtT {x y : Int64} (h : y < x) : ifCond.holds .gt (lcmpW x y) = true ∧ ifCond.holds .le (lcmpW x y) = false := by
  have q : 0 < lcmpW x y := by rw [lcW]; exact (lc_gt x y).mpr h
  exact ⟨(if0 _ _).trans (tlt q).2.2.1, (if0 _ _).trans (tlt q).2.2.2⟩
theorem own_gtF {x y : Int64} (h : ¬ y < x) : ifCond.holds .gt (lcmpW x y) = false ∧ ifCond.holds .le (lcmpW x y) = true := by
  have q : ¬ 0 < lcmpW x y := by rw [lcW]; exact fun z => h ((lc_gt x y).mp z)
  exact ⟨(if0 _ _).trans (flt q).2.2.1, (if0 _ _).trans (flt q).2.2.2⟩
theorem own_eqT {x y : Int64} (h : x = y) : ifCond.holds .eq (lcmpW x y) = true ∧ ifCond.holds .ne (lcmpW x y) = false := by
  have q : lcmpW x y = 0 := by rw [lcW]; exact (lc_eq x y).mpr h
  exact ⟨(if0 _ _).trans (teq q).1, (if0 _ _).trans (teq q).2⟩
theorem own_eqF {x y : Int64} (h : ¬ x = y) : ifCond.holds .eq (lcmpW x y) = false ∧ ifCond.holds .ne (lcmpW x y) = true := by
  have q : ¬ lcmpW x y = 0 := by rw [lcW]; exact fun z => h ((lc_eq x y).mp z)
  exact ⟨(if0 _ _).trans (feq q).1, (if0 _ _).trans (feq q).2⟩
theorem own_lrem (x y : Int64) : x - (x / y) * y = x % y := Int64.toInt_inj.mp (by rw [Jvm.Kit.i64_rem, Int64.toInt_mod])
theorem d1_0 : decode prog_21_method_3_code 0 = .ok (.lload_n 0, 1) := by decide +kernel
theorem d1_1 : decode prog_21_method_3_code 1 = .ok (.iload_n 2, 1) := by decide +kernel
theorem d1_2 : decode prog_21_method_3_code 2 = .ok (.i2l, 1) := by decide +kernel
theorem d1_3 : decode prog_21_method_3_code 3 = .ok (.lmul, 1) := by decide +kernel
theorem d1_4 : decode prog_21_method_3_code 4 = .ok (.ldc2_w 36, 3) := by decide +kernel
theorem d1_7 : decode prog_21_method_3_code 7 = .ok (.ladd, 1) := by decide +kernel
theorem d1_8 : decode prog_21_method_3_code 8 = .ok (.lconst 1, 1) := by decide +kernel
theorem d1_9 : decode prog_21_method_3_code 9 = .ok (.lsub, 1) := by decide +kernel
theorem d1_10 : decode prog_21_method_3_code 10 = .ok (.ldc2_w 36, 3) := by decide +kernel
theorem d1_13 : decode prog_21_method_3_code 13 = .ok (.ldiv, 1) := by decide +kernel
theorem d1_14 : decode prog_21_method_3_code 14 = .ok (.lreturn, 1) := by decide +kernel
theorem pn_1 : plainName "com/example/danaid/danaid/storage/PackedArray" = true := by first | (simp [plainName, overriddenIn]; done) | decide +kernel
theorem ef_1 (m : MethodId) (xl : Int64) (xc : Int32) : entryFrame m #[(.long xl), (.int xc)] 3 = mkF m 0 #[.val (.long xl), .second, .val (.int xc)] [] := by first | (simp [entryFrame, mkF, argsToLocals, Value.category]; done) | rfl
def own_f1 (xl : Int64) (xc : Int32) : Int64 := ((((xl * (xc.toInt64)) + (64 : Int64)) - (1 : Int64)) / (64 : Int64))
def Q1 (Z : State) (xl : Int64) (xc : Int32) (h0 : Heap) (n0 : Nat) (v : Option Value) (h : Heap) (L : List Loc) : Prop := v = some (.long (own_f1 xl xc)) ∧ Fr n0 L ∧ h = h0
set_option maxRecDepth 65536 in
set_option maxHeartbeats 40000000 in
theorem rm1 (l : Launch) (Z : State) (a0 : Array Value) (hw : ∀ d ∈ tables_1, d.before a0 Z = true) (ws : List Jvm.Cond) (xl : Int64) (xc : Int32) (h0 : Heap) (n0 : Nat) (Z0 : n0 ≤ h0.size) :
    MetFree l (⟨"com/example/danaid/danaid/storage/PackedArray", "wordsFor", "(JI)J"⟩ : MethodName) (head1 (Jvm.Cond.code (⟨"com/example/danaid/danaid/storage/PackedArray", "wordsFor", "(JI)J"⟩ : MethodName) prog_21_method_3_code 3 (some .long) :: ws) ({ frames := 0, cells := 0, slots := 0, locals := 0 } : Room)) (fun a U => a = #[(.long xl), (.int xc)] ∧ Z.Warmed39 U.vm ∧ U.heap = h0) (fun _ _ _ _ _ => True) (fun _ U o U' => ∃ v L, o = .returned v ∧ Q1 Z xl xc h0 n0 v U'.heap L ∧ FrameEnd U o U' L ({ frames := 0, cells := 0, slots := 0, locals := 0 } : Room).cells ({ frames := 0, cells := 0, slots := 0, locals := 0 } : Room).slots) := by
  refine MetFree.of_bodySF (plainFor_of_name pn_1) hisR ?_
  intro p e s m args below meth c s₁ Bd hml0 hP hK
  obtain ⟨rfl, hZ, hh⟩ := hP
  have hx := Bd.exec
  have hby := Bd.bytes
  have hml : c.maxLocals = 3 := hml0
  have hown : s.vm.findClass "com/example/danaid/danaid/storage/PackedArray" = some m.cls := findClass_of_methodNamed Bd.named
  have hnm := (name_of_methodNamed Bd.named Bd.method).1
  have X0 : Stand p l e ({ frames := 0, cells := 0, slots := 0, locals := 0 } : Room) s m #[(.long xl), (.int xc)] below meth c s₁ [] 0 0 := Stand.of_body Bd
  have e0 : s₁.heap = h0 := by rw [← hh, Bd.state]; rfl
  have N0 := Fr.nil n0
  suffices G : own_Goes p.tables e below (fun o U' => ∃ v L, o = .returned v ∧ Q1 Z xl xc h0 n0 v U'.heap L ∧ FrameEnd s o U' L ({ frames := 0, cells := 0, slots := 0, locals := 0 } : Room).cells ({ frames := 0, cells := 0, slots := 0, locals := 0 } : Room).slots) s₁ (mkF m 0 #[.val (.long xl), .second, .val (.int xc)] []) by
    obtain ⟨t2_, o2_, z1_, z2_, z3_, z4_⟩ := G
    exact ⟨t2_, o2_, castTop (ef_1 m xl xc) z1_, z2_, z3_, z4_⟩
  generalize hPd : (fun (o : Outcome) (U' : State) => ∃ v L, o = .returned v ∧ Q1 Z xl xc h0 n0 v U'.heap L ∧ FrameEnd s o U' L ({ frames := 0, cells := 0, slots := 0, locals := 0 } : Room).cells ({ frames := 0, cells := 0, slots := 0, locals := 0 } : Room).slots) = P
  refine own_Goes.via (T' := s₁) (g' := (mkF m 1 #[.val (.long xl), .second, .val (.int xc)] [(.long xl)])) (fun t_ k_ => XS.lloadN X0.here hx rfl (hb hby d1_0) rfl k_) ?_
  refine own_Goes.via (T' := s₁) (g' := (mkF m 2 #[.val (.long xl), .second, .val (.int xc)] [(.int xc), (.long xl)])) (fun t_ k_ => XS.iloadN X0.here hx rfl (hb hby d1_1) rfl k_) ?_
  refine own_Goes.via (T' := s₁) (g' := (mkF m 3 #[.val (.long xl), .second, .val (.int xc)] [(.long (xc.toInt64)), (.long xl)])) (fun t_ k_ => XS.i2l X0.here hx rfl (hb hby d1_2) rfl k_) ?_
  refine own_Goes.via (T' := s₁) (g' := (mkF m 4 #[.val (.long xl), .second, .val (.int xc)] [(.long (xl * (xc.toInt64)))])) (fun t_ k_ => XS.lmul X0.here hx rfl (hb hby d1_3) rfl k_) ?_
  refine own_Goes.via (T' := s₁) (g' := (mkF m 7 #[.val (.long xl), .second, .val (.int xc)] [(.long (64 : Int64)), (.long (xl * (xc.toInt64)))])) (X0.ldc2Long hx hown (mvT hZ (hw _ (List.mem_of_getElem? (i := 7) rfl))) (g := (mkF m 4 #[.val (.long xl), .second, .val (.int xc)] [(.long (xl * (xc.toInt64)))])) rfl (hb hby d1_4)) ?_
  refine own_Goes.via (T' := s₁) (g' := (mkF m 8 #[.val (.long xl), .second, .val (.int xc)] [(.long ((xl * (xc.toInt64)) + (64 : Int64)))])) (fun t_ k_ => XS.ladd X0.here hx rfl (hb hby d1_7) rfl k_) ?_
  refine own_Goes.via (T' := s₁) (g' := (mkF m 9 #[.val (.long xl), .second, .val (.int xc)] [(.long (1 : Int64)), (.long ((xl * (xc.toInt64)) + (64 : Int64)))])) (fun t_ k_ => XS.lconst X0.here hx rfl (hb hby d1_8) k_) ?_
  refine own_Goes.via (T' := s₁) (g' := (mkF m 10 #[.val (.long xl), .second, .val (.int xc)] [(.long (((xl * (xc.toInt64)) + (64 : Int64)) - (1 : Int64)))])) (fun t_ k_ => XS.lsub X0.here hx rfl (hb hby d1_9) rfl k_) ?_
  refine own_Goes.via (T' := s₁) (g' := (mkF m 13 #[.val (.long xl), .second, .val (.int xc)] [(.long (64 : Int64)), (.long (((xl * (xc.toInt64)) + (64 : Int64)) - (1 : Int64)))])) (X0.ldc2Long hx hown (mvT hZ (hw _ (List.mem_of_getElem? (i := 7) rfl))) (g := (mkF m 10 #[.val (.long xl), .second, .val (.int xc)] [(.long (((xl * (xc.toInt64)) + (64 : Int64)) - (1 : Int64)))])) rfl (hb hby d1_10)) ?_
  have nz13_1 : (64 : Int64) ≠ (0 : Int64) := by decide
  refine own_Goes.via (T' := s₁) (g' := (mkF m 14 #[.val (.long xl), .second, .val (.int xc)] [(.long ((((xl * (xc.toInt64)) + (64 : Int64)) - (1 : Int64)) / (64 : Int64)))])) (fun t_ k_ => XS.ldiv X0.here hx rfl (hb hby d1_13) rfl nz13_1 k_) ?_
  obtain ⟨fs, hr, hrun, hended, hW, hsame⟩ := X0.leave (v := some (.long ((((xl * (xc.toInt64)) + (64 : Int64)) - (1 : Int64)) / (64 : Int64)))) (fun h => by rw [Bd.returns] at h; cases h)
  refine own_Goes.fin (retOut X0 hx Bd.returns rfl (Or.inr (Or.inl ⟨rfl, rfl, _, rfl⟩)) (hb hby d1_14) hr) hrun hended ?_
  subst hPd
  refine ⟨_, _, rfl, ?_, ⟨_, rfl⟩, hW, hsame.mono (by decide) (by decide)⟩
  show Q1 Z xl xc h0 n0 _ s₁.heap _
  rw [e0]
  exact ⟨(by first | rfl | (simp only [own_f1])), N0, rfl⟩
theorem own_c {xc v1 : Int32} (hv1 : v1 = ((xc &&& (63 : Int32)) + (1 : Int32))) : 1 ≤ v1.toInt ∧ v1.toInt ≤ 64 := by
  have m := Jvm.Kit.i32_mask xc (63 : Int32) (k := 6) (by decide) (by decide)
  have o : (1 : Int32).toInt = 1 := rfl
  have a : ((xc &&& (63 : Int32)) + (1 : Int32)).toInt = (xc &&& (63 : Int32)).toInt + (1 : Int32).toInt := Jvm.Kit.i32_add (by omega) (by omega)
  rw [hv1, a, m, o]
  omega
theorem own_d {xc v1 : Int32} {v3 : Int64} (hv1 : v1 = ((xc &&& (63 : Int32)) + (1 : Int32))) (hv3 : v3 = ((137438952896 : Int64) / (v1.toInt64))) : v3.toInt = 137438952896 / v1.toInt ∧ 0 ≤ v3.toInt ∧ v3.toInt ≤ 137438952896 := by
  have c := own_c hv1
  have w : v1.toInt64.toInt = v1.toInt := Int32.toInt_toInt64 v1
  have e : v3.toInt = 137438952896 / v1.toInt := by
    rw [hv3, Jvm.Kit.i64_div (by rw [w]; omega), w]
    exact Int.tdiv_eq_ediv_of_nonneg (by decide)
  refine ⟨e, ?_, ?_⟩
  · rw [e]; exact Int.ediv_nonneg (by decide) (by omega)
  · rw [e]; exact Int.ediv_le_self _ (by decide)
theorem own_b {xl : Int64} {xc xs v1 : Int32} {v3 v49 : Int64} (hv1 : v1 = ((xc &&& (63 : Int32)) + (1 : Int32))) (hv3 : v3 = ((137438952896 : Int64) / (v1.toInt64))) (hv49 : v49 = (if (xs &&& (1 : Int32)) = (0 : Int32) then ((xl &&& (9223372036854775807 : Int64)) % (v3 + (1 : Int64))) else (xl &&& (1023 : Int64)))) :
    ∃ b : Int, 0 ≤ b ∧ b ≤ 137438952896 ∧ (v49 * v1.toInt64).toInt = b ∧ (own_f1 v49 v1).toInt = (b + 63) / 64 := by
  have c := own_c hv1
  obtain ⟨d1, d2, d3⟩ := own_d hv1 hv3
  have w : v1.toInt64.toInt = v1.toInt := Int32.toInt_toInt64 v1
  have o : (1 : Int64).toInt = 1 := rfl
  have key : 0 ≤ v49.toInt ∧ v49.toInt * v1.toInt ≤ 137438952896 := by
    rw [hv49]
    split
    · have m := Jvm.Kit.i64_mask xl (9223372036854775807 : Int64) (k := 63) (by decide) (by decide)
      have a : (v3 + (1 : Int64)).toInt = v3.toInt + 1 := Jvm.Kit.i64_add (by rw [o]; omega) (by rw [o]; omega)
      have r : ((xl &&& (9223372036854775807 : Int64)) % (v3 + (1 : Int64))).toInt = (xl &&& (9223372036854775807 : Int64)).toInt % (v3.toInt + 1) := by
        rw [Int64.toInt_mod, a, Int.tmod_eq_emod_of_nonneg (by rw [m]; omega)]
      have p1 := Int.emod_nonneg (xl &&& (9223372036854775807 : Int64)).toInt (show v3.toInt + 1 ≠ 0 by omega)
      have p2 := Int.emod_lt_of_pos (xl &&& (9223372036854775807 : Int64)).toInt (show 0 < v3.toInt + 1 by omega)
      rw [r]
      refine ⟨p1, ?_⟩
      have q1 : (xl &&& (9223372036854775807 : Int64)).toInt % (v3.toInt + 1) * v1.toInt ≤ v3.toInt * v1.toInt := Int.mul_le_mul_of_nonneg_right (by omega) (by omega)
      have q2 : v3.toInt * v1.toInt ≤ 137438952896 := by rw [d1]; exact Int.ediv_mul_le _ (by omega)
      omega
    · have m := Jvm.Kit.i64_mask xl (1023 : Int64) (k := 10) (by decide) (by decide)
      refine ⟨by rw [m]; omega, ?_⟩
      have q1 : (xl &&& (1023 : Int64)).toInt * v1.toInt ≤ 1023 * 64 := Int.mul_le_mul (by rw [m]; omega) (by omega) (by omega) (by decide)
      omega
  have nn : 0 ≤ v49.toInt * v1.toInt := Int.mul_nonneg key.1 (by omega)
  have mm : (v49 * v1.toInt64).toInt = v49.toInt * v1.toInt := by
    have q := Jvm.Kit.i64_mul (x := v49) (y := v1.toInt64) (by rw [w]; omega) (by rw [w]; omega)
    rw [q, w]
  refine ⟨_, nn, key.2, mm, ?_⟩
  have s : (64 : Int64).toInt = 64 := rfl
  have a1 : (v49 * v1.toInt64 + (64 : Int64)).toInt = v49.toInt * v1.toInt + 64 := by
    rw [Jvm.Kit.i64_add (by rw [mm, s]; omega) (by rw [mm, s]; omega), mm, s]
  have a2 : (v49 * v1.toInt64 + (64 : Int64) - (1 : Int64)).toInt = v49.toInt * v1.toInt + 63 := by
    rw [Jvm.Kit.i64_sub (by rw [a1, o]; omega) (by rw [a1, o]; omega), a1, o]; omega
  show (((v49 * v1.toInt64 + (64 : Int64)) - (1 : Int64)) / (64 : Int64)).toInt = _
  rw [Jvm.Kit.i64_div (by rw [s]; omega), a2, s]
  exact Int.tdiv_eq_ediv_of_nonneg (by omega)
theorem pn_0 : plainName "com/example/danaid/danaid/storage/PackedArrayWordsForPinLaw" = true := by first | (simp [plainName, overriddenIn]; done) | decide +kernel
theorem pd_0_0 : parseMethodDescriptor "(JI)J" = some ⟨[.long, .int], some .long⟩ := by decide +kernel
theorem ef_0 (m : MethodId) (xl : Int64) (xc : Int32) (xs : Int32) : entryFrame m #[(.long xl), (.int xc), (.int xs)] maxLocals = mkF m 0 #[.val (.long xl), .second, .val (.int xc), .val (.int xs), .unset, .unset, .unset, .unset, .unset, .unset, .unset, .unset, .unset, .unset, .unset] [] := by first | (simp [entryFrame, mkF, argsToLocals, Value.category, maxLocals]; done) | rfl
def Q0 (Z : State) (xl : Int64) (xc : Int32) (xs : Int32) (h0 : Heap) (n0 : Nat) (v : Option Value) (h : Heap) (L : List Loc) : Prop := v = some (.int 1) ∧ Fr n0 L
set_option maxRecDepth 65536 in
theorem own_pl0_0 {xc : Int32} {v1 : Int32} (hv1 : v1 = ((xc &&& (63 : Int32)) + (1 : Int32))) : (v1.toInt64) ≠ (0 : Int64) := by
  have c := own_c hv1
  intro q
  have w : v1.toInt64.toInt = v1.toInt := Int32.toInt_toInt64 v1
  rw [q] at w
  have o : (0 : Int64).toInt = 0 := rfl
  omega
set_option maxRecDepth 65536 in
theorem own_pl0_1 {xc : Int32} {xs : Int32} {v1 : Int32} {v3 : Int64} (hv1 : v1 = ((xc &&& (63 : Int32)) + (1 : Int32))) (hv3 : v3 = ((137438952896 : Int64) / (v1.toInt64))) (hc28_4 : (xs &&& (1 : Int32)) = (0 : Int32)) (nz22_2 : (v1.toInt64) ≠ (0 : Int64)) : (v3 + (1 : Int64)) ≠ (0 : Int64) := by
  obtain ⟨d1, d2, d3⟩ := own_d hv1 hv3
  intro q
  have o : (1 : Int64).toInt = 1 := rfl
  have z : (0 : Int64).toInt = 0 := rfl
  have a : (v3 + (1 : Int64)).toInt = v3.toInt + 1 := Jvm.Kit.i64_add (by rw [o]; omega) (by rw [o]; omega)
  rw [q, z] at a
  omega
set_option maxRecDepth 65536 in
theorem own_pl0_2 {xl : Int64} {xc : Int32} {xs : Int32} {v1 : Int32} {v3 : Int64} {v49_5 : Int64} {v10 : Int64} {v11 : Int64} (hv1 : v1 = ((xc &&& (63 : Int32)) + (1 : Int32))) (hv3 : v3 = ((137438952896 : Int64) / (v1.toInt64))) (hv49_5 : v49_5 = (if (xs &&& (1 : Int32)) = (0 : Int32) then ((xl &&& (9223372036854775807 : Int64)) % (v3 + (1 : Int64))) else (xl &&& (1023 : Int64)))) (hv10 : v10 = (own_f1 v49_5 v1)) (hv11 : v11 = (v49_5 * (v1.toInt64))) (hc72_12 : v10 < (0 : Int64)) (nz22_2 : (v1.toInt64) ≠ (0 : Int64)) : False := by
  obtain ⟨b, b1, b2, b3, b4⟩ := own_b hv1 hv3 hv49_5
  rw [hv10] at *
  simp only [Int64.lt_iff_toInt_lt] at *
  have z : (0 : Int64).toInt = 0 := rfl
  have y : (2147483639 : Int64).toInt = 2147483639 := rfl
  omega
set_option maxRecDepth 65536 in
theorem own_pl0_3 {xl : Int64} {xc : Int32} {xs : Int32} {v1 : Int32} {v3 : Int64} {v49_5 : Int64} {v10 : Int64} {v11 : Int64} (hv1 : v1 = ((xc &&& (63 : Int32)) + (1 : Int32))) (hv3 : v3 = ((137438952896 : Int64) / (v1.toInt64))) (hv49_5 : v49_5 = (if (xs &&& (1 : Int32)) = (0 : Int32) then ((xl &&& (9223372036854775807 : Int64)) % (v3 + (1 : Int64))) else (xl &&& (1023 : Int64)))) (hv10 : v10 = (own_f1 v49_5 v1)) (hv11 : v11 = (v49_5 * (v1.toInt64))) (hc72_12 : ¬ (v10 < (0 : Int64))) (hc80_13 : (2147483639 : Int64) < v10) (nz22_2 : (v1.toInt64) ≠ (0 : Int64)) : False := by
  obtain ⟨b, b1, b2, b3, b4⟩ := own_b hv1 hv3 hv49_5
  rw [hv10] at *
  simp only [Int64.lt_iff_toInt_lt] at *
  have z : (0 : Int64).toInt = 0 := rfl
  have y : (2147483639 : Int64).toInt = 2147483639 := rfl
  omega
set_option maxRecDepth 65536 in
theorem own_pl0_4 {xl : Int64} {xc : Int32} {xs : Int32} {v1 : Int32} {v3 : Int64} {v49_5 : Int64} {v10 : Int64} {v11 : Int64} {v116_15 : Int32} (hv1 : v1 = ((xc &&& (63 : Int32)) + (1 : Int32))) (hv3 : v3 = ((137438952896 : Int64) / (v1.toInt64))) (hv49_5 : v49_5 = (if (xs &&& (1 : Int32)) = (0 : Int32) then ((xl &&& (9223372036854775807 : Int64)) % (v3 + (1 : Int64))) else (xl &&& (1023 : Int64)))) (hv10 : v10 = (own_f1 v49_5 v1)) (hv11 : v11 = (v49_5 * (v1.toInt64))) (hv116_15 : v116_15 = (if ((64 : Int64) * v10) < v11 then (0 : Int32) else (if ((64 : Int64) * (v10 - (1 : Int64))) < v11 then (1 : Int32) else (0 : Int32)))) (hc72_12 : ¬ (v10 < (0 : Int64))) (hc80_13 : ¬ ((2147483639 : Int64) < v10)) (nz22_2 : (v1.toInt64) ≠ (0 : Int64)) : v116_15 = 1 := by
  obtain ⟨b, b1, b2, b3, b4⟩ := own_b hv1 hv3 hv49_5
  rw [← hv10] at b4
  rw [← hv11] at b3
  have o : (1 : Int64).toInt = 1 := rfl
  have s : (64 : Int64).toInt = 64 := rfl
  have a1 : ((64 : Int64) * v10).toInt = 64 * v10.toInt := Jvm.Kit.i64_mul (by rw [s, b4]; omega) (by rw [s, b4]; omega)
  have a2 : (v10 - (1 : Int64)).toInt = v10.toInt - 1 := Jvm.Kit.i64_sub (by rw [o, b4]; omega) (by rw [o, b4]; omega)
  have a3 : ((64 : Int64) * (v10 - (1 : Int64))).toInt = 64 * (v10.toInt - 1) := by
    rw [Jvm.Kit.i64_mul (by rw [s, a2, b4]; omega) (by rw [s, a2, b4]; omega), s, a2]
  rw [hv116_15, if_neg (by rw [Int64.lt_iff_toInt_lt, a1, b3, b4]; omega), if_pos (by rw [Int64.lt_iff_toInt_lt, a3, b3, b4]; omega)]
set_option maxRecDepth 65536 in
set_option maxHeartbeats 40000000 in
theorem rm0 (l : Launch) (Z : State) (a0 : Array Value) (hw : ∀ d ∈ tables_1, d.before a0 Z = true) (ws : List Jvm.Cond) (xl : Int64) (xc : Int32) (xs : Int32) (h0 : Heap) (n0 : Nat) (Z0 : n0 ≤ h0.size) :
    MetFree l x (head1 (Jvm.Cond.code x code maxLocals ret :: ws) room_1) (fun a U => a = #[(.long xl), (.int xc), (.int xs)] ∧ Z.Warmed39 U.vm ∧ U.heap = h0) (fun _ _ _ _ _ => True) (fun _ U o U' => ∃ v L, o = .returned v ∧ Q0 Z xl xc xs h0 n0 v U'.heap L ∧ FrameEnd U o U' L 0 0) := by
  refine MetFree.of_bodySF (plainFor_of_name pn_0) hisR ?_
  intro p e s m args below meth c s₁ Bd hml0 hP hK
  obtain ⟨rfl, hZ, hh⟩ := hP
  have hx := Bd.exec
  have hby := Bd.bytes
  have hml : c.maxLocals = 15 := hml0
  have hown : s.vm.findClass "com/example/danaid/danaid/storage/PackedArrayWordsForPinLaw" = some m.cls := findClass_of_methodNamed Bd.named
  have hnm := (name_of_methodNamed Bd.named Bd.method).1
  have X0 : Stand p l e room_1 s m #[(.long xl), (.int xc), (.int xs)] below meth c s₁ [] 0 0 := Stand.of_body Bd
  have e0 : s₁.heap = h0 := by rw [← hh, Bd.state]; rfl
  have N0 := Fr.nil n0
  suffices G : own_Goes p.tables e below (fun o U' => ∃ v L, o = .returned v ∧ Q0 Z xl xc xs h0 n0 v U'.heap L ∧ FrameEnd s o U' L 0 0) s₁ (mkF m 0 #[.val (.long xl), .second, .val (.int xc), .val (.int xs), .unset, .unset, .unset, .unset, .unset, .unset, .unset, .unset, .unset, .unset, .unset] []) by
    obtain ⟨t2_, o2_, z1_, z2_, z3_, z4_⟩ := G
    exact ⟨t2_, o2_, castTop (ef_0 m xl xc xs) z1_, z2_, z3_, z4_⟩
  generalize hPd : (fun (o : Outcome) (U' : State) => ∃ v L, o = .returned v ∧ Q0 Z xl xc xs h0 n0 v U'.heap L ∧ FrameEnd s o U' L 0 0) = P
  refine own_Goes.via (T' := s₁) (g' := (mkF m 1 #[.val (.long xl), .second, .val (.int xc), .val (.int xs), .unset, .unset, .unset, .unset, .unset, .unset, .unset, .unset, .unset, .unset, .unset] [(.int xc)])) (fun t_ k_ => XS.iloadN X0.here hx rfl (hb hby at_0) rfl k_) ?_
  refine own_Goes.via (T' := s₁) (g' := (mkF m 3 #[.val (.long xl), .second, .val (.int xc), .val (.int xs), .unset, .unset, .unset, .unset, .unset, .unset, .unset, .unset, .unset, .unset, .unset] [(.int (63 : Int32)), (.int xc)])) (fun t_ k_ => XS.bipush X0.here hx rfl (hb hby at_1) k_) ?_
  refine own_Goes.via (T' := s₁) (g' := (mkF m 4 #[.val (.long xl), .second, .val (.int xc), .val (.int xs), .unset, .unset, .unset, .unset, .unset, .unset, .unset, .unset, .unset, .unset, .unset] [(.int (xc &&& (63 : Int32)))])) (fun t_ k_ => XS.iand X0.here hx rfl (hb hby at_3) rfl k_) ?_
  refine own_Goes.via (T' := s₁) (g' := (mkF m 5 #[.val (.long xl), .second, .val (.int xc), .val (.int xs), .unset, .unset, .unset, .unset, .unset, .unset, .unset, .unset, .unset, .unset, .unset] [(.int (1 : Int32)), (.int (xc &&& (63 : Int32)))])) (fun t_ k_ => XS.iconst X0.here hx rfl (hb hby at_4) k_) ?_
  refine own_Goes.via (T' := s₁) (g' := (mkF m 6 #[.val (.long xl), .second, .val (.int xc), .val (.int xs), .unset, .unset, .unset, .unset, .unset, .unset, .unset, .unset, .unset, .unset, .unset] [(.int ((xc &&& (63 : Int32)) + (1 : Int32)))])) (fun t_ k_ => XS.iadd X0.here hx rfl (hb hby at_5) rfl k_) ?_
  refine own_Goes.via (T' := s₁) (g' := (mkF m 8 #[.val (.long xl), .second, .val (.int xc), .val (.int xs), .val (.int ((xc &&& (63 : Int32)) + (1 : Int32))), .unset, .unset, .unset, .unset, .unset, .unset, .unset, .unset, .unset, .unset] [])) (fun t_ k_ => XS.istore X0.here hx rfl (hb hby at_6) rfl (l' := #[.val (.long xl), .second, .val (.int xc), .val (.int xs), .val (.int ((xc &&& (63 : Int32)) + (1 : Int32))), .unset, .unset, .unset, .unset, .unset, .unset, .unset, .unset, .unset, .unset]) rfl k_) ?_
  obtain ⟨v1, hv1⟩ : ∃ z : Int32, z = ((xc &&& (63 : Int32)) + (1 : Int32)) := ⟨_, rfl⟩
  rw [← hv1]
  refine own_Goes.via (T' := s₁) (g' := (mkF m 11 #[.val (.long xl), .second, .val (.int xc), .val (.int xs), .val (.int v1), .unset, .unset, .unset, .unset, .unset, .unset, .unset, .unset, .unset, .unset] [(.long (2147483639 : Int64))])) (X0.ldc2Long hx hown (mvT hZ (hw _ (List.mem_of_getElem? (i := 0) rfl))) (g := (mkF m 8 #[.val (.long xl), .second, .val (.int xc), .val (.int xs), .val (.int v1), .unset, .unset, .unset, .unset, .unset, .unset, .unset, .unset, .unset, .unset] [])) rfl (hb hby at_8)) ?_
  refine own_Goes.via (T' := s₁) (g' := (mkF m 13 #[.val (.long xl), .second, .val (.int xc), .val (.int xs), .val (.int v1), .val (.long (2147483639 : Int64)), .second, .unset, .unset, .unset, .unset, .unset, .unset, .unset, .unset] [])) (fun t_ k_ => XS.lstore X0.here hx rfl (hb hby at_11) rfl (l' := #[.val (.long xl), .second, .val (.int xc), .val (.int xs), .val (.int v1), .val (.long (2147483639 : Int64)), .second, .unset, .unset, .unset, .unset, .unset, .unset, .unset, .unset]) rfl k_) ?_
  refine own_Goes.via (T' := s₁) (g' := (mkF m 15 #[.val (.long xl), .second, .val (.int xc), .val (.int xs), .val (.int v1), .val (.long (2147483639 : Int64)), .second, .unset, .unset, .unset, .unset, .unset, .unset, .unset, .unset] [(.long (2147483639 : Int64))])) (fun t_ k_ => XS.lload X0.here hx rfl (hb hby at_13) rfl k_) ?_
  refine own_Goes.via (T' := s₁) (g' := (mkF m 18 #[.val (.long xl), .second, .val (.int xc), .val (.int xs), .val (.int v1), .val (.long (2147483639 : Int64)), .second, .unset, .unset, .unset, .unset, .unset, .unset, .unset, .unset] [(.long (64 : Int64)), (.long (2147483639 : Int64))])) (X0.ldc2Long hx hown (mvT hZ (hw _ (List.mem_of_getElem? (i := 1) rfl))) (g := (mkF m 15 #[.val (.long xl), .second, .val (.int xc), .val (.int xs), .val (.int v1), .val (.long (2147483639 : Int64)), .second, .unset, .unset, .unset, .unset, .unset, .unset, .unset, .unset] [(.long (2147483639 : Int64))])) rfl (hb hby at_15)) ?_
  refine own_Goes.via (T' := s₁) (g' := (mkF m 19 #[.val (.long xl), .second, .val (.int xc), .val (.int xs), .val (.int v1), .val (.long (2147483639 : Int64)), .second, .unset, .unset, .unset, .unset, .unset, .unset, .unset, .unset] [(.long (137438952896 : Int64))])) (fun t_ k_ => XS.lmul X0.here hx rfl (hb hby at_18) rfl k_) ?_
  refine own_Goes.via (T' := s₁) (g' := (mkF m 21 #[.val (.long xl), .second, .val (.int xc), .val (.int xs), .val (.int v1), .val (.long (2147483639 : Int64)), .second, .unset, .unset, .unset, .unset, .unset, .unset, .unset, .unset] [(.int v1), (.long (137438952896 : Int64))])) (fun t_ k_ => XS.iload X0.here hx rfl (hb hby at_19) rfl k_) ?_
  refine own_Goes.via (T' := s₁) (g' := (mkF m 22 #[.val (.long xl), .second, .val (.int xc), .val (.int xs), .val (.int v1), .val (.long (2147483639 : Int64)), .second, .unset, .unset, .unset, .unset, .unset, .unset, .unset, .unset] [(.long (v1.toInt64)), (.long (137438952896 : Int64))])) (fun t_ k_ => XS.i2l X0.here hx rfl (hb hby at_21) rfl k_) ?_
  have nz22_2 : (v1.toInt64) ≠ (0 : Int64) := own_pl0_0 hv1
  refine own_Goes.via (T' := s₁) (g' := (mkF m 23 #[.val (.long xl), .second, .val (.int xc), .val (.int xs), .val (.int v1), .val (.long (2147483639 : Int64)), .second, .unset, .unset, .unset, .unset, .unset, .unset, .unset, .unset] [(.long ((137438952896 : Int64) / (v1.toInt64)))])) (fun t_ k_ => XS.ldiv X0.here hx rfl (hb hby at_22) rfl nz22_2 k_) ?_
  refine own_Goes.via (T' := s₁) (g' := (mkF m 25 #[.val (.long xl), .second, .val (.int xc), .val (.int xs), .val (.int v1), .val (.long (2147483639 : Int64)), .second, .val (.long ((137438952896 : Int64) / (v1.toInt64))), .second, .unset, .unset, .unset, .unset, .unset, .unset] [])) (fun t_ k_ => XS.lstore X0.here hx rfl (hb hby at_23) rfl (l' := #[.val (.long xl), .second, .val (.int xc), .val (.int xs), .val (.int v1), .val (.long (2147483639 : Int64)), .second, .val (.long ((137438952896 : Int64) / (v1.toInt64))), .second, .unset, .unset, .unset, .unset, .unset, .unset]) rfl k_) ?_
  obtain ⟨v3, hv3⟩ : ∃ z : Int64, z = ((137438952896 : Int64) / (v1.toInt64)) := ⟨_, rfl⟩
  rw [← hv3]
  refine own_Goes.via (T' := s₁) (g' := (mkF m 26 #[.val (.long xl), .second, .val (.int xc), .val (.int xs), .val (.int v1), .val (.long (2147483639 : Int64)), .second, .val (.long v3), .second, .unset, .unset, .unset, .unset, .unset, .unset] [(.int xs)])) (fun t_ k_ => XS.iloadN X0.here hx rfl (hb hby at_25) rfl k_) ?_
  refine own_Goes.via (T' := s₁) (g' := (mkF m 27 #[.val (.long xl), .second, .val (.int xc), .val (.int xs), .val (.int v1), .val (.long (2147483639 : Int64)), .second, .val (.long v3), .second, .unset, .unset, .unset, .unset, .unset, .unset] [(.int (1 : Int32)), (.int xs)])) (fun t_ k_ => XS.iconst X0.here hx rfl (hb hby at_26) k_) ?_
  refine own_Goes.via (T' := s₁) (g' := (mkF m 28 #[.val (.long xl), .second, .val (.int xc), .val (.int xs), .val (.int v1), .val (.long (2147483639 : Int64)), .second, .val (.long v3), .second, .unset, .unset, .unset, .unset, .unset, .unset] [(.int (xs &&& (1 : Int32)))])) (fun t_ k_ => XS.iand X0.here hx rfl (hb hby at_27) rfl k_) ?_
  suffices J49_7 : ∀ (v49_5 : Int64) (hv49_5 : v49_5 = (if (xs &&& (1 : Int32)) = (0 : Int32) then ((xl &&& (9223372036854775807 : Int64)) % (v3 + (1 : Int64))) else (xl &&& (1023 : Int64)))), own_Goes p.tables e below P s₁ (mkF m 49 #[.val (.long xl), .second, .val (.int xc), .val (.int xs), .val (.int v1), .val (.long (2147483639 : Int64)), .second, .val (.long v3), .second, .unset, .unset, .unset, .unset, .unset, .unset] [(.long v49_5)]) by
    by_cases hc28_4 : (xs &&& (1 : Int32)) = (0 : Int32)
    · refine own_Goes.via (T' := s₁) (g' := (mkF m 39 #[.val (.long xl), .second, .val (.int xc), .val (.int xs), .val (.int v1), .val (.long (2147483639 : Int64)), .second, .val (.long v3), .second, .unset, .unset, .unset, .unset, .unset, .unset] [])) (fun t_ k_ => XS.ifYes X0.here hx rfl (pc0 := 28) (pc' := 39) rfl (hb hby at_28) rfl ((if0 _ _).trans (teq hc28_4).1) (by decide) (by decide) k_) ?_
      refine own_Goes.via (T' := s₁) (g' := (mkF m 40 #[.val (.long xl), .second, .val (.int xc), .val (.int xs), .val (.int v1), .val (.long (2147483639 : Int64)), .second, .val (.long v3), .second, .unset, .unset, .unset, .unset, .unset, .unset] [(.long xl)])) (fun t_ k_ => XS.lloadN X0.here hx rfl (hb hby at_39) rfl k_) ?_
      refine own_Goes.via (T' := s₁) (g' := (mkF m 43 #[.val (.long xl), .second, .val (.int xc), .val (.int xs), .val (.int v1), .val (.long (2147483639 : Int64)), .second, .val (.long v3), .second, .unset, .unset, .unset, .unset, .unset, .unset] [(.long (9223372036854775807 : Int64)), (.long xl)])) (X0.ldc2Long hx hown (mvT hZ (hw _ (List.mem_of_getElem? (i := 8) rfl))) (g := (mkF m 40 #[.val (.long xl), .second, .val (.int xc), .val (.int xs), .val (.int v1), .val (.long (2147483639 : Int64)), .second, .val (.long v3), .second, .unset, .unset, .unset, .unset, .unset, .unset] [(.long xl)])) rfl (hb hby at_40)) ?_
      refine own_Goes.via (T' := s₁) (g' := (mkF m 44 #[.val (.long xl), .second, .val (.int xc), .val (.int xs), .val (.int v1), .val (.long (2147483639 : Int64)), .second, .val (.long v3), .second, .unset, .unset, .unset, .unset, .unset, .unset] [(.long (xl &&& (9223372036854775807 : Int64)))])) (fun t_ k_ => XS.land X0.here hx rfl (hb hby at_43) rfl k_) ?_
      refine own_Goes.via (T' := s₁) (g' := (mkF m 46 #[.val (.long xl), .second, .val (.int xc), .val (.int xs), .val (.int v1), .val (.long (2147483639 : Int64)), .second, .val (.long v3), .second, .unset, .unset, .unset, .unset, .unset, .unset] [(.long v3), (.long (xl &&& (9223372036854775807 : Int64)))])) (fun t_ k_ => XS.lload X0.here hx rfl (hb hby at_44) rfl k_) ?_
      refine own_Goes.via (T' := s₁) (g' := (mkF m 47 #[.val (.long xl), .second, .val (.int xc), .val (.int xs), .val (.int v1), .val (.long (2147483639 : Int64)), .second, .val (.long v3), .second, .unset, .unset, .unset, .unset, .unset, .unset] [(.long (1 : Int64)), (.long v3), (.long (xl &&& (9223372036854775807 : Int64)))])) (fun t_ k_ => XS.lconst X0.here hx rfl (hb hby at_46) k_) ?_
      refine own_Goes.via (T' := s₁) (g' := (mkF m 48 #[.val (.long xl), .second, .val (.int xc), .val (.int xs), .val (.int v1), .val (.long (2147483639 : Int64)), .second, .val (.long v3), .second, .unset, .unset, .unset, .unset, .unset, .unset] [(.long (v3 + (1 : Int64))), (.long (xl &&& (9223372036854775807 : Int64)))])) (fun t_ k_ => XS.ladd X0.here hx rfl (hb hby at_47) rfl k_) ?_
      have nz48_8 : (v3 + (1 : Int64)) ≠ (0 : Int64) := own_pl0_1 hv1 hv3 hc28_4 nz22_2
      refine own_Goes.via (T' := s₁) (g' := (mkF m 49 #[.val (.long xl), .second, .val (.int xc), .val (.int xs), .val (.int v1), .val (.long (2147483639 : Int64)), .second, .val (.long v3), .second, .unset, .unset, .unset, .unset, .unset, .unset] [(.long ((xl &&& (9223372036854775807 : Int64)) % (v3 + (1 : Int64))))])) (fun t_ k_ => XS.lrem X0.here hx rfl (hb hby at_48) rfl nz48_8 (by rw [own_lrem]; exact k_)) ?_
      exact J49_7 ((xl &&& (9223372036854775807 : Int64)) % (v3 + (1 : Int64))) ((if_pos hc28_4)).symm
    · refine own_Goes.via (T' := s₁) (g' := (mkF m 31 #[.val (.long xl), .second, .val (.int xc), .val (.int xs), .val (.int v1), .val (.long (2147483639 : Int64)), .second, .val (.long v3), .second, .unset, .unset, .unset, .unset, .unset, .unset] [])) (fun t_ k_ => XS.ifNo X0.here hx rfl (hb hby at_28) rfl ((if0 _ _).trans (feq hc28_4).1) k_) ?_
      refine own_Goes.via (T' := s₁) (g' := (mkF m 32 #[.val (.long xl), .second, .val (.int xc), .val (.int xs), .val (.int v1), .val (.long (2147483639 : Int64)), .second, .val (.long v3), .second, .unset, .unset, .unset, .unset, .unset, .unset] [(.long xl)])) (fun t_ k_ => XS.lloadN X0.here hx rfl (hb hby at_31) rfl k_) ?_
      refine own_Goes.via (T' := s₁) (g' := (mkF m 35 #[.val (.long xl), .second, .val (.int xc), .val (.int xs), .val (.int v1), .val (.long (2147483639 : Int64)), .second, .val (.long v3), .second, .unset, .unset, .unset, .unset, .unset, .unset] [(.long (1023 : Int64)), (.long xl)])) (X0.ldc2Long hx hown (mvT hZ (hw _ (List.mem_of_getElem? (i := 2) rfl))) (g := (mkF m 32 #[.val (.long xl), .second, .val (.int xc), .val (.int xs), .val (.int v1), .val (.long (2147483639 : Int64)), .second, .val (.long v3), .second, .unset, .unset, .unset, .unset, .unset, .unset] [(.long xl)])) rfl (hb hby at_32)) ?_
      refine own_Goes.via (T' := s₁) (g' := (mkF m 36 #[.val (.long xl), .second, .val (.int xc), .val (.int xs), .val (.int v1), .val (.long (2147483639 : Int64)), .second, .val (.long v3), .second, .unset, .unset, .unset, .unset, .unset, .unset] [(.long (xl &&& (1023 : Int64)))])) (fun t_ k_ => XS.land X0.here hx rfl (hb hby at_35) rfl k_) ?_
      refine own_Goes.via (T' := s₁) (g' := (mkF m 49 #[.val (.long xl), .second, .val (.int xc), .val (.int xs), .val (.int v1), .val (.long (2147483639 : Int64)), .second, .val (.long v3), .second, .unset, .unset, .unset, .unset, .unset, .unset] [(.long (xl &&& (1023 : Int64)))])) (fun t_ k_ => XS.goto X0.here hx rfl (pc0 := 36) (pc' := 49) rfl (hb hby at_36) (by decide) (by decide) k_) ?_
      exact J49_7 (xl &&& (1023 : Int64)) ((if_neg hc28_4)).symm
  intro v49_5 hv49_5
  refine own_Goes.via (T' := s₁) (g' := (mkF m 51 #[.val (.long xl), .second, .val (.int xc), .val (.int xs), .val (.int v1), .val (.long (2147483639 : Int64)), .second, .val (.long v3), .second, .val (.long v49_5), .second, .unset, .unset, .unset, .unset] [])) (fun t_ k_ => XS.lstore X0.here hx rfl (hb hby at_49) rfl (l' := #[.val (.long xl), .second, .val (.int xc), .val (.int xs), .val (.int v1), .val (.long (2147483639 : Int64)), .second, .val (.long v3), .second, .val (.long v49_5), .second, .unset, .unset, .unset, .unset]) rfl k_) ?_
  refine own_Goes.via (T' := s₁) (g' := (mkF m 53 #[.val (.long xl), .second, .val (.int xc), .val (.int xs), .val (.int v1), .val (.long (2147483639 : Int64)), .second, .val (.long v3), .second, .val (.long v49_5), .second, .unset, .unset, .unset, .unset] [(.long v49_5)])) (fun t_ k_ => XS.lload X0.here hx rfl (hb hby at_51) rfl k_) ?_
  refine own_Goes.via (T' := s₁) (g' := (mkF m 55 #[.val (.long xl), .second, .val (.int xc), .val (.int xs), .val (.int v1), .val (.long (2147483639 : Int64)), .second, .val (.long v3), .second, .val (.long v49_5), .second, .unset, .unset, .unset, .unset] [(.int v1), (.long v49_5)])) (fun t_ k_ => XS.iload X0.here hx rfl (hb hby at_53) rfl k_) ?_
  obtain ⟨_, _, ⟨T9, L9, k9, n9⟩, -, X9, ⟨Lc9, hQ9, l9, y9, z9⟩, st9⟩ := Jvm.LawKit.callS X0 hx (y := (⟨"com/example/danaid/danaid/storage/PackedArray", "wordsFor", "(JI)J"⟩ : MethodName)) hown (mvT hZ (hw _ (List.mem_of_getElem? (i := 3) rfl))) (mvT hZ (hw _ (List.mem_of_getElem? (i := 4) rfl))) (mvT hZ (hw _ (List.mem_of_getElem? (i := 5) rfl))) (mvT hZ (hw _ (List.mem_of_getElem? (i := 6) rfl))) (by decide) (backOf (W := 0) (rm1 l Z a0 hw [] v49_5 v1 h0 n0 Z0 ) hZ (hw _ (List.mem_of_getElem? (i := 6) rfl)) (hw _ (List.mem_of_getElem? (i := 5) rfl)) (by decide) (by decide)) (g := (mkF m 55 #[.val (.long xl), .second, .val (.int xc), .val (.int xs), .val (.int v1), .val (.long (2147483639 : Int64)), .second, .val (.long v3), .second, .val (.long v49_5), .second, .unset, .unset, .unset, .unset] [(.int v1), (.long v49_5)])) rfl (by rw [hml]; rfl) (argsL := [(.long v49_5), (.int v1)]) (rest := []) (lenOf pd_0_0 rfl) rfl (by show 2 * 0 + _ ≤ _; exact Nat.le_of_eq rfl) (hb hby at_55) (fun _ _ => ⟨rfl, e0, (by decide : 0 + 0 ≤ _), (by decide : 0 + 0 ≤ _)⟩)
  dsimp only [Pt.U, Pt.locs, Pt.cells, Pt.slots] at X9 l9 y9 z9 st9 hQ9
  subst l9 y9 z9
  obtain ⟨rfl, Nq9, hh9⟩ := hQ9
  have N9 := Fr.app N0 Nq9
  refine own_Goes.via (T' := T9) (g' := (mkF m 58 #[.val (.long xl), .second, .val (.int xc), .val (.int xs), .val (.int v1), .val (.long (2147483639 : Int64)), .second, .val (.long v3), .second, .val (.long v49_5), .second, .unset, .unset, .unset, .unset] [(.long (own_f1 v49_5 v1))])) (st9) ?_
  obtain ⟨v10, hv10⟩ : ∃ z : Int64, z = (own_f1 v49_5 v1) := ⟨_, rfl⟩
  rw [← hv10]
  refine own_Goes.via (T' := T9) (g' := (mkF m 60 #[.val (.long xl), .second, .val (.int xc), .val (.int xs), .val (.int v1), .val (.long (2147483639 : Int64)), .second, .val (.long v3), .second, .val (.long v49_5), .second, .val (.long v10), .second, .unset, .unset] [])) (fun t_ k_ => XS.lstore X9.here hx rfl (hb hby at_58) rfl (l' := #[.val (.long xl), .second, .val (.int xc), .val (.int xs), .val (.int v1), .val (.long (2147483639 : Int64)), .second, .val (.long v3), .second, .val (.long v49_5), .second, .val (.long v10), .second, .unset, .unset]) rfl k_) ?_
  refine own_Goes.via (T' := T9) (g' := (mkF m 62 #[.val (.long xl), .second, .val (.int xc), .val (.int xs), .val (.int v1), .val (.long (2147483639 : Int64)), .second, .val (.long v3), .second, .val (.long v49_5), .second, .val (.long v10), .second, .unset, .unset] [(.long v49_5)])) (fun t_ k_ => XS.lload X9.here hx rfl (hb hby at_60) rfl k_) ?_
  refine own_Goes.via (T' := T9) (g' := (mkF m 64 #[.val (.long xl), .second, .val (.int xc), .val (.int xs), .val (.int v1), .val (.long (2147483639 : Int64)), .second, .val (.long v3), .second, .val (.long v49_5), .second, .val (.long v10), .second, .unset, .unset] [(.int v1), (.long v49_5)])) (fun t_ k_ => XS.iload X9.here hx rfl (hb hby at_62) rfl k_) ?_
  refine own_Goes.via (T' := T9) (g' := (mkF m 65 #[.val (.long xl), .second, .val (.int xc), .val (.int xs), .val (.int v1), .val (.long (2147483639 : Int64)), .second, .val (.long v3), .second, .val (.long v49_5), .second, .val (.long v10), .second, .unset, .unset] [(.long (v1.toInt64)), (.long v49_5)])) (fun t_ k_ => XS.i2l X9.here hx rfl (hb hby at_64) rfl k_) ?_
  refine own_Goes.via (T' := T9) (g' := (mkF m 66 #[.val (.long xl), .second, .val (.int xc), .val (.int xs), .val (.int v1), .val (.long (2147483639 : Int64)), .second, .val (.long v3), .second, .val (.long v49_5), .second, .val (.long v10), .second, .unset, .unset] [(.long (v49_5 * (v1.toInt64)))])) (fun t_ k_ => XS.lmul X9.here hx rfl (hb hby at_65) rfl k_) ?_
  refine own_Goes.via (T' := T9) (g' := (mkF m 68 #[.val (.long xl), .second, .val (.int xc), .val (.int xs), .val (.int v1), .val (.long (2147483639 : Int64)), .second, .val (.long v3), .second, .val (.long v49_5), .second, .val (.long v10), .second, .val (.long (v49_5 * (v1.toInt64))), .second] [])) (fun t_ k_ => XS.lstore X9.here hx rfl (hb hby at_66) rfl (l' := #[.val (.long xl), .second, .val (.int xc), .val (.int xs), .val (.int v1), .val (.long (2147483639 : Int64)), .second, .val (.long v3), .second, .val (.long v49_5), .second, .val (.long v10), .second, .val (.long (v49_5 * (v1.toInt64))), .second]) rfl k_) ?_
  obtain ⟨v11, hv11⟩ : ∃ z : Int64, z = (v49_5 * (v1.toInt64)) := ⟨_, rfl⟩
  rw [← hv11]
  refine own_Goes.via (T' := T9) (g' := (mkF m 70 #[.val (.long xl), .second, .val (.int xc), .val (.int xs), .val (.int v1), .val (.long (2147483639 : Int64)), .second, .val (.long v3), .second, .val (.long v49_5), .second, .val (.long v10), .second, .val (.long v11), .second] [(.long v10)])) (fun t_ k_ => XS.lload X9.here hx rfl (hb hby at_68) rfl k_) ?_
  refine own_Goes.via (T' := T9) (g' := (mkF m 71 #[.val (.long xl), .second, .val (.int xc), .val (.int xs), .val (.int v1), .val (.long (2147483639 : Int64)), .second, .val (.long v3), .second, .val (.long v49_5), .second, .val (.long v10), .second, .val (.long v11), .second] [(.long (0 : Int64)), (.long v10)])) (fun t_ k_ => XS.lconst X9.here hx rfl (hb hby at_70) k_) ?_
  refine own_Goes.via (T' := T9) (g' := (mkF m 72 #[.val (.long xl), .second, .val (.int xc), .val (.int xs), .val (.int v1), .val (.long (2147483639 : Int64)), .second, .val (.long v3), .second, .val (.long v49_5), .second, .val (.long v10), .second, .val (.long v11), .second] [(.int (lcmpW v10 (0 : Int64)))])) (fun t_ k_ => XS.lcmp X9.here hx rfl (hb hby at_71) rfl k_) ?_
  by_cases hc72_12 : v10 < (0 : Int64)
  · refine own_Goes.via (T' := T9) (g' := (mkF m 83 #[.val (.long xl), .second, .val (.int xc), .val (.int xs), .val (.int v1), .val (.long (2147483639 : Int64)), .second, .val (.long v3), .second, .val (.long v49_5), .second, .val (.long v10), .second, .val (.long v11), .second] [])) (fun t_ k_ => XS.ifYes X9.here hx rfl (pc0 := 72) (pc' := 83) rfl (hb hby at_72) rfl (own_ltT hc72_12).1 (by decide) (by decide) k_) ?_
    refine own_Goes.via (T' := T9) (g' := (mkF m 84 #[.val (.long xl), .second, .val (.int xc), .val (.int xs), .val (.int v1), .val (.long (2147483639 : Int64)), .second, .val (.long v3), .second, .val (.long v49_5), .second, .val (.long v10), .second, .val (.long v11), .second] [(.int (0 : Int32))])) (fun t_ k_ => XS.iconst X9.here hx rfl (hb hby at_83) k_) ?_
    exfalso
    exact own_pl0_2 hv1 hv3 hv49_5 hv10 hv11 hc72_12 nz22_2
  · refine own_Goes.via (T' := T9) (g' := (mkF m 75 #[.val (.long xl), .second, .val (.int xc), .val (.int xs), .val (.int v1), .val (.long (2147483639 : Int64)), .second, .val (.long v3), .second, .val (.long v49_5), .second, .val (.long v10), .second, .val (.long v11), .second] [])) (fun t_ k_ => XS.ifNo X9.here hx rfl (hb hby at_72) rfl (own_ltF hc72_12).1 k_) ?_
    refine own_Goes.via (T' := T9) (g' := (mkF m 77 #[.val (.long xl), .second, .val (.int xc), .val (.int xs), .val (.int v1), .val (.long (2147483639 : Int64)), .second, .val (.long v3), .second, .val (.long v49_5), .second, .val (.long v10), .second, .val (.long v11), .second] [(.long v10)])) (fun t_ k_ => XS.lload X9.here hx rfl (hb hby at_75) rfl k_) ?_
    refine own_Goes.via (T' := T9) (g' := (mkF m 79 #[.val (.long xl), .second, .val (.int xc), .val (.int xs), .val (.int v1), .val (.long (2147483639 : Int64)), .second, .val (.long v3), .second, .val (.long v49_5), .second, .val (.long v10), .second, .val (.long v11), .second] [(.long (2147483639 : Int64)), (.long v10)])) (fun t_ k_ => XS.lload X9.here hx rfl (hb hby at_77) rfl k_) ?_
    refine own_Goes.via (T' := T9) (g' := (mkF m 80 #[.val (.long xl), .second, .val (.int xc), .val (.int xs), .val (.int v1), .val (.long (2147483639 : Int64)), .second, .val (.long v3), .second, .val (.long v49_5), .second, .val (.long v10), .second, .val (.long v11), .second] [(.int (lcmpW v10 (2147483639 : Int64)))])) (fun t_ k_ => XS.lcmp X9.here hx rfl (hb hby at_79) rfl k_) ?_
    by_cases hc80_13 : (2147483639 : Int64) < v10
    · refine own_Goes.via (T' := T9) (g' := (mkF m 83 #[.val (.long xl), .second, .val (.int xc), .val (.int xs), .val (.int v1), .val (.long (2147483639 : Int64)), .second, .val (.long v3), .second, .val (.long v49_5), .second, .val (.long v10), .second, .val (.long v11), .second] [])) (fun t_ k_ => XS.ifNo X9.here hx rfl (hb hby at_80) rfl (own_gtT hc80_13).2 k_) ?_
      refine own_Goes.via (T' := T9) (g' := (mkF m 84 #[.val (.long xl), .second, .val (.int xc), .val (.int xs), .val (.int v1), .val (.long (2147483639 : Int64)), .second, .val (.long v3), .second, .val (.long v49_5), .second, .val (.long v10), .second, .val (.long v11), .second] [(.int (0 : Int32))])) (fun t_ k_ => XS.iconst X9.here hx rfl (hb hby at_83) k_) ?_
      exfalso
      exact own_pl0_3 hv1 hv3 hv49_5 hv10 hv11 hc72_12 hc80_13 nz22_2
    · refine own_Goes.via (T' := T9) (g' := (mkF m 85 #[.val (.long xl), .second, .val (.int xc), .val (.int xs), .val (.int v1), .val (.long (2147483639 : Int64)), .second, .val (.long v3), .second, .val (.long v49_5), .second, .val (.long v10), .second, .val (.long v11), .second] [])) (fun t_ k_ => XS.ifYes X9.here hx rfl (pc0 := 80) (pc' := 85) rfl (hb hby at_80) rfl (own_gtF hc80_13).2 (by decide) (by decide) k_) ?_
      refine own_Goes.via (T' := T9) (g' := (mkF m 88 #[.val (.long xl), .second, .val (.int xc), .val (.int xs), .val (.int v1), .val (.long (2147483639 : Int64)), .second, .val (.long v3), .second, .val (.long v49_5), .second, .val (.long v10), .second, .val (.long v11), .second] [(.long (64 : Int64))])) (X9.ldc2Long hx hown (mvT hZ (hw _ (List.mem_of_getElem? (i := 1) rfl))) (g := (mkF m 85 #[.val (.long xl), .second, .val (.int xc), .val (.int xs), .val (.int v1), .val (.long (2147483639 : Int64)), .second, .val (.long v3), .second, .val (.long v49_5), .second, .val (.long v10), .second, .val (.long v11), .second] [])) rfl (hb hby at_85)) ?_
      refine own_Goes.via (T' := T9) (g' := (mkF m 90 #[.val (.long xl), .second, .val (.int xc), .val (.int xs), .val (.int v1), .val (.long (2147483639 : Int64)), .second, .val (.long v3), .second, .val (.long v49_5), .second, .val (.long v10), .second, .val (.long v11), .second] [(.long v10), (.long (64 : Int64))])) (fun t_ k_ => XS.lload X9.here hx rfl (hb hby at_88) rfl k_) ?_
      refine own_Goes.via (T' := T9) (g' := (mkF m 91 #[.val (.long xl), .second, .val (.int xc), .val (.int xs), .val (.int v1), .val (.long (2147483639 : Int64)), .second, .val (.long v3), .second, .val (.long v49_5), .second, .val (.long v10), .second, .val (.long v11), .second] [(.long ((64 : Int64) * v10))])) (fun t_ k_ => XS.lmul X9.here hx rfl (hb hby at_90) rfl k_) ?_
      refine own_Goes.via (T' := T9) (g' := (mkF m 93 #[.val (.long xl), .second, .val (.int xc), .val (.int xs), .val (.int v1), .val (.long (2147483639 : Int64)), .second, .val (.long v3), .second, .val (.long v49_5), .second, .val (.long v10), .second, .val (.long v11), .second] [(.long v11), (.long ((64 : Int64) * v10))])) (fun t_ k_ => XS.lload X9.here hx rfl (hb hby at_91) rfl k_) ?_
      refine own_Goes.via (T' := T9) (g' := (mkF m 94 #[.val (.long xl), .second, .val (.int xc), .val (.int xs), .val (.int v1), .val (.long (2147483639 : Int64)), .second, .val (.long v3), .second, .val (.long v49_5), .second, .val (.long v10), .second, .val (.long v11), .second] [(.int (lcmpW ((64 : Int64) * v10) v11))])) (fun t_ k_ => XS.lcmp X9.here hx rfl (hb hby at_93) rfl k_) ?_
      suffices J116_17 : ∀ (v116_15 : Int32) (hv116_15 : v116_15 = (if ((64 : Int64) * v10) < v11 then (0 : Int32) else (if ((64 : Int64) * (v10 - (1 : Int64))) < v11 then (1 : Int32) else (0 : Int32)))), own_Goes p.tables e below P T9 (mkF m 116 #[.val (.long xl), .second, .val (.int xc), .val (.int xs), .val (.int v1), .val (.long (2147483639 : Int64)), .second, .val (.long v3), .second, .val (.long v49_5), .second, .val (.long v10), .second, .val (.long v11), .second] [(.int v116_15)]) by
        by_cases hc94_14 : ((64 : Int64) * v10) < v11
        · refine own_Goes.via (T' := T9) (g' := (mkF m 115 #[.val (.long xl), .second, .val (.int xc), .val (.int xs), .val (.int v1), .val (.long (2147483639 : Int64)), .second, .val (.long v3), .second, .val (.long v49_5), .second, .val (.long v10), .second, .val (.long v11), .second] [])) (fun t_ k_ => XS.ifYes X9.here hx rfl (pc0 := 94) (pc' := 115) rfl (hb hby at_94) rfl (own_ltT hc94_14).1 (by decide) (by decide) k_) ?_
          refine own_Goes.via (T' := T9) (g' := (mkF m 116 #[.val (.long xl), .second, .val (.int xc), .val (.int xs), .val (.int v1), .val (.long (2147483639 : Int64)), .second, .val (.long v3), .second, .val (.long v49_5), .second, .val (.long v10), .second, .val (.long v11), .second] [(.int (0 : Int32))])) (fun t_ k_ => XS.iconst X9.here hx rfl (hb hby at_115) k_) ?_
          exact J116_17 (0 : Int32) ((if_pos hc94_14)).symm
        · refine own_Goes.via (T' := T9) (g' := (mkF m 97 #[.val (.long xl), .second, .val (.int xc), .val (.int xs), .val (.int v1), .val (.long (2147483639 : Int64)), .second, .val (.long v3), .second, .val (.long v49_5), .second, .val (.long v10), .second, .val (.long v11), .second] [])) (fun t_ k_ => XS.ifNo X9.here hx rfl (hb hby at_94) rfl (own_ltF hc94_14).1 k_) ?_
          refine own_Goes.via (T' := T9) (g' := (mkF m 100 #[.val (.long xl), .second, .val (.int xc), .val (.int xs), .val (.int v1), .val (.long (2147483639 : Int64)), .second, .val (.long v3), .second, .val (.long v49_5), .second, .val (.long v10), .second, .val (.long v11), .second] [(.long (64 : Int64))])) (X9.ldc2Long hx hown (mvT hZ (hw _ (List.mem_of_getElem? (i := 1) rfl))) (g := (mkF m 97 #[.val (.long xl), .second, .val (.int xc), .val (.int xs), .val (.int v1), .val (.long (2147483639 : Int64)), .second, .val (.long v3), .second, .val (.long v49_5), .second, .val (.long v10), .second, .val (.long v11), .second] [])) rfl (hb hby at_97)) ?_
          refine own_Goes.via (T' := T9) (g' := (mkF m 102 #[.val (.long xl), .second, .val (.int xc), .val (.int xs), .val (.int v1), .val (.long (2147483639 : Int64)), .second, .val (.long v3), .second, .val (.long v49_5), .second, .val (.long v10), .second, .val (.long v11), .second] [(.long v10), (.long (64 : Int64))])) (fun t_ k_ => XS.lload X9.here hx rfl (hb hby at_100) rfl k_) ?_
          refine own_Goes.via (T' := T9) (g' := (mkF m 103 #[.val (.long xl), .second, .val (.int xc), .val (.int xs), .val (.int v1), .val (.long (2147483639 : Int64)), .second, .val (.long v3), .second, .val (.long v49_5), .second, .val (.long v10), .second, .val (.long v11), .second] [(.long (1 : Int64)), (.long v10), (.long (64 : Int64))])) (fun t_ k_ => XS.lconst X9.here hx rfl (hb hby at_102) k_) ?_
          refine own_Goes.via (T' := T9) (g' := (mkF m 104 #[.val (.long xl), .second, .val (.int xc), .val (.int xs), .val (.int v1), .val (.long (2147483639 : Int64)), .second, .val (.long v3), .second, .val (.long v49_5), .second, .val (.long v10), .second, .val (.long v11), .second] [(.long (v10 - (1 : Int64))), (.long (64 : Int64))])) (fun t_ k_ => XS.lsub X9.here hx rfl (hb hby at_103) rfl k_) ?_
          refine own_Goes.via (T' := T9) (g' := (mkF m 105 #[.val (.long xl), .second, .val (.int xc), .val (.int xs), .val (.int v1), .val (.long (2147483639 : Int64)), .second, .val (.long v3), .second, .val (.long v49_5), .second, .val (.long v10), .second, .val (.long v11), .second] [(.long ((64 : Int64) * (v10 - (1 : Int64))))])) (fun t_ k_ => XS.lmul X9.here hx rfl (hb hby at_104) rfl k_) ?_
          refine own_Goes.via (T' := T9) (g' := (mkF m 107 #[.val (.long xl), .second, .val (.int xc), .val (.int xs), .val (.int v1), .val (.long (2147483639 : Int64)), .second, .val (.long v3), .second, .val (.long v49_5), .second, .val (.long v10), .second, .val (.long v11), .second] [(.long v11), (.long ((64 : Int64) * (v10 - (1 : Int64))))])) (fun t_ k_ => XS.lload X9.here hx rfl (hb hby at_105) rfl k_) ?_
          refine own_Goes.via (T' := T9) (g' := (mkF m 108 #[.val (.long xl), .second, .val (.int xc), .val (.int xs), .val (.int v1), .val (.long (2147483639 : Int64)), .second, .val (.long v3), .second, .val (.long v49_5), .second, .val (.long v10), .second, .val (.long v11), .second] [(.int (lcmpW ((64 : Int64) * (v10 - (1 : Int64))) v11))])) (fun t_ k_ => XS.lcmp X9.here hx rfl (hb hby at_107) rfl k_) ?_
          by_cases hc108_18 : ((64 : Int64) * (v10 - (1 : Int64))) < v11
          · refine own_Goes.via (T' := T9) (g' := (mkF m 111 #[.val (.long xl), .second, .val (.int xc), .val (.int xs), .val (.int v1), .val (.long (2147483639 : Int64)), .second, .val (.long v3), .second, .val (.long v49_5), .second, .val (.long v10), .second, .val (.long v11), .second] [])) (fun t_ k_ => XS.ifNo X9.here hx rfl (hb hby at_108) rfl (own_ltT hc108_18).2 k_) ?_
            refine own_Goes.via (T' := T9) (g' := (mkF m 112 #[.val (.long xl), .second, .val (.int xc), .val (.int xs), .val (.int v1), .val (.long (2147483639 : Int64)), .second, .val (.long v3), .second, .val (.long v49_5), .second, .val (.long v10), .second, .val (.long v11), .second] [(.int (1 : Int32))])) (fun t_ k_ => XS.iconst X9.here hx rfl (hb hby at_111) k_) ?_
            refine own_Goes.via (T' := T9) (g' := (mkF m 116 #[.val (.long xl), .second, .val (.int xc), .val (.int xs), .val (.int v1), .val (.long (2147483639 : Int64)), .second, .val (.long v3), .second, .val (.long v49_5), .second, .val (.long v10), .second, .val (.long v11), .second] [(.int (1 : Int32))])) (fun t_ k_ => XS.goto X9.here hx rfl (pc0 := 112) (pc' := 116) rfl (hb hby at_112) (by decide) (by decide) k_) ?_
            exact J116_17 (1 : Int32) (((if_neg hc94_14).trans (if_pos hc108_18))).symm
          · refine own_Goes.via (T' := T9) (g' := (mkF m 115 #[.val (.long xl), .second, .val (.int xc), .val (.int xs), .val (.int v1), .val (.long (2147483639 : Int64)), .second, .val (.long v3), .second, .val (.long v49_5), .second, .val (.long v10), .second, .val (.long v11), .second] [])) (fun t_ k_ => XS.ifYes X9.here hx rfl (pc0 := 108) (pc' := 115) rfl (hb hby at_108) rfl (own_ltF hc108_18).2 (by decide) (by decide) k_) ?_
            refine own_Goes.via (T' := T9) (g' := (mkF m 116 #[.val (.long xl), .second, .val (.int xc), .val (.int xs), .val (.int v1), .val (.long (2147483639 : Int64)), .second, .val (.long v3), .second, .val (.long v49_5), .second, .val (.long v10), .second, .val (.long v11), .second] [(.int (0 : Int32))])) (fun t_ k_ => XS.iconst X9.here hx rfl (hb hby at_115) k_) ?_
            exact J116_17 (0 : Int32) (((if_neg hc94_14).trans (if_neg hc108_18))).symm
      intro v116_15 hv116_15
      have hfin : v116_15 = 1 := own_pl0_4 hv1 hv3 hv49_5 hv10 hv11 hv116_15 hc72_12 hc80_13 nz22_2
      rw [hfin]
      obtain ⟨fs, hr, hrun, hended, hW, hsame⟩ := X9.leave (v := some (.int 1)) (fun h => by rw [Bd.returns] at h; cases h)
      refine own_Goes.fin (retN X9 hx (t := .boolean) Bd.returns (by simp) (hb hby at_116) hr) hrun hended ?_
      subst hPd
      refine ⟨_, _, rfl, ?_, ⟨_, rfl⟩, hW, hsame.mono (by decide) (by decide)⟩
      show Q0 Z xl xc xs h0 n0 _ T9.heap _
      rw [hh9]
      exact ⟨rfl, N9⟩
set_option maxRecDepth 65536 in
set_option maxHeartbeats 40000000 in
theorem comes_1 {Post : Tables → Env → Array Value → State → Outcome → State → Prop} (hpost : ∀ tb e args s v u, (limb_1_1.after args s (.returned v) u = true ∧ limb_1_2.after args s (.returned v) u = true ∧ True) → FrameEnd s (.returned v) u (Jvm.fieldLocs frame_1_writes args s ++ Jvm.arrayLocs frame_1_arrays args s ++ Jvm.staticLocs frame_1_statics s) 0 0 → Post tb e args s (.returned v) u) :
    ArmFor flags0 classFile x code maxLocals ret World_1 tables_1 room_1 Calls_1 rest_1 Pre_1 Post := by
  intro l hfl _ _ p e ha hc hk s m args below hf hA hF happ hP
  obtain ⟨hcalls, hrest, hpre⟩ := hP
  obtain ⟨-, -, -, hnamed, -, -, -, hat⟩ := (Spec.applies_iff hf).mp happ
  obtain ⟨hg, hn⟩ := and_e (Cond.before_iff.mp (show (Jvm.Cond.and given_1 narrow_1).before args s = true from hpre))
  obtain ⟨g1, g2⟩ := and_e hg
  obtain ⟨g3, g4⟩ := and_e g2
  obtain ⟨g5, g6⟩ := and_e g4
  obtain ⟨w0, w1, w2, rfl⟩ : ∃ w0 w1 w2 : Value, args = #[w0, w1, w2] := by
    have hs : args.size = 3 := by simpa [Cond.value, given_1] using g1
    obtain ⟨L⟩ := args
    match L, hs with
    | [w0, w1, w2], _ => exact ⟨w0, w1, w2, rfl⟩
  have hw := fun d (hd : d ∈ tables_1) => atoms_spec (ws := Jvm.Cond.code x code maxLocals ret :: tables_1) hat d (List.mem_cons_of_mem _ hd)
  have hfit : Fit s := fun {y c} hc i hi => by
    obtain ⟨ha, rfl⟩ := Array.getElem?_eq_some_iff.mp hc
    have q := List.all_eq_true.mp ((Array.all_eq_true_iff_forall_mem.mp hF) _ (Array.getElem_mem ha)) i (List.mem_range.mpr hi)
    simpa [Array.getElem?_eq_getElem hi] using q
  obtain ⟨i0, ei0⟩ := isL_v g3
  obtain rfl : w0 = (.long i0) := Option.some.inj ei0
  obtain ⟨i1, ei1⟩ := is_v g5
  obtain rfl : w1 = (.int i1) := Option.some.inj ei1
  obtain ⟨i2, ei2⟩ := is_v g6
  obtain rfl : w2 = (.int i2) := Option.some.inj ei2
  obtain ⟨n, o, h1, h2, h3, _, L, rfl, ⟨rfl, N⟩, hq⟩ := rm0 l s _ hw tables_1 i0 i1 i2  s.heap s.heap.size (Nat.le_refl _)  p e ha hc hk s m _ below hf ((Spec.applies_iff_loose hf).mp happ).1 ⟨rfl, State.Warmed39.refl s, rfl⟩ trivial
  refine ⟨n, _, h1, h2, h3, hpost _ _ _ _ _ _ ⟨Cond.after_iff.mpr rfl, Cond.after_iff.mpr (eq_i res_at (Term.int_eval (1)) rfl), trivial⟩ ⟨hq.1, hq.2.1, (hq.2.2.sift fun y hy => Or.inr (N y hy)).mono (by decide) (by decide)⟩⟩
theorem main_1_1 : Claimed_1_1 := comes_1 fun _ _ _ _ _ _ h hF => ⟨h.1, hF⟩
theorem main_1_2 : Claimed_1_2 := comes_1 fun _ _ _ _ _ _ h hF => ⟨h.2.1, hF⟩
end Jvm.Pilot.@@N@@
namespace Jvm.Pilot.@@N@@
open Jvm Jvm.ClassFile Sem Op Lib Jvm.Free Jvm.Stand Jvm.Pilot.@@N@@.Jvm.D
/-! MADE BY PROGRAM (witnessworld.py) out of the Statement's table words and the real class files: 9 classes; the members and pool entries that the words name. The judged class is class 1, her method 1. -/
namespace start1
open Jvm.ClassFile
def u (s : String) : CpInfo := .utf8 (stringToUtf16 s)
/-- a pool by its gaps: so many unusable entries, then the entry; so many at the end -/
def gap : Nat → List CpInfo → List CpInfo
  | 0, r => r
  | n + 1, r => .unusable :: gap n r
def poolList (es : List (Nat × CpInfo)) (last : Nat) : List CpInfo := es.foldr (fun e r => gap e.1 (e.2 :: r)) (gap last [])
def pool (es : List (Nat × CpInfo)) (last : Nat) : Array CpInfo := ⟨poolList es last⟩
def fileOf (pool : Array CpInfo) (this : Nat) (attrs : Array Attribute := #[]) (ms : Array MethodInfo := #[]) (fl : Nat := 33) (sup : Nat := 0) (ifs : Array Nat := #[]) (fds : Array FieldInfo := #[]) : ClassFile where
  minorVersion := 0
  majorVersion := 65
  constantPool := pool
  accessFlags := fl
  thisClass := this
  superClass := sup
  interfaces := ifs
  fields := fds
  methods := ms
  attributes := attrs
def plain (name : String) (sup : Option ClassId) : Class where
  name := name
  kind := .ordinary
  loader := none
  accessFlags := 33
  super := sup
  interfaces := #[]
  cf := none
  fields := #[]
  methods := #[]
  instanceTypes := #[]
  staticTypes := #[]
  resolved := #[]
  callSites := []
  init := .initialized
  statics := none
  mirror := none

def pool0 : Array CpInfo := pool [(5, u "<init>"), (0, u "()V"), (1, .class_ 10), (1, u "java/lang/Object")] 113

def k0m0 : Method := { name := "<init>", desc := "()V", sig := { parameters := [], returnType := none }, accessFlags := 1, code := none }
/-- java/lang/Object -/
def k0 : Class := { plain "java/lang/Object" none with
  accessFlags := 33
  interfaces := #[]
  cf := some (fileOf pool0 8 #[] #[{ accessFlags := 1, nameIndex := 5, descriptorIndex := 6, attributes := #[] }] 33 0 #[] #[])
  fields := #[]
  methods := #[k0m0]
  instanceTypes := #[]
  staticTypes := #[]
  resolved := Array.replicate 124 none
  statics := none }

def pool1 : Array CpInfo := pool [(2, .class_ 4), (1, u "java/lang/Object"), (0, u "<init>"), (0, u "()V"), (0, .long 2147483639), (1, .long 64), (1, .long 1023), (3, .long 9223372036854775807), (1, .methodref 18 19), (0, .class_ 20), (0, .nameAndType 21 22), (0, u "com/example/danaid/danaid/storage/PackedArray"), (0, u "wordsFor"), (0, u "(JI)J"), (0, .class_ 24), (0, u "com/example/danaid/danaid/storage/PackedArrayWordsForPinLaw"), (2, u "law"), (0, u "(JII)Z")] 3

def k1m0 : Method := { name := "<init>", desc := "()V", sig := { parameters := [], returnType := none }, accessFlags := 1, code := none }
def k1c1 : Code := { maxStack := 6, maxLocals := 15, code := code, exceptionTable := #[], attributes := #[] }
def k1m1 : Method := { name := "law", desc := "(JII)Z", sig := { parameters := [.long, .int, .int], returnType := some .boolean }, accessFlags := 9, code := some k1c1 }
/-- com/example/danaid/danaid/storage/PackedArrayWordsForPinLaw -/
def k1 : Class := { plain "com/example/danaid/danaid/storage/PackedArrayWordsForPinLaw" (some 0) with
  accessFlags := 49
  interfaces := #[]
  cf := some (fileOf pool1 23 #[] #[{ accessFlags := 1, nameIndex := 5, descriptorIndex := 6, attributes := #[] }, { accessFlags := 9, nameIndex := 27, descriptorIndex := 28, attributes := #[] }] 49 2 #[] #[])
  fields := #[]
  methods := #[k1m0, k1m1]
  instanceTypes := #[]
  staticTypes := #[]
  resolved := Array.replicate 32 none
  statics := none }

def pool2 : Array CpInfo := pool [(4, .class_ 6), (1, u "java/lang/Object"), (3, .class_ 12), (1, u "com/example/danaid/danaid/storage/PackedArray"), (13, u "length"), (0, u "J"), (2, u "cellBits"), (0, u "I"), (4, .long 64), (3, u "wordsFor"), (0, u "(JI)J"), (22, u "WORDS"), (0, u "Ljava/lang/invoke/VarHandle;"), (0, u "MAX_WORD_COUNT")] 40

def k2c0 : Code := { maxStack := 4, maxLocals := 3, code := prog_21_method_3_code, exceptionTable := #[], attributes := #[] }
def k2m0 : Method := { name := "wordsFor", desc := "(JI)J", sig := { parameters := [.long, .int], returnType := some .long }, accessFlags := 9, code := some k2c0 }
/-- com/example/danaid/danaid/storage/PackedArray -/
def k2 : Class := { plain "com/example/danaid/danaid/storage/PackedArray" (some 0) with
  accessFlags := 1057
  interfaces := #[]
  cf := some (fileOf pool2 10 #[] #[{ accessFlags := 9, nameIndex := 40, descriptorIndex := 41, attributes := #[] }] 1057 4 #[] #[{ accessFlags := 25, nameIndex := 66, descriptorIndex := 31, attributes := #[] }, { accessFlags := 24, nameIndex := 64, descriptorIndex := 65, attributes := #[] }, { accessFlags := 18, nameIndex := 26, descriptorIndex := 27, attributes := #[] }, { accessFlags := 18, nameIndex := 30, descriptorIndex := 31, attributes := #[] }])
  fields := #[{ name := "MAX_WORD_COUNT", type := .int, accessFlags := 25, slot := 0, constantValue := 0 }, { name := "WORDS", type := (.object "java/lang/invoke/VarHandle"), accessFlags := 24, slot := 1, constantValue := 0 }, { name := "length", type := .long, accessFlags := 18, slot := 0, constantValue := 0 }, { name := "cellBits", type := .int, accessFlags := 18, slot := 1, constantValue := 0 }]
  methods := #[k2m0]
  instanceTypes := #[.long, .int]
  staticTypes := #[.int, (.object "java/lang/invoke/VarHandle")]
  resolved := Array.replicate 107 none
  statics := none }

def pool3 : Array CpInfo := pool [(1, u "java/lang/Cloneable"), (0, .class_ 1), (0, u "java/lang/Object"), (0, .class_ 3)] 3

/-- java/lang/Cloneable -/
def k3 : Class := { plain "java/lang/Cloneable" (some 0) with
  accessFlags := 1537
  interfaces := #[]
  cf := some (fileOf pool3 2 #[] #[] 1537 4 #[] #[])
  fields := #[]
  methods := #[]
  instanceTypes := #[]
  staticTypes := #[]
  resolved := Array.replicate 8 none
  statics := none }

def pool4 : Array CpInfo := pool [(1, u "java/io/Serializable"), (0, .class_ 1), (0, u "java/lang/Object"), (0, .class_ 3)] 3

/-- java/io/Serializable -/
def k4 : Class := { plain "java/io/Serializable" (some 0) with
  accessFlags := 1537
  interfaces := #[]
  cf := some (fileOf pool4 2 #[] #[] 1537 4 #[] #[])
  fields := #[]
  methods := #[]
  instanceTypes := #[]
  staticTypes := #[]
  resolved := Array.replicate 8 none
  statics := none }

/-- the primitive byte -/
def k5 : Class := { plain "byte" none with kind := .primitive 'B', accessFlags := 0x411 }
/-- [B -/
def k6 : Class := { plain "[B" (some 0) with kind := .array 5 .byte, interfaces := #[3, 4], accessFlags := 1041 }

/-- the primitive int -/
def k7 : Class := { plain "int" none with kind := .primitive 'I', accessFlags := 0x411 }
/-- [I -/
def k8 : Class := { plain "[I" (some 0) with kind := .array 7 .int, interfaces := #[3, 4], accessFlags := 1041 }

def heap : Heap := #[]
def classes : Array Class := #[k0, k1, k2, k3, k4, k5, k6, k7, k8]
def interned : List (Array UInt16 × Addr) := []
def slotsUsed : Nat := 0
def theMethod : MethodId := ⟨1, 1⟩
def args0 : Array Value := #[.long 5, .int 7, .int 7]
def aboutOver (below : List Frame) : State where
  vm := { classes := classes, interned := interned.toArray }
  heap := heap
  slotsUsed := slotsUsed
  threads := #[{ frames := .invoking theMethod args0 :: below }]
def below0 : List Frame := [.native { method := ⟨0, 0⟩, args := #[] }]
def about1 : State := aboutOver below0
def p0 : Program := .bare "" "" ""
def e0 : Env := launch0.env 0 0 0
theorem w_frames : about1.frames = Frame.invoking theMethod args0 :: below0 := rfl
set_option maxRecDepth 65536 in
theorem w_args : argsFit about1.vm theMethod args0 = true := by decide +kernel
set_option maxRecDepth 65536 in
theorem w_heap : heapFits about1 = true := by decide +kernel
set_option maxRecDepth 65536 in
theorem w_runnable : about1.curStatus? = some .runnable := by decide +kernel
set_option maxRecDepth 65536 in
theorem w_alone : about1.alone = true := by decide +kernel
set_option maxRecDepth 65536 in
theorem w_named : about1.methodNamed? x = some theMethod := by decide +kernel
set_option maxRecDepth 65536 in
theorem w_hears : about1.hears theMethod below0 = true := by decide +kernel
set_option maxRecDepth 65536 in
theorem w_ripe : about1.ripe theMethod args0 below0 = true := by decide +kernel
theorem w_running : about1.status = .running := rfl
set_option maxRecDepth 65536 in
theorem w_room : about1.hasRoom e0.platform room_1 = true :=
  launch0.hasRoom_least _ room_1 (by decide +kernel) (by decide +kernel) (by decide +kernel) (by decide +kernel) (by decide +kernel) (by decide +kernel)
theorem allAtoms_all (ts : List Jvm.Cond) (a : Array Jvm.Value) (st : Jvm.State) : (allAtoms ts).before a st = ts.all (fun c => c.before a st) := by
  induction ts with
  | nil => rfl
  | cons c t ih =>
    show (Jvm.Cond.and c (allAtoms t)).before a st = _
    rw [Jvm.Cond.before_and, ih, List.all_cons]
def words1 : List Jvm.Cond := Jvm.Cond.code x code maxLocals ret :: tables_1
/-- a 'code' word, met by the world's own term for the bytes: nothing is compared byte by byte -/
theorem code_word {y : MethodName} {bytes : ByteArray} {mx : Nat} {rt : Option FieldType} {a : Array Value} {s : State} {m : MethodId} {meth : Method} {c : Code} (h1 : s.methodNamed? y = some m) (h2 : s.vm.method? m = some meth) (h3 : meth.code = some c) (h4 : c.code = bytes)
    (h5 : (c.maxLocals == mx && c.exceptionTable.isEmpty && decide (c.maxStack ≤ mostOperands) && decide (meth.sig.returnType = rt) && !meth.locks && decide (parseMethodDescriptor y.desc = some meth.sig)) = true) : (Jvm.Cond.code y bytes mx rt).before a s = true := by
  simp only [Bool.and_eq_true, beq_iff_eq, Bool.not_eq_true', decide_eq_true_eq] at h5
  obtain ⟨⟨⟨⟨⟨g1, g2⟩, g3⟩, g4⟩, g5⟩, g6⟩ := h5
  simp [Cond.before, Cond.holds, Cond.value, h1, h2, h3, h4, g1, g2, g3, g4, g5, g6]
def isCode : Jvm.Cond → Bool
  | .code _ _ _ _ => true
  | _ => false
theorem all_split {L : List Jvm.Cond} {P : Jvm.Cond → Bool} (h1 : L.all (fun c => isCode c || P c) = true) (h2 : ∀ c ∈ L.filter isCode, P c = true) : L.all P = true := by
  refine List.all_eq_true.mpr fun c hc => ?_
  have h := List.all_eq_true.mp h1 c hc
  rcases Bool.eq_false_or_eq_true (isCode c) with hi | hi
  · exact h2 c (List.mem_filter.mpr ⟨hc, hi⟩)
  · simpa [hi] using h
set_option maxRecDepth 65536 in
theorem w_c0 : (Jvm.Cond.code x code maxLocals ret).before args0 about1 = true := code_word (m := ⟨1, 1⟩) (meth := k1m1) (c := k1c1) (by decide +kernel) rfl rfl rfl (by decide +kernel)
set_option maxRecDepth 65536 in
theorem w_c1 : (Jvm.Cond.code ({ cls := "com/example/danaid/danaid/storage/PackedArray", name := "wordsFor", desc := "(JI)J" } : Jvm.MethodName) prog_21_method_3_code (3 : Nat) (Option.some Jvm.ClassFile.FieldType.long)).before args0 about1 = true := code_word (m := ⟨2, 0⟩) (meth := k2m0) (c := k2c0) (by decide +kernel) rfl rfl rfl (by decide +kernel)
def codes1 : List Jvm.Cond := [Jvm.Cond.code x code maxLocals ret, Jvm.Cond.code ({ cls := "com/example/danaid/danaid/storage/PackedArray", name := "wordsFor", desc := "(JI)J" } : Jvm.MethodName) prog_21_method_3_code (3 : Nat) (Option.some Jvm.ClassFile.FieldType.long)]
set_option maxRecDepth 65536 in
theorem codes_eq : words1.filter isCode = codes1 := rfl
theorem w_codes : ∀ c ∈ words1.filter isCode, c.before args0 about1 = true := by
  rw [codes_eq]
  intro c hc
  simp only [codes1, List.mem_cons, List.not_mem_nil, or_false] at hc
  rcases hc with rfl | rfl
  · exact w_c0
  · exact w_c1
set_option maxRecDepth 65536 in
theorem w_t1 : words1.all (fun c => isCode c || c.before args0 about1) = true := by decide +kernel
theorem w_tables : (allAtoms (Jvm.Cond.code x code maxLocals ret :: tables_1)).before args0 about1 = true := by
  rw [allAtoms_all]
  show words1.all (fun c => c.before args0 about1) = true
  refine all_split ?_ w_codes
  rw [w_t1]
set_option maxRecDepth 65536 in
theorem w_case : (Jvm.Cond.and given_1 narrow_1).before args0 about1 = true := by decide +kernel
theorem w_applies : (headSpec (Jvm.Cond.code x code maxLocals ret :: tables_1) room_1).applies x e0.platform about1 = true :=
  (Spec.applies_iff w_frames).mpr ⟨w_running, w_runnable, w_alone, w_named, w_hears, w_ripe, w_room, w_tables⟩
theorem atStart : AtStart classFile x code maxLocals ret World_1 tables_1 room_1 Calls_1 rest_1 Pre_1 launch0 p0 e0 about1 theMethod args0 below0 :=
  ⟨lists_1, trivial, launch0.admits_env _ _ _, launch0.least_env, fairChoices_fair.cas, fairChoices_fair.clock, w_frames, w_args, w_heap, w_applies, trivial, trivial, w_case⟩
end start1
theorem witness_1 : WitnessClaimed_1 := ⟨start1.p0, start1.e0, start1.about1, start1.theMethod, start1.args0, start1.below0, start1.atStart⟩
end Jvm.Pilot.@@N@@
