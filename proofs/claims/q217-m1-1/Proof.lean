import JvmDerived
import JvmDerived.Pilot.@@N@@Statement
import JvmDerived.Pilot.@@N@@Code
set_option linter.unusedVariables false
set_option linter.unusedSimpArgs false
@@BLOCK:NumsL.lean.txt@@
namespace Jvm.Pilot.@@N@@
open Jvm Jvm.ClassFile Sem Op Lib Jvm.Free Jvm.Stand Jvm.LawKit Jvm.RoadKit Bundle Jvm.Pilot.@@N@@.Jvm.D
/-- from the state T with the frame g the run comes to an end that P speaks of -/
def own_Goes (tb : Tables) (e : Env) (below : List Frame) (P : Outcome → State → Prop) (T : State) (g : JFrame) : Prop :=
  ∃ s₂ o, Steps tb e below (T.setTop g) s₂ ∧ s₂.status = .running ∧ Ended s₂ below o ∧ P o s₂
theorem own_Goes.via {tb : Tables} {e : Env} {below : List Frame} {P : Outcome → State → Prop} {T T' : State} {g g' : JFrame} (h : ∀ t, Steps tb e below (T'.setTop g') t → Steps tb e below (T.setTop g) t) (k : own_Goes tb e below P T' g') : own_Goes tb e below P T g := by
  obtain ⟨s₂, o, a, b⟩ := k
  exact ⟨s₂, o, h _ a, b⟩
theorem own_Goes.fin {tb : Tables} {e : Env} {below : List Frame} {P : Outcome → State → Prop} {T s₂ : State} {g : JFrame} {o : Outcome} (h1 : Steps tb e below (T.setTop g) s₂) (h2 : s₂.status = .running) (h3 : Ended s₂ below o) (h4 : P o s₂) : own_Goes tb e below P T g := ⟨s₂, o, h1, h2, h3, h4⟩
theorem own_ltT {x y : Int64} (h : x < y) : ifCond.holds .lt (lcmpW x y) = true ∧ ifCond.holds .ge (lcmpW x y) = false := by
  have q : lcmpW x y < 0 := by rw [lcW]; exact (lc_lt x y).mpr h
  exact ⟨(if0 _ _).trans (tlt q).1, (if0 _ _).trans (tlt q).2.1⟩
theorem own_ltF {x y : Int64} (h : ¬ x < y) : ifCond.holds .lt (lcmpW x y) = false ∧ ifCond.holds .ge (lcmpW x y) = true := by
  have q : ¬ lcmpW x y < 0 := by rw [lcW]; exact fun z => h ((lc_lt x y).mp z)
  exact ⟨(if0 _ _).trans (flt q).1, (if0 _ _).trans (flt q).2.1⟩
theorem own_gtT {x y : Int64} (h : y < x) : ifCond.holds .gt (lcmpW x y) = true ∧ ifCond.holds .le (lcmpW x y) = false := by
  have q : 0 < lcmpW x y := by rw [lcW]; exact (lc_gt x y).mpr h
  exact ⟨(if0 _ _).trans (tlt q).2.2.1, (if0 _ _).trans (tlt q).2.2.2⟩
theorem own_gtF {x y : Int64} (h : ¬ y < x) : ifCond.holds .gt (lcmpW x y) = false ∧ ifCond.holds .le (lcmpW x y) = true := by
  have q : ¬ 0 < lcmpW x y := by rw [lcW]; exact fun z => h ((lc_gt x y).mp z)
  exact ⟨(if0 _ _).trans (flt q).2.2.1, (if0 _ _).trans (flt q).2.2.2⟩
theorem own_eqT {x y : Int64} (h : x = y) : ifCond.holds .eq (lcmpW x y) = true ∧ ifCond.holds .ne (lcmpW x y) = false := by
  have q : lcmpW x y = 0 := by rw [lcW]; exact (lc_eq x y).mpr h
  exact ⟨(if0 _ _).trans (teq q).1, (if0 _ _).trans (teq q).2⟩
theorem own_eqF {x y : Int64} (h : ¬ x = y) : ifCond.holds .eq (lcmpW x y) = false ∧ ifCond.holds .ne (lcmpW x y) = true := by
  have q : ¬ lcmpW x y = 0 := by rw [lcW]; exact fun z => h ((lc_eq x y).mp z)
  exact ⟨(if0 _ _).trans (feq q).1, (if0 _ _).trans (feq q).2⟩
theorem own_lrem (x y : Int64) : x - (x / y) * y = x % y := Int64.toInt_inj.mp (by rw [Jvm.Kit.i64_rem, Int64.toInt_mod])
theorem own_ushr (x : Int64) (n : UInt64) {k : Nat} (hk : (n.toBitVec % 64).toNat = k) : ((x.toUInt64 >>> n).toInt64).toBitVec = x.toBitVec >>> k := by
  subst hk
  show (x.toUInt64 >>> n).toBitVec = _
  rw [UInt64.toBitVec_shiftRight]
  rfl
theorem own_xor5 (x a b : BitVec 64) : ((x ^^^ a) ^^^ (a ^^^ b)) ^^^ b = x := by
  rw [BitVec.xor_assoc (x ^^^ a), BitVec.xor_assoc a, BitVec.xor_self, BitVec.xor_zero, BitVec.xor_assoc, BitVec.xor_self, BitVec.xor_zero]
theorem own_bx2 (x : BitVec 64) (k : Nat) (h : 64 ≤ k + k) : (x ^^^ x >>> k) ^^^ (x ^^^ x >>> k) >>> k = x := by
  rw [BitVec.ushiftRight_xor_distrib, ← BitVec.shiftRight_add, BitVec.ushiftRight_eq_zero h, BitVec.xor_zero, BitVec.xor_assoc, BitVec.xor_self, BitVec.xor_zero]
theorem own_bx3 (x : BitVec 64) (k l : Nat) (hl : l = k + k) (h : 64 ≤ k + l) : ((x ^^^ x >>> k) ^^^ (x ^^^ x >>> k) >>> k) ^^^ (x ^^^ x >>> k) >>> l = x := by
  rw [BitVec.ushiftRight_xor_distrib, BitVec.ushiftRight_xor_distrib, ← BitVec.shiftRight_add, ← BitVec.shiftRight_add, BitVec.ushiftRight_eq_zero h, BitVec.xor_zero, ← hl, own_xor5]
def own_X30 (x : Int64) : Int64 := (x ^^^ ((x.toUInt64 >>> ((30 : Int32) &&& 0x3f).toInt64.toUInt64).toInt64))
theorem own_Xb30 (x : Int64) : (own_X30 x).toBitVec = x.toBitVec ^^^ x.toBitVec >>> 30 := by
  show x.toBitVec ^^^ _ = _
  rw [own_ushr x _ (k := 30) (by decide)]
def own_U30 (x : Int64) : Int64 := ((x ^^^ ((x.toUInt64 >>> ((30 : Int32) &&& 0x3f).toInt64.toUInt64).toInt64)) ^^^ ((x.toUInt64 >>> ((60 : Int32) &&& 0x3f).toInt64.toUInt64).toInt64))
theorem own_U30_inv (x : Int64) : own_U30 (own_X30 x) = x := by
  apply Int64.toBitVec_inj.mp
  show ((own_X30 x).toBitVec ^^^ _) ^^^ _ = _
  rw [own_ushr _ _ (k := 30) (by decide), own_ushr _ _ (k := 60) (by decide), own_Xb30]
  exact own_bx3 _ _ _ rfl (by decide)
def own_X27 (x : Int64) : Int64 := (x ^^^ ((x.toUInt64 >>> ((27 : Int32) &&& 0x3f).toInt64.toUInt64).toInt64))
theorem own_Xb27 (x : Int64) : (own_X27 x).toBitVec = x.toBitVec ^^^ x.toBitVec >>> 27 := by
  show x.toBitVec ^^^ _ = _
  rw [own_ushr x _ (k := 27) (by decide)]
def own_U27 (x : Int64) : Int64 := ((x ^^^ ((x.toUInt64 >>> ((27 : Int32) &&& 0x3f).toInt64.toUInt64).toInt64)) ^^^ ((x.toUInt64 >>> ((54 : Int32) &&& 0x3f).toInt64.toUInt64).toInt64))
theorem own_U27_inv (x : Int64) : own_U27 (own_X27 x) = x := by
  apply Int64.toBitVec_inj.mp
  show ((own_X27 x).toBitVec ^^^ _) ^^^ _ = _
  rw [own_ushr _ _ (k := 27) (by decide), own_ushr _ _ (k := 54) (by decide), own_Xb27]
  exact own_bx3 _ _ _ rfl (by decide)
def own_X31 (x : Int64) : Int64 := (x ^^^ ((x.toUInt64 >>> ((31 : Int32) &&& 0x3f).toInt64.toUInt64).toInt64))
theorem own_Xb31 (x : Int64) : (own_X31 x).toBitVec = x.toBitVec ^^^ x.toBitVec >>> 31 := by
  show x.toBitVec ^^^ _ = _
  rw [own_ushr x _ (k := 31) (by decide)]
def own_U31 (x : Int64) : Int64 := ((x ^^^ ((x.toUInt64 >>> ((31 : Int32) &&& 0x3f).toInt64.toUInt64).toInt64)) ^^^ ((x.toUInt64 >>> ((62 : Int32) &&& 0x3f).toInt64.toUInt64).toInt64))
theorem own_U31_inv (x : Int64) : own_U31 (own_X31 x) = x := by
  apply Int64.toBitVec_inj.mp
  show ((own_X31 x).toBitVec ^^^ _) ^^^ _ = _
  rw [own_ushr _ _ (k := 31) (by decide), own_ushr _ _ (k := 62) (by decide), own_Xb31]
  exact own_bx3 _ _ _ rfl (by decide)
theorem d1_0 : decode prog_46_method_1_code 0 = .ok (.aload_n 0, 1) := by decide +kernel
theorem d1_1 : decode prog_46_method_1_code 1 = .ok (.invokespecial 1, 3) := by decide +kernel
theorem d1_4 : decode prog_46_method_1_code 4 = .ok (.aload_n 0, 1) := by decide +kernel
theorem d1_5 : decode prog_46_method_1_code 5 = .ok (.lload_n 1, 1) := by decide +kernel
theorem d1_6 : decode prog_46_method_1_code 6 = .ok (.putfield 7, 3) := by decide +kernel
theorem d1_9 : decode prog_46_method_1_code 9 = .ok (.return_, 1) := by decide +kernel
theorem pn_1 : plainName "com/example/wattfold/wattfold/solver/RandomStream" = true := by first | (simp [plainName, overriddenIn]; done) | decide +kernel
theorem ef_1 (m : MethodId) (ao : Addr) (xn : Int64) : entryFrame m #[(.ref ao), (.long xn)] 3 = mkF m 0 #[.val (.ref ao), .val (.long xn), .second] [] := by first | (simp [entryFrame, mkF, argsToLocals, Value.category]; done) | rfl
def Q1 (Z : State) (ao : Addr) (xn : Int64) (h0 : Heap) (n0 : Nat) (v : Option Value) (h : Heap) (L : List Loc) : Prop := v = none ∧ Fr n0 L ∧ Keep h0 h [ao] ∧ Exa Z h ao "com/example/wattfold/wattfold/solver/RandomStream" ∧ Fld Z h ao "com/example/wattfold/wattfold/solver/RandomStream" "state" "J" (.long xn)
set_option maxRecDepth 65536 in
set_option maxHeartbeats 40000000 in
theorem rm1 (l : Launch) (Z : State) (a0 : Array Value) (hw : ∀ d ∈ tables_1, d.before a0 Z = true) (ws : List Jvm.Cond) (ao : Addr) (xn : Int64) (h0 : Heap) (n0 : Nat) (Z0 : n0 ≤ h0.size) (PF0 : Exa Z h0 ao "com/example/wattfold/wattfold/solver/RandomStream") (PF1 : Fld Z h0 ao "com/example/wattfold/wattfold/solver/RandomStream" "state" "J" (.long (0 : Int64))) (ge_ao : n0 ≤ ao) :
    MetFree l (⟨"com/example/wattfold/wattfold/solver/RandomStream", "<init>", "(J)V"⟩ : MethodName) (head1 (Jvm.Cond.code (⟨"com/example/wattfold/wattfold/solver/RandomStream", "<init>", "(J)V"⟩ : MethodName) prog_46_method_1_code 3 none :: ws) ({ frames := 1, cells := 0, slots := 0, locals := 12 } : Room)) (fun a U => a = #[(.ref ao), (.long xn)] ∧ Z.Warmed39 U.vm ∧ U.heap = h0) (fun _ _ _ _ _ => True) (fun _ U o U' => ∃ v L, o = .returned v ∧ Q1 Z ao xn h0 n0 v U'.heap L ∧ FrameEnd U o U' L ({ frames := 1, cells := 0, slots := 0, locals := 12 } : Room).cells ({ frames := 1, cells := 0, slots := 0, locals := 12 } : Room).slots) := by
  refine MetFree.of_bodySF (plainFor_of_name pn_1) hisR ?_
  intro p e s m args below meth c s₁ Bd hml0 hP hK
  obtain ⟨rfl, hZ, hh⟩ := hP
  have hx := Bd.exec
  have hby := Bd.bytes
  have hml : c.maxLocals = 3 := hml0
  have hown : s.vm.findClass "com/example/wattfold/wattfold/solver/RandomStream" = some m.cls := findClass_of_methodNamed Bd.named
  have hnm := (name_of_methodNamed Bd.named Bd.method).1
  have X0 : Stand p l e ({ frames := 1, cells := 0, slots := 0, locals := 12 } : Room) s m #[(.ref ao), (.long xn)] below meth c s₁ [] 0 0 := Stand.of_body Bd
  have e0 : s₁.heap = h0 := by rw [← hh, Bd.state]; rfl
  have N0 := Fr.nil n0
  suffices G : own_Goes p.tables e below (fun o U' => ∃ v L, o = .returned v ∧ Q1 Z ao xn h0 n0 v U'.heap L ∧ FrameEnd s o U' L ({ frames := 1, cells := 0, slots := 0, locals := 12 } : Room).cells ({ frames := 1, cells := 0, slots := 0, locals := 12 } : Room).slots) s₁ (mkF m 0 #[.val (.ref ao), .val (.long xn), .second] []) by
    obtain ⟨t2_, o2_, z1_, z2_, z3_, z4_⟩ := G
    exact ⟨t2_, o2_, castTop (ef_1 m ao xn) z1_, z2_, z3_, z4_⟩
  generalize hPd : (fun (o : Outcome) (U' : State) => ∃ v L, o = .returned v ∧ Q1 Z ao xn h0 n0 v U'.heap L ∧ FrameEnd s o U' L ({ frames := 1, cells := 0, slots := 0, locals := 12 } : Room).cells ({ frames := 1, cells := 0, slots := 0, locals := 12 } : Room).slots) = P
  refine own_Goes.via (T' := s₁) (g' := (mkF m 1 #[.val (.ref ao), .val (.long xn), .second] [(.ref ao)])) (fun t_ k_ => XS.aloadN X0.here hx rfl (hb hby d1_0) rfl rfl k_) ?_
  obtain ⟨T1, X1, e1, st1⟩ := initO X0 hx hZ hown (hw _ (List.mem_of_getElem? (i := 6) rfl)) (hw _ (List.mem_of_getElem? (i := 7) rfl)) (hw _ (List.mem_of_getElem? (i := 8) rfl)) e0 (g := (mkF m 1 #[.val (.ref ao), .val (.long xn), .second] [(.ref ao)])) rfl (by rw [hml]; rfl) rfl (hb hby d1_1) (by decide) (W := 0) (by show 2 * 0 + _ ≤ _; exact Nat.le_of_eq rfl) (by decide)
  refine own_Goes.via (T' := T1) (g' := (mkF m 4 #[.val (.ref ao), .val (.long xn), .second] [])) (st1) ?_
  refine own_Goes.via (T' := T1) (g' := (mkF m 5 #[.val (.ref ao), .val (.long xn), .second] [(.ref ao)])) (fun t_ k_ => XS.aloadN X1.here hx rfl (hb hby d1_4) rfl rfl k_) ?_
  refine own_Goes.via (T' := T1) (g' := (mkF m 6 #[.val (.ref ao), .val (.long xn), .second] [(.long xn), (.ref ao)])) (fun t_ k_ => XS.lloadN X1.here hx rfl (hb hby d1_5) rfl k_) ?_
  obtain ⟨T2, h2, X2, e2, W2, st2⟩ := putF X1 hx hZ hown (host := "") (Or.inl (hw _ (List.mem_of_getElem? (i := 9) rfl))) Via.refl e1 PF1 PF0 (Or.inl (hw _ (List.mem_of_getElem? (i := 10) rfl))) (hw _ (List.mem_of_getElem? (i := 1) rfl)) (ty := .long) (by decide) rfl rfl (g := (mkF m 6 #[.val (.ref ao), .val (.long xn), .second] [(.long xn), (.ref ao)])) rfl rfl (hb hby d1_6)
  have E3 : Exa Z h2 ao "com/example/wattfold/wattfold/solver/RandomStream" := PF0.wr W2
  have F4 : Fld Z h2 ao "com/example/wattfold/wattfold/solver/RandomStream" "state" "J" (.long xn) := PF1.same W2
  have N2 := Fr.snoc X2 N0 ge_ao
  have sz2 : n0 ≤ h2.size := Nat.le_trans Z0 (Keep.of_wr W2).1
  have K2 : Keep h0 h2 [ao] := ((Keep.refl h0 [ao])).wr W2 (Or.inl (List.mem_of_getElem? (i := 0) rfl))
  refine own_Goes.via (T' := T2) (g' := (mkF m 9 #[.val (.ref ao), .val (.long xn), .second] [])) (st2) ?_
  obtain ⟨fs, hr, hrun, hended, hW, hsame⟩ := X2.leave (v := none) (fun _ => rfl)
  refine own_Goes.fin (X2.returnOut hx Bd.returns (hb hby d1_9) hr) hrun hended ?_
  subst hPd
  refine ⟨_, _, rfl, ?_, ⟨_, rfl⟩, hW, hsame.mono (by decide) (by decide)⟩
  show Q1 Z ao xn h0 n0 _ T2.heap _
  rw [e2]
  exact ⟨rfl, N2, K2, E3, F4⟩
def own_st3 (xn : Int64) : Int64 := xn + (-7046029254386353131 : Int64)
theorem d3_0 : decode prog_46_method_2_code 0 = .ok (.aload_n 0, 1) := by decide +kernel
theorem d3_1 : decode prog_46_method_2_code 1 = .ok (.dup, 1) := by decide +kernel
theorem d3_2 : decode prog_46_method_2_code 2 = .ok (.getfield 7, 3) := by decide +kernel
theorem d3_5 : decode prog_46_method_2_code 5 = .ok (.ldc2_w 13, 3) := by decide +kernel
theorem d3_8 : decode prog_46_method_2_code 8 = .ok (.ladd, 1) := by decide +kernel
theorem d3_9 : decode prog_46_method_2_code 9 = .ok (.putfield 7, 3) := by decide +kernel
theorem d3_12 : decode prog_46_method_2_code 12 = .ok (.aload_n 0, 1) := by decide +kernel
theorem d3_13 : decode prog_46_method_2_code 13 = .ok (.getfield 7, 3) := by decide +kernel
theorem d3_16 : decode prog_46_method_2_code 16 = .ok (.lstore_n 1, 1) := by decide +kernel
theorem d3_17 : decode prog_46_method_2_code 17 = .ok (.lload_n 1, 1) := by decide +kernel
theorem d3_18 : decode prog_46_method_2_code 18 = .ok (.lload_n 1, 1) := by decide +kernel
theorem d3_19 : decode prog_46_method_2_code 19 = .ok (.bipush 30, 2) := by decide +kernel
theorem d3_21 : decode prog_46_method_2_code 21 = .ok (.lushr, 1) := by decide +kernel
theorem d3_22 : decode prog_46_method_2_code 22 = .ok (.lxor, 1) := by decide +kernel
theorem d3_23 : decode prog_46_method_2_code 23 = .ok (.ldc2_w 15, 3) := by decide +kernel
theorem d3_26 : decode prog_46_method_2_code 26 = .ok (.lmul, 1) := by decide +kernel
theorem d3_27 : decode prog_46_method_2_code 27 = .ok (.lstore_n 1, 1) := by decide +kernel
theorem d3_28 : decode prog_46_method_2_code 28 = .ok (.lload_n 1, 1) := by decide +kernel
theorem d3_29 : decode prog_46_method_2_code 29 = .ok (.lload_n 1, 1) := by decide +kernel
theorem d3_30 : decode prog_46_method_2_code 30 = .ok (.bipush 27, 2) := by decide +kernel
theorem d3_32 : decode prog_46_method_2_code 32 = .ok (.lushr, 1) := by decide +kernel
theorem d3_33 : decode prog_46_method_2_code 33 = .ok (.lxor, 1) := by decide +kernel
theorem d3_34 : decode prog_46_method_2_code 34 = .ok (.ldc2_w 17, 3) := by decide +kernel
theorem d3_37 : decode prog_46_method_2_code 37 = .ok (.lmul, 1) := by decide +kernel
theorem d3_38 : decode prog_46_method_2_code 38 = .ok (.lstore_n 1, 1) := by decide +kernel
theorem d3_39 : decode prog_46_method_2_code 39 = .ok (.lload_n 1, 1) := by decide +kernel
theorem d3_40 : decode prog_46_method_2_code 40 = .ok (.lload_n 1, 1) := by decide +kernel
theorem d3_41 : decode prog_46_method_2_code 41 = .ok (.bipush 31, 2) := by decide +kernel
theorem d3_43 : decode prog_46_method_2_code 43 = .ok (.lushr, 1) := by decide +kernel
theorem d3_44 : decode prog_46_method_2_code 44 = .ok (.lxor, 1) := by decide +kernel
theorem d3_45 : decode prog_46_method_2_code 45 = .ok (.lreturn, 1) := by decide +kernel
theorem pn_3 : plainName "com/example/wattfold/wattfold/solver/RandomStream" = true := by first | (simp [plainName, overriddenIn]; done) | decide +kernel
theorem ef_3 (m : MethodId) (ao : Addr) : entryFrame m #[(.ref ao)] 3 = mkF m 0 #[.val (.ref ao), .unset, .unset] [] := by first | (simp [entryFrame, mkF, argsToLocals, Value.category]; done) | rfl
def own_f3 (xn : Int64) : Int64 := ((((((xn + (-7046029254386353131 : Int64)) ^^^ (((xn + (-7046029254386353131 : Int64)).toUInt64 >>> ((30 : Int32) &&& 0x3f).toInt64.toUInt64).toInt64)) * (-4658895280553007687 : Int64)) ^^^ (((((xn + (-7046029254386353131 : Int64)) ^^^ (((xn + (-7046029254386353131 : Int64)).toUInt64 >>> ((30 : Int32) &&& 0x3f).toInt64.toUInt64).toInt64)) * (-4658895280553007687 : Int64)).toUInt64 >>> ((27 : Int32) &&& 0x3f).toInt64.toUInt64).toInt64)) * (-7723592293110705685 : Int64)) ^^^ (((((((xn + (-7046029254386353131 : Int64)) ^^^ (((xn + (-7046029254386353131 : Int64)).toUInt64 >>> ((30 : Int32) &&& 0x3f).toInt64.toUInt64).toInt64)) * (-4658895280553007687 : Int64)) ^^^ (((((xn + (-7046029254386353131 : Int64)) ^^^ (((xn + (-7046029254386353131 : Int64)).toUInt64 >>> ((30 : Int32) &&& 0x3f).toInt64.toUInt64).toInt64)) * (-4658895280553007687 : Int64)).toUInt64 >>> ((27 : Int32) &&& 0x3f).toInt64.toUInt64).toInt64)) * (-7723592293110705685 : Int64)).toUInt64 >>> ((31 : Int32) &&& 0x3f).toInt64.toUInt64).toInt64))
def Q3 (Z : State) (ao : Addr) (xn : Int64) (h0 : Heap) (n0 : Nat) (v : Option Value) (h : Heap) (L : List Loc) : Prop := v = some (.long (own_f3 xn)) ∧ Fr n0 L ∧ Keep h0 h [ao] ∧ Exa Z h ao "com/example/wattfold/wattfold/solver/RandomStream" ∧ Fld Z h ao "com/example/wattfold/wattfold/solver/RandomStream" "state" "J" (.long (own_st3 xn))
set_option maxRecDepth 65536 in
set_option maxHeartbeats 40000000 in
theorem rm3 (l : Launch) (Z : State) (a0 : Array Value) (hw : ∀ d ∈ tables_1, d.before a0 Z = true) (ws : List Jvm.Cond) (ao : Addr) (xn : Int64) (h0 : Heap) (n0 : Nat) (Z0 : n0 ≤ h0.size) (PF0 : Exa Z h0 ao "com/example/wattfold/wattfold/solver/RandomStream") (PF1 : Fld Z h0 ao "com/example/wattfold/wattfold/solver/RandomStream" "state" "J" (.long xn)) (ge_ao : n0 ≤ ao) :
    MetFree l (⟨"com/example/wattfold/wattfold/solver/RandomStream", "nextLong", "()J"⟩ : MethodName) (head1 (Jvm.Cond.code (⟨"com/example/wattfold/wattfold/solver/RandomStream", "nextLong", "()J"⟩ : MethodName) prog_46_method_2_code 3 (some .long) :: ws) ({ frames := 0, cells := 0, slots := 0, locals := 0 } : Room)) (fun a U => a = #[(.ref ao)] ∧ Z.Warmed39 U.vm ∧ U.heap = h0) (fun _ _ _ _ _ => True) (fun _ U o U' => ∃ v L, o = .returned v ∧ Q3 Z ao xn h0 n0 v U'.heap L ∧ FrameEnd U o U' L ({ frames := 0, cells := 0, slots := 0, locals := 0 } : Room).cells ({ frames := 0, cells := 0, slots := 0, locals := 0 } : Room).slots) := by
  refine MetFree.of_bodySF (plainFor_of_name pn_3) hisR ?_
  intro p e s m args below meth c s₁ Bd hml0 hP hK
  obtain ⟨rfl, hZ, hh⟩ := hP
  have hx := Bd.exec
  have hby := Bd.bytes
  have hml : c.maxLocals = 3 := hml0
  have hown : s.vm.findClass "com/example/wattfold/wattfold/solver/RandomStream" = some m.cls := findClass_of_methodNamed Bd.named
  have hnm := (name_of_methodNamed Bd.named Bd.method).1
  have X0 : Stand p l e ({ frames := 0, cells := 0, slots := 0, locals := 0 } : Room) s m #[(.ref ao)] below meth c s₁ [] 0 0 := Stand.of_body Bd
  have e0 : s₁.heap = h0 := by rw [← hh, Bd.state]; rfl
  have N0 := Fr.nil n0
  suffices G : own_Goes p.tables e below (fun o U' => ∃ v L, o = .returned v ∧ Q3 Z ao xn h0 n0 v U'.heap L ∧ FrameEnd s o U' L ({ frames := 0, cells := 0, slots := 0, locals := 0 } : Room).cells ({ frames := 0, cells := 0, slots := 0, locals := 0 } : Room).slots) s₁ (mkF m 0 #[.val (.ref ao), .unset, .unset] []) by
    obtain ⟨t2_, o2_, z1_, z2_, z3_, z4_⟩ := G
    exact ⟨t2_, o2_, castTop (ef_3 m ao) z1_, z2_, z3_, z4_⟩
  generalize hPd : (fun (o : Outcome) (U' : State) => ∃ v L, o = .returned v ∧ Q3 Z ao xn h0 n0 v U'.heap L ∧ FrameEnd s o U' L ({ frames := 0, cells := 0, slots := 0, locals := 0 } : Room).cells ({ frames := 0, cells := 0, slots := 0, locals := 0 } : Room).slots) = P
  refine own_Goes.via (T' := s₁) (g' := (mkF m 1 #[.val (.ref ao), .unset, .unset] [(.ref ao)])) (fun t_ k_ => XS.aloadN X0.here hx rfl (hb hby d3_0) rfl rfl k_) ?_
  refine own_Goes.via (T' := s₁) (g' := (mkF m 2 #[.val (.ref ao), .unset, .unset] [(.ref ao), (.ref ao)])) (fun t_ k_ => XS.dup X0.here hx rfl (hb hby d3_1) rfl rfl k_) ?_
  obtain ⟨T1, X1, e1, st1⟩ := getF X0 hx hZ hown (host := "") (Or.inl (hw _ (List.mem_of_getElem? (i := 9) rfl))) Via.refl e0 PF1 (g := (mkF m 2 #[.val (.ref ao), .unset, .unset] [(.ref ao), (.ref ao)])) rfl rfl (hb hby d3_2)
  refine own_Goes.via (T' := T1) (g' := (mkF m 5 #[.val (.ref ao), .unset, .unset] [(.long xn), (.ref ao)])) (st1) ?_
  refine own_Goes.via (T' := T1) (g' := (mkF m 8 #[.val (.ref ao), .unset, .unset] [(.long (-7046029254386353131 : Int64)), (.long xn), (.ref ao)])) (X1.ldc2Long hx hown (mvT hZ (hw _ (List.mem_of_getElem? (i := 16) rfl))) (g := (mkF m 5 #[.val (.ref ao), .unset, .unset] [(.long xn), (.ref ao)])) rfl (hb hby d3_5)) ?_
  refine own_Goes.via (T' := T1) (g' := (mkF m 9 #[.val (.ref ao), .unset, .unset] [(.long (xn + (-7046029254386353131 : Int64))), (.ref ao)])) (fun t_ k_ => XS.ladd X1.here hx rfl (hb hby d3_8) rfl k_) ?_
  obtain ⟨T2, h2, X2, e2, W2, st2⟩ := putF X1 hx hZ hown (host := "") (Or.inl (hw _ (List.mem_of_getElem? (i := 9) rfl))) Via.refl e1 PF1 PF0 (Or.inl (hw _ (List.mem_of_getElem? (i := 10) rfl))) (hw _ (List.mem_of_getElem? (i := 1) rfl)) (ty := .long) (by decide) rfl rfl (g := (mkF m 9 #[.val (.ref ao), .unset, .unset] [(.long (xn + (-7046029254386353131 : Int64))), (.ref ao)])) rfl rfl (hb hby d3_9)
  have E3 : Exa Z h2 ao "com/example/wattfold/wattfold/solver/RandomStream" := PF0.wr W2
  have F4 : Fld Z h2 ao "com/example/wattfold/wattfold/solver/RandomStream" "state" "J" (.long (xn + (-7046029254386353131 : Int64))) := PF1.same W2
  have N2 := Fr.snoc X2 N0 ge_ao
  have sz2 : n0 ≤ h2.size := Nat.le_trans Z0 (Keep.of_wr W2).1
  have K2 : Keep h0 h2 [ao] := ((Keep.refl h0 [ao])).wr W2 (Or.inl (List.mem_of_getElem? (i := 0) rfl))
  refine own_Goes.via (T' := T2) (g' := (mkF m 12 #[.val (.ref ao), .unset, .unset] [])) (st2) ?_
  refine own_Goes.via (T' := T2) (g' := (mkF m 13 #[.val (.ref ao), .unset, .unset] [(.ref ao)])) (fun t_ k_ => XS.aloadN X2.here hx rfl (hb hby d3_12) rfl rfl k_) ?_
  obtain ⟨T5, X5, e5, st5⟩ := getF X2 hx hZ hown (host := "") (Or.inl (hw _ (List.mem_of_getElem? (i := 9) rfl))) Via.refl e2 F4 (g := (mkF m 13 #[.val (.ref ao), .unset, .unset] [(.ref ao)])) rfl rfl (hb hby d3_13)
  refine own_Goes.via (T' := T5) (g' := (mkF m 16 #[.val (.ref ao), .unset, .unset] [(.long (xn + (-7046029254386353131 : Int64)))])) (st5) ?_
  refine own_Goes.via (T' := T5) (g' := (mkF m 17 #[.val (.ref ao), .val (.long (xn + (-7046029254386353131 : Int64))), .second] [])) (fun t_ k_ => XS.lstoreN X5.here hx rfl (hb hby d3_16) rfl (l' := #[.val (.ref ao), .val (.long (xn + (-7046029254386353131 : Int64))), .second]) rfl k_) ?_
  obtain ⟨v6, hv6⟩ : ∃ z : Int64, z = (xn + (-7046029254386353131 : Int64)) := ⟨_, rfl⟩
  rw [← hv6]
  refine own_Goes.via (T' := T5) (g' := (mkF m 18 #[.val (.ref ao), .val (.long v6), .second] [(.long v6)])) (fun t_ k_ => XS.lloadN X5.here hx rfl (hb hby d3_17) rfl k_) ?_
  refine own_Goes.via (T' := T5) (g' := (mkF m 19 #[.val (.ref ao), .val (.long v6), .second] [(.long v6), (.long v6)])) (fun t_ k_ => XS.lloadN X5.here hx rfl (hb hby d3_18) rfl k_) ?_
  refine own_Goes.via (T' := T5) (g' := (mkF m 21 #[.val (.ref ao), .val (.long v6), .second] [(.int (30 : Int32)), (.long v6), (.long v6)])) (fun t_ k_ => XS.bipush X5.here hx rfl (hb hby d3_19) k_) ?_
  refine own_Goes.via (T' := T5) (g' := (mkF m 22 #[.val (.ref ao), .val (.long v6), .second] [(.long ((v6.toUInt64 >>> ((30 : Int32) &&& 0x3f).toInt64.toUInt64).toInt64)), (.long v6)])) (fun t_ k_ => XS.lushr X5.here hx rfl (hb hby d3_21) rfl k_) ?_
  refine own_Goes.via (T' := T5) (g' := (mkF m 23 #[.val (.ref ao), .val (.long v6), .second] [(.long (v6 ^^^ ((v6.toUInt64 >>> ((30 : Int32) &&& 0x3f).toInt64.toUInt64).toInt64)))])) (fun t_ k_ => XS.lxor X5.here hx rfl (hb hby d3_22) rfl k_) ?_
  refine own_Goes.via (T' := T5) (g' := (mkF m 26 #[.val (.ref ao), .val (.long v6), .second] [(.long (-4658895280553007687 : Int64)), (.long (v6 ^^^ ((v6.toUInt64 >>> ((30 : Int32) &&& 0x3f).toInt64.toUInt64).toInt64)))])) (X5.ldc2Long hx hown (mvT hZ (hw _ (List.mem_of_getElem? (i := 17) rfl))) (g := (mkF m 23 #[.val (.ref ao), .val (.long v6), .second] [(.long (v6 ^^^ ((v6.toUInt64 >>> ((30 : Int32) &&& 0x3f).toInt64.toUInt64).toInt64)))])) rfl (hb hby d3_23)) ?_
  refine own_Goes.via (T' := T5) (g' := (mkF m 27 #[.val (.ref ao), .val (.long v6), .second] [(.long ((v6 ^^^ ((v6.toUInt64 >>> ((30 : Int32) &&& 0x3f).toInt64.toUInt64).toInt64)) * (-4658895280553007687 : Int64)))])) (fun t_ k_ => XS.lmul X5.here hx rfl (hb hby d3_26) rfl k_) ?_
  refine own_Goes.via (T' := T5) (g' := (mkF m 28 #[.val (.ref ao), .val (.long ((v6 ^^^ ((v6.toUInt64 >>> ((30 : Int32) &&& 0x3f).toInt64.toUInt64).toInt64)) * (-4658895280553007687 : Int64))), .second] [])) (fun t_ k_ => XS.lstoreN X5.here hx rfl (hb hby d3_27) rfl (l' := #[.val (.ref ao), .val (.long ((v6 ^^^ ((v6.toUInt64 >>> ((30 : Int32) &&& 0x3f).toInt64.toUInt64).toInt64)) * (-4658895280553007687 : Int64))), .second]) rfl k_) ?_
  obtain ⟨v7, hv7⟩ : ∃ z : Int64, z = ((v6 ^^^ ((v6.toUInt64 >>> ((30 : Int32) &&& 0x3f).toInt64.toUInt64).toInt64)) * (-4658895280553007687 : Int64)) := ⟨_, rfl⟩
  rw [← hv7]
  refine own_Goes.via (T' := T5) (g' := (mkF m 29 #[.val (.ref ao), .val (.long v7), .second] [(.long v7)])) (fun t_ k_ => XS.lloadN X5.here hx rfl (hb hby d3_28) rfl k_) ?_
  refine own_Goes.via (T' := T5) (g' := (mkF m 30 #[.val (.ref ao), .val (.long v7), .second] [(.long v7), (.long v7)])) (fun t_ k_ => XS.lloadN X5.here hx rfl (hb hby d3_29) rfl k_) ?_
  refine own_Goes.via (T' := T5) (g' := (mkF m 32 #[.val (.ref ao), .val (.long v7), .second] [(.int (27 : Int32)), (.long v7), (.long v7)])) (fun t_ k_ => XS.bipush X5.here hx rfl (hb hby d3_30) k_) ?_
  refine own_Goes.via (T' := T5) (g' := (mkF m 33 #[.val (.ref ao), .val (.long v7), .second] [(.long ((v7.toUInt64 >>> ((27 : Int32) &&& 0x3f).toInt64.toUInt64).toInt64)), (.long v7)])) (fun t_ k_ => XS.lushr X5.here hx rfl (hb hby d3_32) rfl k_) ?_
  refine own_Goes.via (T' := T5) (g' := (mkF m 34 #[.val (.ref ao), .val (.long v7), .second] [(.long (v7 ^^^ ((v7.toUInt64 >>> ((27 : Int32) &&& 0x3f).toInt64.toUInt64).toInt64)))])) (fun t_ k_ => XS.lxor X5.here hx rfl (hb hby d3_33) rfl k_) ?_
  refine own_Goes.via (T' := T5) (g' := (mkF m 37 #[.val (.ref ao), .val (.long v7), .second] [(.long (-7723592293110705685 : Int64)), (.long (v7 ^^^ ((v7.toUInt64 >>> ((27 : Int32) &&& 0x3f).toInt64.toUInt64).toInt64)))])) (X5.ldc2Long hx hown (mvT hZ (hw _ (List.mem_of_getElem? (i := 18) rfl))) (g := (mkF m 34 #[.val (.ref ao), .val (.long v7), .second] [(.long (v7 ^^^ ((v7.toUInt64 >>> ((27 : Int32) &&& 0x3f).toInt64.toUInt64).toInt64)))])) rfl (hb hby d3_34)) ?_
  refine own_Goes.via (T' := T5) (g' := (mkF m 38 #[.val (.ref ao), .val (.long v7), .second] [(.long ((v7 ^^^ ((v7.toUInt64 >>> ((27 : Int32) &&& 0x3f).toInt64.toUInt64).toInt64)) * (-7723592293110705685 : Int64)))])) (fun t_ k_ => XS.lmul X5.here hx rfl (hb hby d3_37) rfl k_) ?_
  refine own_Goes.via (T' := T5) (g' := (mkF m 39 #[.val (.ref ao), .val (.long ((v7 ^^^ ((v7.toUInt64 >>> ((27 : Int32) &&& 0x3f).toInt64.toUInt64).toInt64)) * (-7723592293110705685 : Int64))), .second] [])) (fun t_ k_ => XS.lstoreN X5.here hx rfl (hb hby d3_38) rfl (l' := #[.val (.ref ao), .val (.long ((v7 ^^^ ((v7.toUInt64 >>> ((27 : Int32) &&& 0x3f).toInt64.toUInt64).toInt64)) * (-7723592293110705685 : Int64))), .second]) rfl k_) ?_
  obtain ⟨v8, hv8⟩ : ∃ z : Int64, z = ((v7 ^^^ ((v7.toUInt64 >>> ((27 : Int32) &&& 0x3f).toInt64.toUInt64).toInt64)) * (-7723592293110705685 : Int64)) := ⟨_, rfl⟩
  rw [← hv8]
  refine own_Goes.via (T' := T5) (g' := (mkF m 40 #[.val (.ref ao), .val (.long v8), .second] [(.long v8)])) (fun t_ k_ => XS.lloadN X5.here hx rfl (hb hby d3_39) rfl k_) ?_
  refine own_Goes.via (T' := T5) (g' := (mkF m 41 #[.val (.ref ao), .val (.long v8), .second] [(.long v8), (.long v8)])) (fun t_ k_ => XS.lloadN X5.here hx rfl (hb hby d3_40) rfl k_) ?_
  refine own_Goes.via (T' := T5) (g' := (mkF m 43 #[.val (.ref ao), .val (.long v8), .second] [(.int (31 : Int32)), (.long v8), (.long v8)])) (fun t_ k_ => XS.bipush X5.here hx rfl (hb hby d3_41) k_) ?_
  refine own_Goes.via (T' := T5) (g' := (mkF m 44 #[.val (.ref ao), .val (.long v8), .second] [(.long ((v8.toUInt64 >>> ((31 : Int32) &&& 0x3f).toInt64.toUInt64).toInt64)), (.long v8)])) (fun t_ k_ => XS.lushr X5.here hx rfl (hb hby d3_43) rfl k_) ?_
  refine own_Goes.via (T' := T5) (g' := (mkF m 45 #[.val (.ref ao), .val (.long v8), .second] [(.long (v8 ^^^ ((v8.toUInt64 >>> ((31 : Int32) &&& 0x3f).toInt64.toUInt64).toInt64)))])) (fun t_ k_ => XS.lxor X5.here hx rfl (hb hby d3_44) rfl k_) ?_
  obtain ⟨fs, hr, hrun, hended, hW, hsame⟩ := X5.leave (v := some (.long (v8 ^^^ ((v8.toUInt64 >>> ((31 : Int32) &&& 0x3f).toInt64.toUInt64).toInt64)))) (fun h => by rw [Bd.returns] at h; cases h)
  refine own_Goes.fin (retOut X5 hx Bd.returns rfl (Or.inr (Or.inl ⟨rfl, rfl, _, rfl⟩)) (hb hby d3_45) hr) hrun hended ?_
  subst hPd
  refine ⟨_, _, rfl, ?_, ⟨_, rfl⟩, hW, hsame.mono (by decide) (by decide)⟩
  show Q3 Z ao xn h0 n0 _ T5.heap _
  rw [e5]
  exact ⟨(by subst hv8; subst hv7; subst hv6; first | rfl | (simp only [own_f3])), N2, K2, E3, (by subst hv8; subst hv7; subst hv6; first | exact F4 | (simp only []; exact F4))⟩
theorem d5_0 : decode method_2_code 0 = .ok (.lload_n 0, 1) := by decide +kernel
theorem d5_1 : decode method_2_code 1 = .ok (.lstore_n 2, 1) := by decide +kernel
theorem d5_2 : decode method_2_code 2 = .ok (.lload_n 2, 1) := by decide +kernel
theorem d5_3 : decode method_2_code 3 = .ok (.ldc2_w 7, 3) := by decide +kernel
theorem d5_6 : decode method_2_code 6 = .ok (.lload_n 0, 1) := by decide +kernel
theorem d5_7 : decode method_2_code 7 = .ok (.lload_n 2, 1) := by decide +kernel
theorem d5_8 : decode method_2_code 8 = .ok (.lmul, 1) := by decide +kernel
theorem d5_9 : decode method_2_code 9 = .ok (.lsub, 1) := by decide +kernel
theorem d5_10 : decode method_2_code 10 = .ok (.lmul, 1) := by decide +kernel
theorem d5_11 : decode method_2_code 11 = .ok (.lstore_n 2, 1) := by decide +kernel
theorem d5_12 : decode method_2_code 12 = .ok (.lload_n 2, 1) := by decide +kernel
theorem d5_13 : decode method_2_code 13 = .ok (.ldc2_w 7, 3) := by decide +kernel
theorem d5_16 : decode method_2_code 16 = .ok (.lload_n 0, 1) := by decide +kernel
theorem d5_17 : decode method_2_code 17 = .ok (.lload_n 2, 1) := by decide +kernel
theorem d5_18 : decode method_2_code 18 = .ok (.lmul, 1) := by decide +kernel
theorem d5_19 : decode method_2_code 19 = .ok (.lsub, 1) := by decide +kernel
theorem d5_20 : decode method_2_code 20 = .ok (.lmul, 1) := by decide +kernel
theorem d5_21 : decode method_2_code 21 = .ok (.lstore_n 2, 1) := by decide +kernel
theorem d5_22 : decode method_2_code 22 = .ok (.lload_n 2, 1) := by decide +kernel
theorem d5_23 : decode method_2_code 23 = .ok (.ldc2_w 7, 3) := by decide +kernel
theorem d5_26 : decode method_2_code 26 = .ok (.lload_n 0, 1) := by decide +kernel
theorem d5_27 : decode method_2_code 27 = .ok (.lload_n 2, 1) := by decide +kernel
theorem d5_28 : decode method_2_code 28 = .ok (.lmul, 1) := by decide +kernel
theorem d5_29 : decode method_2_code 29 = .ok (.lsub, 1) := by decide +kernel
theorem d5_30 : decode method_2_code 30 = .ok (.lmul, 1) := by decide +kernel
theorem d5_31 : decode method_2_code 31 = .ok (.lstore_n 2, 1) := by decide +kernel
theorem d5_32 : decode method_2_code 32 = .ok (.lload_n 2, 1) := by decide +kernel
theorem d5_33 : decode method_2_code 33 = .ok (.ldc2_w 7, 3) := by decide +kernel
theorem d5_36 : decode method_2_code 36 = .ok (.lload_n 0, 1) := by decide +kernel
theorem d5_37 : decode method_2_code 37 = .ok (.lload_n 2, 1) := by decide +kernel
theorem d5_38 : decode method_2_code 38 = .ok (.lmul, 1) := by decide +kernel
theorem d5_39 : decode method_2_code 39 = .ok (.lsub, 1) := by decide +kernel
theorem d5_40 : decode method_2_code 40 = .ok (.lmul, 1) := by decide +kernel
theorem d5_41 : decode method_2_code 41 = .ok (.lstore_n 2, 1) := by decide +kernel
theorem d5_42 : decode method_2_code 42 = .ok (.lload_n 2, 1) := by decide +kernel
theorem d5_43 : decode method_2_code 43 = .ok (.ldc2_w 7, 3) := by decide +kernel
theorem d5_46 : decode method_2_code 46 = .ok (.lload_n 0, 1) := by decide +kernel
theorem d5_47 : decode method_2_code 47 = .ok (.lload_n 2, 1) := by decide +kernel
theorem d5_48 : decode method_2_code 48 = .ok (.lmul, 1) := by decide +kernel
theorem d5_49 : decode method_2_code 49 = .ok (.lsub, 1) := by decide +kernel
theorem d5_50 : decode method_2_code 50 = .ok (.lmul, 1) := by decide +kernel
theorem d5_51 : decode method_2_code 51 = .ok (.lstore_n 2, 1) := by decide +kernel
theorem d5_52 : decode method_2_code 52 = .ok (.lload_n 2, 1) := by decide +kernel
theorem d5_53 : decode method_2_code 53 = .ok (.lreturn, 1) := by decide +kernel
theorem pn_5 : plainName "com/example/wattfold/wattfold/solver/RandomStreamNextLongPinLaw" = true := by first | (simp [plainName, overriddenIn]; done) | decide +kernel
theorem ef_5 (m : MethodId) (xa : Int64) : entryFrame m #[(.long xa)] 4 = mkF m 0 #[.val (.long xa), .second, .unset, .unset] [] := by first | (simp [entryFrame, mkF, argsToLocals, Value.category]; done) | rfl
def own_f5 (xa : Int64) : Int64 := (((((xa * ((2 : Int64) - (xa * xa))) * ((2 : Int64) - (xa * (xa * ((2 : Int64) - (xa * xa)))))) * ((2 : Int64) - (xa * ((xa * ((2 : Int64) - (xa * xa))) * ((2 : Int64) - (xa * (xa * ((2 : Int64) - (xa * xa))))))))) * ((2 : Int64) - (xa * (((xa * ((2 : Int64) - (xa * xa))) * ((2 : Int64) - (xa * (xa * ((2 : Int64) - (xa * xa)))))) * ((2 : Int64) - (xa * ((xa * ((2 : Int64) - (xa * xa))) * ((2 : Int64) - (xa * (xa * ((2 : Int64) - (xa * xa)))))))))))) * ((2 : Int64) - (xa * ((((xa * ((2 : Int64) - (xa * xa))) * ((2 : Int64) - (xa * (xa * ((2 : Int64) - (xa * xa)))))) * ((2 : Int64) - (xa * ((xa * ((2 : Int64) - (xa * xa))) * ((2 : Int64) - (xa * (xa * ((2 : Int64) - (xa * xa))))))))) * ((2 : Int64) - (xa * (((xa * ((2 : Int64) - (xa * xa))) * ((2 : Int64) - (xa * (xa * ((2 : Int64) - (xa * xa)))))) * ((2 : Int64) - (xa * ((xa * ((2 : Int64) - (xa * xa))) * ((2 : Int64) - (xa * (xa * ((2 : Int64) - (xa * xa)))))))))))))))
def Q5 (Z : State) (xa : Int64) (h0 : Heap) (n0 : Nat) (v : Option Value) (h : Heap) (L : List Loc) : Prop := v = some (.long (own_f5 xa)) ∧ Fr n0 L ∧ h = h0
set_option maxRecDepth 65536 in
set_option maxHeartbeats 40000000 in
theorem rm5 (l : Launch) (Z : State) (a0 : Array Value) (hw : ∀ d ∈ tables_1, d.before a0 Z = true) (ws : List Jvm.Cond) (xa : Int64) (h0 : Heap) (n0 : Nat) (Z0 : n0 ≤ h0.size) :
    MetFree l (⟨"com/example/wattfold/wattfold/solver/RandomStreamNextLongPinLaw", "inverse", "(J)J"⟩ : MethodName) (head1 (Jvm.Cond.code (⟨"com/example/wattfold/wattfold/solver/RandomStreamNextLongPinLaw", "inverse", "(J)J"⟩ : MethodName) method_2_code 4 (some .long) :: ws) ({ frames := 0, cells := 0, slots := 0, locals := 0 } : Room)) (fun a U => a = #[(.long xa)] ∧ Z.Warmed39 U.vm ∧ U.heap = h0) (fun _ _ _ _ _ => True) (fun _ U o U' => ∃ v L, o = .returned v ∧ Q5 Z xa h0 n0 v U'.heap L ∧ FrameEnd U o U' L ({ frames := 0, cells := 0, slots := 0, locals := 0 } : Room).cells ({ frames := 0, cells := 0, slots := 0, locals := 0 } : Room).slots) := by
  refine MetFree.of_bodySF (plainFor_of_name pn_5) hisR ?_
  intro p e s m args below meth c s₁ Bd hml0 hP hK
  obtain ⟨rfl, hZ, hh⟩ := hP
  have hx := Bd.exec
  have hby := Bd.bytes
  have hml : c.maxLocals = 4 := hml0
  have hown : s.vm.findClass "com/example/wattfold/wattfold/solver/RandomStreamNextLongPinLaw" = some m.cls := findClass_of_methodNamed Bd.named
  have hnm := (name_of_methodNamed Bd.named Bd.method).1
  have X0 : Stand p l e ({ frames := 0, cells := 0, slots := 0, locals := 0 } : Room) s m #[(.long xa)] below meth c s₁ [] 0 0 := Stand.of_body Bd
  have e0 : s₁.heap = h0 := by rw [← hh, Bd.state]; rfl
  have N0 := Fr.nil n0
  suffices G : own_Goes p.tables e below (fun o U' => ∃ v L, o = .returned v ∧ Q5 Z xa h0 n0 v U'.heap L ∧ FrameEnd s o U' L ({ frames := 0, cells := 0, slots := 0, locals := 0 } : Room).cells ({ frames := 0, cells := 0, slots := 0, locals := 0 } : Room).slots) s₁ (mkF m 0 #[.val (.long xa), .second, .unset, .unset] []) by
    obtain ⟨t2_, o2_, z1_, z2_, z3_, z4_⟩ := G
    exact ⟨t2_, o2_, castTop (ef_5 m xa) z1_, z2_, z3_, z4_⟩
  generalize hPd : (fun (o : Outcome) (U' : State) => ∃ v L, o = .returned v ∧ Q5 Z xa h0 n0 v U'.heap L ∧ FrameEnd s o U' L ({ frames := 0, cells := 0, slots := 0, locals := 0 } : Room).cells ({ frames := 0, cells := 0, slots := 0, locals := 0 } : Room).slots) = P
  refine own_Goes.via (T' := s₁) (g' := (mkF m 1 #[.val (.long xa), .second, .unset, .unset] [(.long xa)])) (fun t_ k_ => XS.lloadN X0.here hx rfl (hb hby d5_0) rfl k_) ?_
  refine own_Goes.via (T' := s₁) (g' := (mkF m 2 #[.val (.long xa), .second, .val (.long xa), .second] [])) (fun t_ k_ => XS.lstoreN X0.here hx rfl (hb hby d5_1) rfl (l' := #[.val (.long xa), .second, .val (.long xa), .second]) rfl k_) ?_
  refine own_Goes.via (T' := s₁) (g' := (mkF m 3 #[.val (.long xa), .second, .val (.long xa), .second] [(.long xa)])) (fun t_ k_ => XS.lloadN X0.here hx rfl (hb hby d5_2) rfl k_) ?_
  refine own_Goes.via (T' := s₁) (g' := (mkF m 6 #[.val (.long xa), .second, .val (.long xa), .second] [(.long (2 : Int64)), (.long xa)])) (X0.ldc2Long hx hown (mvT hZ (hw _ (List.mem_of_getElem? (i := 27) rfl))) (g := (mkF m 3 #[.val (.long xa), .second, .val (.long xa), .second] [(.long xa)])) rfl (hb hby d5_3)) ?_
  refine own_Goes.via (T' := s₁) (g' := (mkF m 7 #[.val (.long xa), .second, .val (.long xa), .second] [(.long xa), (.long (2 : Int64)), (.long xa)])) (fun t_ k_ => XS.lloadN X0.here hx rfl (hb hby d5_6) rfl k_) ?_
  refine own_Goes.via (T' := s₁) (g' := (mkF m 8 #[.val (.long xa), .second, .val (.long xa), .second] [(.long xa), (.long xa), (.long (2 : Int64)), (.long xa)])) (fun t_ k_ => XS.lloadN X0.here hx rfl (hb hby d5_7) rfl k_) ?_
  refine own_Goes.via (T' := s₁) (g' := (mkF m 9 #[.val (.long xa), .second, .val (.long xa), .second] [(.long (xa * xa)), (.long (2 : Int64)), (.long xa)])) (fun t_ k_ => XS.lmul X0.here hx rfl (hb hby d5_8) rfl k_) ?_
  refine own_Goes.via (T' := s₁) (g' := (mkF m 10 #[.val (.long xa), .second, .val (.long xa), .second] [(.long ((2 : Int64) - (xa * xa))), (.long xa)])) (fun t_ k_ => XS.lsub X0.here hx rfl (hb hby d5_9) rfl k_) ?_
  refine own_Goes.via (T' := s₁) (g' := (mkF m 11 #[.val (.long xa), .second, .val (.long xa), .second] [(.long (xa * ((2 : Int64) - (xa * xa))))])) (fun t_ k_ => XS.lmul X0.here hx rfl (hb hby d5_10) rfl k_) ?_
  refine own_Goes.via (T' := s₁) (g' := (mkF m 12 #[.val (.long xa), .second, .val (.long (xa * ((2 : Int64) - (xa * xa)))), .second] [])) (fun t_ k_ => XS.lstoreN X0.here hx rfl (hb hby d5_11) rfl (l' := #[.val (.long xa), .second, .val (.long (xa * ((2 : Int64) - (xa * xa)))), .second]) rfl k_) ?_
  obtain ⟨v1, hv1⟩ : ∃ z : Int64, z = (xa * ((2 : Int64) - (xa * xa))) := ⟨_, rfl⟩
  rw [← hv1]
  refine own_Goes.via (T' := s₁) (g' := (mkF m 13 #[.val (.long xa), .second, .val (.long v1), .second] [(.long v1)])) (fun t_ k_ => XS.lloadN X0.here hx rfl (hb hby d5_12) rfl k_) ?_
  refine own_Goes.via (T' := s₁) (g' := (mkF m 16 #[.val (.long xa), .second, .val (.long v1), .second] [(.long (2 : Int64)), (.long v1)])) (X0.ldc2Long hx hown (mvT hZ (hw _ (List.mem_of_getElem? (i := 27) rfl))) (g := (mkF m 13 #[.val (.long xa), .second, .val (.long v1), .second] [(.long v1)])) rfl (hb hby d5_13)) ?_
  refine own_Goes.via (T' := s₁) (g' := (mkF m 17 #[.val (.long xa), .second, .val (.long v1), .second] [(.long xa), (.long (2 : Int64)), (.long v1)])) (fun t_ k_ => XS.lloadN X0.here hx rfl (hb hby d5_16) rfl k_) ?_
  refine own_Goes.via (T' := s₁) (g' := (mkF m 18 #[.val (.long xa), .second, .val (.long v1), .second] [(.long v1), (.long xa), (.long (2 : Int64)), (.long v1)])) (fun t_ k_ => XS.lloadN X0.here hx rfl (hb hby d5_17) rfl k_) ?_
  refine own_Goes.via (T' := s₁) (g' := (mkF m 19 #[.val (.long xa), .second, .val (.long v1), .second] [(.long (xa * v1)), (.long (2 : Int64)), (.long v1)])) (fun t_ k_ => XS.lmul X0.here hx rfl (hb hby d5_18) rfl k_) ?_
  refine own_Goes.via (T' := s₁) (g' := (mkF m 20 #[.val (.long xa), .second, .val (.long v1), .second] [(.long ((2 : Int64) - (xa * v1))), (.long v1)])) (fun t_ k_ => XS.lsub X0.here hx rfl (hb hby d5_19) rfl k_) ?_
  refine own_Goes.via (T' := s₁) (g' := (mkF m 21 #[.val (.long xa), .second, .val (.long v1), .second] [(.long (v1 * ((2 : Int64) - (xa * v1))))])) (fun t_ k_ => XS.lmul X0.here hx rfl (hb hby d5_20) rfl k_) ?_
  refine own_Goes.via (T' := s₁) (g' := (mkF m 22 #[.val (.long xa), .second, .val (.long (v1 * ((2 : Int64) - (xa * v1)))), .second] [])) (fun t_ k_ => XS.lstoreN X0.here hx rfl (hb hby d5_21) rfl (l' := #[.val (.long xa), .second, .val (.long (v1 * ((2 : Int64) - (xa * v1)))), .second]) rfl k_) ?_
  obtain ⟨v2, hv2⟩ : ∃ z : Int64, z = (v1 * ((2 : Int64) - (xa * v1))) := ⟨_, rfl⟩
  rw [← hv2]
  refine own_Goes.via (T' := s₁) (g' := (mkF m 23 #[.val (.long xa), .second, .val (.long v2), .second] [(.long v2)])) (fun t_ k_ => XS.lloadN X0.here hx rfl (hb hby d5_22) rfl k_) ?_
  refine own_Goes.via (T' := s₁) (g' := (mkF m 26 #[.val (.long xa), .second, .val (.long v2), .second] [(.long (2 : Int64)), (.long v2)])) (X0.ldc2Long hx hown (mvT hZ (hw _ (List.mem_of_getElem? (i := 27) rfl))) (g := (mkF m 23 #[.val (.long xa), .second, .val (.long v2), .second] [(.long v2)])) rfl (hb hby d5_23)) ?_
  refine own_Goes.via (T' := s₁) (g' := (mkF m 27 #[.val (.long xa), .second, .val (.long v2), .second] [(.long xa), (.long (2 : Int64)), (.long v2)])) (fun t_ k_ => XS.lloadN X0.here hx rfl (hb hby d5_26) rfl k_) ?_
  refine own_Goes.via (T' := s₁) (g' := (mkF m 28 #[.val (.long xa), .second, .val (.long v2), .second] [(.long v2), (.long xa), (.long (2 : Int64)), (.long v2)])) (fun t_ k_ => XS.lloadN X0.here hx rfl (hb hby d5_27) rfl k_) ?_
  refine own_Goes.via (T' := s₁) (g' := (mkF m 29 #[.val (.long xa), .second, .val (.long v2), .second] [(.long (xa * v2)), (.long (2 : Int64)), (.long v2)])) (fun t_ k_ => XS.lmul X0.here hx rfl (hb hby d5_28) rfl k_) ?_
  refine own_Goes.via (T' := s₁) (g' := (mkF m 30 #[.val (.long xa), .second, .val (.long v2), .second] [(.long ((2 : Int64) - (xa * v2))), (.long v2)])) (fun t_ k_ => XS.lsub X0.here hx rfl (hb hby d5_29) rfl k_) ?_
  refine own_Goes.via (T' := s₁) (g' := (mkF m 31 #[.val (.long xa), .second, .val (.long v2), .second] [(.long (v2 * ((2 : Int64) - (xa * v2))))])) (fun t_ k_ => XS.lmul X0.here hx rfl (hb hby d5_30) rfl k_) ?_
  refine own_Goes.via (T' := s₁) (g' := (mkF m 32 #[.val (.long xa), .second, .val (.long (v2 * ((2 : Int64) - (xa * v2)))), .second] [])) (fun t_ k_ => XS.lstoreN X0.here hx rfl (hb hby d5_31) rfl (l' := #[.val (.long xa), .second, .val (.long (v2 * ((2 : Int64) - (xa * v2)))), .second]) rfl k_) ?_
  obtain ⟨v3, hv3⟩ : ∃ z : Int64, z = (v2 * ((2 : Int64) - (xa * v2))) := ⟨_, rfl⟩
  rw [← hv3]
  refine own_Goes.via (T' := s₁) (g' := (mkF m 33 #[.val (.long xa), .second, .val (.long v3), .second] [(.long v3)])) (fun t_ k_ => XS.lloadN X0.here hx rfl (hb hby d5_32) rfl k_) ?_
  refine own_Goes.via (T' := s₁) (g' := (mkF m 36 #[.val (.long xa), .second, .val (.long v3), .second] [(.long (2 : Int64)), (.long v3)])) (X0.ldc2Long hx hown (mvT hZ (hw _ (List.mem_of_getElem? (i := 27) rfl))) (g := (mkF m 33 #[.val (.long xa), .second, .val (.long v3), .second] [(.long v3)])) rfl (hb hby d5_33)) ?_
  refine own_Goes.via (T' := s₁) (g' := (mkF m 37 #[.val (.long xa), .second, .val (.long v3), .second] [(.long xa), (.long (2 : Int64)), (.long v3)])) (fun t_ k_ => XS.lloadN X0.here hx rfl (hb hby d5_36) rfl k_) ?_
  refine own_Goes.via (T' := s₁) (g' := (mkF m 38 #[.val (.long xa), .second, .val (.long v3), .second] [(.long v3), (.long xa), (.long (2 : Int64)), (.long v3)])) (fun t_ k_ => XS.lloadN X0.here hx rfl (hb hby d5_37) rfl k_) ?_
  refine own_Goes.via (T' := s₁) (g' := (mkF m 39 #[.val (.long xa), .second, .val (.long v3), .second] [(.long (xa * v3)), (.long (2 : Int64)), (.long v3)])) (fun t_ k_ => XS.lmul X0.here hx rfl (hb hby d5_38) rfl k_) ?_
  refine own_Goes.via (T' := s₁) (g' := (mkF m 40 #[.val (.long xa), .second, .val (.long v3), .second] [(.long ((2 : Int64) - (xa * v3))), (.long v3)])) (fun t_ k_ => XS.lsub X0.here hx rfl (hb hby d5_39) rfl k_) ?_
  refine own_Goes.via (T' := s₁) (g' := (mkF m 41 #[.val (.long xa), .second, .val (.long v3), .second] [(.long (v3 * ((2 : Int64) - (xa * v3))))])) (fun t_ k_ => XS.lmul X0.here hx rfl (hb hby d5_40) rfl k_) ?_
  refine own_Goes.via (T' := s₁) (g' := (mkF m 42 #[.val (.long xa), .second, .val (.long (v3 * ((2 : Int64) - (xa * v3)))), .second] [])) (fun t_ k_ => XS.lstoreN X0.here hx rfl (hb hby d5_41) rfl (l' := #[.val (.long xa), .second, .val (.long (v3 * ((2 : Int64) - (xa * v3)))), .second]) rfl k_) ?_
  obtain ⟨v4, hv4⟩ : ∃ z : Int64, z = (v3 * ((2 : Int64) - (xa * v3))) := ⟨_, rfl⟩
  rw [← hv4]
  refine own_Goes.via (T' := s₁) (g' := (mkF m 43 #[.val (.long xa), .second, .val (.long v4), .second] [(.long v4)])) (fun t_ k_ => XS.lloadN X0.here hx rfl (hb hby d5_42) rfl k_) ?_
  refine own_Goes.via (T' := s₁) (g' := (mkF m 46 #[.val (.long xa), .second, .val (.long v4), .second] [(.long (2 : Int64)), (.long v4)])) (X0.ldc2Long hx hown (mvT hZ (hw _ (List.mem_of_getElem? (i := 27) rfl))) (g := (mkF m 43 #[.val (.long xa), .second, .val (.long v4), .second] [(.long v4)])) rfl (hb hby d5_43)) ?_
  refine own_Goes.via (T' := s₁) (g' := (mkF m 47 #[.val (.long xa), .second, .val (.long v4), .second] [(.long xa), (.long (2 : Int64)), (.long v4)])) (fun t_ k_ => XS.lloadN X0.here hx rfl (hb hby d5_46) rfl k_) ?_
  refine own_Goes.via (T' := s₁) (g' := (mkF m 48 #[.val (.long xa), .second, .val (.long v4), .second] [(.long v4), (.long xa), (.long (2 : Int64)), (.long v4)])) (fun t_ k_ => XS.lloadN X0.here hx rfl (hb hby d5_47) rfl k_) ?_
  refine own_Goes.via (T' := s₁) (g' := (mkF m 49 #[.val (.long xa), .second, .val (.long v4), .second] [(.long (xa * v4)), (.long (2 : Int64)), (.long v4)])) (fun t_ k_ => XS.lmul X0.here hx rfl (hb hby d5_48) rfl k_) ?_
  refine own_Goes.via (T' := s₁) (g' := (mkF m 50 #[.val (.long xa), .second, .val (.long v4), .second] [(.long ((2 : Int64) - (xa * v4))), (.long v4)])) (fun t_ k_ => XS.lsub X0.here hx rfl (hb hby d5_49) rfl k_) ?_
  refine own_Goes.via (T' := s₁) (g' := (mkF m 51 #[.val (.long xa), .second, .val (.long v4), .second] [(.long (v4 * ((2 : Int64) - (xa * v4))))])) (fun t_ k_ => XS.lmul X0.here hx rfl (hb hby d5_50) rfl k_) ?_
  refine own_Goes.via (T' := s₁) (g' := (mkF m 52 #[.val (.long xa), .second, .val (.long (v4 * ((2 : Int64) - (xa * v4)))), .second] [])) (fun t_ k_ => XS.lstoreN X0.here hx rfl (hb hby d5_51) rfl (l' := #[.val (.long xa), .second, .val (.long (v4 * ((2 : Int64) - (xa * v4)))), .second]) rfl k_) ?_
  obtain ⟨v5, hv5⟩ : ∃ z : Int64, z = (v4 * ((2 : Int64) - (xa * v4))) := ⟨_, rfl⟩
  rw [← hv5]
  refine own_Goes.via (T' := s₁) (g' := (mkF m 53 #[.val (.long xa), .second, .val (.long v5), .second] [(.long v5)])) (fun t_ k_ => XS.lloadN X0.here hx rfl (hb hby d5_52) rfl k_) ?_
  obtain ⟨fs, hr, hrun, hended, hW, hsame⟩ := X0.leave (v := some (.long v5)) (fun h => by rw [Bd.returns] at h; cases h)
  refine own_Goes.fin (retOut X0 hx Bd.returns rfl (Or.inr (Or.inl ⟨rfl, rfl, _, rfl⟩)) (hb hby d5_53) hr) hrun hended ?_
  subst hPd
  refine ⟨_, _, rfl, ?_, ⟨_, rfl⟩, hW, hsame.mono (by decide) (by decide)⟩
  show Q5 Z xa h0 n0 _ s₁.heap _
  rw [e0]
  exact ⟨(by subst hv5; subst hv4; subst hv3; subst hv2; subst hv1; first | rfl | (simp only [own_f5])), N0, rfl⟩
theorem d4_0 : decode method_3_code 0 = .ok (.lload_n 0, 1) := by decide +kernel
theorem d4_1 : decode method_3_code 1 = .ok (.lstore_n 2, 1) := by decide +kernel
theorem d4_2 : decode method_3_code 2 = .ok (.lload_n 2, 1) := by decide +kernel
theorem d4_3 : decode method_3_code 3 = .ok (.lload_n 2, 1) := by decide +kernel
theorem d4_4 : decode method_3_code 4 = .ok (.bipush 31, 2) := by decide +kernel
theorem d4_6 : decode method_3_code 6 = .ok (.lushr, 1) := by decide +kernel
theorem d4_7 : decode method_3_code 7 = .ok (.lxor, 1) := by decide +kernel
theorem d4_8 : decode method_3_code 8 = .ok (.lload_n 2, 1) := by decide +kernel
theorem d4_9 : decode method_3_code 9 = .ok (.bipush 62, 2) := by decide +kernel
theorem d4_11 : decode method_3_code 11 = .ok (.lushr, 1) := by decide +kernel
theorem d4_12 : decode method_3_code 12 = .ok (.lxor, 1) := by decide +kernel
theorem d4_13 : decode method_3_code 13 = .ok (.lstore_n 2, 1) := by decide +kernel
theorem d4_14 : decode method_3_code 14 = .ok (.lload_n 2, 1) := by decide +kernel
theorem d4_15 : decode method_3_code 15 = .ok (.ldc2_w 9, 3) := by decide +kernel
theorem d4_18 : decode method_3_code 18 = .ok (.invokestatic 11, 3) := by decide +kernel
theorem d4_21 : decode method_3_code 21 = .ok (.lmul, 1) := by decide +kernel
theorem d4_22 : decode method_3_code 22 = .ok (.lstore_n 2, 1) := by decide +kernel
theorem d4_23 : decode method_3_code 23 = .ok (.lload_n 2, 1) := by decide +kernel
theorem d4_24 : decode method_3_code 24 = .ok (.lload_n 2, 1) := by decide +kernel
theorem d4_25 : decode method_3_code 25 = .ok (.bipush 27, 2) := by decide +kernel
theorem d4_27 : decode method_3_code 27 = .ok (.lushr, 1) := by decide +kernel
theorem d4_28 : decode method_3_code 28 = .ok (.lxor, 1) := by decide +kernel
theorem d4_29 : decode method_3_code 29 = .ok (.lload_n 2, 1) := by decide +kernel
theorem d4_30 : decode method_3_code 30 = .ok (.bipush 54, 2) := by decide +kernel
theorem d4_32 : decode method_3_code 32 = .ok (.lushr, 1) := by decide +kernel
theorem d4_33 : decode method_3_code 33 = .ok (.lxor, 1) := by decide +kernel
theorem d4_34 : decode method_3_code 34 = .ok (.lstore_n 2, 1) := by decide +kernel
theorem d4_35 : decode method_3_code 35 = .ok (.lload_n 2, 1) := by decide +kernel
theorem d4_36 : decode method_3_code 36 = .ok (.ldc2_w 17, 3) := by decide +kernel
theorem d4_39 : decode method_3_code 39 = .ok (.invokestatic 11, 3) := by decide +kernel
theorem d4_42 : decode method_3_code 42 = .ok (.lmul, 1) := by decide +kernel
theorem d4_43 : decode method_3_code 43 = .ok (.lstore_n 2, 1) := by decide +kernel
theorem d4_44 : decode method_3_code 44 = .ok (.lload_n 2, 1) := by decide +kernel
theorem d4_45 : decode method_3_code 45 = .ok (.lload_n 2, 1) := by decide +kernel
theorem d4_46 : decode method_3_code 46 = .ok (.bipush 30, 2) := by decide +kernel
theorem d4_48 : decode method_3_code 48 = .ok (.lushr, 1) := by decide +kernel
theorem d4_49 : decode method_3_code 49 = .ok (.lxor, 1) := by decide +kernel
theorem d4_50 : decode method_3_code 50 = .ok (.lload_n 2, 1) := by decide +kernel
theorem d4_51 : decode method_3_code 51 = .ok (.bipush 60, 2) := by decide +kernel
theorem d4_53 : decode method_3_code 53 = .ok (.lushr, 1) := by decide +kernel
theorem d4_54 : decode method_3_code 54 = .ok (.lxor, 1) := by decide +kernel
theorem d4_55 : decode method_3_code 55 = .ok (.lstore_n 2, 1) := by decide +kernel
theorem d4_56 : decode method_3_code 56 = .ok (.lload_n 2, 1) := by decide +kernel
theorem d4_57 : decode method_3_code 57 = .ok (.lreturn, 1) := by decide +kernel
theorem pn_4 : plainName "com/example/wattfold/wattfold/solver/RandomStreamNextLongPinLaw" = true := by first | (simp [plainName, overriddenIn]; done) | decide +kernel
theorem pd_4_0 : parseMethodDescriptor "(J)J" = some ⟨[.long], some .long⟩ := by decide +kernel
theorem ef_4 (m : MethodId) (xa : Int64) : entryFrame m #[(.long xa)] 4 = mkF m 0 #[.val (.long xa), .second, .unset, .unset] [] := by first | (simp [entryFrame, mkF, argsToLocals, Value.category]; done) | rfl
def own_f4 (xa : Int64) : Int64 := ((((((((xa ^^^ ((xa.toUInt64 >>> ((31 : Int32) &&& 0x3f).toInt64.toUInt64).toInt64)) ^^^ ((xa.toUInt64 >>> ((62 : Int32) &&& 0x3f).toInt64.toUInt64).toInt64)) * (own_f5 (-7723592293110705685 : Int64))) ^^^ (((((xa ^^^ ((xa.toUInt64 >>> ((31 : Int32) &&& 0x3f).toInt64.toUInt64).toInt64)) ^^^ ((xa.toUInt64 >>> ((62 : Int32) &&& 0x3f).toInt64.toUInt64).toInt64)) * (own_f5 (-7723592293110705685 : Int64))).toUInt64 >>> ((27 : Int32) &&& 0x3f).toInt64.toUInt64).toInt64)) ^^^ (((((xa ^^^ ((xa.toUInt64 >>> ((31 : Int32) &&& 0x3f).toInt64.toUInt64).toInt64)) ^^^ ((xa.toUInt64 >>> ((62 : Int32) &&& 0x3f).toInt64.toUInt64).toInt64)) * (own_f5 (-7723592293110705685 : Int64))).toUInt64 >>> ((54 : Int32) &&& 0x3f).toInt64.toUInt64).toInt64)) * (own_f5 (-4658895280553007687 : Int64))) ^^^ ((((((((xa ^^^ ((xa.toUInt64 >>> ((31 : Int32) &&& 0x3f).toInt64.toUInt64).toInt64)) ^^^ ((xa.toUInt64 >>> ((62 : Int32) &&& 0x3f).toInt64.toUInt64).toInt64)) * (own_f5 (-7723592293110705685 : Int64))) ^^^ (((((xa ^^^ ((xa.toUInt64 >>> ((31 : Int32) &&& 0x3f).toInt64.toUInt64).toInt64)) ^^^ ((xa.toUInt64 >>> ((62 : Int32) &&& 0x3f).toInt64.toUInt64).toInt64)) * (own_f5 (-7723592293110705685 : Int64))).toUInt64 >>> ((27 : Int32) &&& 0x3f).toInt64.toUInt64).toInt64)) ^^^ (((((xa ^^^ ((xa.toUInt64 >>> ((31 : Int32) &&& 0x3f).toInt64.toUInt64).toInt64)) ^^^ ((xa.toUInt64 >>> ((62 : Int32) &&& 0x3f).toInt64.toUInt64).toInt64)) * (own_f5 (-7723592293110705685 : Int64))).toUInt64 >>> ((54 : Int32) &&& 0x3f).toInt64.toUInt64).toInt64)) * (own_f5 (-4658895280553007687 : Int64))).toUInt64 >>> ((30 : Int32) &&& 0x3f).toInt64.toUInt64).toInt64)) ^^^ ((((((((xa ^^^ ((xa.toUInt64 >>> ((31 : Int32) &&& 0x3f).toInt64.toUInt64).toInt64)) ^^^ ((xa.toUInt64 >>> ((62 : Int32) &&& 0x3f).toInt64.toUInt64).toInt64)) * (own_f5 (-7723592293110705685 : Int64))) ^^^ (((((xa ^^^ ((xa.toUInt64 >>> ((31 : Int32) &&& 0x3f).toInt64.toUInt64).toInt64)) ^^^ ((xa.toUInt64 >>> ((62 : Int32) &&& 0x3f).toInt64.toUInt64).toInt64)) * (own_f5 (-7723592293110705685 : Int64))).toUInt64 >>> ((27 : Int32) &&& 0x3f).toInt64.toUInt64).toInt64)) ^^^ (((((xa ^^^ ((xa.toUInt64 >>> ((31 : Int32) &&& 0x3f).toInt64.toUInt64).toInt64)) ^^^ ((xa.toUInt64 >>> ((62 : Int32) &&& 0x3f).toInt64.toUInt64).toInt64)) * (own_f5 (-7723592293110705685 : Int64))).toUInt64 >>> ((54 : Int32) &&& 0x3f).toInt64.toUInt64).toInt64)) * (own_f5 (-4658895280553007687 : Int64))).toUInt64 >>> ((60 : Int32) &&& 0x3f).toInt64.toUInt64).toInt64))
def Q4 (Z : State) (xa : Int64) (h0 : Heap) (n0 : Nat) (v : Option Value) (h : Heap) (L : List Loc) : Prop := v = some (.long (own_f4 xa)) ∧ Fr n0 L ∧ h = h0
set_option maxRecDepth 65536 in
set_option maxHeartbeats 40000000 in
theorem rm4 (l : Launch) (Z : State) (a0 : Array Value) (hw : ∀ d ∈ tables_1, d.before a0 Z = true) (ws : List Jvm.Cond) (xa : Int64) (h0 : Heap) (n0 : Nat) (Z0 : n0 ≤ h0.size) :
    MetFree l (⟨"com/example/wattfold/wattfold/solver/RandomStreamNextLongPinLaw", "unmix", "(J)J"⟩ : MethodName) (head1 (Jvm.Cond.code (⟨"com/example/wattfold/wattfold/solver/RandomStreamNextLongPinLaw", "unmix", "(J)J"⟩ : MethodName) method_3_code 4 (some .long) :: ws) ({ frames := 1, cells := 0, slots := 0, locals := 17 } : Room)) (fun a U => a = #[(.long xa)] ∧ Z.Warmed39 U.vm ∧ U.heap = h0) (fun _ _ _ _ _ => True) (fun _ U o U' => ∃ v L, o = .returned v ∧ Q4 Z xa h0 n0 v U'.heap L ∧ FrameEnd U o U' L ({ frames := 1, cells := 0, slots := 0, locals := 17 } : Room).cells ({ frames := 1, cells := 0, slots := 0, locals := 17 } : Room).slots) := by
  refine MetFree.of_bodySF (plainFor_of_name pn_4) hisR ?_
  intro p e s m args below meth c s₁ Bd hml0 hP hK
  obtain ⟨rfl, hZ, hh⟩ := hP
  have hx := Bd.exec
  have hby := Bd.bytes
  have hml : c.maxLocals = 4 := hml0
  have hown : s.vm.findClass "com/example/wattfold/wattfold/solver/RandomStreamNextLongPinLaw" = some m.cls := findClass_of_methodNamed Bd.named
  have hnm := (name_of_methodNamed Bd.named Bd.method).1
  have X0 : Stand p l e ({ frames := 1, cells := 0, slots := 0, locals := 17 } : Room) s m #[(.long xa)] below meth c s₁ [] 0 0 := Stand.of_body Bd
  have e0 : s₁.heap = h0 := by rw [← hh, Bd.state]; rfl
  have N0 := Fr.nil n0
  suffices G : own_Goes p.tables e below (fun o U' => ∃ v L, o = .returned v ∧ Q4 Z xa h0 n0 v U'.heap L ∧ FrameEnd s o U' L ({ frames := 1, cells := 0, slots := 0, locals := 17 } : Room).cells ({ frames := 1, cells := 0, slots := 0, locals := 17 } : Room).slots) s₁ (mkF m 0 #[.val (.long xa), .second, .unset, .unset] []) by
    obtain ⟨t2_, o2_, z1_, z2_, z3_, z4_⟩ := G
    exact ⟨t2_, o2_, castTop (ef_4 m xa) z1_, z2_, z3_, z4_⟩
  generalize hPd : (fun (o : Outcome) (U' : State) => ∃ v L, o = .returned v ∧ Q4 Z xa h0 n0 v U'.heap L ∧ FrameEnd s o U' L ({ frames := 1, cells := 0, slots := 0, locals := 17 } : Room).cells ({ frames := 1, cells := 0, slots := 0, locals := 17 } : Room).slots) = P
  refine own_Goes.via (T' := s₁) (g' := (mkF m 1 #[.val (.long xa), .second, .unset, .unset] [(.long xa)])) (fun t_ k_ => XS.lloadN X0.here hx rfl (hb hby d4_0) rfl k_) ?_
  refine own_Goes.via (T' := s₁) (g' := (mkF m 2 #[.val (.long xa), .second, .val (.long xa), .second] [])) (fun t_ k_ => XS.lstoreN X0.here hx rfl (hb hby d4_1) rfl (l' := #[.val (.long xa), .second, .val (.long xa), .second]) rfl k_) ?_
  refine own_Goes.via (T' := s₁) (g' := (mkF m 3 #[.val (.long xa), .second, .val (.long xa), .second] [(.long xa)])) (fun t_ k_ => XS.lloadN X0.here hx rfl (hb hby d4_2) rfl k_) ?_
  refine own_Goes.via (T' := s₁) (g' := (mkF m 4 #[.val (.long xa), .second, .val (.long xa), .second] [(.long xa), (.long xa)])) (fun t_ k_ => XS.lloadN X0.here hx rfl (hb hby d4_3) rfl k_) ?_
  refine own_Goes.via (T' := s₁) (g' := (mkF m 6 #[.val (.long xa), .second, .val (.long xa), .second] [(.int (31 : Int32)), (.long xa), (.long xa)])) (fun t_ k_ => XS.bipush X0.here hx rfl (hb hby d4_4) k_) ?_
  refine own_Goes.via (T' := s₁) (g' := (mkF m 7 #[.val (.long xa), .second, .val (.long xa), .second] [(.long ((xa.toUInt64 >>> ((31 : Int32) &&& 0x3f).toInt64.toUInt64).toInt64)), (.long xa)])) (fun t_ k_ => XS.lushr X0.here hx rfl (hb hby d4_6) rfl k_) ?_
  refine own_Goes.via (T' := s₁) (g' := (mkF m 8 #[.val (.long xa), .second, .val (.long xa), .second] [(.long (xa ^^^ ((xa.toUInt64 >>> ((31 : Int32) &&& 0x3f).toInt64.toUInt64).toInt64)))])) (fun t_ k_ => XS.lxor X0.here hx rfl (hb hby d4_7) rfl k_) ?_
  refine own_Goes.via (T' := s₁) (g' := (mkF m 9 #[.val (.long xa), .second, .val (.long xa), .second] [(.long xa), (.long (xa ^^^ ((xa.toUInt64 >>> ((31 : Int32) &&& 0x3f).toInt64.toUInt64).toInt64)))])) (fun t_ k_ => XS.lloadN X0.here hx rfl (hb hby d4_8) rfl k_) ?_
  refine own_Goes.via (T' := s₁) (g' := (mkF m 11 #[.val (.long xa), .second, .val (.long xa), .second] [(.int (62 : Int32)), (.long xa), (.long (xa ^^^ ((xa.toUInt64 >>> ((31 : Int32) &&& 0x3f).toInt64.toUInt64).toInt64)))])) (fun t_ k_ => XS.bipush X0.here hx rfl (hb hby d4_9) k_) ?_
  refine own_Goes.via (T' := s₁) (g' := (mkF m 12 #[.val (.long xa), .second, .val (.long xa), .second] [(.long ((xa.toUInt64 >>> ((62 : Int32) &&& 0x3f).toInt64.toUInt64).toInt64)), (.long (xa ^^^ ((xa.toUInt64 >>> ((31 : Int32) &&& 0x3f).toInt64.toUInt64).toInt64)))])) (fun t_ k_ => XS.lushr X0.here hx rfl (hb hby d4_11) rfl k_) ?_
  refine own_Goes.via (T' := s₁) (g' := (mkF m 13 #[.val (.long xa), .second, .val (.long xa), .second] [(.long ((xa ^^^ ((xa.toUInt64 >>> ((31 : Int32) &&& 0x3f).toInt64.toUInt64).toInt64)) ^^^ ((xa.toUInt64 >>> ((62 : Int32) &&& 0x3f).toInt64.toUInt64).toInt64)))])) (fun t_ k_ => XS.lxor X0.here hx rfl (hb hby d4_12) rfl k_) ?_
  refine own_Goes.via (T' := s₁) (g' := (mkF m 14 #[.val (.long xa), .second, .val (.long ((xa ^^^ ((xa.toUInt64 >>> ((31 : Int32) &&& 0x3f).toInt64.toUInt64).toInt64)) ^^^ ((xa.toUInt64 >>> ((62 : Int32) &&& 0x3f).toInt64.toUInt64).toInt64))), .second] [])) (fun t_ k_ => XS.lstoreN X0.here hx rfl (hb hby d4_13) rfl (l' := #[.val (.long xa), .second, .val (.long ((xa ^^^ ((xa.toUInt64 >>> ((31 : Int32) &&& 0x3f).toInt64.toUInt64).toInt64)) ^^^ ((xa.toUInt64 >>> ((62 : Int32) &&& 0x3f).toInt64.toUInt64).toInt64))), .second]) rfl k_) ?_
  obtain ⟨v1, hv1⟩ : ∃ z : Int64, z = ((xa ^^^ ((xa.toUInt64 >>> ((31 : Int32) &&& 0x3f).toInt64.toUInt64).toInt64)) ^^^ ((xa.toUInt64 >>> ((62 : Int32) &&& 0x3f).toInt64.toUInt64).toInt64)) := ⟨_, rfl⟩
  rw [← hv1]
  refine own_Goes.via (T' := s₁) (g' := (mkF m 15 #[.val (.long xa), .second, .val (.long v1), .second] [(.long v1)])) (fun t_ k_ => XS.lloadN X0.here hx rfl (hb hby d4_14) rfl k_) ?_
  refine own_Goes.via (T' := s₁) (g' := (mkF m 18 #[.val (.long xa), .second, .val (.long v1), .second] [(.long (-7723592293110705685 : Int64)), (.long v1)])) (X0.ldc2Long hx hown (mvT hZ (hw _ (List.mem_of_getElem? (i := 23) rfl))) (g := (mkF m 15 #[.val (.long xa), .second, .val (.long v1), .second] [(.long v1)])) rfl (hb hby d4_15)) ?_
  obtain ⟨_, _, ⟨T2, L2, k2, n2⟩, -, X2, ⟨Lc2, hQ2, l2, y2, z2⟩, st2⟩ := Jvm.LawKit.callS X0 hx (y := (⟨"com/example/wattfold/wattfold/solver/RandomStreamNextLongPinLaw", "inverse", "(J)J"⟩ : MethodName)) hown (mvT hZ (hw _ (List.mem_of_getElem? (i := 24) rfl))) (mvT hZ (hw _ (List.mem_of_getElem? (i := 25) rfl))) (mvT hZ (hw _ (List.mem_of_getElem? (i := 21) rfl))) (mvT hZ (hw _ (List.mem_of_getElem? (i := 26) rfl))) (by decide) (backOf (W := 2) (rm5 l Z a0 hw [] (-7723592293110705685 : Int64) h0 n0 Z0 ) hZ (hw _ (List.mem_of_getElem? (i := 26) rfl)) (hw _ (List.mem_of_getElem? (i := 21) rfl)) (by decide) (by decide)) (g := (mkF m 18 #[.val (.long xa), .second, .val (.long v1), .second] [(.long (-7723592293110705685 : Int64)), (.long v1)])) rfl (by rw [hml]; rfl) (argsL := [(.long (-7723592293110705685 : Int64))]) (rest := [(.long v1)]) (lenOf pd_4_0 rfl) rfl (by show 2 * 0 + _ ≤ _; exact Nat.le_of_eq rfl) (hb hby d4_18) (fun _ _ => ⟨rfl, e0, (by decide : 0 + 0 ≤ _), (by decide : 0 + 0 ≤ _)⟩)
  dsimp only [Pt.U, Pt.locs, Pt.cells, Pt.slots] at X2 l2 y2 z2 st2 hQ2
  subst l2 y2 z2
  obtain ⟨rfl, Nq2, hh2⟩ := hQ2
  have N2 := Fr.app N0 Nq2
  refine own_Goes.via (T' := T2) (g' := (mkF m 21 #[.val (.long xa), .second, .val (.long v1), .second] [(.long (own_f5 (-7723592293110705685 : Int64))), (.long v1)])) (st2) ?_
  obtain ⟨v3, hv3⟩ : ∃ z : Int64, z = (own_f5 (-7723592293110705685 : Int64)) := ⟨_, rfl⟩
  rw [← hv3]
  refine own_Goes.via (T' := T2) (g' := (mkF m 22 #[.val (.long xa), .second, .val (.long v1), .second] [(.long (v1 * v3))])) (fun t_ k_ => XS.lmul X2.here hx rfl (hb hby d4_21) rfl k_) ?_
  refine own_Goes.via (T' := T2) (g' := (mkF m 23 #[.val (.long xa), .second, .val (.long (v1 * v3)), .second] [])) (fun t_ k_ => XS.lstoreN X2.here hx rfl (hb hby d4_22) rfl (l' := #[.val (.long xa), .second, .val (.long (v1 * v3)), .second]) rfl k_) ?_
  obtain ⟨v4, hv4⟩ : ∃ z : Int64, z = (v1 * v3) := ⟨_, rfl⟩
  rw [← hv4]
  refine own_Goes.via (T' := T2) (g' := (mkF m 24 #[.val (.long xa), .second, .val (.long v4), .second] [(.long v4)])) (fun t_ k_ => XS.lloadN X2.here hx rfl (hb hby d4_23) rfl k_) ?_
  refine own_Goes.via (T' := T2) (g' := (mkF m 25 #[.val (.long xa), .second, .val (.long v4), .second] [(.long v4), (.long v4)])) (fun t_ k_ => XS.lloadN X2.here hx rfl (hb hby d4_24) rfl k_) ?_
  refine own_Goes.via (T' := T2) (g' := (mkF m 27 #[.val (.long xa), .second, .val (.long v4), .second] [(.int (27 : Int32)), (.long v4), (.long v4)])) (fun t_ k_ => XS.bipush X2.here hx rfl (hb hby d4_25) k_) ?_
  refine own_Goes.via (T' := T2) (g' := (mkF m 28 #[.val (.long xa), .second, .val (.long v4), .second] [(.long ((v4.toUInt64 >>> ((27 : Int32) &&& 0x3f).toInt64.toUInt64).toInt64)), (.long v4)])) (fun t_ k_ => XS.lushr X2.here hx rfl (hb hby d4_27) rfl k_) ?_
  refine own_Goes.via (T' := T2) (g' := (mkF m 29 #[.val (.long xa), .second, .val (.long v4), .second] [(.long (v4 ^^^ ((v4.toUInt64 >>> ((27 : Int32) &&& 0x3f).toInt64.toUInt64).toInt64)))])) (fun t_ k_ => XS.lxor X2.here hx rfl (hb hby d4_28) rfl k_) ?_
  refine own_Goes.via (T' := T2) (g' := (mkF m 30 #[.val (.long xa), .second, .val (.long v4), .second] [(.long v4), (.long (v4 ^^^ ((v4.toUInt64 >>> ((27 : Int32) &&& 0x3f).toInt64.toUInt64).toInt64)))])) (fun t_ k_ => XS.lloadN X2.here hx rfl (hb hby d4_29) rfl k_) ?_
  refine own_Goes.via (T' := T2) (g' := (mkF m 32 #[.val (.long xa), .second, .val (.long v4), .second] [(.int (54 : Int32)), (.long v4), (.long (v4 ^^^ ((v4.toUInt64 >>> ((27 : Int32) &&& 0x3f).toInt64.toUInt64).toInt64)))])) (fun t_ k_ => XS.bipush X2.here hx rfl (hb hby d4_30) k_) ?_
  refine own_Goes.via (T' := T2) (g' := (mkF m 33 #[.val (.long xa), .second, .val (.long v4), .second] [(.long ((v4.toUInt64 >>> ((54 : Int32) &&& 0x3f).toInt64.toUInt64).toInt64)), (.long (v4 ^^^ ((v4.toUInt64 >>> ((27 : Int32) &&& 0x3f).toInt64.toUInt64).toInt64)))])) (fun t_ k_ => XS.lushr X2.here hx rfl (hb hby d4_32) rfl k_) ?_
  refine own_Goes.via (T' := T2) (g' := (mkF m 34 #[.val (.long xa), .second, .val (.long v4), .second] [(.long ((v4 ^^^ ((v4.toUInt64 >>> ((27 : Int32) &&& 0x3f).toInt64.toUInt64).toInt64)) ^^^ ((v4.toUInt64 >>> ((54 : Int32) &&& 0x3f).toInt64.toUInt64).toInt64)))])) (fun t_ k_ => XS.lxor X2.here hx rfl (hb hby d4_33) rfl k_) ?_
  refine own_Goes.via (T' := T2) (g' := (mkF m 35 #[.val (.long xa), .second, .val (.long ((v4 ^^^ ((v4.toUInt64 >>> ((27 : Int32) &&& 0x3f).toInt64.toUInt64).toInt64)) ^^^ ((v4.toUInt64 >>> ((54 : Int32) &&& 0x3f).toInt64.toUInt64).toInt64))), .second] [])) (fun t_ k_ => XS.lstoreN X2.here hx rfl (hb hby d4_34) rfl (l' := #[.val (.long xa), .second, .val (.long ((v4 ^^^ ((v4.toUInt64 >>> ((27 : Int32) &&& 0x3f).toInt64.toUInt64).toInt64)) ^^^ ((v4.toUInt64 >>> ((54 : Int32) &&& 0x3f).toInt64.toUInt64).toInt64))), .second]) rfl k_) ?_
  obtain ⟨v5, hv5⟩ : ∃ z : Int64, z = ((v4 ^^^ ((v4.toUInt64 >>> ((27 : Int32) &&& 0x3f).toInt64.toUInt64).toInt64)) ^^^ ((v4.toUInt64 >>> ((54 : Int32) &&& 0x3f).toInt64.toUInt64).toInt64)) := ⟨_, rfl⟩
  rw [← hv5]
  refine own_Goes.via (T' := T2) (g' := (mkF m 36 #[.val (.long xa), .second, .val (.long v5), .second] [(.long v5)])) (fun t_ k_ => XS.lloadN X2.here hx rfl (hb hby d4_35) rfl k_) ?_
  refine own_Goes.via (T' := T2) (g' := (mkF m 39 #[.val (.long xa), .second, .val (.long v5), .second] [(.long (-4658895280553007687 : Int64)), (.long v5)])) (X2.ldc2Long hx hown (mvT hZ (hw _ (List.mem_of_getElem? (i := 28) rfl))) (g := (mkF m 36 #[.val (.long xa), .second, .val (.long v5), .second] [(.long v5)])) rfl (hb hby d4_36)) ?_
  obtain ⟨_, _, ⟨T6, L6, k6, n6⟩, -, X6, ⟨Lc6, hQ6, l6, y6, z6⟩, st6⟩ := Jvm.LawKit.callS X2 hx (y := (⟨"com/example/wattfold/wattfold/solver/RandomStreamNextLongPinLaw", "inverse", "(J)J"⟩ : MethodName)) hown (mvT hZ (hw _ (List.mem_of_getElem? (i := 24) rfl))) (mvT hZ (hw _ (List.mem_of_getElem? (i := 25) rfl))) (mvT hZ (hw _ (List.mem_of_getElem? (i := 21) rfl))) (mvT hZ (hw _ (List.mem_of_getElem? (i := 26) rfl))) (by decide) (backOf (W := 2) (rm5 l Z a0 hw [] (-4658895280553007687 : Int64) h0 n0 Z0 ) hZ (hw _ (List.mem_of_getElem? (i := 26) rfl)) (hw _ (List.mem_of_getElem? (i := 21) rfl)) (by decide) (by decide)) (g := (mkF m 39 #[.val (.long xa), .second, .val (.long v5), .second] [(.long (-4658895280553007687 : Int64)), (.long v5)])) rfl (by rw [hml]; rfl) (argsL := [(.long (-4658895280553007687 : Int64))]) (rest := [(.long v5)]) (lenOf pd_4_0 rfl) rfl (by show 2 * 0 + _ ≤ _; exact Nat.le_of_eq rfl) (hb hby d4_39) (fun _ _ => ⟨rfl, hh2, (by decide : 0 + 0 ≤ _), (by decide : 0 + 0 ≤ _)⟩)
  dsimp only [Pt.U, Pt.locs, Pt.cells, Pt.slots] at X6 l6 y6 z6 st6 hQ6
  subst l6 y6 z6
  obtain ⟨rfl, Nq6, hh6⟩ := hQ6
  have N6 := Fr.app N2 Nq6
  refine own_Goes.via (T' := T6) (g' := (mkF m 42 #[.val (.long xa), .second, .val (.long v5), .second] [(.long (own_f5 (-4658895280553007687 : Int64))), (.long v5)])) (st6) ?_
  obtain ⟨v7, hv7⟩ : ∃ z : Int64, z = (own_f5 (-4658895280553007687 : Int64)) := ⟨_, rfl⟩
  rw [← hv7]
  refine own_Goes.via (T' := T6) (g' := (mkF m 43 #[.val (.long xa), .second, .val (.long v5), .second] [(.long (v5 * v7))])) (fun t_ k_ => XS.lmul X6.here hx rfl (hb hby d4_42) rfl k_) ?_
  refine own_Goes.via (T' := T6) (g' := (mkF m 44 #[.val (.long xa), .second, .val (.long (v5 * v7)), .second] [])) (fun t_ k_ => XS.lstoreN X6.here hx rfl (hb hby d4_43) rfl (l' := #[.val (.long xa), .second, .val (.long (v5 * v7)), .second]) rfl k_) ?_
  obtain ⟨v8, hv8⟩ : ∃ z : Int64, z = (v5 * v7) := ⟨_, rfl⟩
  rw [← hv8]
  refine own_Goes.via (T' := T6) (g' := (mkF m 45 #[.val (.long xa), .second, .val (.long v8), .second] [(.long v8)])) (fun t_ k_ => XS.lloadN X6.here hx rfl (hb hby d4_44) rfl k_) ?_
  refine own_Goes.via (T' := T6) (g' := (mkF m 46 #[.val (.long xa), .second, .val (.long v8), .second] [(.long v8), (.long v8)])) (fun t_ k_ => XS.lloadN X6.here hx rfl (hb hby d4_45) rfl k_) ?_
  refine own_Goes.via (T' := T6) (g' := (mkF m 48 #[.val (.long xa), .second, .val (.long v8), .second] [(.int (30 : Int32)), (.long v8), (.long v8)])) (fun t_ k_ => XS.bipush X6.here hx rfl (hb hby d4_46) k_) ?_
  refine own_Goes.via (T' := T6) (g' := (mkF m 49 #[.val (.long xa), .second, .val (.long v8), .second] [(.long ((v8.toUInt64 >>> ((30 : Int32) &&& 0x3f).toInt64.toUInt64).toInt64)), (.long v8)])) (fun t_ k_ => XS.lushr X6.here hx rfl (hb hby d4_48) rfl k_) ?_
  refine own_Goes.via (T' := T6) (g' := (mkF m 50 #[.val (.long xa), .second, .val (.long v8), .second] [(.long (v8 ^^^ ((v8.toUInt64 >>> ((30 : Int32) &&& 0x3f).toInt64.toUInt64).toInt64)))])) (fun t_ k_ => XS.lxor X6.here hx rfl (hb hby d4_49) rfl k_) ?_
  refine own_Goes.via (T' := T6) (g' := (mkF m 51 #[.val (.long xa), .second, .val (.long v8), .second] [(.long v8), (.long (v8 ^^^ ((v8.toUInt64 >>> ((30 : Int32) &&& 0x3f).toInt64.toUInt64).toInt64)))])) (fun t_ k_ => XS.lloadN X6.here hx rfl (hb hby d4_50) rfl k_) ?_
  refine own_Goes.via (T' := T6) (g' := (mkF m 53 #[.val (.long xa), .second, .val (.long v8), .second] [(.int (60 : Int32)), (.long v8), (.long (v8 ^^^ ((v8.toUInt64 >>> ((30 : Int32) &&& 0x3f).toInt64.toUInt64).toInt64)))])) (fun t_ k_ => XS.bipush X6.here hx rfl (hb hby d4_51) k_) ?_
  refine own_Goes.via (T' := T6) (g' := (mkF m 54 #[.val (.long xa), .second, .val (.long v8), .second] [(.long ((v8.toUInt64 >>> ((60 : Int32) &&& 0x3f).toInt64.toUInt64).toInt64)), (.long (v8 ^^^ ((v8.toUInt64 >>> ((30 : Int32) &&& 0x3f).toInt64.toUInt64).toInt64)))])) (fun t_ k_ => XS.lushr X6.here hx rfl (hb hby d4_53) rfl k_) ?_
  refine own_Goes.via (T' := T6) (g' := (mkF m 55 #[.val (.long xa), .second, .val (.long v8), .second] [(.long ((v8 ^^^ ((v8.toUInt64 >>> ((30 : Int32) &&& 0x3f).toInt64.toUInt64).toInt64)) ^^^ ((v8.toUInt64 >>> ((60 : Int32) &&& 0x3f).toInt64.toUInt64).toInt64)))])) (fun t_ k_ => XS.lxor X6.here hx rfl (hb hby d4_54) rfl k_) ?_
  refine own_Goes.via (T' := T6) (g' := (mkF m 56 #[.val (.long xa), .second, .val (.long ((v8 ^^^ ((v8.toUInt64 >>> ((30 : Int32) &&& 0x3f).toInt64.toUInt64).toInt64)) ^^^ ((v8.toUInt64 >>> ((60 : Int32) &&& 0x3f).toInt64.toUInt64).toInt64))), .second] [])) (fun t_ k_ => XS.lstoreN X6.here hx rfl (hb hby d4_55) rfl (l' := #[.val (.long xa), .second, .val (.long ((v8 ^^^ ((v8.toUInt64 >>> ((30 : Int32) &&& 0x3f).toInt64.toUInt64).toInt64)) ^^^ ((v8.toUInt64 >>> ((60 : Int32) &&& 0x3f).toInt64.toUInt64).toInt64))), .second]) rfl k_) ?_
  obtain ⟨v9, hv9⟩ : ∃ z : Int64, z = ((v8 ^^^ ((v8.toUInt64 >>> ((30 : Int32) &&& 0x3f).toInt64.toUInt64).toInt64)) ^^^ ((v8.toUInt64 >>> ((60 : Int32) &&& 0x3f).toInt64.toUInt64).toInt64)) := ⟨_, rfl⟩
  rw [← hv9]
  refine own_Goes.via (T' := T6) (g' := (mkF m 57 #[.val (.long xa), .second, .val (.long v9), .second] [(.long v9)])) (fun t_ k_ => XS.lloadN X6.here hx rfl (hb hby d4_56) rfl k_) ?_
  obtain ⟨fs, hr, hrun, hended, hW, hsame⟩ := X6.leave (v := some (.long v9)) (fun h => by rw [Bd.returns] at h; cases h)
  refine own_Goes.fin (retOut X6 hx Bd.returns rfl (Or.inr (Or.inl ⟨rfl, rfl, _, rfl⟩)) (hb hby d4_57) hr) hrun hended ?_
  subst hPd
  refine ⟨_, _, rfl, ?_, ⟨_, rfl⟩, hW, hsame.mono (by decide) (by decide)⟩
  show Q4 Z xa h0 n0 _ T6.heap _
  rw [hh6]
  exact ⟨(by subst hv9; subst hv8; subst hv7; subst hv5; subst hv4; subst hv3; subst hv1; first | rfl | (simp only [own_f4])), N6, rfl⟩
theorem own_m1 : (-4658895280553007687 : Int64) * own_f5 (-4658895280553007687 : Int64) = 1 := by decide +kernel
theorem own_m2 : (-7723592293110705685 : Int64) * own_f5 (-7723592293110705685 : Int64) = 1 := by decide +kernel
theorem own_unmix (z : Int64) : own_f4 (own_X31 (own_X27 (own_X30 z * (-4658895280553007687 : Int64)) * (-7723592293110705685 : Int64))) = z := by
  have e : ∀ a, own_f4 a = own_U30 (own_U27 (own_U31 a * own_f5 (-7723592293110705685 : Int64)) * own_f5 (-4658895280553007687 : Int64)) := fun _ => rfl
  rw [e, own_U31_inv, Int64.mul_assoc, own_m2, Int64.mul_one, own_U27_inv, Int64.mul_assoc, own_m1, Int64.mul_one, own_U30_inv]
theorem own_mix (s : Int64) : own_f3 s = own_X31 (own_X27 (own_X30 (s + (-7046029254386353131 : Int64)) * (-4658895280553007687 : Int64)) * (-7723592293110705685 : Int64)) := rfl
theorem pn_0 : plainName "com/example/wattfold/wattfold/solver/RandomStreamNextLongPinLaw" = true := by first | (simp [plainName, overriddenIn]; done) | decide +kernel
theorem pd_0_0 : parseMethodDescriptor "(J)V" = some ⟨[.long], none⟩ := by decide +kernel
theorem pd_0_1 : parseMethodDescriptor "()J" = some ⟨[], some .long⟩ := by decide +kernel
theorem pd_0_2 : parseMethodDescriptor "(J)J" = some ⟨[.long], some .long⟩ := by decide +kernel
theorem ef_0 (m : MethodId) (xs : Int64) : entryFrame m #[(.long xs)] maxLocals = mkF m 0 #[.val (.long xs), .second, .unset, .unset, .unset, .unset, .unset] [] := by first | (simp [entryFrame, mkF, argsToLocals, Value.category, maxLocals]; done) | rfl
def Q0 (Z : State) (xs : Int64) (h0 : Heap) (n0 : Nat) (v : Option Value) (h : Heap) (L : List Loc) : Prop := v = some (.int 1) ∧ Fr n0 L
set_option maxRecDepth 65536 in
theorem own_pl0_0 {xs : Int64} {v8 : Int64} {v11 : Int64} {v13 : Int64} {v52_15 : Int32} (hv8 : v8 = (own_f3 xs)) (hv11 : v11 = (own_f3 (own_st3 xs))) (hv13 : v13 = (own_f4 v8)) (hv52_15 : v52_15 = (if v13 = (xs + (-7046029254386353131 : Int64)) then (if (own_f4 v11) = (xs + (4354685564936845354 : Int64)) then (1 : Int32) else (0 : Int32)) else (0 : Int32))) : v52_15 = 1 := by
  have a13 : v13 = xs + (-7046029254386353131 : Int64) := by rw [hv13, hv8, own_mix, own_unmix]
  have a11 : own_f4 v11 = xs + (4354685564936845354 : Int64) := by
    rw [hv11, own_mix, own_unmix]
    show (xs + (-7046029254386353131 : Int64)) + (-7046029254386353131 : Int64) = _
    rw [Int64.add_assoc]
    rfl
  rw [hv52_15, a13, a11, if_pos rfl, if_pos rfl]
set_option maxRecDepth 65536 in
set_option maxHeartbeats 40000000 in
theorem rm0 (l : Launch) (Z : State) (a0 : Array Value) (hw : ∀ d ∈ tables_1, d.before a0 Z = true) (ws : List Jvm.Cond) (xs : Int64) (h0 : Heap) (n0 : Nat) (Z0 : n0 ≤ h0.size) :
    MetFree l x (head1 (Jvm.Cond.code x code maxLocals ret :: ws) room_1) (fun a U => a = #[(.long xs)] ∧ Z.Warmed39 U.vm ∧ U.heap = h0) (fun _ _ _ _ _ => True) (fun _ U o U' => ∃ v L, o = .returned v ∧ Q0 Z xs h0 n0 v U'.heap L ∧ FrameEnd U o U' L 1 1) := by
  refine MetFree.of_bodySF (plainFor_of_name pn_0) hisR ?_
  intro p e s m args below meth c s₁ Bd hml0 hP hK
  obtain ⟨rfl, hZ, hh⟩ := hP
  have hx := Bd.exec
  have hby := Bd.bytes
  have hml : c.maxLocals = 7 := hml0
  have hown : s.vm.findClass "com/example/wattfold/wattfold/solver/RandomStreamNextLongPinLaw" = some m.cls := findClass_of_methodNamed Bd.named
  have hnm := (name_of_methodNamed Bd.named Bd.method).1
  have X0 : Stand p l e room_1 s m #[(.long xs)] below meth c s₁ [] 0 0 := Stand.of_body Bd
  have e0 : s₁.heap = h0 := by rw [← hh, Bd.state]; rfl
  have N0 := Fr.nil n0
  suffices G : own_Goes p.tables e below (fun o U' => ∃ v L, o = .returned v ∧ Q0 Z xs h0 n0 v U'.heap L ∧ FrameEnd s o U' L 1 1) s₁ (mkF m 0 #[.val (.long xs), .second, .unset, .unset, .unset, .unset, .unset] []) by
    obtain ⟨t2_, o2_, z1_, z2_, z3_, z4_⟩ := G
    exact ⟨t2_, o2_, castTop (ef_0 m xs) z1_, z2_, z3_, z4_⟩
  generalize hPd : (fun (o : Outcome) (U' : State) => ∃ v L, o = .returned v ∧ Q0 Z xs h0 n0 v U'.heap L ∧ FrameEnd s o U' L 1 1) = P
  obtain ⟨T1, h1, X1, e1, E1, A1, D1, -, st1⟩ := newO X0 hx hZ hown (hw _ (List.mem_of_getElem? (i := 0) rfl)) (hw _ (List.mem_of_getElem? (i := 1) rfl)) (hw _ (List.mem_of_getElem? (i := 2) rfl)) e0 (g := (mkF m 0 #[.val (.long xs), .second, .unset, .unset, .unset, .unset, .unset] [])) rfl (hb hby at_0) (by decide) (by decide)
  obtain ⟨b1, g1⟩ : ∃ z, z = h0.size := ⟨_, rfl⟩
  rw [← g1] at A1 D1 st1
  have ge_b1 : n0 ≤ b1 := Nat.le_trans Z0 (Nat.le_of_eq g1.symm)
  have sz_b1 : h0.size ≤ b1 := Nat.le_trans ((Keep.refl h0 [])).1 (Nat.le_of_eq g1.symm)
  have sz1 : n0 ≤ h1.size := Nat.le_trans Z0 E1.1
  have K1 : Keep h0 h1 [] := ((Keep.refl h0 [])).ext E1
  have E2 : Exa Z h1 b1 "com/example/wattfold/wattfold/solver/RandomStream" := A1
  have F3 : Fld Z h1 b1 "com/example/wattfold/wattfold/solver/RandomStream" "state" "J" (.long (0 : Int64)) := D1 (Or.inl (hw _ (List.mem_of_getElem? (i := 10) rfl))) (ty := .long) (by decide)
  refine own_Goes.via (T' := T1) (g' := (mkF m 3 #[.val (.long xs), .second, .unset, .unset, .unset, .unset, .unset] [(.ref b1)])) (st1) ?_
  refine own_Goes.via (T' := T1) (g' := (mkF m 4 #[.val (.long xs), .second, .unset, .unset, .unset, .unset, .unset] [(.ref b1), (.ref b1)])) (fun t_ k_ => XS.dup X1.here hx rfl (hb hby at_3) rfl rfl k_) ?_
  refine own_Goes.via (T' := T1) (g' := (mkF m 5 #[.val (.long xs), .second, .unset, .unset, .unset, .unset, .unset] [(.long xs), (.ref b1), (.ref b1)])) (fun t_ k_ => XS.lloadN X1.here hx rfl (hb hby at_4) rfl k_) ?_
  obtain ⟨_, _, ⟨T4, L4, k4, n4⟩, -, X4, ⟨Lc4, hQ4, l4, y4, z4⟩, st4⟩ := X1.specialBack hx (y := (⟨"com/example/wattfold/wattfold/solver/RandomStream", "<init>", "(J)V"⟩ : MethodName)) rfl hown (mvT hZ (hw _ (List.mem_of_getElem? (i := 3) rfl))) (mvT hZ (hw _ (List.mem_of_getElem? (i := 4) rfl))) (mvT hZ (hw _ (List.mem_of_getElem? (i := 5) rfl))) (by decide) (backOf (W := 1) (rm1 l Z a0 hw [] b1 xs h1 n0 sz1 E2 F3 ge_b1) hZ (hw _ (List.mem_of_getElem? (i := 5) rfl)) (hw _ (List.mem_of_getElem? (i := 2) rfl)) (by decide) (by decide)) (g := (mkF m 5 #[.val (.long xs), .second, .unset, .unset, .unset, .unset, .unset] [(.long xs), (.ref b1), (.ref b1)])) rfl (by rw [hml]; rfl) (Steps.refl _) (a := b1) (argsL := [(.long xs)]) (rest := [(.ref b1)]) (lenOf pd_0_0 rfl) rfl (by show 2 * 0 + _ ≤ _; exact Nat.le_of_eq rfl) (hb hby at_5) (fun _ _ => ⟨rfl, e1, (by decide : 1 + 0 ≤ _), (by decide : 1 + 0 ≤ _)⟩)
  dsimp only [Pt.U, Pt.locs, Pt.cells, Pt.slots] at X4 l4 y4 z4 st4 hQ4
  subst l4 y4 z4
  obtain ⟨rfl, Nq4, Kq4, pf4_0, pf4_1⟩ := hQ4
  have N4 := Fr.app N0 Nq4
  have E5 : Exa Z T4.heap b1 "com/example/wattfold/wattfold/solver/RandomStream" := E2.keep Kq4
  have sz4 : n0 ≤ T4.heap.size := Nat.le_trans sz1 Kq4.1
  have K4 : Keep h0 T4.heap [] := (K1).trans Kq4 (allS (Or.inr sz_b1) all0)
  refine own_Goes.via (T' := T4) (g' := (mkF m 8 #[.val (.long xs), .second, .unset, .unset, .unset, .unset, .unset] [(.ref b1)])) (fun t_ k_ => st4.trans k_) ?_
  refine own_Goes.via (T' := T4) (g' := (mkF m 9 #[.val (.long xs), .second, .val (.ref b1), .unset, .unset, .unset, .unset] [])) (fun t_ k_ => XS.astoreN X4.here hx rfl (hb hby at_8) rfl rfl (l' := #[.val (.long xs), .second, .val (.ref b1), .unset, .unset, .unset, .unset]) rfl k_) ?_
  refine own_Goes.via (T' := T4) (g' := (mkF m 10 #[.val (.long xs), .second, .val (.ref b1), .unset, .unset, .unset, .unset] [(.ref b1)])) (fun t_ k_ => XS.aloadN X4.here hx rfl (hb hby at_9) rfl rfl k_) ?_
  obtain ⟨cq6, kq6, q6a, q6b, q6c⟩ := isOf hZ rfl pf4_0
  obtain ⟨_, _, ⟨T6, L6, k6, n6⟩, -, X6, ⟨Lc6, hQ6, l6, y6, z6⟩, st6⟩ := X4.virtualBack hx (y := (⟨"com/example/wattfold/wattfold/solver/RandomStream", "nextLong", "()J"⟩ : MethodName)) (z := (⟨"com/example/wattfold/wattfold/solver/RandomStream", "nextLong", "()J"⟩ : MethodName)) hown (mvT hZ (hw _ (List.mem_of_getElem? (i := 11) rfl))) (mvT hZ (hw _ (List.mem_of_getElem? (i := 12) rfl))) (notFace_of_selects (args := #[]) (mvT hZ (hw _ (List.mem_of_getElem? (i := 14) rfl)))) (mvT hZ (hw _ (List.mem_of_getElem? (i := 14) rfl))) (mvT hZ (hw _ (List.mem_of_getElem? (i := 13) rfl))) (by decide) (backOf (W := 0) (rm3 l Z a0 hw [] b1 xs T4.heap n0 sz4 pf4_0 pf4_1 ge_b1) hZ (hw _ (List.mem_of_getElem? (i := 15) rfl)) (hw _ (List.mem_of_getElem? (i := 2) rfl)) (by decide) (by decide)) q6a q6c (g := (mkF m 10 #[.val (.long xs), .second, .val (.ref b1), .unset, .unset, .unset, .unset] [(.ref b1)])) rfl (by rw [hml]; rfl) (Steps.refl _) (argsL := []) (rest := []) (lenOf pd_0_1 rfl) rfl (by show 2 * 0 + _ ≤ _; exact Nat.le_of_eq rfl) (hb hby at_10) (fun _ _ => ⟨rfl, rfl, (by decide : 1 + 0 ≤ _), (by decide : 1 + 0 ≤ _)⟩)
  dsimp only [Pt.U, Pt.locs, Pt.cells, Pt.slots] at X6 l6 y6 z6 st6 hQ6
  subst l6 y6 z6
  obtain ⟨rfl, Nq6, Kq6, pf6_0, pf6_1⟩ := hQ6
  have N6 := Fr.app N4 Nq6
  have E7 : Exa Z T6.heap b1 "com/example/wattfold/wattfold/solver/RandomStream" := pf4_0.keep Kq6
  have sz6 : n0 ≤ T6.heap.size := Nat.le_trans sz4 Kq6.1
  have K6 : Keep h0 T6.heap [] := (K4).trans Kq6 (allS (Or.inr sz_b1) all0)
  refine own_Goes.via (T' := T6) (g' := (mkF m 13 #[.val (.long xs), .second, .val (.ref b1), .unset, .unset, .unset, .unset] [(.long (own_f3 xs))])) (fun t_ k_ => st6.trans k_) ?_
  obtain ⟨v8, hv8⟩ : ∃ z : Int64, z = (own_f3 xs) := ⟨_, rfl⟩
  rw [← hv8]
  refine own_Goes.via (T' := T6) (g' := (mkF m 14 #[.val (.long xs), .second, .val (.ref b1), .val (.long v8), .second, .unset, .unset] [])) (fun t_ k_ => XS.lstoreN X6.here hx rfl (hb hby at_13) rfl (l' := #[.val (.long xs), .second, .val (.ref b1), .val (.long v8), .second, .unset, .unset]) rfl k_) ?_
  refine own_Goes.via (T' := T6) (g' := (mkF m 15 #[.val (.long xs), .second, .val (.ref b1), .val (.long v8), .second, .unset, .unset] [(.ref b1)])) (fun t_ k_ => XS.aloadN X6.here hx rfl (hb hby at_14) rfl rfl k_) ?_
  obtain ⟨cq9, kq9, q9a, q9b, q9c⟩ := isOf hZ rfl pf6_0
  obtain ⟨_, _, ⟨T9, L9, k9, n9⟩, -, X9, ⟨Lc9, hQ9, l9, y9, z9⟩, st9⟩ := X6.virtualBack hx (y := (⟨"com/example/wattfold/wattfold/solver/RandomStream", "nextLong", "()J"⟩ : MethodName)) (z := (⟨"com/example/wattfold/wattfold/solver/RandomStream", "nextLong", "()J"⟩ : MethodName)) hown (mvT hZ (hw _ (List.mem_of_getElem? (i := 11) rfl))) (mvT hZ (hw _ (List.mem_of_getElem? (i := 12) rfl))) (notFace_of_selects (args := #[]) (mvT hZ (hw _ (List.mem_of_getElem? (i := 14) rfl)))) (mvT hZ (hw _ (List.mem_of_getElem? (i := 14) rfl))) (mvT hZ (hw _ (List.mem_of_getElem? (i := 13) rfl))) (by decide) (backOf (W := 0) (rm3 l Z a0 hw [] b1 (own_st3 xs) T6.heap n0 sz6 pf6_0 pf6_1 ge_b1) hZ (hw _ (List.mem_of_getElem? (i := 15) rfl)) (hw _ (List.mem_of_getElem? (i := 2) rfl)) (by decide) (by decide)) q9a q9c (g := (mkF m 15 #[.val (.long xs), .second, .val (.ref b1), .val (.long v8), .second, .unset, .unset] [(.ref b1)])) rfl (by rw [hml]; rfl) (Steps.refl _) (argsL := []) (rest := []) (lenOf pd_0_1 rfl) rfl (by show 2 * 0 + _ ≤ _; exact Nat.le_of_eq rfl) (hb hby at_15) (fun _ _ => ⟨rfl, rfl, (by decide : 1 + 0 ≤ _), (by decide : 1 + 0 ≤ _)⟩)
  dsimp only [Pt.U, Pt.locs, Pt.cells, Pt.slots] at X9 l9 y9 z9 st9 hQ9
  subst l9 y9 z9
  obtain ⟨rfl, Nq9, Kq9, pf9_0, pf9_1⟩ := hQ9
  have N9 := Fr.app N6 Nq9
  have E10 : Exa Z T9.heap b1 "com/example/wattfold/wattfold/solver/RandomStream" := pf6_0.keep Kq9
  have sz9 : n0 ≤ T9.heap.size := Nat.le_trans sz6 Kq9.1
  have K9 : Keep h0 T9.heap [] := (K6).trans Kq9 (allS (Or.inr sz_b1) all0)
  refine own_Goes.via (T' := T9) (g' := (mkF m 18 #[.val (.long xs), .second, .val (.ref b1), .val (.long v8), .second, .unset, .unset] [(.long (own_f3 (own_st3 xs)))])) (fun t_ k_ => st9.trans k_) ?_
  obtain ⟨v11, hv11⟩ : ∃ z : Int64, z = (own_f3 (own_st3 xs)) := ⟨_, rfl⟩
  rw [← hv11]
  refine own_Goes.via (T' := T9) (g' := (mkF m 20 #[.val (.long xs), .second, .val (.ref b1), .val (.long v8), .second, .val (.long v11), .second] [])) (fun t_ k_ => XS.lstore X9.here hx rfl (hb hby at_18) rfl (l' := #[.val (.long xs), .second, .val (.ref b1), .val (.long v8), .second, .val (.long v11), .second]) rfl k_) ?_
  refine own_Goes.via (T' := T9) (g' := (mkF m 21 #[.val (.long xs), .second, .val (.ref b1), .val (.long v8), .second, .val (.long v11), .second] [(.long v8)])) (fun t_ k_ => XS.lloadN X9.here hx rfl (hb hby at_20) rfl k_) ?_
  obtain ⟨_, _, ⟨T12, L12, k12, n12⟩, -, X12, ⟨Lc12, hQ12, l12, y12, z12⟩, st12⟩ := Jvm.LawKit.callS X9 hx (y := (⟨"com/example/wattfold/wattfold/solver/RandomStreamNextLongPinLaw", "unmix", "(J)J"⟩ : MethodName)) hown (mvT hZ (hw _ (List.mem_of_getElem? (i := 19) rfl))) (mvT hZ (hw _ (List.mem_of_getElem? (i := 20) rfl))) (mvT hZ (hw _ (List.mem_of_getElem? (i := 21) rfl))) (mvT hZ (hw _ (List.mem_of_getElem? (i := 22) rfl))) (by decide) (backOf (W := 0) (rm4 l Z a0 hw [] v8 T9.heap n0 sz9 ) hZ (hw _ (List.mem_of_getElem? (i := 22) rfl)) (hw _ (List.mem_of_getElem? (i := 21) rfl)) (by decide) (by decide)) (g := (mkF m 21 #[.val (.long xs), .second, .val (.ref b1), .val (.long v8), .second, .val (.long v11), .second] [(.long v8)])) rfl (by rw [hml]; rfl) (argsL := [(.long v8)]) (rest := []) (lenOf pd_0_2 rfl) rfl (by show 2 * 0 + _ ≤ _; exact Nat.le_of_eq rfl) (hb hby at_21) (fun _ _ => ⟨rfl, rfl, (by decide : 1 + 0 ≤ _), (by decide : 1 + 0 ≤ _)⟩)
  dsimp only [Pt.U, Pt.locs, Pt.cells, Pt.slots] at X12 l12 y12 z12 st12 hQ12
  subst l12 y12 z12
  obtain ⟨rfl, Nq12, hh12⟩ := hQ12
  have N12 := Fr.app N9 Nq12
  refine own_Goes.via (T' := T12) (g' := (mkF m 24 #[.val (.long xs), .second, .val (.ref b1), .val (.long v8), .second, .val (.long v11), .second] [(.long (own_f4 v8))])) (st12) ?_
  obtain ⟨v13, hv13⟩ : ∃ z : Int64, z = (own_f4 v8) := ⟨_, rfl⟩
  rw [← hv13]
  refine own_Goes.via (T' := T12) (g' := (mkF m 25 #[.val (.long xs), .second, .val (.ref b1), .val (.long v8), .second, .val (.long v11), .second] [(.long xs), (.long v13)])) (fun t_ k_ => XS.lloadN X12.here hx rfl (hb hby at_24) rfl k_) ?_
  refine own_Goes.via (T' := T12) (g' := (mkF m 28 #[.val (.long xs), .second, .val (.ref b1), .val (.long v8), .second, .val (.long v11), .second] [(.long (-7046029254386353131 : Int64)), (.long xs), (.long v13)])) (X12.ldc2Long hx hown (mvT hZ (hw _ (List.mem_of_getElem? (i := 29) rfl))) (g := (mkF m 25 #[.val (.long xs), .second, .val (.ref b1), .val (.long v8), .second, .val (.long v11), .second] [(.long xs), (.long v13)])) rfl (hb hby at_25)) ?_
  refine own_Goes.via (T' := T12) (g' := (mkF m 29 #[.val (.long xs), .second, .val (.ref b1), .val (.long v8), .second, .val (.long v11), .second] [(.long (xs + (-7046029254386353131 : Int64))), (.long v13)])) (fun t_ k_ => XS.ladd X12.here hx rfl (hb hby at_28) rfl k_) ?_
  refine own_Goes.via (T' := T12) (g' := (mkF m 30 #[.val (.long xs), .second, .val (.ref b1), .val (.long v8), .second, .val (.long v11), .second] [(.int (lcmpW v13 (xs + (-7046029254386353131 : Int64))))])) (fun t_ k_ => XS.lcmp X12.here hx rfl (hb hby at_29) rfl k_) ?_
  suffices J52_17 : ∀ (T16 : State) (L16 : List Loc) (X16 : Stand p l e room_1 s m #[(.long xs)] below meth c T16 L16 1 1) (e16 : T16.heap = T9.heap) (N16 : Fr n0 L16) (v52_15 : Int32) (hv52_15 : v52_15 = (if v13 = (xs + (-7046029254386353131 : Int64)) then (if (own_f4 v11) = (xs + (4354685564936845354 : Int64)) then (1 : Int32) else (0 : Int32)) else (0 : Int32))), own_Goes p.tables e below P T16 (mkF m 52 #[.val (.long xs), .second, .val (.ref b1), .val (.long v8), .second, .val (.long v11), .second] [(.int v52_15)]) by
    by_cases hc30_14 : v13 = (xs + (-7046029254386353131 : Int64))
    · refine own_Goes.via (T' := T12) (g' := (mkF m 33 #[.val (.long xs), .second, .val (.ref b1), .val (.long v8), .second, .val (.long v11), .second] [])) (fun t_ k_ => XS.ifNo X12.here hx rfl (hb hby at_30) rfl (own_eqT hc30_14).2 k_) ?_
      refine own_Goes.via (T' := T12) (g' := (mkF m 35 #[.val (.long xs), .second, .val (.ref b1), .val (.long v8), .second, .val (.long v11), .second] [(.long v11)])) (fun t_ k_ => XS.lload X12.here hx rfl (hb hby at_33) rfl k_) ?_
      obtain ⟨_, _, ⟨T18, L18, k18, n18⟩, -, X18, ⟨Lc18, hQ18, l18, y18, z18⟩, st18⟩ := Jvm.LawKit.callS X12 hx (y := (⟨"com/example/wattfold/wattfold/solver/RandomStreamNextLongPinLaw", "unmix", "(J)J"⟩ : MethodName)) hown (mvT hZ (hw _ (List.mem_of_getElem? (i := 19) rfl))) (mvT hZ (hw _ (List.mem_of_getElem? (i := 20) rfl))) (mvT hZ (hw _ (List.mem_of_getElem? (i := 21) rfl))) (mvT hZ (hw _ (List.mem_of_getElem? (i := 22) rfl))) (by decide) (backOf (W := 0) (rm4 l Z a0 hw [] v11 T9.heap n0 sz9 ) hZ (hw _ (List.mem_of_getElem? (i := 22) rfl)) (hw _ (List.mem_of_getElem? (i := 21) rfl)) (by decide) (by decide)) (g := (mkF m 35 #[.val (.long xs), .second, .val (.ref b1), .val (.long v8), .second, .val (.long v11), .second] [(.long v11)])) rfl (by rw [hml]; rfl) (argsL := [(.long v11)]) (rest := []) (lenOf pd_0_2 rfl) rfl (by show 2 * 0 + _ ≤ _; exact Nat.le_of_eq rfl) (hb hby at_35) (fun _ _ => ⟨rfl, hh12, (by decide : 1 + 0 ≤ _), (by decide : 1 + 0 ≤ _)⟩)
      dsimp only [Pt.U, Pt.locs, Pt.cells, Pt.slots] at X18 l18 y18 z18 st18 hQ18
      subst l18 y18 z18
      obtain ⟨rfl, Nq18, hh18⟩ := hQ18
      have N18 := Fr.app N12 Nq18
      refine own_Goes.via (T' := T18) (g' := (mkF m 38 #[.val (.long xs), .second, .val (.ref b1), .val (.long v8), .second, .val (.long v11), .second] [(.long (own_f4 v11))])) (st18) ?_
      refine own_Goes.via (T' := T18) (g' := (mkF m 39 #[.val (.long xs), .second, .val (.ref b1), .val (.long v8), .second, .val (.long v11), .second] [(.long xs), (.long (own_f4 v11))])) (fun t_ k_ => XS.lloadN X18.here hx rfl (hb hby at_38) rfl k_) ?_
      refine own_Goes.via (T' := T18) (g' := (mkF m 42 #[.val (.long xs), .second, .val (.ref b1), .val (.long v8), .second, .val (.long v11), .second] [(.long (4354685564936845354 : Int64)), (.long xs), (.long (own_f4 v11))])) (X18.ldc2Long hx hown (mvT hZ (hw _ (List.mem_of_getElem? (i := 30) rfl))) (g := (mkF m 39 #[.val (.long xs), .second, .val (.ref b1), .val (.long v8), .second, .val (.long v11), .second] [(.long xs), (.long (own_f4 v11))])) rfl (hb hby at_39)) ?_
      refine own_Goes.via (T' := T18) (g' := (mkF m 43 #[.val (.long xs), .second, .val (.ref b1), .val (.long v8), .second, .val (.long v11), .second] [(.long (xs + (4354685564936845354 : Int64))), (.long (own_f4 v11))])) (fun t_ k_ => XS.ladd X18.here hx rfl (hb hby at_42) rfl k_) ?_
      refine own_Goes.via (T' := T18) (g' := (mkF m 44 #[.val (.long xs), .second, .val (.ref b1), .val (.long v8), .second, .val (.long v11), .second] [(.int (lcmpW (own_f4 v11) (xs + (4354685564936845354 : Int64))))])) (fun t_ k_ => XS.lcmp X18.here hx rfl (hb hby at_43) rfl k_) ?_
      by_cases hc44_19 : (own_f4 v11) = (xs + (4354685564936845354 : Int64))
      · refine own_Goes.via (T' := T18) (g' := (mkF m 47 #[.val (.long xs), .second, .val (.ref b1), .val (.long v8), .second, .val (.long v11), .second] [])) (fun t_ k_ => XS.ifNo X18.here hx rfl (hb hby at_44) rfl (own_eqT hc44_19).2 k_) ?_
        refine own_Goes.via (T' := T18) (g' := (mkF m 48 #[.val (.long xs), .second, .val (.ref b1), .val (.long v8), .second, .val (.long v11), .second] [(.int (1 : Int32))])) (fun t_ k_ => XS.iconst X18.here hx rfl (hb hby at_47) k_) ?_
        refine own_Goes.via (T' := T18) (g' := (mkF m 52 #[.val (.long xs), .second, .val (.ref b1), .val (.long v8), .second, .val (.long v11), .second] [(.int (1 : Int32))])) (fun t_ k_ => XS.goto X18.here hx rfl (pc0 := 48) (pc' := 52) rfl (hb hby at_48) (by decide) (by decide) k_) ?_
        exact J52_17 T18 _ X18 hh18 N18 (1 : Int32) (((if_pos hc30_14).trans (if_pos hc44_19))).symm
      · refine own_Goes.via (T' := T18) (g' := (mkF m 51 #[.val (.long xs), .second, .val (.ref b1), .val (.long v8), .second, .val (.long v11), .second] [])) (fun t_ k_ => XS.ifYes X18.here hx rfl (pc0 := 44) (pc' := 51) rfl (hb hby at_44) rfl (own_eqF hc44_19).2 (by decide) (by decide) k_) ?_
        refine own_Goes.via (T' := T18) (g' := (mkF m 52 #[.val (.long xs), .second, .val (.ref b1), .val (.long v8), .second, .val (.long v11), .second] [(.int (0 : Int32))])) (fun t_ k_ => XS.iconst X18.here hx rfl (hb hby at_51) k_) ?_
        exact J52_17 T18 _ X18 hh18 N18 (0 : Int32) (((if_pos hc30_14).trans (if_neg hc44_19))).symm
    · refine own_Goes.via (T' := T12) (g' := (mkF m 51 #[.val (.long xs), .second, .val (.ref b1), .val (.long v8), .second, .val (.long v11), .second] [])) (fun t_ k_ => XS.ifYes X12.here hx rfl (pc0 := 30) (pc' := 51) rfl (hb hby at_30) rfl (own_eqF hc30_14).2 (by decide) (by decide) k_) ?_
      refine own_Goes.via (T' := T12) (g' := (mkF m 52 #[.val (.long xs), .second, .val (.ref b1), .val (.long v8), .second, .val (.long v11), .second] [(.int (0 : Int32))])) (fun t_ k_ => XS.iconst X12.here hx rfl (hb hby at_51) k_) ?_
      exact J52_17 T12 _ X12 hh12 N12 (0 : Int32) ((if_neg hc30_14)).symm
  intro T16 L16 X16 e16 N16 v52_15 hv52_15
  have hfin : v52_15 = 1 := own_pl0_0 hv8 hv11 hv13 hv52_15
  rw [hfin]
  obtain ⟨fs, hr, hrun, hended, hW, hsame⟩ := X16.leave (v := some (.int 1)) (fun h => by rw [Bd.returns] at h; cases h)
  refine own_Goes.fin (retN X16 hx (t := .boolean) Bd.returns (by simp) (hb hby at_52) hr) hrun hended ?_
  subst hPd
  refine ⟨_, _, rfl, ?_, ⟨_, rfl⟩, hW, hsame.mono (by decide) (by decide)⟩
  show Q0 Z xs h0 n0 _ T16.heap _
  rw [e16]
  exact ⟨rfl, N16⟩
set_option maxRecDepth 65536 in
set_option maxHeartbeats 40000000 in
theorem comes_1 {Post : Tables → Env → Array Value → State → Outcome → State → Prop} (hpost : ∀ tb e args s v u, (limb_1_1.after args s (.returned v) u = true ∧ limb_1_2.after args s (.returned v) u = true ∧ True) → FrameEnd s (.returned v) u (Jvm.fieldLocs frame_1_writes args s ++ Jvm.arrayLocs frame_1_arrays args s ++ Jvm.staticLocs frame_1_statics s) 16 128 → Post tb e args s (.returned v) u) :
    ArmFor flags0 classFile x code maxLocals ret World_1 tables_1 room_1 Calls_1 rest_1 Pre_1 Post := by
  intro l hfl _ _ p e ha hc hk s m args below hf hA hF happ hP
  obtain ⟨hcalls, hrest, hpre⟩ := hP
  obtain ⟨-, -, -, hnamed, -, -, -, hat⟩ := (Spec.applies_iff hf).mp happ
  obtain ⟨hg, hn⟩ := and_e (Cond.before_iff.mp (show (Jvm.Cond.and given_1 narrow_1).before args s = true from hpre))
  obtain ⟨g1, g2⟩ := and_e hg
  obtain ⟨w0, rfl⟩ : ∃ w0 : Value, args = #[w0] := by
    have hs : args.size = 1 := by simpa [Cond.value, given_1] using g1
    obtain ⟨L⟩ := args
    match L, hs with
    | [w0], _ => exact ⟨w0, rfl⟩
  have hw := fun d (hd : d ∈ tables_1) => atoms_spec (ws := Jvm.Cond.code x code maxLocals ret :: tables_1) hat d (List.mem_cons_of_mem _ hd)
  have hfit : Fit s := fun {y c} hc i hi => by
    obtain ⟨ha, rfl⟩ := Array.getElem?_eq_some_iff.mp hc
    have q := List.all_eq_true.mp ((Array.all_eq_true_iff_forall_mem.mp hF) _ (Array.getElem_mem ha)) i (List.mem_range.mpr hi)
    simpa [Array.getElem?_eq_getElem hi] using q
  obtain ⟨i0, ei0⟩ := isL_v g2
  obtain rfl : w0 = (.long i0) := Option.some.inj ei0
  obtain ⟨n, o, h1, h2, h3, _, L, rfl, ⟨rfl, N⟩, hq⟩ := rm0 l s _ hw tables_1 i0  s.heap s.heap.size (Nat.le_refl _)  p e ha hc hk s m _ below hf ((Spec.applies_iff_loose hf).mp happ).1 ⟨rfl, State.Warmed39.refl s, rfl⟩ trivial
  refine ⟨n, _, h1, h2, h3, hpost _ _ _ _ _ _ ⟨Cond.after_iff.mpr rfl, Cond.after_iff.mpr (eq_i res_at (Term.int_eval (1)) rfl), trivial⟩ ⟨hq.1, hq.2.1, (hq.2.2.sift fun y hy => Or.inr (N y hy)).mono (by decide) (by decide)⟩⟩
theorem main_1_1 : Claimed_1_1 := comes_1 fun _ _ _ _ _ _ h hF => ⟨h.1, hF⟩
theorem main_1_2 : Claimed_1_2 := comes_1 fun _ _ _ _ _ _ h hF => ⟨h.2.1, hF⟩
end Jvm.Pilot.@@N@@
namespace Jvm.Pilot.@@N@@
open Jvm Jvm.ClassFile Sem Op Lib Jvm.Free Jvm.Stand Jvm.Pilot.@@N@@.Jvm.D
/-! MADE BY PROGRAM (witnessworld.py) out of the Statement's table words and the real class files: 9 classes; the members and pool entries that the words name. The judged class is class 1, her method 3. -/
namespace start1
open Jvm.ClassFile
def u (s : String) : CpInfo := .utf8 (stringToUtf16 s)
/-- a pool by its gaps: so many unusable entries, then the entry; so many at the end -/
def gap : Nat → List CpInfo → List CpInfo
  | 0, r => r
  | n + 1, r => .unusable :: gap n r
def poolList (es : List (Nat × CpInfo)) (last : Nat) : List CpInfo := es.foldr (fun e r => gap e.1 (e.2 :: r)) (gap last [])
def pool (es : List (Nat × CpInfo)) (last : Nat) : Array CpInfo := ⟨poolList es last⟩
def fileOf (pool : Array CpInfo) (this : Nat) (attrs : Array Attribute := #[]) (ms : Array MethodInfo := #[]) (fl : Nat := 33) (sup : Nat := 0) (ifs : Array Nat := #[]) (fds : Array FieldInfo := #[]) : ClassFile where
  minorVersion := 0
  majorVersion := 65
  constantPool := pool
  accessFlags := fl
  thisClass := this
  superClass := sup
  interfaces := ifs
  fields := fds
  methods := ms
  attributes := attrs
def plain (name : String) (sup : Option ClassId) : Class where
  name := name
  kind := .ordinary
  loader := none
  accessFlags := 33
  super := sup
  interfaces := #[]
  cf := none
  fields := #[]
  methods := #[]
  instanceTypes := #[]
  staticTypes := #[]
  resolved := #[]
  callSites := []
  init := .initialized
  statics := none
  mirror := none

def pool0 : Array CpInfo := pool [(5, u "<init>"), (0, u "()V"), (1, .class_ 10), (1, u "java/lang/Object")] 113

def k0c0 : Code := { maxStack := 0, maxLocals := 1, code := object_method_1_code, exceptionTable := #[], attributes := #[] }
def k0m0 : Method := { name := "<init>", desc := "()V", sig := { parameters := [], returnType := none }, accessFlags := 1, code := some k0c0 }
/-- java/lang/Object -/
def k0 : Class := { plain "java/lang/Object" none with
  accessFlags := 33
  interfaces := #[]
  cf := some (fileOf pool0 8 #[] #[{ accessFlags := 1, nameIndex := 5, descriptorIndex := 6, attributes := #[] }] 33 0 #[] #[])
  fields := #[]
  methods := #[k0m0]
  instanceTypes := #[]
  staticTypes := #[]
  resolved := Array.replicate 124 none
  statics := none }

def pool1 : Array CpInfo := pool [(2, .class_ 4), (1, u "java/lang/Object"), (0, u "<init>"), (0, u "()V"), (0, .long 2), (1, .long 10723151780598845931), (1, .methodref 12 13), (0, .class_ 14), (0, .nameAndType 15 16), (0, u "com/example/wattfold/wattfold/solver/RandomStreamNextLongPinLaw"), (0, u "inverse"), (0, u "(J)J"), (0, .long 13787848793156543929), (1, .class_ 20), (0, u "com/example/wattfold/wattfold/solver/RandomStream"), (0, .methodref 19 22), (0, .nameAndType 5 23), (0, u "(J)V"), (0, .methodref 19 25), (0, .nameAndType 26 27), (0, u "nextLong"), (0, u "()J"), (0, .methodref 12 29), (0, .nameAndType 30 16), (0, u "unmix"), (0, .long 11400714819323198485), (1, .long 4354685564936845354), (3, u "law"), (0, u "(J)Z")] 3

def k1m0 : Method := { name := "<init>", desc := "()V", sig := { parameters := [], returnType := none }, accessFlags := 2, code := none }
def k1c1 : Code := { maxStack := 8, maxLocals := 4, code := method_2_code, exceptionTable := #[], attributes := #[] }
def k1m1 : Method := { name := "inverse", desc := "(J)J", sig := { parameters := [.long], returnType := some .long }, accessFlags := 10, code := some k1c1 }
def k1c2 : Code := { maxStack := 5, maxLocals := 4, code := method_3_code, exceptionTable := #[], attributes := #[] }
def k1m2 : Method := { name := "unmix", desc := "(J)J", sig := { parameters := [.long], returnType := some .long }, accessFlags := 10, code := some k1c2 }
def k1c3 : Code := { maxStack := 6, maxLocals := 7, code := code, exceptionTable := #[], attributes := #[] }
def k1m3 : Method := { name := "law", desc := "(J)Z", sig := { parameters := [.long], returnType := some .boolean }, accessFlags := 9, code := some k1c3 }
/-- com/example/wattfold/wattfold/solver/RandomStreamNextLongPinLaw -/
def k1 : Class := { plain "com/example/wattfold/wattfold/solver/RandomStreamNextLongPinLaw" (some 0) with
  accessFlags := 49
  interfaces := #[]
  cf := some (fileOf pool1 12 #[] #[{ accessFlags := 2, nameIndex := 5, descriptorIndex := 6, attributes := #[] }, { accessFlags := 10, nameIndex := 15, descriptorIndex := 16, attributes := #[] }, { accessFlags := 10, nameIndex := 30, descriptorIndex := 16, attributes := #[] }, { accessFlags := 9, nameIndex := 37, descriptorIndex := 38, attributes := #[] }] 49 2 #[] #[])
  fields := #[]
  methods := #[k1m0, k1m1, k1m2, k1m3]
  instanceTypes := #[]
  staticTypes := #[]
  resolved := Array.replicate 42 none
  statics := none }

def pool2 : Array CpInfo := pool [(1, .methodref 2 3), (0, .class_ 4), (0, .nameAndType 5 6), (0, u "java/lang/Object"), (0, u "<init>"), (0, u "()V"), (0, .fieldref 8 9), (0, .class_ 10), (0, .nameAndType 11 12), (0, u "com/example/wattfold/wattfold/solver/RandomStream"), (0, u "state"), (0, u "J"), (0, .long 11400714819323198485), (1, .long 13787848793156543929), (1, .long 10723151780598845931), (3, u "nextLong"), (0, u "()J"), (2, u "(J)V"), (15, u "GAMMA"), (1, u "TWO_TO_32")] 26

def k2c0 : Code := { maxStack := 3, maxLocals := 3, code := prog_46_method_1_code, exceptionTable := #[], attributes := #[] }
def k2m0 : Method := { name := "<init>", desc := "(J)V", sig := { parameters := [.long], returnType := none }, accessFlags := 0, code := some k2c0 }
def k2c1 : Code := { maxStack := 5, maxLocals := 3, code := prog_46_method_2_code, exceptionTable := #[], attributes := #[] }
def k2m1 : Method := { name := "nextLong", desc := "()J", sig := { parameters := [], returnType := some .long }, accessFlags := 0, code := some k2c1 }
/-- com/example/wattfold/wattfold/solver/RandomStream -/
def k2 : Class := { plain "com/example/wattfold/wattfold/solver/RandomStream" (some 0) with
  accessFlags := 48
  interfaces := #[]
  cf := some (fileOf pool2 8 #[] #[{ accessFlags := 0, nameIndex := 5, descriptorIndex := 25, attributes := #[] }, { accessFlags := 0, nameIndex := 21, descriptorIndex := 22, attributes := #[] }] 48 2 #[] #[{ accessFlags := 26, nameIndex := 41, descriptorIndex := 12, attributes := #[] }, { accessFlags := 26, nameIndex := 43, descriptorIndex := 12, attributes := #[] }, { accessFlags := 2, nameIndex := 11, descriptorIndex := 12, attributes := #[] }])
  fields := #[{ name := "GAMMA", type := .long, accessFlags := 26, slot := 0, constantValue := 0 }, { name := "TWO_TO_32", type := .long, accessFlags := 26, slot := 1, constantValue := 0 }, { name := "state", type := .long, accessFlags := 2, slot := 0, constantValue := 0 }]
  methods := #[k2m0, k2m1]
  instanceTypes := #[.long]
  staticTypes := #[.long, .long]
  resolved := Array.replicate 70 none
  statics := none }

def pool3 : Array CpInfo := pool [(1, u "java/lang/Cloneable"), (0, .class_ 1), (0, u "java/lang/Object"), (0, .class_ 3)] 3

/-- java/lang/Cloneable -/
def k3 : Class := { plain "java/lang/Cloneable" (some 0) with
  accessFlags := 1537
  interfaces := #[]
  cf := some (fileOf pool3 2 #[] #[] 1537 4 #[] #[])
  fields := #[]
  methods := #[]
  instanceTypes := #[]
  staticTypes := #[]
  resolved := Array.replicate 8 none
  statics := none }

def pool4 : Array CpInfo := pool [(1, u "java/io/Serializable"), (0, .class_ 1), (0, u "java/lang/Object"), (0, .class_ 3)] 3

/-- java/io/Serializable -/
def k4 : Class := { plain "java/io/Serializable" (some 0) with
  accessFlags := 1537
  interfaces := #[]
  cf := some (fileOf pool4 2 #[] #[] 1537 4 #[] #[])
  fields := #[]
  methods := #[]
  instanceTypes := #[]
  staticTypes := #[]
  resolved := Array.replicate 8 none
  statics := none }

/-- the primitive byte -/
def k5 : Class := { plain "byte" none with kind := .primitive 'B', accessFlags := 0x411 }
/-- [B -/
def k6 : Class := { plain "[B" (some 0) with kind := .array 5 .byte, interfaces := #[3, 4], accessFlags := 1041 }

/-- the primitive int -/
def k7 : Class := { plain "int" none with kind := .primitive 'I', accessFlags := 0x411 }
/-- [I -/
def k8 : Class := { plain "[I" (some 0) with kind := .array 7 .int, interfaces := #[3, 4], accessFlags := 1041 }

def heap : Heap := #[]
def classes : Array Class := #[k0, k1, k2, k3, k4, k5, k6, k7, k8]
def interned : List (Array UInt16 × Addr) := []
def slotsUsed : Nat := 0
def theMethod : MethodId := ⟨1, 3⟩
def args0 : Array Value := #[.long 5]
def aboutOver (below : List Frame) : State where
  vm := { classes := classes, interned := interned.toArray }
  heap := heap
  slotsUsed := slotsUsed
  threads := #[{ frames := .invoking theMethod args0 :: below }]
def below0 : List Frame := [.native { method := ⟨0, 0⟩, args := #[] }]
def about1 : State := aboutOver below0
def p0 : Program := .bare "" "" ""
def e0 : Env := launch0.env 0 0 0
theorem w_frames : about1.frames = Frame.invoking theMethod args0 :: below0 := rfl
set_option maxRecDepth 65536 in
theorem w_args : argsFit about1.vm theMethod args0 = true := by decide +kernel
set_option maxRecDepth 65536 in
theorem w_heap : heapFits about1 = true := by decide +kernel
set_option maxRecDepth 65536 in
theorem w_runnable : about1.curStatus? = some .runnable := by decide +kernel
set_option maxRecDepth 65536 in
theorem w_alone : about1.alone = true := by decide +kernel
set_option maxRecDepth 65536 in
theorem w_named : about1.methodNamed? x = some theMethod := by decide +kernel
set_option maxRecDepth 65536 in
theorem w_hears : about1.hears theMethod below0 = true := by decide +kernel
set_option maxRecDepth 65536 in
theorem w_ripe : about1.ripe theMethod args0 below0 = true := by decide +kernel
theorem w_running : about1.status = .running := rfl
set_option maxRecDepth 65536 in
theorem w_room : about1.hasRoom e0.platform room_1 = true :=
  launch0.hasRoom_least _ room_1 (by decide +kernel) (by decide +kernel) (by decide +kernel) (by decide +kernel) (by decide +kernel) (by decide +kernel)
theorem allAtoms_all (ts : List Jvm.Cond) (a : Array Jvm.Value) (st : Jvm.State) : (allAtoms ts).before a st = ts.all (fun c => c.before a st) := by
  induction ts with
  | nil => rfl
  | cons c t ih =>
    show (Jvm.Cond.and c (allAtoms t)).before a st = _
    rw [Jvm.Cond.before_and, ih, List.all_cons]
def words1 : List Jvm.Cond := Jvm.Cond.code x code maxLocals ret :: tables_1
/-- a 'code' word, met by the world's own term for the bytes: nothing is compared byte by byte -/
theorem code_word {y : MethodName} {bytes : ByteArray} {mx : Nat} {rt : Option FieldType} {a : Array Value} {s : State} {m : MethodId} {meth : Method} {c : Code} (h1 : s.methodNamed? y = some m) (h2 : s.vm.method? m = some meth) (h3 : meth.code = some c) (h4 : c.code = bytes)
    (h5 : (c.maxLocals == mx && c.exceptionTable.isEmpty && decide (c.maxStack ≤ mostOperands) && decide (meth.sig.returnType = rt) && !meth.locks && decide (parseMethodDescriptor y.desc = some meth.sig)) = true) : (Jvm.Cond.code y bytes mx rt).before a s = true := by
  simp only [Bool.and_eq_true, beq_iff_eq, Bool.not_eq_true', decide_eq_true_eq] at h5
  obtain ⟨⟨⟨⟨⟨g1, g2⟩, g3⟩, g4⟩, g5⟩, g6⟩ := h5
  simp [Cond.before, Cond.holds, Cond.value, h1, h2, h3, h4, g1, g2, g3, g4, g5, g6]
def isCode : Jvm.Cond → Bool
  | .code _ _ _ _ => true
  | _ => false
theorem all_split {L : List Jvm.Cond} {P : Jvm.Cond → Bool} (h1 : L.all (fun c => isCode c || P c) = true) (h2 : ∀ c ∈ L.filter isCode, P c = true) : L.all P = true := by
  refine List.all_eq_true.mpr fun c hc => ?_
  have h := List.all_eq_true.mp h1 c hc
  rcases Bool.eq_false_or_eq_true (isCode c) with hi | hi
  · exact h2 c (List.mem_filter.mpr ⟨hc, hi⟩)
  · simpa [hi] using h
set_option maxRecDepth 65536 in
theorem w_c0 : (Jvm.Cond.code x code maxLocals ret).before args0 about1 = true := code_word (m := ⟨1, 3⟩) (meth := k1m3) (c := k1c3) (by decide +kernel) rfl rfl rfl (by decide +kernel)
set_option maxRecDepth 65536 in
theorem w_c1 : (Jvm.Cond.code ({ cls := "com/example/wattfold/wattfold/solver/RandomStream", name := "<init>", desc := "(J)V" } : Jvm.MethodName) prog_46_method_1_code (3 : Nat) (Option.none : Option Jvm.ClassFile.FieldType)).before args0 about1 = true := code_word (m := ⟨2, 0⟩) (meth := k2m0) (c := k2c0) (by decide +kernel) rfl rfl rfl (by decide +kernel)
set_option maxRecDepth 65536 in
theorem w_c2 : (Jvm.Cond.code ({ cls := "java/lang/Object", name := "<init>", desc := "()V" } : Jvm.MethodName) object_method_1_code (1 : Nat) (Option.none : Option Jvm.ClassFile.FieldType)).before args0 about1 = true := code_word (m := ⟨0, 0⟩) (meth := k0m0) (c := k0c0) (by decide +kernel) rfl rfl rfl (by decide +kernel)
set_option maxRecDepth 65536 in
theorem w_c3 : (Jvm.Cond.code ({ cls := "com/example/wattfold/wattfold/solver/RandomStream", name := "nextLong", desc := "()J" } : Jvm.MethodName) prog_46_method_2_code (3 : Nat) (Option.some Jvm.ClassFile.FieldType.long)).before args0 about1 = true := code_word (m := ⟨2, 1⟩) (meth := k2m1) (c := k2c1) (by decide +kernel) rfl rfl rfl (by decide +kernel)
set_option maxRecDepth 65536 in
theorem w_c4 : (Jvm.Cond.code ({ cls := "com/example/wattfold/wattfold/solver/RandomStreamNextLongPinLaw", name := "unmix", desc := "(J)J" } : Jvm.MethodName) method_3_code (4 : Nat) (Option.some Jvm.ClassFile.FieldType.long)).before args0 about1 = true := code_word (m := ⟨1, 2⟩) (meth := k1m2) (c := k1c2) (by decide +kernel) rfl rfl rfl (by decide +kernel)
set_option maxRecDepth 65536 in
theorem w_c5 : (Jvm.Cond.code ({ cls := "com/example/wattfold/wattfold/solver/RandomStreamNextLongPinLaw", name := "inverse", desc := "(J)J" } : Jvm.MethodName) method_2_code (4 : Nat) (Option.some Jvm.ClassFile.FieldType.long)).before args0 about1 = true := code_word (m := ⟨1, 1⟩) (meth := k1m1) (c := k1c1) (by decide +kernel) rfl rfl rfl (by decide +kernel)
def codes1 : List Jvm.Cond := [Jvm.Cond.code x code maxLocals ret, Jvm.Cond.code ({ cls := "com/example/wattfold/wattfold/solver/RandomStream", name := "<init>", desc := "(J)V" } : Jvm.MethodName) prog_46_method_1_code (3 : Nat) (Option.none : Option Jvm.ClassFile.FieldType), Jvm.Cond.code ({ cls := "java/lang/Object", name := "<init>", desc := "()V" } : Jvm.MethodName) object_method_1_code (1 : Nat) (Option.none : Option Jvm.ClassFile.FieldType), Jvm.Cond.code ({ cls := "com/example/wattfold/wattfold/solver/RandomStream", name := "nextLong", desc := "()J" } : Jvm.MethodName) prog_46_method_2_code (3 : Nat) (Option.some Jvm.ClassFile.FieldType.long), Jvm.Cond.code ({ cls := "com/example/wattfold/wattfold/solver/RandomStreamNextLongPinLaw", name := "unmix", desc := "(J)J" } : Jvm.MethodName) method_3_code (4 : Nat) (Option.some Jvm.ClassFile.FieldType.long), Jvm.Cond.code ({ cls := "com/example/wattfold/wattfold/solver/RandomStreamNextLongPinLaw", name := "inverse", desc := "(J)J" } : Jvm.MethodName) method_2_code (4 : Nat) (Option.some Jvm.ClassFile.FieldType.long)]
set_option maxRecDepth 65536 in
theorem codes_eq : words1.filter isCode = codes1 := rfl
theorem w_codes : ∀ c ∈ words1.filter isCode, c.before args0 about1 = true := by
  rw [codes_eq]
  intro c hc
  simp only [codes1, List.mem_cons, List.not_mem_nil, or_false] at hc
  rcases hc with rfl | rfl | rfl | rfl | rfl | rfl
  · exact w_c0
  · exact w_c1
  · exact w_c2
  · exact w_c3
  · exact w_c4
  · exact w_c5
set_option maxRecDepth 65536 in
theorem w_t1 : (words1.take 24).all (fun c => isCode c || c.before args0 about1) = true := by decide +kernel
set_option maxRecDepth 65536 in
theorem w_t2 : (words1.drop 24).all (fun c => isCode c || c.before args0 about1) = true := by decide +kernel
theorem w_tables : (allAtoms (Jvm.Cond.code x code maxLocals ret :: tables_1)).before args0 about1 = true := by
  rw [allAtoms_all]
  show words1.all (fun c => c.before args0 about1) = true
  refine all_split ?_ w_codes
  rw [← List.take_append_drop 24 words1, List.all_append, w_t1, w_t2]
  rfl
set_option maxRecDepth 65536 in
theorem w_case : (Jvm.Cond.and given_1 narrow_1).before args0 about1 = true := by decide +kernel
theorem w_applies : (headSpec (Jvm.Cond.code x code maxLocals ret :: tables_1) room_1).applies x e0.platform about1 = true :=
  (Spec.applies_iff w_frames).mpr ⟨w_running, w_runnable, w_alone, w_named, w_hears, w_ripe, w_room, w_tables⟩
theorem atStart : AtStart classFile x code maxLocals ret World_1 tables_1 room_1 Calls_1 rest_1 Pre_1 launch0 p0 e0 about1 theMethod args0 below0 :=
  ⟨lists_1, trivial, launch0.admits_env _ _ _, launch0.least_env, fairChoices_fair.cas, fairChoices_fair.clock, w_frames, w_args, w_heap, w_applies, trivial, trivial, w_case⟩
end start1
theorem witness_1 : WitnessClaimed_1 := ⟨start1.p0, start1.e0, start1.about1, start1.theMethod, start1.args0, start1.below0, start1.atStart⟩
end Jvm.Pilot.@@N@@
