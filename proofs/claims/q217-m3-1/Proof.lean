import JvmDerived
import JvmDerived.Pilot.@@N@@Statement
import JvmDerived.Pilot.@@N@@Code
set_option linter.unusedVariables false
set_option linter.unusedSimpArgs false
@@BLOCK:NumsL.lean.txt@@
namespace Jvm.Pilot.@@N@@
open Jvm Jvm.ClassFile Sem Op Lib Jvm.Free Jvm.Stand Jvm.LawKit Jvm.RoadKit Bundle Jvm.Pilot.@@N@@.Jvm.D
/-- from the state T with the frame g the run comes to an end that P speaks of -/
def own_Goes (tb : Tables) (e : Env) (below : List Frame) (P : Outcome → State → Prop) (T : State) (g : JFrame) : Prop :=
  ∃ s₂ o, Steps tb e below (T.setTop g) s₂ ∧ s₂.status = .running ∧ Ended s₂ below o ∧ P o s₂
theorem own_Goes.via {tb : Tables} {e : Env} {below : List Frame} {P : Outcome → State → Prop} {T T' : State} {g g' : JFrame} (h : ∀ t, Steps tb e below (T'.setTop g') t → Steps tb e below (T.setTop g) t) (k : own_Goes tb e below P T' g') : own_Goes tb e below P T g := by
  obtain ⟨s₂, o, a, b⟩ := k
  exact ⟨s₂, o, h _ a, b⟩
theorem own_Goes.fin {tb : Tables} {e : Env} {below : List Frame} {P : Outcome → State → Prop} {T s₂ : State} {g : JFrame} {o : Outcome} (h1 : Steps tb e below (T.setTop g) s₂) (h2 : s₂.status = .running) (h3 : Ended s₂ below o) (h4 : P o s₂) : own_Goes tb e below P T g := ⟨s₂, o, h1, h2, h3, h4⟩
theorem own_ltT {x y : Int64} (h : x < y) : ifCond.holds .lt (lcmpW x y) = true ∧ ifCond.holds .ge (lcmpW x y) = false := by
  have q : lcmpW x y < 0 := by rw [lcW]; exact (lc_lt x y).mpr h
  exact ⟨(if0 _ _).trans (tlt q).1, (if0 _ _).trans (tlt q).2.1⟩
theorem own_ltF {x y : Int64} (h : ¬ x < y) : ifCond.holds .lt (lcmpW x y) = false ∧ ifCond.holds .ge (lcmpW x y) = true := by
  have q : ¬ lcmpW x y < 0 := by rw [lcW]; exact fun z => h ((lc_lt x y).mp z)
  exact ⟨(if0 _ _).trans (flt q).1, (if0 _ _).trans (flt q).2.1⟩
theorem own_gtT {x y : Int64} (h : y < x) : ifCond.holds .gt (lcmpW x y) = true ∧ ifCond.holds .le (lcmpW x y) = false := by
  have q : 0 < lcmpW x y := by rw [lcW]; exact (lc_gt x y).mpr h
  exact ⟨(if0 _ _).trans (tlt q).2.2.1, (if0 _ _).trans (tlt q).2.2.2⟩
theorem own_gtF {x y : Int64} (h : ¬ y < x) : ifCond.holds .gt (lcmpW x y) = false ∧ ifCond.holds .le (lcmpW x y) = true := by
  have q : ¬ 0 < lcmpW x y := by rw [lcW]; exact fun z => h ((lc_gt x y).mp z)
  exact ⟨(if0 _ _).trans (flt q).2.2.1, (if0 _ _).trans (flt q).2.2.2⟩
theorem own_eqT {x y : Int64} (h : x = y) : ifCond.holds .eq (lcmpW x y) = true ∧ ifCond.holds .ne (lcmpW x y) = false := by
  have q : lcmpW x y = 0 := by rw [lcW]; exact (lc_eq x y).mpr h
  exact ⟨(if0 _ _).trans (teq q).1, (if0 _ _).trans (teq q).2⟩
theorem own_eqF {x y : Int64} (h : ¬ x = y) : ifCond.holds .eq (lcmpW x y) = false ∧ ifCond.holds .ne (lcmpW x y) = true := by
  have q : ¬ lcmpW x y = 0 := by rw [lcW]; exact fun z => h ((lc_eq x y).mp z)
  exact ⟨(if0 _ _).trans (feq q).1, (if0 _ _).trans (feq q).2⟩
theorem own_lrem (x y : Int64) : x - (x / y) * y = x % y := Int64.toInt_inj.mp (by rw [Jvm.Kit.i64_rem, Int64.toInt_mod])
theorem d2_0 : decode jdk_30_method_1_code 0 = .ok (.aload_n 0, 1) := by decide +kernel
theorem d2_1 : decode jdk_30_method_1_code 1 = .ok (.invokespecial 1, 3) := by decide +kernel
theorem d2_4 : decode jdk_30_method_1_code 4 = .ok (.return_, 1) := by decide +kernel
theorem pn_2 : plainName "java/lang/Record" = true := by first | (simp [plainName, overriddenIn]; done) | decide +kernel
theorem ef_2 (m : MethodId) (ao : Addr) : entryFrame m #[(.ref ao)] 1 = mkF m 0 #[.val (.ref ao)] [] := by first | (simp [entryFrame, mkF, argsToLocals, Value.category]; done) | rfl
def Q2 (Z : State) (ao : Addr) (h0 : Heap) (n0 : Nat) (v : Option Value) (h : Heap) (L : List Loc) : Prop := v = none ∧ Fr n0 L ∧ h = h0
set_option maxRecDepth 65536 in
set_option maxHeartbeats 40000000 in
theorem rm2 (l : Launch) (Z : State) (a0 : Array Value) (hw : ∀ d ∈ tables_1, d.before a0 Z = true) (ws : List Jvm.Cond) (ao : Addr) (h0 : Heap) (n0 : Nat) (Z0 : n0 ≤ h0.size) :
    MetFree l (⟨"java/lang/Record", "<init>", "()V"⟩ : MethodName) (head1 (Jvm.Cond.code (⟨"java/lang/Record", "<init>", "()V"⟩ : MethodName) jdk_30_method_1_code 1 none :: ws) ({ frames := 1, cells := 0, slots := 0, locals := 12 } : Room)) (fun a U => a = #[(.ref ao)] ∧ Z.Warmed39 U.vm ∧ U.heap = h0) (fun _ _ _ _ _ => True) (fun _ U o U' => ∃ v L, o = .returned v ∧ Q2 Z ao h0 n0 v U'.heap L ∧ FrameEnd U o U' L ({ frames := 1, cells := 0, slots := 0, locals := 12 } : Room).cells ({ frames := 1, cells := 0, slots := 0, locals := 12 } : Room).slots) := by
  refine MetFree.of_bodySF (plainFor_of_name pn_2) hisR ?_
  intro p e s m args below meth c s₁ Bd hml0 hP hK
  obtain ⟨rfl, hZ, hh⟩ := hP
  have hx := Bd.exec
  have hby := Bd.bytes
  have hml : c.maxLocals = 1 := hml0
  have hown : s.vm.findClass "java/lang/Record" = some m.cls := findClass_of_methodNamed Bd.named
  have hnm := (name_of_methodNamed Bd.named Bd.method).1
  have X0 : Stand p l e ({ frames := 1, cells := 0, slots := 0, locals := 12 } : Room) s m #[(.ref ao)] below meth c s₁ [] 0 0 := Stand.of_body Bd
  have e0 : s₁.heap = h0 := by rw [← hh, Bd.state]; rfl
  have N0 := Fr.nil n0
  suffices G : own_Goes p.tables e below (fun o U' => ∃ v L, o = .returned v ∧ Q2 Z ao h0 n0 v U'.heap L ∧ FrameEnd s o U' L ({ frames := 1, cells := 0, slots := 0, locals := 12 } : Room).cells ({ frames := 1, cells := 0, slots := 0, locals := 12 } : Room).slots) s₁ (mkF m 0 #[.val (.ref ao)] []) by
    obtain ⟨t2_, o2_, z1_, z2_, z3_, z4_⟩ := G
    exact ⟨t2_, o2_, castTop (ef_2 m ao) z1_, z2_, z3_, z4_⟩
  generalize hPd : (fun (o : Outcome) (U' : State) => ∃ v L, o = .returned v ∧ Q2 Z ao h0 n0 v U'.heap L ∧ FrameEnd s o U' L ({ frames := 1, cells := 0, slots := 0, locals := 12 } : Room).cells ({ frames := 1, cells := 0, slots := 0, locals := 12 } : Room).slots) = P
  refine own_Goes.via (T' := s₁) (g' := (mkF m 1 #[.val (.ref ao)] [(.ref ao)])) (fun t_ k_ => XS.aloadN X0.here hx rfl (hb hby d2_0) rfl rfl k_) ?_
  obtain ⟨T1, X1, e1, st1⟩ := initO X0 hx hZ hown (hw _ (List.mem_of_getElem? (i := 13) rfl)) (hw _ (List.mem_of_getElem? (i := 14) rfl)) (hw _ (List.mem_of_getElem? (i := 15) rfl)) e0 (g := (mkF m 1 #[.val (.ref ao)] [(.ref ao)])) rfl (by rw [hml]; rfl) rfl (hb hby d2_1) (by decide) (W := 0) (by show 2 * 0 + _ ≤ _; exact Nat.le_of_eq rfl) (by decide)
  refine own_Goes.via (T' := T1) (g' := (mkF m 4 #[.val (.ref ao)] [])) (st1) ?_
  obtain ⟨fs, hr, hrun, hended, hW, hsame⟩ := X1.leave (v := none) (fun _ => rfl)
  refine own_Goes.fin (X1.returnOut hx Bd.returns (hb hby d2_4) hr) hrun hended ?_
  subst hPd
  refine ⟨_, _, rfl, ?_, ⟨_, rfl⟩, hW, hsame.mono (by decide) (by decide)⟩
  show Q2 Z ao h0 n0 _ T1.heap _
  rw [e1]
  exact ⟨rfl, N0, rfl⟩
theorem d1_0 : decode prog_52_method_1_code 0 = .ok (.aload_n 0, 1) := by decide +kernel
theorem d1_1 : decode prog_52_method_1_code 1 = .ok (.invokespecial 1, 3) := by decide +kernel
theorem d1_4 : decode prog_52_method_1_code 4 = .ok (.aload_n 0, 1) := by decide +kernel
theorem d1_5 : decode prog_52_method_1_code 5 = .ok (.iload_n 1, 1) := by decide +kernel
theorem d1_6 : decode prog_52_method_1_code 6 = .ok (.putfield 7, 3) := by decide +kernel
theorem d1_9 : decode prog_52_method_1_code 9 = .ok (.aload_n 0, 1) := by decide +kernel
theorem d1_10 : decode prog_52_method_1_code 10 = .ok (.aload_n 2, 1) := by decide +kernel
theorem d1_11 : decode prog_52_method_1_code 11 = .ok (.putfield 13, 3) := by decide +kernel
theorem d1_14 : decode prog_52_method_1_code 14 = .ok (.aload_n 0, 1) := by decide +kernel
theorem d1_15 : decode prog_52_method_1_code 15 = .ok (.lload_n 3, 1) := by decide +kernel
theorem d1_16 : decode prog_52_method_1_code 16 = .ok (.putfield 17, 3) := by decide +kernel
theorem d1_19 : decode prog_52_method_1_code 19 = .ok (.aload_n 0, 1) := by decide +kernel
theorem d1_20 : decode prog_52_method_1_code 20 = .ok (.lload 5, 2) := by decide +kernel
theorem d1_22 : decode prog_52_method_1_code 22 = .ok (.putfield 21, 3) := by decide +kernel
theorem d1_25 : decode prog_52_method_1_code 25 = .ok (.aload_n 0, 1) := by decide +kernel
theorem d1_26 : decode prog_52_method_1_code 26 = .ok (.aload 7, 2) := by decide +kernel
theorem d1_28 : decode prog_52_method_1_code 28 = .ok (.putfield 24, 3) := by decide +kernel
theorem d1_31 : decode prog_52_method_1_code 31 = .ok (.aload_n 0, 1) := by decide +kernel
theorem d1_32 : decode prog_52_method_1_code 32 = .ok (.iload 8, 2) := by decide +kernel
theorem d1_34 : decode prog_52_method_1_code 34 = .ok (.putfield 28, 3) := by decide +kernel
theorem d1_37 : decode prog_52_method_1_code 37 = .ok (.aload_n 0, 1) := by decide +kernel
theorem d1_38 : decode prog_52_method_1_code 38 = .ok (.lload 9, 2) := by decide +kernel
theorem d1_40 : decode prog_52_method_1_code 40 = .ok (.putfield 32, 3) := by decide +kernel
theorem d1_43 : decode prog_52_method_1_code 43 = .ok (.return_, 1) := by decide +kernel
theorem pn_1 : plainName "com/example/wattfold/wattfold/solver/ScaledProblem$VmKind" = true := by first | (simp [plainName, overriddenIn]; done) | decide +kernel
theorem pd_1_0 : parseMethodDescriptor "()V" = some ⟨[], none⟩ := by decide +kernel
theorem ef_1 (m : MethodId) (ao : Addr) (xe : Int32) (av : Addr) (xv : Int64) (xm : Int64) (ad : Addr) (xf : Int32) (xc : Int64) : entryFrame m #[(.ref ao), (.int xe), (.ref av), (.long xv), (.long xm), (.ref ad), (.int xf), (.long xc)] 11 = mkF m 0 #[.val (.ref ao), .val (.int xe), .val (.ref av), .val (.long xv), .second, .val (.long xm), .second, .val (.ref ad), .val (.int xf), .val (.long xc), .second] [] := by first | (simp [entryFrame, mkF, argsToLocals, Value.category]; done) | rfl
def Q1 (Z : State) (ao : Addr) (xe : Int32) (av : Addr) (xv : Int64) (xm : Int64) (ad : Addr) (xf : Int32) (xc : Int64) (h0 : Heap) (n0 : Nat) (v : Option Value) (h : Heap) (L : List Loc) : Prop := v = none ∧ Fr n0 L ∧ Keep h0 h [ao] ∧ Exa Z h ao "com/example/wattfold/wattfold/solver/ScaledProblem$VmKind" ∧ Fld Z h ao "com/example/wattfold/wattfold/solver/ScaledProblem$VmKind" "entry" "I" (.int xe) ∧ Fld Z h ao "com/example/wattfold/wattfold/solver/ScaledProblem$VmKind" "vms" "[I" (.ref av) ∧ Fld Z h ao "com/example/wattfold/wattfold/solver/ScaledProblem$VmKind" "vcpus" "J" (.long xv) ∧ Fld Z h ao "com/example/wattfold/wattfold/solver/ScaledProblem$VmKind" "memory" "J" (.long xm) ∧ Fld Z h ao "com/example/wattfold/wattfold/solver/ScaledProblem$VmKind" "disks" "[J" (.ref ad) ∧ Fld Z h ao "com/example/wattfold/wattfold/solver/ScaledProblem$VmKind" "failover" "Z" (.int (nar .boolean xf)) ∧ Fld Z h ao "com/example/wattfold/wattfold/solver/ScaledProblem$VmKind" "moveCost" "J" (.long xc)
set_option maxRecDepth 65536 in
set_option maxHeartbeats 40000000 in
theorem rm1 (l : Launch) (Z : State) (a0 : Array Value) (hw : ∀ d ∈ tables_1, d.before a0 Z = true) (ws : List Jvm.Cond) (ao : Addr) (xe : Int32) (av : Addr) (xv : Int64) (xm : Int64) (ad : Addr) (xf : Int32) (xc : Int64) (h0 : Heap) (n0 : Nat) (Z0 : n0 ≤ h0.size) (PF0 : Exa Z h0 ao "com/example/wattfold/wattfold/solver/ScaledProblem$VmKind") (PF1 : Fld Z h0 ao "com/example/wattfold/wattfold/solver/ScaledProblem$VmKind" "entry" "I" (.int (0 : Int32))) (PF2 : Fld Z h0 ao "com/example/wattfold/wattfold/solver/ScaledProblem$VmKind" "vms" "[I" .null) (PF3 : Fld Z h0 ao "com/example/wattfold/wattfold/solver/ScaledProblem$VmKind" "vcpus" "J" (.long (0 : Int64))) (PF4 : Fld Z h0 ao "com/example/wattfold/wattfold/solver/ScaledProblem$VmKind" "memory" "J" (.long (0 : Int64))) (PF5 : Fld Z h0 ao "com/example/wattfold/wattfold/solver/ScaledProblem$VmKind" "disks" "[J" .null) (PF6 : Fld Z h0 ao "com/example/wattfold/wattfold/solver/ScaledProblem$VmKind" "failover" "Z" (.int (0 : Int32))) (PF7 : Fld Z h0 ao "com/example/wattfold/wattfold/solver/ScaledProblem$VmKind" "moveCost" "J" (.long (0 : Int64))) (ge_ao : n0 ≤ ao) :
    MetFree l (⟨"com/example/wattfold/wattfold/solver/ScaledProblem$VmKind", "<init>", "(I[IJJ[JZJ)V"⟩ : MethodName) (head1 (Jvm.Cond.code (⟨"com/example/wattfold/wattfold/solver/ScaledProblem$VmKind", "<init>", "(I[IJJ[JZJ)V"⟩ : MethodName) prog_52_method_1_code 11 none :: ws) ({ frames := 2, cells := 0, slots := 0, locals := 24 } : Room)) (fun a U => a = #[(.ref ao), (.int xe), (.ref av), (.long xv), (.long xm), (.ref ad), (.int xf), (.long xc)] ∧ Z.Warmed39 U.vm ∧ U.heap = h0) (fun _ _ _ _ _ => True) (fun _ U o U' => ∃ v L, o = .returned v ∧ Q1 Z ao xe av xv xm ad xf xc h0 n0 v U'.heap L ∧ FrameEnd U o U' L ({ frames := 2, cells := 0, slots := 0, locals := 24 } : Room).cells ({ frames := 2, cells := 0, slots := 0, locals := 24 } : Room).slots) := by
  refine MetFree.of_bodySF (plainFor_of_name pn_1) hisR ?_
  intro p e s m args below meth c s₁ Bd hml0 hP hK
  obtain ⟨rfl, hZ, hh⟩ := hP
  have hx := Bd.exec
  have hby := Bd.bytes
  have hml : c.maxLocals = 11 := hml0
  have hown : s.vm.findClass "com/example/wattfold/wattfold/solver/ScaledProblem$VmKind" = some m.cls := findClass_of_methodNamed Bd.named
  have hnm := (name_of_methodNamed Bd.named Bd.method).1
  have X0 : Stand p l e ({ frames := 2, cells := 0, slots := 0, locals := 24 } : Room) s m #[(.ref ao), (.int xe), (.ref av), (.long xv), (.long xm), (.ref ad), (.int xf), (.long xc)] below meth c s₁ [] 0 0 := Stand.of_body Bd
  have e0 : s₁.heap = h0 := by rw [← hh, Bd.state]; rfl
  have N0 := Fr.nil n0
  suffices G : own_Goes p.tables e below (fun o U' => ∃ v L, o = .returned v ∧ Q1 Z ao xe av xv xm ad xf xc h0 n0 v U'.heap L ∧ FrameEnd s o U' L ({ frames := 2, cells := 0, slots := 0, locals := 24 } : Room).cells ({ frames := 2, cells := 0, slots := 0, locals := 24 } : Room).slots) s₁ (mkF m 0 #[.val (.ref ao), .val (.int xe), .val (.ref av), .val (.long xv), .second, .val (.long xm), .second, .val (.ref ad), .val (.int xf), .val (.long xc), .second] []) by
    obtain ⟨t2_, o2_, z1_, z2_, z3_, z4_⟩ := G
    exact ⟨t2_, o2_, castTop (ef_1 m ao xe av xv xm ad xf xc) z1_, z2_, z3_, z4_⟩
  generalize hPd : (fun (o : Outcome) (U' : State) => ∃ v L, o = .returned v ∧ Q1 Z ao xe av xv xm ad xf xc h0 n0 v U'.heap L ∧ FrameEnd s o U' L ({ frames := 2, cells := 0, slots := 0, locals := 24 } : Room).cells ({ frames := 2, cells := 0, slots := 0, locals := 24 } : Room).slots) = P
  refine own_Goes.via (T' := s₁) (g' := (mkF m 1 #[.val (.ref ao), .val (.int xe), .val (.ref av), .val (.long xv), .second, .val (.long xm), .second, .val (.ref ad), .val (.int xf), .val (.long xc), .second] [(.ref ao)])) (fun t_ k_ => XS.aloadN X0.here hx rfl (hb hby d1_0) rfl rfl k_) ?_
  obtain ⟨_, _, ⟨T1, L1, k1, n1⟩, -, X1, ⟨Lc1, hQ1, l1, y1, z1⟩, st1⟩ := X0.specialBack hx (y := (⟨"java/lang/Record", "<init>", "()V"⟩ : MethodName)) rfl hown (mvT hZ (hw _ (List.mem_of_getElem? (i := 8) rfl))) (mvT hZ (hw _ (List.mem_of_getElem? (i := 9) rfl))) (mvT hZ (hw _ (List.mem_of_getElem? (i := 12) rfl))) (by decide) (backOf (W := 0) (rm2 l Z a0 hw [] ao h0 n0 Z0 ) hZ (hw _ (List.mem_of_getElem? (i := 12) rfl)) (hw _ (List.mem_of_getElem? (i := 11) rfl)) (by decide) (by decide)) (g := (mkF m 1 #[.val (.ref ao), .val (.int xe), .val (.ref av), .val (.long xv), .second, .val (.long xm), .second, .val (.ref ad), .val (.int xf), .val (.long xc), .second] [(.ref ao)])) rfl (by rw [hml]; rfl) (Steps.refl _) (a := ao) (argsL := []) (rest := []) (lenOf pd_1_0 rfl) rfl (by show 2 * 0 + _ ≤ _; exact Nat.le_of_eq rfl) (hb hby d1_1) (fun _ _ => ⟨rfl, e0, (by decide : 0 + 0 ≤ _), (by decide : 0 + 0 ≤ _)⟩)
  dsimp only [Pt.U, Pt.locs, Pt.cells, Pt.slots] at X1 l1 y1 z1 st1 hQ1
  subst l1 y1 z1
  obtain ⟨rfl, Nq1, hh1⟩ := hQ1
  have N1 := Fr.app N0 Nq1
  refine own_Goes.via (T' := T1) (g' := (mkF m 4 #[.val (.ref ao), .val (.int xe), .val (.ref av), .val (.long xv), .second, .val (.long xm), .second, .val (.ref ad), .val (.int xf), .val (.long xc), .second] [])) (fun t_ k_ => st1.trans k_) ?_
  refine own_Goes.via (T' := T1) (g' := (mkF m 5 #[.val (.ref ao), .val (.int xe), .val (.ref av), .val (.long xv), .second, .val (.long xm), .second, .val (.ref ad), .val (.int xf), .val (.long xc), .second] [(.ref ao)])) (fun t_ k_ => XS.aloadN X1.here hx rfl (hb hby d1_4) rfl rfl k_) ?_
  refine own_Goes.via (T' := T1) (g' := (mkF m 6 #[.val (.ref ao), .val (.int xe), .val (.ref av), .val (.long xv), .second, .val (.long xm), .second, .val (.ref ad), .val (.int xf), .val (.long xc), .second] [(.int xe), (.ref ao)])) (fun t_ k_ => XS.iloadN X1.here hx rfl (hb hby d1_5) rfl k_) ?_
  obtain ⟨T2, h2, X2, e2, W2, st2⟩ := putF X1 hx hZ hown (host := "") (Or.inl (hw _ (List.mem_of_getElem? (i := 16) rfl))) Via.refl hh1 PF1 PF0 (Or.inr ⟨(hw _ (List.mem_of_getElem? (i := 17) rfl)), rfl, hnm⟩) (hw _ (List.mem_of_getElem? (i := 3) rfl)) (ty := .int) (by decide) rfl rfl (g := (mkF m 6 #[.val (.ref ao), .val (.int xe), .val (.ref av), .val (.long xv), .second, .val (.long xm), .second, .val (.ref ad), .val (.int xf), .val (.long xc), .second] [(.int xe), (.ref ao)])) rfl rfl (hb hby d1_6)
  have E3 : Exa Z h2 ao "com/example/wattfold/wattfold/solver/ScaledProblem$VmKind" := PF0.wr W2
  have F4 : Fld Z h2 ao "com/example/wattfold/wattfold/solver/ScaledProblem$VmKind" "vms" "[I" .null := PF2.other W2 (Or.inr (slot_ne (Or.inr (hw _ (List.mem_of_getElem? (i := 19) rfl))) (Or.inr (hw _ (List.mem_of_getElem? (i := 17) rfl))) (by decide) (t := (.array .int)) (t' := .int) (by decide) (by decide)))
  have F5 : Fld Z h2 ao "com/example/wattfold/wattfold/solver/ScaledProblem$VmKind" "vcpus" "J" (.long (0 : Int64)) := PF3.other W2 (Or.inr (slot_ne (Or.inr (hw _ (List.mem_of_getElem? (i := 21) rfl))) (Or.inr (hw _ (List.mem_of_getElem? (i := 17) rfl))) (by decide) (t := .long) (t' := .int) (by decide) (by decide)))
  have F6 : Fld Z h2 ao "com/example/wattfold/wattfold/solver/ScaledProblem$VmKind" "memory" "J" (.long (0 : Int64)) := PF4.other W2 (Or.inr (slot_ne (Or.inr (hw _ (List.mem_of_getElem? (i := 23) rfl))) (Or.inr (hw _ (List.mem_of_getElem? (i := 17) rfl))) (by decide) (t := .long) (t' := .int) (by decide) (by decide)))
  have F7 : Fld Z h2 ao "com/example/wattfold/wattfold/solver/ScaledProblem$VmKind" "disks" "[J" .null := PF5.other W2 (Or.inr (slot_ne (Or.inr (hw _ (List.mem_of_getElem? (i := 25) rfl))) (Or.inr (hw _ (List.mem_of_getElem? (i := 17) rfl))) (by decide) (t := (.array .long)) (t' := .int) (by decide) (by decide)))
  have F8 : Fld Z h2 ao "com/example/wattfold/wattfold/solver/ScaledProblem$VmKind" "failover" "Z" (.int (0 : Int32)) := PF6.other W2 (Or.inr (slot_ne (Or.inr (hw _ (List.mem_of_getElem? (i := 27) rfl))) (Or.inr (hw _ (List.mem_of_getElem? (i := 17) rfl))) (by decide) (t := .boolean) (t' := .int) (by decide) (by decide)))
  have F9 : Fld Z h2 ao "com/example/wattfold/wattfold/solver/ScaledProblem$VmKind" "moveCost" "J" (.long (0 : Int64)) := PF7.other W2 (Or.inr (slot_ne (Or.inr (hw _ (List.mem_of_getElem? (i := 29) rfl))) (Or.inr (hw _ (List.mem_of_getElem? (i := 17) rfl))) (by decide) (t := .long) (t' := .int) (by decide) (by decide)))
  have F10 : Fld Z h2 ao "com/example/wattfold/wattfold/solver/ScaledProblem$VmKind" "entry" "I" (.int xe) := PF1.same W2
  have N2 := Fr.snoc X2 N1 ge_ao
  have sz2 : n0 ≤ h2.size := Nat.le_trans Z0 (Keep.of_wr W2).1
  have K2 : Keep h0 h2 [ao] := ((Keep.refl h0 [ao])).wr W2 (Or.inl (List.mem_of_getElem? (i := 0) rfl))
  refine own_Goes.via (T' := T2) (g' := (mkF m 9 #[.val (.ref ao), .val (.int xe), .val (.ref av), .val (.long xv), .second, .val (.long xm), .second, .val (.ref ad), .val (.int xf), .val (.long xc), .second] [])) (st2) ?_
  refine own_Goes.via (T' := T2) (g' := (mkF m 10 #[.val (.ref ao), .val (.int xe), .val (.ref av), .val (.long xv), .second, .val (.long xm), .second, .val (.ref ad), .val (.int xf), .val (.long xc), .second] [(.ref ao)])) (fun t_ k_ => XS.aloadN X2.here hx rfl (hb hby d1_9) rfl rfl k_) ?_
  refine own_Goes.via (T' := T2) (g' := (mkF m 11 #[.val (.ref ao), .val (.int xe), .val (.ref av), .val (.long xv), .second, .val (.long xm), .second, .val (.ref ad), .val (.int xf), .val (.long xc), .second] [(.ref av), (.ref ao)])) (fun t_ k_ => XS.aloadN X2.here hx rfl (hb hby d1_10) rfl rfl k_) ?_
  obtain ⟨T11, h11, X11, e11, W11, st11⟩ := putF X2 hx hZ hown (host := "") (Or.inl (hw _ (List.mem_of_getElem? (i := 18) rfl))) Via.refl e2 F4 E3 (Or.inr ⟨(hw _ (List.mem_of_getElem? (i := 19) rfl)), rfl, hnm⟩) (hw _ (List.mem_of_getElem? (i := 3) rfl)) (ty := (.array .int)) (by decide) rfl rfl (g := (mkF m 11 #[.val (.ref ao), .val (.int xe), .val (.ref av), .val (.long xv), .second, .val (.long xm), .second, .val (.ref ad), .val (.int xf), .val (.long xc), .second] [(.ref av), (.ref ao)])) rfl rfl (hb hby d1_11)
  have E12 : Exa Z h11 ao "com/example/wattfold/wattfold/solver/ScaledProblem$VmKind" := E3.wr W11
  have F13 : Fld Z h11 ao "com/example/wattfold/wattfold/solver/ScaledProblem$VmKind" "vcpus" "J" (.long (0 : Int64)) := F5.other W11 (Or.inr (slot_ne (Or.inr (hw _ (List.mem_of_getElem? (i := 21) rfl))) (Or.inr (hw _ (List.mem_of_getElem? (i := 19) rfl))) (by decide) (t := .long) (t' := (.array .int)) (by decide) (by decide)))
  have F14 : Fld Z h11 ao "com/example/wattfold/wattfold/solver/ScaledProblem$VmKind" "memory" "J" (.long (0 : Int64)) := F6.other W11 (Or.inr (slot_ne (Or.inr (hw _ (List.mem_of_getElem? (i := 23) rfl))) (Or.inr (hw _ (List.mem_of_getElem? (i := 19) rfl))) (by decide) (t := .long) (t' := (.array .int)) (by decide) (by decide)))
  have F15 : Fld Z h11 ao "com/example/wattfold/wattfold/solver/ScaledProblem$VmKind" "disks" "[J" .null := F7.other W11 (Or.inr (slot_ne (Or.inr (hw _ (List.mem_of_getElem? (i := 25) rfl))) (Or.inr (hw _ (List.mem_of_getElem? (i := 19) rfl))) (by decide) (t := (.array .long)) (t' := (.array .int)) (by decide) (by decide)))
  have F16 : Fld Z h11 ao "com/example/wattfold/wattfold/solver/ScaledProblem$VmKind" "failover" "Z" (.int (0 : Int32)) := F8.other W11 (Or.inr (slot_ne (Or.inr (hw _ (List.mem_of_getElem? (i := 27) rfl))) (Or.inr (hw _ (List.mem_of_getElem? (i := 19) rfl))) (by decide) (t := .boolean) (t' := (.array .int)) (by decide) (by decide)))
  have F17 : Fld Z h11 ao "com/example/wattfold/wattfold/solver/ScaledProblem$VmKind" "moveCost" "J" (.long (0 : Int64)) := F9.other W11 (Or.inr (slot_ne (Or.inr (hw _ (List.mem_of_getElem? (i := 29) rfl))) (Or.inr (hw _ (List.mem_of_getElem? (i := 19) rfl))) (by decide) (t := .long) (t' := (.array .int)) (by decide) (by decide)))
  have F18 : Fld Z h11 ao "com/example/wattfold/wattfold/solver/ScaledProblem$VmKind" "entry" "I" (.int xe) := F10.other W11 (Or.inr (slot_ne (Or.inr (hw _ (List.mem_of_getElem? (i := 17) rfl))) (Or.inr (hw _ (List.mem_of_getElem? (i := 19) rfl))) (by decide) (t := .int) (t' := (.array .int)) (by decide) (by decide)))
  have F19 : Fld Z h11 ao "com/example/wattfold/wattfold/solver/ScaledProblem$VmKind" "vms" "[I" (.ref av) := F4.same W11
  have N11 := Fr.snoc X11 N2 ge_ao
  have sz11 : n0 ≤ h11.size := Nat.le_trans sz2 (Keep.of_wr W11).1
  have K11 : Keep h0 h11 [ao] := (K2).wr W11 (Or.inl (List.mem_of_getElem? (i := 0) rfl))
  refine own_Goes.via (T' := T11) (g' := (mkF m 14 #[.val (.ref ao), .val (.int xe), .val (.ref av), .val (.long xv), .second, .val (.long xm), .second, .val (.ref ad), .val (.int xf), .val (.long xc), .second] [])) (st11) ?_
  refine own_Goes.via (T' := T11) (g' := (mkF m 15 #[.val (.ref ao), .val (.int xe), .val (.ref av), .val (.long xv), .second, .val (.long xm), .second, .val (.ref ad), .val (.int xf), .val (.long xc), .second] [(.ref ao)])) (fun t_ k_ => XS.aloadN X11.here hx rfl (hb hby d1_14) rfl rfl k_) ?_
  refine own_Goes.via (T' := T11) (g' := (mkF m 16 #[.val (.ref ao), .val (.int xe), .val (.ref av), .val (.long xv), .second, .val (.long xm), .second, .val (.ref ad), .val (.int xf), .val (.long xc), .second] [(.long xv), (.ref ao)])) (fun t_ k_ => XS.lloadN X11.here hx rfl (hb hby d1_15) rfl k_) ?_
  obtain ⟨T20, h20, X20, e20, W20, st20⟩ := putF X11 hx hZ hown (host := "") (Or.inl (hw _ (List.mem_of_getElem? (i := 20) rfl))) Via.refl e11 F13 E12 (Or.inr ⟨(hw _ (List.mem_of_getElem? (i := 21) rfl)), rfl, hnm⟩) (hw _ (List.mem_of_getElem? (i := 3) rfl)) (ty := .long) (by decide) rfl rfl (g := (mkF m 16 #[.val (.ref ao), .val (.int xe), .val (.ref av), .val (.long xv), .second, .val (.long xm), .second, .val (.ref ad), .val (.int xf), .val (.long xc), .second] [(.long xv), (.ref ao)])) rfl rfl (hb hby d1_16)
  have E21 : Exa Z h20 ao "com/example/wattfold/wattfold/solver/ScaledProblem$VmKind" := E12.wr W20
  have F22 : Fld Z h20 ao "com/example/wattfold/wattfold/solver/ScaledProblem$VmKind" "memory" "J" (.long (0 : Int64)) := F14.other W20 (Or.inr (slot_ne (Or.inr (hw _ (List.mem_of_getElem? (i := 23) rfl))) (Or.inr (hw _ (List.mem_of_getElem? (i := 21) rfl))) (by decide) (t := .long) (t' := .long) (by decide) (by decide)))
  have F23 : Fld Z h20 ao "com/example/wattfold/wattfold/solver/ScaledProblem$VmKind" "disks" "[J" .null := F15.other W20 (Or.inr (slot_ne (Or.inr (hw _ (List.mem_of_getElem? (i := 25) rfl))) (Or.inr (hw _ (List.mem_of_getElem? (i := 21) rfl))) (by decide) (t := (.array .long)) (t' := .long) (by decide) (by decide)))
  have F24 : Fld Z h20 ao "com/example/wattfold/wattfold/solver/ScaledProblem$VmKind" "failover" "Z" (.int (0 : Int32)) := F16.other W20 (Or.inr (slot_ne (Or.inr (hw _ (List.mem_of_getElem? (i := 27) rfl))) (Or.inr (hw _ (List.mem_of_getElem? (i := 21) rfl))) (by decide) (t := .boolean) (t' := .long) (by decide) (by decide)))
  have F25 : Fld Z h20 ao "com/example/wattfold/wattfold/solver/ScaledProblem$VmKind" "moveCost" "J" (.long (0 : Int64)) := F17.other W20 (Or.inr (slot_ne (Or.inr (hw _ (List.mem_of_getElem? (i := 29) rfl))) (Or.inr (hw _ (List.mem_of_getElem? (i := 21) rfl))) (by decide) (t := .long) (t' := .long) (by decide) (by decide)))
  have F26 : Fld Z h20 ao "com/example/wattfold/wattfold/solver/ScaledProblem$VmKind" "entry" "I" (.int xe) := F18.other W20 (Or.inr (slot_ne (Or.inr (hw _ (List.mem_of_getElem? (i := 17) rfl))) (Or.inr (hw _ (List.mem_of_getElem? (i := 21) rfl))) (by decide) (t := .int) (t' := .long) (by decide) (by decide)))
  have F27 : Fld Z h20 ao "com/example/wattfold/wattfold/solver/ScaledProblem$VmKind" "vms" "[I" (.ref av) := F19.other W20 (Or.inr (slot_ne (Or.inr (hw _ (List.mem_of_getElem? (i := 19) rfl))) (Or.inr (hw _ (List.mem_of_getElem? (i := 21) rfl))) (by decide) (t := (.array .int)) (t' := .long) (by decide) (by decide)))
  have F28 : Fld Z h20 ao "com/example/wattfold/wattfold/solver/ScaledProblem$VmKind" "vcpus" "J" (.long xv) := F13.same W20
  have N20 := Fr.snoc X20 N11 ge_ao
  have sz20 : n0 ≤ h20.size := Nat.le_trans sz11 (Keep.of_wr W20).1
  have K20 : Keep h0 h20 [ao] := (K11).wr W20 (Or.inl (List.mem_of_getElem? (i := 0) rfl))
  refine own_Goes.via (T' := T20) (g' := (mkF m 19 #[.val (.ref ao), .val (.int xe), .val (.ref av), .val (.long xv), .second, .val (.long xm), .second, .val (.ref ad), .val (.int xf), .val (.long xc), .second] [])) (st20) ?_
  refine own_Goes.via (T' := T20) (g' := (mkF m 20 #[.val (.ref ao), .val (.int xe), .val (.ref av), .val (.long xv), .second, .val (.long xm), .second, .val (.ref ad), .val (.int xf), .val (.long xc), .second] [(.ref ao)])) (fun t_ k_ => XS.aloadN X20.here hx rfl (hb hby d1_19) rfl rfl k_) ?_
  refine own_Goes.via (T' := T20) (g' := (mkF m 22 #[.val (.ref ao), .val (.int xe), .val (.ref av), .val (.long xv), .second, .val (.long xm), .second, .val (.ref ad), .val (.int xf), .val (.long xc), .second] [(.long xm), (.ref ao)])) (fun t_ k_ => XS.lload X20.here hx rfl (hb hby d1_20) rfl k_) ?_
  obtain ⟨T29, h29, X29, e29, W29, st29⟩ := putF X20 hx hZ hown (host := "") (Or.inl (hw _ (List.mem_of_getElem? (i := 22) rfl))) Via.refl e20 F22 E21 (Or.inr ⟨(hw _ (List.mem_of_getElem? (i := 23) rfl)), rfl, hnm⟩) (hw _ (List.mem_of_getElem? (i := 3) rfl)) (ty := .long) (by decide) rfl rfl (g := (mkF m 22 #[.val (.ref ao), .val (.int xe), .val (.ref av), .val (.long xv), .second, .val (.long xm), .second, .val (.ref ad), .val (.int xf), .val (.long xc), .second] [(.long xm), (.ref ao)])) rfl rfl (hb hby d1_22)
  have E30 : Exa Z h29 ao "com/example/wattfold/wattfold/solver/ScaledProblem$VmKind" := E21.wr W29
  have F31 : Fld Z h29 ao "com/example/wattfold/wattfold/solver/ScaledProblem$VmKind" "disks" "[J" .null := F23.other W29 (Or.inr (slot_ne (Or.inr (hw _ (List.mem_of_getElem? (i := 25) rfl))) (Or.inr (hw _ (List.mem_of_getElem? (i := 23) rfl))) (by decide) (t := (.array .long)) (t' := .long) (by decide) (by decide)))
  have F32 : Fld Z h29 ao "com/example/wattfold/wattfold/solver/ScaledProblem$VmKind" "failover" "Z" (.int (0 : Int32)) := F24.other W29 (Or.inr (slot_ne (Or.inr (hw _ (List.mem_of_getElem? (i := 27) rfl))) (Or.inr (hw _ (List.mem_of_getElem? (i := 23) rfl))) (by decide) (t := .boolean) (t' := .long) (by decide) (by decide)))
  have F33 : Fld Z h29 ao "com/example/wattfold/wattfold/solver/ScaledProblem$VmKind" "moveCost" "J" (.long (0 : Int64)) := F25.other W29 (Or.inr (slot_ne (Or.inr (hw _ (List.mem_of_getElem? (i := 29) rfl))) (Or.inr (hw _ (List.mem_of_getElem? (i := 23) rfl))) (by decide) (t := .long) (t' := .long) (by decide) (by decide)))
  have F34 : Fld Z h29 ao "com/example/wattfold/wattfold/solver/ScaledProblem$VmKind" "entry" "I" (.int xe) := F26.other W29 (Or.inr (slot_ne (Or.inr (hw _ (List.mem_of_getElem? (i := 17) rfl))) (Or.inr (hw _ (List.mem_of_getElem? (i := 23) rfl))) (by decide) (t := .int) (t' := .long) (by decide) (by decide)))
  have F35 : Fld Z h29 ao "com/example/wattfold/wattfold/solver/ScaledProblem$VmKind" "vms" "[I" (.ref av) := F27.other W29 (Or.inr (slot_ne (Or.inr (hw _ (List.mem_of_getElem? (i := 19) rfl))) (Or.inr (hw _ (List.mem_of_getElem? (i := 23) rfl))) (by decide) (t := (.array .int)) (t' := .long) (by decide) (by decide)))
  have F36 : Fld Z h29 ao "com/example/wattfold/wattfold/solver/ScaledProblem$VmKind" "vcpus" "J" (.long xv) := F28.other W29 (Or.inr (slot_ne (Or.inr (hw _ (List.mem_of_getElem? (i := 21) rfl))) (Or.inr (hw _ (List.mem_of_getElem? (i := 23) rfl))) (by decide) (t := .long) (t' := .long) (by decide) (by decide)))
  have F37 : Fld Z h29 ao "com/example/wattfold/wattfold/solver/ScaledProblem$VmKind" "memory" "J" (.long xm) := F22.same W29
  have N29 := Fr.snoc X29 N20 ge_ao
  have sz29 : n0 ≤ h29.size := Nat.le_trans sz20 (Keep.of_wr W29).1
  have K29 : Keep h0 h29 [ao] := (K20).wr W29 (Or.inl (List.mem_of_getElem? (i := 0) rfl))
  refine own_Goes.via (T' := T29) (g' := (mkF m 25 #[.val (.ref ao), .val (.int xe), .val (.ref av), .val (.long xv), .second, .val (.long xm), .second, .val (.ref ad), .val (.int xf), .val (.long xc), .second] [])) (st29) ?_
  refine own_Goes.via (T' := T29) (g' := (mkF m 26 #[.val (.ref ao), .val (.int xe), .val (.ref av), .val (.long xv), .second, .val (.long xm), .second, .val (.ref ad), .val (.int xf), .val (.long xc), .second] [(.ref ao)])) (fun t_ k_ => XS.aloadN X29.here hx rfl (hb hby d1_25) rfl rfl k_) ?_
  refine own_Goes.via (T' := T29) (g' := (mkF m 28 #[.val (.ref ao), .val (.int xe), .val (.ref av), .val (.long xv), .second, .val (.long xm), .second, .val (.ref ad), .val (.int xf), .val (.long xc), .second] [(.ref ad), (.ref ao)])) (fun t_ k_ => XS.aload X29.here hx rfl (hb hby d1_26) rfl rfl k_) ?_
  obtain ⟨T38, h38, X38, e38, W38, st38⟩ := putF X29 hx hZ hown (host := "") (Or.inl (hw _ (List.mem_of_getElem? (i := 24) rfl))) Via.refl e29 F31 E30 (Or.inr ⟨(hw _ (List.mem_of_getElem? (i := 25) rfl)), rfl, hnm⟩) (hw _ (List.mem_of_getElem? (i := 3) rfl)) (ty := (.array .long)) (by decide) rfl rfl (g := (mkF m 28 #[.val (.ref ao), .val (.int xe), .val (.ref av), .val (.long xv), .second, .val (.long xm), .second, .val (.ref ad), .val (.int xf), .val (.long xc), .second] [(.ref ad), (.ref ao)])) rfl rfl (hb hby d1_28)
  have E39 : Exa Z h38 ao "com/example/wattfold/wattfold/solver/ScaledProblem$VmKind" := E30.wr W38
  have F40 : Fld Z h38 ao "com/example/wattfold/wattfold/solver/ScaledProblem$VmKind" "failover" "Z" (.int (0 : Int32)) := F32.other W38 (Or.inr (slot_ne (Or.inr (hw _ (List.mem_of_getElem? (i := 27) rfl))) (Or.inr (hw _ (List.mem_of_getElem? (i := 25) rfl))) (by decide) (t := .boolean) (t' := (.array .long)) (by decide) (by decide)))
  have F41 : Fld Z h38 ao "com/example/wattfold/wattfold/solver/ScaledProblem$VmKind" "moveCost" "J" (.long (0 : Int64)) := F33.other W38 (Or.inr (slot_ne (Or.inr (hw _ (List.mem_of_getElem? (i := 29) rfl))) (Or.inr (hw _ (List.mem_of_getElem? (i := 25) rfl))) (by decide) (t := .long) (t' := (.array .long)) (by decide) (by decide)))
  have F42 : Fld Z h38 ao "com/example/wattfold/wattfold/solver/ScaledProblem$VmKind" "entry" "I" (.int xe) := F34.other W38 (Or.inr (slot_ne (Or.inr (hw _ (List.mem_of_getElem? (i := 17) rfl))) (Or.inr (hw _ (List.mem_of_getElem? (i := 25) rfl))) (by decide) (t := .int) (t' := (.array .long)) (by decide) (by decide)))
  have F43 : Fld Z h38 ao "com/example/wattfold/wattfold/solver/ScaledProblem$VmKind" "vms" "[I" (.ref av) := F35.other W38 (Or.inr (slot_ne (Or.inr (hw _ (List.mem_of_getElem? (i := 19) rfl))) (Or.inr (hw _ (List.mem_of_getElem? (i := 25) rfl))) (by decide) (t := (.array .int)) (t' := (.array .long)) (by decide) (by decide)))
  have F44 : Fld Z h38 ao "com/example/wattfold/wattfold/solver/ScaledProblem$VmKind" "vcpus" "J" (.long xv) := F36.other W38 (Or.inr (slot_ne (Or.inr (hw _ (List.mem_of_getElem? (i := 21) rfl))) (Or.inr (hw _ (List.mem_of_getElem? (i := 25) rfl))) (by decide) (t := .long) (t' := (.array .long)) (by decide) (by decide)))
  have F45 : Fld Z h38 ao "com/example/wattfold/wattfold/solver/ScaledProblem$VmKind" "memory" "J" (.long xm) := F37.other W38 (Or.inr (slot_ne (Or.inr (hw _ (List.mem_of_getElem? (i := 23) rfl))) (Or.inr (hw _ (List.mem_of_getElem? (i := 25) rfl))) (by decide) (t := .long) (t' := (.array .long)) (by decide) (by decide)))
  have F46 : Fld Z h38 ao "com/example/wattfold/wattfold/solver/ScaledProblem$VmKind" "disks" "[J" (.ref ad) := F31.same W38
  have N38 := Fr.snoc X38 N29 ge_ao
  have sz38 : n0 ≤ h38.size := Nat.le_trans sz29 (Keep.of_wr W38).1
  have K38 : Keep h0 h38 [ao] := (K29).wr W38 (Or.inl (List.mem_of_getElem? (i := 0) rfl))
  refine own_Goes.via (T' := T38) (g' := (mkF m 31 #[.val (.ref ao), .val (.int xe), .val (.ref av), .val (.long xv), .second, .val (.long xm), .second, .val (.ref ad), .val (.int xf), .val (.long xc), .second] [])) (st38) ?_
  refine own_Goes.via (T' := T38) (g' := (mkF m 32 #[.val (.ref ao), .val (.int xe), .val (.ref av), .val (.long xv), .second, .val (.long xm), .second, .val (.ref ad), .val (.int xf), .val (.long xc), .second] [(.ref ao)])) (fun t_ k_ => XS.aloadN X38.here hx rfl (hb hby d1_31) rfl rfl k_) ?_
  refine own_Goes.via (T' := T38) (g' := (mkF m 34 #[.val (.ref ao), .val (.int xe), .val (.ref av), .val (.long xv), .second, .val (.long xm), .second, .val (.ref ad), .val (.int xf), .val (.long xc), .second] [(.int xf), (.ref ao)])) (fun t_ k_ => XS.iload X38.here hx rfl (hb hby d1_32) rfl k_) ?_
  obtain ⟨T47, h47, X47, e47, W47, st47⟩ := putFN X38 hx hZ hown (hw _ (List.mem_of_getElem? (i := 26) rfl)) Via.refl e38 F40 E39 (Or.inr ⟨(hw _ (List.mem_of_getElem? (i := 27) rfl)), rfl, hnm⟩) (hw _ (List.mem_of_getElem? (i := 3) rfl)) (ty := .boolean) (v' := (.int (nar .boolean xf))) (by decide) rfl (fits_nar_bool _) (g := (mkF m 34 #[.val (.ref ao), .val (.int xe), .val (.ref av), .val (.long xv), .second, .val (.long xm), .second, .val (.ref ad), .val (.int xf), .val (.long xc), .second] [(.int xf), (.ref ao)])) rfl rfl (hb hby d1_34)
  have E48 : Exa Z h47 ao "com/example/wattfold/wattfold/solver/ScaledProblem$VmKind" := E39.wr W47
  have F49 : Fld Z h47 ao "com/example/wattfold/wattfold/solver/ScaledProblem$VmKind" "moveCost" "J" (.long (0 : Int64)) := F41.other W47 (Or.inr (slot_ne (Or.inr (hw _ (List.mem_of_getElem? (i := 29) rfl))) (Or.inr (hw _ (List.mem_of_getElem? (i := 27) rfl))) (by decide) (t := .long) (t' := .boolean) (by decide) (by decide)))
  have F50 : Fld Z h47 ao "com/example/wattfold/wattfold/solver/ScaledProblem$VmKind" "entry" "I" (.int xe) := F42.other W47 (Or.inr (slot_ne (Or.inr (hw _ (List.mem_of_getElem? (i := 17) rfl))) (Or.inr (hw _ (List.mem_of_getElem? (i := 27) rfl))) (by decide) (t := .int) (t' := .boolean) (by decide) (by decide)))
  have F51 : Fld Z h47 ao "com/example/wattfold/wattfold/solver/ScaledProblem$VmKind" "vms" "[I" (.ref av) := F43.other W47 (Or.inr (slot_ne (Or.inr (hw _ (List.mem_of_getElem? (i := 19) rfl))) (Or.inr (hw _ (List.mem_of_getElem? (i := 27) rfl))) (by decide) (t := (.array .int)) (t' := .boolean) (by decide) (by decide)))
  have F52 : Fld Z h47 ao "com/example/wattfold/wattfold/solver/ScaledProblem$VmKind" "vcpus" "J" (.long xv) := F44.other W47 (Or.inr (slot_ne (Or.inr (hw _ (List.mem_of_getElem? (i := 21) rfl))) (Or.inr (hw _ (List.mem_of_getElem? (i := 27) rfl))) (by decide) (t := .long) (t' := .boolean) (by decide) (by decide)))
  have F53 : Fld Z h47 ao "com/example/wattfold/wattfold/solver/ScaledProblem$VmKind" "memory" "J" (.long xm) := F45.other W47 (Or.inr (slot_ne (Or.inr (hw _ (List.mem_of_getElem? (i := 23) rfl))) (Or.inr (hw _ (List.mem_of_getElem? (i := 27) rfl))) (by decide) (t := .long) (t' := .boolean) (by decide) (by decide)))
  have F54 : Fld Z h47 ao "com/example/wattfold/wattfold/solver/ScaledProblem$VmKind" "disks" "[J" (.ref ad) := F46.other W47 (Or.inr (slot_ne (Or.inr (hw _ (List.mem_of_getElem? (i := 25) rfl))) (Or.inr (hw _ (List.mem_of_getElem? (i := 27) rfl))) (by decide) (t := (.array .long)) (t' := .boolean) (by decide) (by decide)))
  have F55 : Fld Z h47 ao "com/example/wattfold/wattfold/solver/ScaledProblem$VmKind" "failover" "Z" (.int (nar .boolean xf)) := F40.same W47
  have N47 := Fr.snoc X47 N38 ge_ao
  have sz47 : n0 ≤ h47.size := Nat.le_trans sz38 (Keep.of_wr W47).1
  have K47 : Keep h0 h47 [ao] := (K38).wr W47 (Or.inl (List.mem_of_getElem? (i := 0) rfl))
  refine own_Goes.via (T' := T47) (g' := (mkF m 37 #[.val (.ref ao), .val (.int xe), .val (.ref av), .val (.long xv), .second, .val (.long xm), .second, .val (.ref ad), .val (.int xf), .val (.long xc), .second] [])) (st47) ?_
  refine own_Goes.via (T' := T47) (g' := (mkF m 38 #[.val (.ref ao), .val (.int xe), .val (.ref av), .val (.long xv), .second, .val (.long xm), .second, .val (.ref ad), .val (.int xf), .val (.long xc), .second] [(.ref ao)])) (fun t_ k_ => XS.aloadN X47.here hx rfl (hb hby d1_37) rfl rfl k_) ?_
  refine own_Goes.via (T' := T47) (g' := (mkF m 40 #[.val (.ref ao), .val (.int xe), .val (.ref av), .val (.long xv), .second, .val (.long xm), .second, .val (.ref ad), .val (.int xf), .val (.long xc), .second] [(.long xc), (.ref ao)])) (fun t_ k_ => XS.lload X47.here hx rfl (hb hby d1_38) rfl k_) ?_
  obtain ⟨T56, h56, X56, e56, W56, st56⟩ := putF X47 hx hZ hown (host := "") (Or.inl (hw _ (List.mem_of_getElem? (i := 28) rfl))) Via.refl e47 F49 E48 (Or.inr ⟨(hw _ (List.mem_of_getElem? (i := 29) rfl)), rfl, hnm⟩) (hw _ (List.mem_of_getElem? (i := 3) rfl)) (ty := .long) (by decide) rfl rfl (g := (mkF m 40 #[.val (.ref ao), .val (.int xe), .val (.ref av), .val (.long xv), .second, .val (.long xm), .second, .val (.ref ad), .val (.int xf), .val (.long xc), .second] [(.long xc), (.ref ao)])) rfl rfl (hb hby d1_40)
  have E57 : Exa Z h56 ao "com/example/wattfold/wattfold/solver/ScaledProblem$VmKind" := E48.wr W56
  have F58 : Fld Z h56 ao "com/example/wattfold/wattfold/solver/ScaledProblem$VmKind" "entry" "I" (.int xe) := F50.other W56 (Or.inr (slot_ne (Or.inr (hw _ (List.mem_of_getElem? (i := 17) rfl))) (Or.inr (hw _ (List.mem_of_getElem? (i := 29) rfl))) (by decide) (t := .int) (t' := .long) (by decide) (by decide)))
  have F59 : Fld Z h56 ao "com/example/wattfold/wattfold/solver/ScaledProblem$VmKind" "vms" "[I" (.ref av) := F51.other W56 (Or.inr (slot_ne (Or.inr (hw _ (List.mem_of_getElem? (i := 19) rfl))) (Or.inr (hw _ (List.mem_of_getElem? (i := 29) rfl))) (by decide) (t := (.array .int)) (t' := .long) (by decide) (by decide)))
  have F60 : Fld Z h56 ao "com/example/wattfold/wattfold/solver/ScaledProblem$VmKind" "vcpus" "J" (.long xv) := F52.other W56 (Or.inr (slot_ne (Or.inr (hw _ (List.mem_of_getElem? (i := 21) rfl))) (Or.inr (hw _ (List.mem_of_getElem? (i := 29) rfl))) (by decide) (t := .long) (t' := .long) (by decide) (by decide)))
  have F61 : Fld Z h56 ao "com/example/wattfold/wattfold/solver/ScaledProblem$VmKind" "memory" "J" (.long xm) := F53.other W56 (Or.inr (slot_ne (Or.inr (hw _ (List.mem_of_getElem? (i := 23) rfl))) (Or.inr (hw _ (List.mem_of_getElem? (i := 29) rfl))) (by decide) (t := .long) (t' := .long) (by decide) (by decide)))
  have F62 : Fld Z h56 ao "com/example/wattfold/wattfold/solver/ScaledProblem$VmKind" "disks" "[J" (.ref ad) := F54.other W56 (Or.inr (slot_ne (Or.inr (hw _ (List.mem_of_getElem? (i := 25) rfl))) (Or.inr (hw _ (List.mem_of_getElem? (i := 29) rfl))) (by decide) (t := (.array .long)) (t' := .long) (by decide) (by decide)))
  have F63 : Fld Z h56 ao "com/example/wattfold/wattfold/solver/ScaledProblem$VmKind" "failover" "Z" (.int (nar .boolean xf)) := F55.other W56 (Or.inr (slot_ne (Or.inr (hw _ (List.mem_of_getElem? (i := 27) rfl))) (Or.inr (hw _ (List.mem_of_getElem? (i := 29) rfl))) (by decide) (t := .boolean) (t' := .long) (by decide) (by decide)))
  have F64 : Fld Z h56 ao "com/example/wattfold/wattfold/solver/ScaledProblem$VmKind" "moveCost" "J" (.long xc) := F49.same W56
  have N56 := Fr.snoc X56 N47 ge_ao
  have sz56 : n0 ≤ h56.size := Nat.le_trans sz47 (Keep.of_wr W56).1
  have K56 : Keep h0 h56 [ao] := (K47).wr W56 (Or.inl (List.mem_of_getElem? (i := 0) rfl))
  refine own_Goes.via (T' := T56) (g' := (mkF m 43 #[.val (.ref ao), .val (.int xe), .val (.ref av), .val (.long xv), .second, .val (.long xm), .second, .val (.ref ad), .val (.int xf), .val (.long xc), .second] [])) (st56) ?_
  obtain ⟨fs, hr, hrun, hended, hW, hsame⟩ := X56.leave (v := none) (fun _ => rfl)
  refine own_Goes.fin (X56.returnOut hx Bd.returns (hb hby d1_43) hr) hrun hended ?_
  subst hPd
  refine ⟨_, _, rfl, ?_, ⟨_, rfl⟩, hW, hsame.mono (by decide) (by decide)⟩
  show Q1 Z ao xe av xv xm ad xf xc h0 n0 _ T56.heap _
  rw [e56]
  exact ⟨rfl, N56, K56, E57, F58, F59, F60, F61, F62, F63, F64⟩
theorem d5_0 : decode prog_52_method_2_code 0 = .ok (.aload_n 0, 1) := by decide +kernel
theorem d5_1 : decode prog_52_method_2_code 1 = .ok (.getfield 13, 3) := by decide +kernel
theorem d5_4 : decode prog_52_method_2_code 4 = .ok (.arraylength, 1) := by decide +kernel
theorem d5_5 : decode prog_52_method_2_code 5 = .ok (.ireturn, 1) := by decide +kernel
theorem pn_5 : plainName "com/example/wattfold/wattfold/solver/ScaledProblem$VmKind" = true := by first | (simp [plainName, overriddenIn]; done) | decide +kernel
theorem ef_5 (m : MethodId) (ao : Addr) : entryFrame m #[(.ref ao)] 1 = mkF m 0 #[.val (.ref ao)] [] := by first | (simp [entryFrame, mkF, argsToLocals, Value.category]; done) | rfl
def own_f5 (xn : Int32) : Int32 := xn
def Q5 (Z : State) (ao : Addr) (av : Addr) (kv : ClassId) (xn : Int32) (h0 : Heap) (n0 : Nat) (v : Option Value) (h : Heap) (L : List Loc) : Prop := v = some (.int (own_f5 xn)) ∧ Fr n0 L ∧ h = h0
set_option maxRecDepth 65536 in
set_option maxHeartbeats 40000000 in
theorem rm5 (l : Launch) (Z : State) (a0 : Array Value) (hw : ∀ d ∈ tables_1, d.before a0 Z = true) (ws : List Jvm.Cond) (ao : Addr) (av : Addr) (kv : ClassId) (xn : Int32) (h0 : Heap) (n0 : Nat) (Z0 : n0 ≤ h0.size) (PF0 : Fld Z h0 ao "com/example/wattfold/wattfold/solver/ScaledProblem$VmKind" "vms" "[I" (.ref av)) (PF1 : Arv Z h0 av kv .int xn [] (.int (0 : Int32))) :
    MetFree l (⟨"com/example/wattfold/wattfold/solver/ScaledProblem$VmKind", "count", "()I"⟩ : MethodName) (head1 (Jvm.Cond.code (⟨"com/example/wattfold/wattfold/solver/ScaledProblem$VmKind", "count", "()I"⟩ : MethodName) prog_52_method_2_code 1 (some .int) :: ws) ({ frames := 0, cells := 0, slots := 0, locals := 0 } : Room)) (fun a U => a = #[(.ref ao)] ∧ Z.Warmed39 U.vm ∧ U.heap = h0) (fun _ _ _ _ _ => True) (fun _ U o U' => ∃ v L, o = .returned v ∧ Q5 Z ao av kv xn h0 n0 v U'.heap L ∧ FrameEnd U o U' L ({ frames := 0, cells := 0, slots := 0, locals := 0 } : Room).cells ({ frames := 0, cells := 0, slots := 0, locals := 0 } : Room).slots) := by
  refine MetFree.of_bodySF (plainFor_of_name pn_5) hisR ?_
  intro p e s m args below meth c s₁ Bd hml0 hP hK
  obtain ⟨rfl, hZ, hh⟩ := hP
  have hx := Bd.exec
  have hby := Bd.bytes
  have hml : c.maxLocals = 1 := hml0
  have hown : s.vm.findClass "com/example/wattfold/wattfold/solver/ScaledProblem$VmKind" = some m.cls := findClass_of_methodNamed Bd.named
  have hnm := (name_of_methodNamed Bd.named Bd.method).1
  have X0 : Stand p l e ({ frames := 0, cells := 0, slots := 0, locals := 0 } : Room) s m #[(.ref ao)] below meth c s₁ [] 0 0 := Stand.of_body Bd
  have e0 : s₁.heap = h0 := by rw [← hh, Bd.state]; rfl
  have N0 := Fr.nil n0
  suffices G : own_Goes p.tables e below (fun o U' => ∃ v L, o = .returned v ∧ Q5 Z ao av kv xn h0 n0 v U'.heap L ∧ FrameEnd s o U' L ({ frames := 0, cells := 0, slots := 0, locals := 0 } : Room).cells ({ frames := 0, cells := 0, slots := 0, locals := 0 } : Room).slots) s₁ (mkF m 0 #[.val (.ref ao)] []) by
    obtain ⟨t2_, o2_, z1_, z2_, z3_, z4_⟩ := G
    exact ⟨t2_, o2_, castTop (ef_5 m ao) z1_, z2_, z3_, z4_⟩
  generalize hPd : (fun (o : Outcome) (U' : State) => ∃ v L, o = .returned v ∧ Q5 Z ao av kv xn h0 n0 v U'.heap L ∧ FrameEnd s o U' L ({ frames := 0, cells := 0, slots := 0, locals := 0 } : Room).cells ({ frames := 0, cells := 0, slots := 0, locals := 0 } : Room).slots) = P
  refine own_Goes.via (T' := s₁) (g' := (mkF m 1 #[.val (.ref ao)] [(.ref ao)])) (fun t_ k_ => XS.aloadN X0.here hx rfl (hb hby d5_0) rfl rfl k_) ?_
  obtain ⟨T1, X1, e1, st1⟩ := getF X0 hx hZ hown (host := "") (Or.inl (hw _ (List.mem_of_getElem? (i := 18) rfl))) Via.refl e0 PF0 (g := (mkF m 1 #[.val (.ref ao)] [(.ref ao)])) rfl rfl (hb hby d5_1)
  refine own_Goes.via (T' := T1) (g' := (mkF m 4 #[.val (.ref ao)] [(.ref av)])) (st1) ?_
  obtain ⟨cl2, Ar2, -, Sl2, Ng2, -, -⟩ := PF1
  refine own_Goes.via (T' := T1) (g' := (mkF m 5 #[.val (.ref ao)] [(.int xn)])) (fun t_ k_ => X1.arraylength hx (by rw [e1]; exact Ar2.1) (State.isArrayOf_alike hZ.alike Ar2.2.1) (g := (mkF m 4 #[.val (.ref ao)] [(.ref av)])) rfl rfl (hb hby d5_4) _ (by rw [len_of Sl2 Ng2]; exact k_)) ?_
  obtain ⟨fs, hr, hrun, hended, hW, hsame⟩ := X1.leave (v := some (.int xn)) (fun h => by rw [Bd.returns] at h; cases h)
  refine own_Goes.fin (retOut X1 hx Bd.returns rfl (Or.inl ⟨rfl, Or.inl rfl, _, rfl⟩) (hb hby d5_5) hr) hrun hended ?_
  subst hPd
  refine ⟨_, _, rfl, ?_, ⟨_, rfl⟩, hW, hsame.mono (by decide) (by decide)⟩
  show Q5 Z ao av kv xn h0 n0 _ T1.heap _
  rw [e1]
  exact ⟨(by first | rfl | (simp only [own_f5])), N0, rfl⟩
theorem d4_0 : decode prog_52_method_3_code 0 = .ok (.aload_n 0, 1) := by decide +kernel
theorem d4_1 : decode prog_52_method_3_code 1 = .ok (.getfield 28, 3) := by decide +kernel
theorem d4_4 : decode prog_52_method_3_code 4 = .ok (.ifCond .eq 12, 3) := by decide +kernel
theorem d4_7 : decode prog_52_method_3_code 7 = .ok (.aload_n 0, 1) := by decide +kernel
theorem d4_8 : decode prog_52_method_3_code 8 = .ok (.invokevirtual 35, 3) := by decide +kernel
theorem d4_11 : decode prog_52_method_3_code 11 = .ok (.iconst 2, 1) := by decide +kernel
theorem d4_12 : decode prog_52_method_3_code 12 = .ok (.idiv, 1) := by decide +kernel
theorem d4_13 : decode prog_52_method_3_code 13 = .ok (.goto 7, 3) := by decide +kernel
theorem d4_16 : decode prog_52_method_3_code 16 = .ok (.aload_n 0, 1) := by decide +kernel
theorem d4_17 : decode prog_52_method_3_code 17 = .ok (.invokevirtual 35, 3) := by decide +kernel
theorem d4_20 : decode prog_52_method_3_code 20 = .ok (.ireturn, 1) := by decide +kernel
theorem pn_4 : plainName "com/example/wattfold/wattfold/solver/ScaledProblem$VmKind" = true := by first | (simp [plainName, overriddenIn]; done) | decide +kernel
theorem pd_4_0 : parseMethodDescriptor "()I" = some ⟨[], some .int⟩ := by decide +kernel
theorem ef_4 (m : MethodId) (ao : Addr) : entryFrame m #[(.ref ao)] 1 = mkF m 0 #[.val (.ref ao)] [] := by first | (simp [entryFrame, mkF, argsToLocals, Value.category]; done) | rfl
def own_f4 (xn : Int32) (xf : Int32) : Int32 := (if xf = (0 : Int32) then (own_f5 xn) else ((own_f5 xn) / (2 : Int32)))
def Q4 (Z : State) (ao : Addr) (av : Addr) (kv : ClassId) (xn : Int32) (xf : Int32) (h0 : Heap) (n0 : Nat) (v : Option Value) (h : Heap) (L : List Loc) : Prop := v = some (.int (own_f4 xn xf)) ∧ Fr n0 L ∧ h = h0
set_option maxRecDepth 65536 in
set_option maxHeartbeats 40000000 in
theorem rm4 (l : Launch) (Z : State) (a0 : Array Value) (hw : ∀ d ∈ tables_1, d.before a0 Z = true) (ws : List Jvm.Cond) (ao : Addr) (av : Addr) (kv : ClassId) (xn : Int32) (xf : Int32) (h0 : Heap) (n0 : Nat) (Z0 : n0 ≤ h0.size) (PF0 : Exa Z h0 ao "com/example/wattfold/wattfold/solver/ScaledProblem$VmKind") (PF1 : Fld Z h0 ao "com/example/wattfold/wattfold/solver/ScaledProblem$VmKind" "vms" "[I" (.ref av)) (PF2 : Fld Z h0 ao "com/example/wattfold/wattfold/solver/ScaledProblem$VmKind" "failover" "Z" (.int xf)) (PF3 : Arv Z h0 av kv .int xn [] (.int (0 : Int32))) :
    MetFree l (⟨"com/example/wattfold/wattfold/solver/ScaledProblem$VmKind", "perServer", "()I"⟩ : MethodName) (head1 (Jvm.Cond.code (⟨"com/example/wattfold/wattfold/solver/ScaledProblem$VmKind", "perServer", "()I"⟩ : MethodName) prog_52_method_3_code 1 (some .int) :: ws) ({ frames := 1, cells := 0, slots := 0, locals := 12 } : Room)) (fun a U => a = #[(.ref ao)] ∧ Z.Warmed39 U.vm ∧ U.heap = h0) (fun _ _ _ _ _ => True) (fun _ U o U' => ∃ v L, o = .returned v ∧ Q4 Z ao av kv xn xf h0 n0 v U'.heap L ∧ FrameEnd U o U' L ({ frames := 1, cells := 0, slots := 0, locals := 12 } : Room).cells ({ frames := 1, cells := 0, slots := 0, locals := 12 } : Room).slots) := by
  refine MetFree.of_bodySF (plainFor_of_name pn_4) hisR ?_
  intro p e s m args below meth c s₁ Bd hml0 hP hK
  obtain ⟨rfl, hZ, hh⟩ := hP
  have hx := Bd.exec
  have hby := Bd.bytes
  have hml : c.maxLocals = 1 := hml0
  have hown : s.vm.findClass "com/example/wattfold/wattfold/solver/ScaledProblem$VmKind" = some m.cls := findClass_of_methodNamed Bd.named
  have hnm := (name_of_methodNamed Bd.named Bd.method).1
  have X0 : Stand p l e ({ frames := 1, cells := 0, slots := 0, locals := 12 } : Room) s m #[(.ref ao)] below meth c s₁ [] 0 0 := Stand.of_body Bd
  have e0 : s₁.heap = h0 := by rw [← hh, Bd.state]; rfl
  have N0 := Fr.nil n0
  suffices G : own_Goes p.tables e below (fun o U' => ∃ v L, o = .returned v ∧ Q4 Z ao av kv xn xf h0 n0 v U'.heap L ∧ FrameEnd s o U' L ({ frames := 1, cells := 0, slots := 0, locals := 12 } : Room).cells ({ frames := 1, cells := 0, slots := 0, locals := 12 } : Room).slots) s₁ (mkF m 0 #[.val (.ref ao)] []) by
    obtain ⟨t2_, o2_, z1_, z2_, z3_, z4_⟩ := G
    exact ⟨t2_, o2_, castTop (ef_4 m ao) z1_, z2_, z3_, z4_⟩
  generalize hPd : (fun (o : Outcome) (U' : State) => ∃ v L, o = .returned v ∧ Q4 Z ao av kv xn xf h0 n0 v U'.heap L ∧ FrameEnd s o U' L ({ frames := 1, cells := 0, slots := 0, locals := 12 } : Room).cells ({ frames := 1, cells := 0, slots := 0, locals := 12 } : Room).slots) = P
  refine own_Goes.via (T' := s₁) (g' := (mkF m 1 #[.val (.ref ao)] [(.ref ao)])) (fun t_ k_ => XS.aloadN X0.here hx rfl (hb hby d4_0) rfl rfl k_) ?_
  obtain ⟨T1, X1, e1, st1⟩ := getF X0 hx hZ hown (host := "") (Or.inl (hw _ (List.mem_of_getElem? (i := 26) rfl))) Via.refl e0 PF2 (g := (mkF m 1 #[.val (.ref ao)] [(.ref ao)])) rfl rfl (hb hby d4_1)
  refine own_Goes.via (T' := T1) (g' := (mkF m 4 #[.val (.ref ao)] [(.int xf)])) (st1) ?_
  suffices J20_5 : ∀ (T4 : State) (L4 : List Loc) (X4 : Stand p l e ({ frames := 1, cells := 0, slots := 0, locals := 12 } : Room) s m #[(.ref ao)] below meth c T4 L4 0 0) (e4 : T4.heap = h0) (N4 : Fr n0 L4) (v20_3 : Int32) (hv20_3 : v20_3 = (if xf = (0 : Int32) then (own_f5 xn) else ((own_f5 xn) / (2 : Int32)))), own_Goes p.tables e below P T4 (mkF m 20 #[.val (.ref ao)] [(.int v20_3)]) by
    by_cases hc4_2 : xf = (0 : Int32)
    · refine own_Goes.via (T' := T1) (g' := (mkF m 16 #[.val (.ref ao)] [])) (fun t_ k_ => XS.ifYes X1.here hx rfl (pc0 := 4) (pc' := 16) rfl (hb hby d4_4) rfl ((if0 _ _).trans (teq hc4_2).1) (by decide) (by decide) k_) ?_
      refine own_Goes.via (T' := T1) (g' := (mkF m 17 #[.val (.ref ao)] [(.ref ao)])) (fun t_ k_ => XS.aloadN X1.here hx rfl (hb hby d4_16) rfl rfl k_) ?_
      obtain ⟨cq6, kq6, q6a, q6b, q6c⟩ := isOf hZ e1 PF0
      obtain ⟨_, _, ⟨T6, L6, k6, n6⟩, -, X6, ⟨Lc6, hQ6, l6, y6, z6⟩, st6⟩ := X1.virtualBack hx (y := (⟨"com/example/wattfold/wattfold/solver/ScaledProblem$VmKind", "count", "()I"⟩ : MethodName)) (z := (⟨"com/example/wattfold/wattfold/solver/ScaledProblem$VmKind", "count", "()I"⟩ : MethodName)) hown (mvT hZ (hw _ (List.mem_of_getElem? (i := 35) rfl))) (mvT hZ (hw _ (List.mem_of_getElem? (i := 36) rfl))) (notFace_of_selects (args := #[]) (mvT hZ (hw _ (List.mem_of_getElem? (i := 38) rfl)))) (mvT hZ (hw _ (List.mem_of_getElem? (i := 38) rfl))) (mvT hZ (hw _ (List.mem_of_getElem? (i := 37) rfl))) (by decide) (backOf (W := 0) (rm5 l Z a0 hw [] ao av kv xn h0 n0 Z0 PF1 PF3) hZ (hw _ (List.mem_of_getElem? (i := 39) rfl)) (hw _ (List.mem_of_getElem? (i := 4) rfl)) (by decide) (by decide)) q6a q6c (g := (mkF m 17 #[.val (.ref ao)] [(.ref ao)])) rfl (by rw [hml]; rfl) (Steps.refl _) (argsL := []) (rest := []) (lenOf pd_4_0 rfl) rfl (by show 2 * 0 + _ ≤ _; exact Nat.le_of_eq rfl) (hb hby d4_17) (fun _ _ => ⟨rfl, e1, (by decide : 0 + 0 ≤ _), (by decide : 0 + 0 ≤ _)⟩)
      dsimp only [Pt.U, Pt.locs, Pt.cells, Pt.slots] at X6 l6 y6 z6 st6 hQ6
      subst l6 y6 z6
      obtain ⟨rfl, Nq6, hh6⟩ := hQ6
      have N6 := Fr.app N0 Nq6
      refine own_Goes.via (T' := T6) (g' := (mkF m 20 #[.val (.ref ao)] [(.int (own_f5 xn))])) (fun t_ k_ => st6.trans k_) ?_
      exact J20_5 T6 _ X6 hh6 N6 (own_f5 xn) ((if_pos hc4_2)).symm
    · refine own_Goes.via (T' := T1) (g' := (mkF m 7 #[.val (.ref ao)] [])) (fun t_ k_ => XS.ifNo X1.here hx rfl (hb hby d4_4) rfl ((if0 _ _).trans (feq hc4_2).1) k_) ?_
      refine own_Goes.via (T' := T1) (g' := (mkF m 8 #[.val (.ref ao)] [(.ref ao)])) (fun t_ k_ => XS.aloadN X1.here hx rfl (hb hby d4_7) rfl rfl k_) ?_
      obtain ⟨cq7, kq7, q7a, q7b, q7c⟩ := isOf hZ e1 PF0
      obtain ⟨_, _, ⟨T7, L7, k7, n7⟩, -, X7, ⟨Lc7, hQ7, l7, y7, z7⟩, st7⟩ := X1.virtualBack hx (y := (⟨"com/example/wattfold/wattfold/solver/ScaledProblem$VmKind", "count", "()I"⟩ : MethodName)) (z := (⟨"com/example/wattfold/wattfold/solver/ScaledProblem$VmKind", "count", "()I"⟩ : MethodName)) hown (mvT hZ (hw _ (List.mem_of_getElem? (i := 35) rfl))) (mvT hZ (hw _ (List.mem_of_getElem? (i := 36) rfl))) (notFace_of_selects (args := #[]) (mvT hZ (hw _ (List.mem_of_getElem? (i := 38) rfl)))) (mvT hZ (hw _ (List.mem_of_getElem? (i := 38) rfl))) (mvT hZ (hw _ (List.mem_of_getElem? (i := 37) rfl))) (by decide) (backOf (W := 0) (rm5 l Z a0 hw [] ao av kv xn h0 n0 Z0 PF1 PF3) hZ (hw _ (List.mem_of_getElem? (i := 39) rfl)) (hw _ (List.mem_of_getElem? (i := 4) rfl)) (by decide) (by decide)) q7a q7c (g := (mkF m 8 #[.val (.ref ao)] [(.ref ao)])) rfl (by rw [hml]; rfl) (Steps.refl _) (argsL := []) (rest := []) (lenOf pd_4_0 rfl) rfl (by show 2 * 0 + _ ≤ _; exact Nat.le_of_eq rfl) (hb hby d4_8) (fun _ _ => ⟨rfl, e1, (by decide : 0 + 0 ≤ _), (by decide : 0 + 0 ≤ _)⟩)
      dsimp only [Pt.U, Pt.locs, Pt.cells, Pt.slots] at X7 l7 y7 z7 st7 hQ7
      subst l7 y7 z7
      obtain ⟨rfl, Nq7, hh7⟩ := hQ7
      have N7 := Fr.app N0 Nq7
      refine own_Goes.via (T' := T7) (g' := (mkF m 11 #[.val (.ref ao)] [(.int (own_f5 xn))])) (fun t_ k_ => st7.trans k_) ?_
      refine own_Goes.via (T' := T7) (g' := (mkF m 12 #[.val (.ref ao)] [(.int (2 : Int32)), (.int (own_f5 xn))])) (fun t_ k_ => XS.iconst X7.here hx rfl (hb hby d4_11) k_) ?_
      have nz12_8 : (2 : Int32) ≠ (0 : Int32) := by decide
      refine own_Goes.via (T' := T7) (g' := (mkF m 13 #[.val (.ref ao)] [(.int ((own_f5 xn) / (2 : Int32)))])) (fun t_ k_ => XS.idiv X7.here hx rfl (hb hby d4_12) rfl nz12_8 k_) ?_
      refine own_Goes.via (T' := T7) (g' := (mkF m 20 #[.val (.ref ao)] [(.int ((own_f5 xn) / (2 : Int32)))])) (fun t_ k_ => XS.goto X7.here hx rfl (pc0 := 13) (pc' := 20) rfl (hb hby d4_13) (by decide) (by decide) k_) ?_
      exact J20_5 T7 _ X7 hh7 N7 ((own_f5 xn) / (2 : Int32)) ((if_neg hc4_2)).symm
  intro T4 L4 X4 e4 N4 v20_3 hv20_3
  obtain ⟨fs, hr, hrun, hended, hW, hsame⟩ := X4.leave (v := some (.int v20_3)) (fun h => by rw [Bd.returns] at h; cases h)
  refine own_Goes.fin (retOut X4 hx Bd.returns rfl (Or.inl ⟨rfl, Or.inl rfl, _, rfl⟩) (hb hby d4_20) hr) hrun hended ?_
  subst hPd
  refine ⟨_, _, rfl, ?_, ⟨_, rfl⟩, hW, hsame.mono (by decide) (by decide)⟩
  show Q4 Z ao av kv xn xf h0 n0 _ T4.heap _
  rw [e4]
  exact ⟨(by subst hv20_3; first | rfl | (simp only [own_f4])), N4, rfl⟩
theorem own_m7 (x : Int32) : ∃ m : Int, 0 ≤ m ∧ m ≤ 7 ∧ (x &&& (7 : Int32)).toInt = m ∧ ((2 : Int32) * (x &&& (7 : Int32))).toInt = 2 * m := by
  have m := Jvm.Kit.i32_mask x (7 : Int32) (k := 3) (by decide) (by decide)
  have t : (2 : Int32).toInt = 2 := rfl
  refine ⟨_, ?_, ?_, rfl, ?_⟩
  · rw [m]; omega
  · rw [m]; omega
  · rw [Jvm.Kit.i32_mul (by rw [t, m]; omega) (by rw [t, m]; omega), t]
theorem own_m15 (x : Int32) : 0 ≤ (x &&& (15 : Int32)).toInt ∧ (x &&& (15 : Int32)).toInt ≤ 15 := by
  have m := Jvm.Kit.i32_mask x (15 : Int32) (k := 4) (by decide) (by decide)
  rw [m]; omega
theorem own_m3 (x : Int32) : 0 ≤ (x &&& (3 : Int32)).toInt ∧ (x &&& (3 : Int32)).toInt ≤ 3 := by
  have m := Jvm.Kit.i32_mask x (3 : Int32) (k := 2) (by decide) (by decide)
  rw [m]; omega
theorem own_neg {x : Int32} (h : 0 ≤ x.toInt) : ¬ x < 0 := by
  rw [Int32.lt_iff_toInt_lt]
  have z : (0 : Int32).toInt = 0 := rfl
  omega
theorem own_cap {x : Int32} {n : Nat} (h : x.toInt ≤ n) : x.toNatClampNeg ≤ n := by
  show x.toInt.toNat ≤ n
  omega
theorem own_len {xs v11 v31 : Int32} (hv31 : v31 = (if v11 = (0 : Int32) then (xs &&& (15 : Int32)) else ((2 : Int32) * (xs &&& (7 : Int32))))) : 0 ≤ v31.toInt ∧ v31.toInt ≤ 15 := by
  rw [hv31]
  split
  · exact own_m15 xs
  · obtain ⟨m, m0, m7, -, e⟩ := own_m7 xs
    rw [e]; omega
theorem pn_0 : plainName "com/example/wattfold/wattfold/solver/VmKindPerServerPinLaw" = true := by first | (simp [plainName, overriddenIn]; done) | decide +kernel
theorem pd_0_0 : parseMethodDescriptor "(I[IJJ[JZJ)V" = some ⟨[.int, (.array .int), .long, .long, (.array .long), .boolean, .long], none⟩ := by decide +kernel
theorem pd_0_1 : parseMethodDescriptor "()I" = some ⟨[], some .int⟩ := by decide +kernel
theorem ef_0 (m : MethodId) (xs : Int32) (xf : Int32) (xe : Int32) (xv : Int64) (xm : Int64) (xc : Int64) : entryFrame m #[(.int xs), (.int xf), (.int xe), (.long xv), (.long xm), (.long xc)] maxLocals = mkF m 0 #[.val (.int xs), .val (.int xf), .val (.int xe), .val (.long xv), .second, .val (.long xm), .second, .val (.long xc), .second, .unset, .unset, .unset, .unset, .unset, .unset] [] := by first | (simp [entryFrame, mkF, argsToLocals, Value.category, maxLocals]; done) | rfl
def Q0 (Z : State) (xs : Int32) (xf : Int32) (xe : Int32) (xv : Int64) (xm : Int64) (xc : Int64) (h0 : Heap) (n0 : Nat) (v : Option Value) (h : Heap) (L : List Loc) : Prop := v = some (.int 1) ∧ Fr n0 L
set_option maxRecDepth 65536 in
theorem own_pl0_0 {xs : Int32} {xf : Int32} {v11_2 : Int32} {v31_6 : Int32} (hv11_2 : v11_2 = (if (xf &&& (1 : Int32)) = (0 : Int32) then (0 : Int32) else (1 : Int32))) (hv31_6 : v31_6 = (if v11_2 = (0 : Int32) then (xs &&& (15 : Int32)) else ((2 : Int32) * (xs &&& (7 : Int32))))) : ¬ v31_6 < 0 := by
  exact own_neg (own_len hv31_6).1
set_option maxRecDepth 65536 in
theorem own_pl0_1 {xs : Int32} {xf : Int32} {v11_2 : Int32} {v31_6 : Int32} (hv11_2 : v11_2 = (if (xf &&& (1 : Int32)) = (0 : Int32) then (0 : Int32) else (1 : Int32))) (hv31_6 : v31_6 = (if v11_2 = (0 : Int32) then (xs &&& (15 : Int32)) else ((2 : Int32) * (xs &&& (7 : Int32))))) (neg35_10 : ¬ v31_6 < 0) : v31_6.toNatClampNeg ≤ 15 := by
  exact own_cap (own_len hv31_6).2
set_option maxRecDepth 65536 in
theorem own_pl0_2 {xs : Int32} {xf : Int32} {v11_2 : Int32} {v31_6 : Int32} (hv11_2 : v11_2 = (if (xf &&& (1 : Int32)) = (0 : Int32) then (0 : Int32) else (1 : Int32))) (hv31_6 : v31_6 = (if v11_2 = (0 : Int32) then (xs &&& (15 : Int32)) else ((2 : Int32) * (xs &&& (7 : Int32))))) (neg35_10 : ¬ v31_6 < 0) (hcap35_11 : v31_6.toNatClampNeg ≤ 15) : ¬ (((xf.toUInt32 >>> ((1 : Int32) &&& 31).toUInt32).toInt32) &&& (3 : Int32)) < 0 := by
  exact own_neg (own_m3 _).1
set_option maxRecDepth 65536 in
theorem own_pl0_3 {xs : Int32} {xf : Int32} {v11_2 : Int32} {v31_6 : Int32} (hv11_2 : v11_2 = (if (xf &&& (1 : Int32)) = (0 : Int32) then (0 : Int32) else (1 : Int32))) (hv31_6 : v31_6 = (if v11_2 = (0 : Int32) then (xs &&& (15 : Int32)) else ((2 : Int32) * (xs &&& (7 : Int32))))) (neg35_10 : ¬ v31_6 < 0) (hcap35_11 : v31_6.toNatClampNeg ≤ 15) (neg44_15 : ¬ (((xf.toUInt32 >>> ((1 : Int32) &&& 31).toUInt32).toInt32) &&& (3 : Int32)) < 0) : (((xf.toUInt32 >>> ((1 : Int32) &&& 31).toUInt32).toInt32) &&& (3 : Int32)).toNatClampNeg ≤ 3 := by
  exact own_cap (own_m3 _).2
set_option maxRecDepth 65536 in
theorem own_pl0_4 {xs : Int32} {xf : Int32} {v11_2 : Int32} {v31_6 : Int32} {v41 : Int32} {v113_44 : Int32} (hv11_2 : v11_2 = (if (xf &&& (1 : Int32)) = (0 : Int32) then (0 : Int32) else (1 : Int32))) (hv31_6 : v31_6 = (if v11_2 = (0 : Int32) then (xs &&& (15 : Int32)) else ((2 : Int32) * (xs &&& (7 : Int32))))) (hv41 : v41 = (own_f4 v31_6 (nar .boolean v11_2))) (hv113_44 : v113_44 = (if v41 = v31_6 then (1 : Int32) else (0 : Int32))) (hc78_42 : v11_2 = (0 : Int32)) (neg35_10 : ¬ v31_6 < 0) (hcap35_11 : v31_6.toNatClampNeg ≤ 15) (neg44_15 : ¬ (((xf.toUInt32 >>> ((1 : Int32) &&& 31).toUInt32).toInt32) &&& (3 : Int32)) < 0) (hcap44_16 : (((xf.toUInt32 >>> ((1 : Int32) &&& 31).toUInt32).toInt32) &&& (3 : Int32)).toNatClampNeg ≤ 3) : v113_44 = 1 := by
  rw [hv113_44, hv41, hc78_42, if_pos]
  rfl
set_option maxRecDepth 65536 in
theorem own_pl0_5 {xs : Int32} {xf : Int32} {v11_2 : Int32} {v31_6 : Int32} {v41 : Int32} {v100_48 : Int32} (hv11_2 : v11_2 = (if (xf &&& (1 : Int32)) = (0 : Int32) then (0 : Int32) else (1 : Int32))) (hv31_6 : v31_6 = (if v11_2 = (0 : Int32) then (xs &&& (15 : Int32)) else ((2 : Int32) * (xs &&& (7 : Int32))))) (hv41 : v41 = (own_f4 v31_6 (nar .boolean v11_2))) (hv100_48 : v100_48 = (if v41 < (0 : Int32) then (0 : Int32) else (if ((2 : Int32) * v41) = v31_6 then (1 : Int32) else (0 : Int32)))) (hc78_42 : ¬ (v11_2 = (0 : Int32))) (neg35_10 : ¬ v31_6 < 0) (hcap35_11 : v31_6.toNatClampNeg ≤ 15) (neg44_15 : ¬ (((xf.toUInt32 >>> ((1 : Int32) &&& 31).toUInt32).toInt32) &&& (3 : Int32)) < 0) (hcap44_16 : (((xf.toUInt32 >>> ((1 : Int32) &&& 31).toUInt32).toInt32) &&& (3 : Int32)).toNatClampNeg ≤ 3) : v100_48 = 1 := by
  have e1 : v11_2 = (1 : Int32) := by
    rw [hv11_2] at hc78_42 ⊢
    split at hc78_42
    · exact absurd rfl hc78_42
    · rename_i q; rw [if_neg q]
  obtain ⟨m, m0, m7, -, e⟩ := own_m7 xs
  rw [if_neg hc78_42] at hv31_6
  have t : (2 : Int32).toInt = 2 := rfl
  have z : (0 : Int32).toInt = 0 := rfl
  have d : v41.toInt = m := by
    rw [hv41, e1]
    show (v31_6 / (2 : Int32)).toInt = m
    rw [Jvm.Kit.i32_div (by rw [t]; omega), hv31_6, e, t, Int.tdiv_eq_ediv_of_nonneg (by omega)]
    omega
  have f : ((2 : Int32) * v41) = v31_6 := Int32.toInt_inj.mp (by rw [Jvm.Kit.i32_mul (by rw [t, d]; omega) (by rw [t, d]; omega), hv31_6, e, t, d])
  rw [hv100_48, if_neg (by rw [Int32.lt_iff_toInt_lt, d, z]; omega), if_pos f]
set_option maxRecDepth 65536 in
set_option maxHeartbeats 40000000 in
theorem rm0 (l : Launch) (Z : State) (a0 : Array Value) (hw : ∀ d ∈ tables_1, d.before a0 Z = true) (ws : List Jvm.Cond) (xs : Int32) (xf : Int32) (xe : Int32) (xv : Int64) (xm : Int64) (xc : Int64) (h0 : Heap) (n0 : Nat) (Z0 : n0 ≤ h0.size) :
    MetFree l x (head1 (Jvm.Cond.code x code maxLocals ret :: ws) room_1) (fun a U => a = #[(.int xs), (.int xf), (.int xe), (.long xv), (.long xm), (.long xc)] ∧ Z.Warmed39 U.vm ∧ U.heap = h0) (fun _ _ _ _ _ => True) (fun _ U o U' => ∃ v L, o = .returned v ∧ Q0 Z xs xf xe xv xm xc h0 n0 v U'.heap L ∧ FrameEnd U o U' L 3 25) := by
  refine MetFree.of_bodySF (plainFor_of_name pn_0) hisR ?_
  intro p e s m args below meth c s₁ Bd hml0 hP hK
  obtain ⟨rfl, hZ, hh⟩ := hP
  have hx := Bd.exec
  have hby := Bd.bytes
  have hml : c.maxLocals = 15 := hml0
  have hown : s.vm.findClass "com/example/wattfold/wattfold/solver/VmKindPerServerPinLaw" = some m.cls := findClass_of_methodNamed Bd.named
  have hnm := (name_of_methodNamed Bd.named Bd.method).1
  have X0 : Stand p l e room_1 s m #[(.int xs), (.int xf), (.int xe), (.long xv), (.long xm), (.long xc)] below meth c s₁ [] 0 0 := Stand.of_body Bd
  have e0 : s₁.heap = h0 := by rw [← hh, Bd.state]; rfl
  have N0 := Fr.nil n0
  suffices G : own_Goes p.tables e below (fun o U' => ∃ v L, o = .returned v ∧ Q0 Z xs xf xe xv xm xc h0 n0 v U'.heap L ∧ FrameEnd s o U' L 3 25) s₁ (mkF m 0 #[.val (.int xs), .val (.int xf), .val (.int xe), .val (.long xv), .second, .val (.long xm), .second, .val (.long xc), .second, .unset, .unset, .unset, .unset, .unset, .unset] []) by
    obtain ⟨t2_, o2_, z1_, z2_, z3_, z4_⟩ := G
    exact ⟨t2_, o2_, castTop (ef_0 m xs xf xe xv xm xc) z1_, z2_, z3_, z4_⟩
  generalize hPd : (fun (o : Outcome) (U' : State) => ∃ v L, o = .returned v ∧ Q0 Z xs xf xe xv xm xc h0 n0 v U'.heap L ∧ FrameEnd s o U' L 3 25) = P
  refine own_Goes.via (T' := s₁) (g' := (mkF m 1 #[.val (.int xs), .val (.int xf), .val (.int xe), .val (.long xv), .second, .val (.long xm), .second, .val (.long xc), .second, .unset, .unset, .unset, .unset, .unset, .unset] [(.int xf)])) (fun t_ k_ => XS.iloadN X0.here hx rfl (hb hby at_0) rfl k_) ?_
  refine own_Goes.via (T' := s₁) (g' := (mkF m 2 #[.val (.int xs), .val (.int xf), .val (.int xe), .val (.long xv), .second, .val (.long xm), .second, .val (.long xc), .second, .unset, .unset, .unset, .unset, .unset, .unset] [(.int (1 : Int32)), (.int xf)])) (fun t_ k_ => XS.iconst X0.here hx rfl (hb hby at_1) k_) ?_
  refine own_Goes.via (T' := s₁) (g' := (mkF m 3 #[.val (.int xs), .val (.int xf), .val (.int xe), .val (.long xv), .second, .val (.long xm), .second, .val (.long xc), .second, .unset, .unset, .unset, .unset, .unset, .unset] [(.int (xf &&& (1 : Int32)))])) (fun t_ k_ => XS.iand X0.here hx rfl (hb hby at_2) rfl k_) ?_
  suffices J11_4 : ∀ (v11_2 : Int32) (hv11_2 : v11_2 = (if (xf &&& (1 : Int32)) = (0 : Int32) then (0 : Int32) else (1 : Int32))), own_Goes p.tables e below P s₁ (mkF m 11 #[.val (.int xs), .val (.int xf), .val (.int xe), .val (.long xv), .second, .val (.long xm), .second, .val (.long xc), .second, .unset, .unset, .unset, .unset, .unset, .unset] [(.int v11_2)]) by
    by_cases hc3_1 : (xf &&& (1 : Int32)) = (0 : Int32)
    · refine own_Goes.via (T' := s₁) (g' := (mkF m 10 #[.val (.int xs), .val (.int xf), .val (.int xe), .val (.long xv), .second, .val (.long xm), .second, .val (.long xc), .second, .unset, .unset, .unset, .unset, .unset, .unset] [])) (fun t_ k_ => XS.ifYes X0.here hx rfl (pc0 := 3) (pc' := 10) rfl (hb hby at_3) rfl ((if0 _ _).trans (teq hc3_1).1) (by decide) (by decide) k_) ?_
      refine own_Goes.via (T' := s₁) (g' := (mkF m 11 #[.val (.int xs), .val (.int xf), .val (.int xe), .val (.long xv), .second, .val (.long xm), .second, .val (.long xc), .second, .unset, .unset, .unset, .unset, .unset, .unset] [(.int (0 : Int32))])) (fun t_ k_ => XS.iconst X0.here hx rfl (hb hby at_10) k_) ?_
      exact J11_4 (0 : Int32) ((if_pos hc3_1)).symm
    · refine own_Goes.via (T' := s₁) (g' := (mkF m 6 #[.val (.int xs), .val (.int xf), .val (.int xe), .val (.long xv), .second, .val (.long xm), .second, .val (.long xc), .second, .unset, .unset, .unset, .unset, .unset, .unset] [])) (fun t_ k_ => XS.ifNo X0.here hx rfl (hb hby at_3) rfl ((if0 _ _).trans (feq hc3_1).1) k_) ?_
      refine own_Goes.via (T' := s₁) (g' := (mkF m 7 #[.val (.int xs), .val (.int xf), .val (.int xe), .val (.long xv), .second, .val (.long xm), .second, .val (.long xc), .second, .unset, .unset, .unset, .unset, .unset, .unset] [(.int (1 : Int32))])) (fun t_ k_ => XS.iconst X0.here hx rfl (hb hby at_6) k_) ?_
      refine own_Goes.via (T' := s₁) (g' := (mkF m 11 #[.val (.int xs), .val (.int xf), .val (.int xe), .val (.long xv), .second, .val (.long xm), .second, .val (.long xc), .second, .unset, .unset, .unset, .unset, .unset, .unset] [(.int (1 : Int32))])) (fun t_ k_ => XS.goto X0.here hx rfl (pc0 := 7) (pc' := 11) rfl (hb hby at_7) (by decide) (by decide) k_) ?_
      exact J11_4 (1 : Int32) ((if_neg hc3_1)).symm
  intro v11_2 hv11_2
  refine own_Goes.via (T' := s₁) (g' := (mkF m 13 #[.val (.int xs), .val (.int xf), .val (.int xe), .val (.long xv), .second, .val (.long xm), .second, .val (.long xc), .second, .val (.int v11_2), .unset, .unset, .unset, .unset, .unset] [])) (fun t_ k_ => XS.istore X0.here hx rfl (hb hby at_11) rfl (l' := #[.val (.int xs), .val (.int xf), .val (.int xe), .val (.long xv), .second, .val (.long xm), .second, .val (.long xc), .second, .val (.int v11_2), .unset, .unset, .unset, .unset, .unset]) rfl k_) ?_
  refine own_Goes.via (T' := s₁) (g' := (mkF m 15 #[.val (.int xs), .val (.int xf), .val (.int xe), .val (.long xv), .second, .val (.long xm), .second, .val (.long xc), .second, .val (.int v11_2), .unset, .unset, .unset, .unset, .unset] [(.int v11_2)])) (fun t_ k_ => XS.iload X0.here hx rfl (hb hby at_13) rfl k_) ?_
  suffices J31_8 : ∀ (v31_6 : Int32) (hv31_6 : v31_6 = (if v11_2 = (0 : Int32) then (xs &&& (15 : Int32)) else ((2 : Int32) * (xs &&& (7 : Int32))))), own_Goes p.tables e below P s₁ (mkF m 31 #[.val (.int xs), .val (.int xf), .val (.int xe), .val (.long xv), .second, .val (.long xm), .second, .val (.long xc), .second, .val (.int v11_2), .unset, .unset, .unset, .unset, .unset] [(.int v31_6)]) by
    by_cases hc15_5 : v11_2 = (0 : Int32)
    · refine own_Goes.via (T' := s₁) (g' := (mkF m 27 #[.val (.int xs), .val (.int xf), .val (.int xe), .val (.long xv), .second, .val (.long xm), .second, .val (.long xc), .second, .val (.int v11_2), .unset, .unset, .unset, .unset, .unset] [])) (fun t_ k_ => XS.ifYes X0.here hx rfl (pc0 := 15) (pc' := 27) rfl (hb hby at_15) rfl ((if0 _ _).trans (teq hc15_5).1) (by decide) (by decide) k_) ?_
      refine own_Goes.via (T' := s₁) (g' := (mkF m 28 #[.val (.int xs), .val (.int xf), .val (.int xe), .val (.long xv), .second, .val (.long xm), .second, .val (.long xc), .second, .val (.int v11_2), .unset, .unset, .unset, .unset, .unset] [(.int xs)])) (fun t_ k_ => XS.iloadN X0.here hx rfl (hb hby at_27) rfl k_) ?_
      refine own_Goes.via (T' := s₁) (g' := (mkF m 30 #[.val (.int xs), .val (.int xf), .val (.int xe), .val (.long xv), .second, .val (.long xm), .second, .val (.long xc), .second, .val (.int v11_2), .unset, .unset, .unset, .unset, .unset] [(.int (15 : Int32)), (.int xs)])) (fun t_ k_ => XS.bipush X0.here hx rfl (hb hby at_28) k_) ?_
      refine own_Goes.via (T' := s₁) (g' := (mkF m 31 #[.val (.int xs), .val (.int xf), .val (.int xe), .val (.long xv), .second, .val (.long xm), .second, .val (.long xc), .second, .val (.int v11_2), .unset, .unset, .unset, .unset, .unset] [(.int (xs &&& (15 : Int32)))])) (fun t_ k_ => XS.iand X0.here hx rfl (hb hby at_30) rfl k_) ?_
      exact J31_8 (xs &&& (15 : Int32)) ((if_pos hc15_5)).symm
    · refine own_Goes.via (T' := s₁) (g' := (mkF m 18 #[.val (.int xs), .val (.int xf), .val (.int xe), .val (.long xv), .second, .val (.long xm), .second, .val (.long xc), .second, .val (.int v11_2), .unset, .unset, .unset, .unset, .unset] [])) (fun t_ k_ => XS.ifNo X0.here hx rfl (hb hby at_15) rfl ((if0 _ _).trans (feq hc15_5).1) k_) ?_
      refine own_Goes.via (T' := s₁) (g' := (mkF m 19 #[.val (.int xs), .val (.int xf), .val (.int xe), .val (.long xv), .second, .val (.long xm), .second, .val (.long xc), .second, .val (.int v11_2), .unset, .unset, .unset, .unset, .unset] [(.int (2 : Int32))])) (fun t_ k_ => XS.iconst X0.here hx rfl (hb hby at_18) k_) ?_
      refine own_Goes.via (T' := s₁) (g' := (mkF m 20 #[.val (.int xs), .val (.int xf), .val (.int xe), .val (.long xv), .second, .val (.long xm), .second, .val (.long xc), .second, .val (.int v11_2), .unset, .unset, .unset, .unset, .unset] [(.int xs), (.int (2 : Int32))])) (fun t_ k_ => XS.iloadN X0.here hx rfl (hb hby at_19) rfl k_) ?_
      refine own_Goes.via (T' := s₁) (g' := (mkF m 22 #[.val (.int xs), .val (.int xf), .val (.int xe), .val (.long xv), .second, .val (.long xm), .second, .val (.long xc), .second, .val (.int v11_2), .unset, .unset, .unset, .unset, .unset] [(.int (7 : Int32)), (.int xs), (.int (2 : Int32))])) (fun t_ k_ => XS.bipush X0.here hx rfl (hb hby at_20) k_) ?_
      refine own_Goes.via (T' := s₁) (g' := (mkF m 23 #[.val (.int xs), .val (.int xf), .val (.int xe), .val (.long xv), .second, .val (.long xm), .second, .val (.long xc), .second, .val (.int v11_2), .unset, .unset, .unset, .unset, .unset] [(.int (xs &&& (7 : Int32))), (.int (2 : Int32))])) (fun t_ k_ => XS.iand X0.here hx rfl (hb hby at_22) rfl k_) ?_
      refine own_Goes.via (T' := s₁) (g' := (mkF m 24 #[.val (.int xs), .val (.int xf), .val (.int xe), .val (.long xv), .second, .val (.long xm), .second, .val (.long xc), .second, .val (.int v11_2), .unset, .unset, .unset, .unset, .unset] [(.int ((2 : Int32) * (xs &&& (7 : Int32))))])) (fun t_ k_ => XS.imul X0.here hx rfl (hb hby at_23) rfl k_) ?_
      refine own_Goes.via (T' := s₁) (g' := (mkF m 31 #[.val (.int xs), .val (.int xf), .val (.int xe), .val (.long xv), .second, .val (.long xm), .second, .val (.long xc), .second, .val (.int v11_2), .unset, .unset, .unset, .unset, .unset] [(.int ((2 : Int32) * (xs &&& (7 : Int32))))])) (fun t_ k_ => XS.goto X0.here hx rfl (pc0 := 24) (pc' := 31) rfl (hb hby at_24) (by decide) (by decide) k_) ?_
      exact J31_8 ((2 : Int32) * (xs &&& (7 : Int32))) ((if_neg hc15_5)).symm
  intro v31_6 hv31_6
  refine own_Goes.via (T' := s₁) (g' := (mkF m 33 #[.val (.int xs), .val (.int xf), .val (.int xe), .val (.long xv), .second, .val (.long xm), .second, .val (.long xc), .second, .val (.int v11_2), .val (.int v31_6), .unset, .unset, .unset, .unset] [])) (fun t_ k_ => XS.istore X0.here hx rfl (hb hby at_31) rfl (l' := #[.val (.int xs), .val (.int xf), .val (.int xe), .val (.long xv), .second, .val (.long xm), .second, .val (.long xc), .second, .val (.int v11_2), .val (.int v31_6), .unset, .unset, .unset, .unset]) rfl k_) ?_
  refine own_Goes.via (T' := s₁) (g' := (mkF m 35 #[.val (.int xs), .val (.int xf), .val (.int xe), .val (.long xv), .second, .val (.long xm), .second, .val (.long xc), .second, .val (.int v11_2), .val (.int v31_6), .unset, .unset, .unset, .unset] [(.int v31_6)])) (fun t_ k_ => XS.iload X0.here hx rfl (hb hby at_33) rfl k_) ?_
  have neg35_10 : ¬ v31_6 < 0 := own_pl0_0 hv11_2 hv31_6
  have hcap35_11 : v31_6.toNatClampNeg ≤ 15 := own_pl0_1 hv11_2 hv31_6 neg35_10
  obtain ⟨T9, h9, k9, X9, e9, E9, A9, Ea9, st9⟩ := newPE X0 hx hZ (hw _ (List.mem_of_getElem? (i := 0) rfl)) e0 (g := (mkF m 35 #[.val (.int xs), .val (.int xf), .val (.int xe), .val (.long xv), .second, .val (.long xm), .second, .val (.long xc), .second, .val (.int v11_2), .val (.int v31_6), .unset, .unset, .unset, .unset] [(.int v31_6)])) rfl (hb hby at_35) rfl neg35_10 (cap := 15) hcap35_11 (by decide) (by decide) (by decide) (ad := "[I") (by decide)
  obtain ⟨b9, g9⟩ : ∃ z, z = h0.size := ⟨_, rfl⟩
  rw [← g9] at A9 Ea9 st9
  have ge_b9 : n0 ≤ b9 := Nat.le_trans Z0 (Nat.le_of_eq g9.symm)
  have sz_b9 : h0.size ≤ b9 := Nat.le_trans ((Keep.refl h0 [])).1 (Nat.le_of_eq g9.symm)
  have sz9 : n0 ≤ h9.size := Nat.le_trans Z0 E9.1
  have K9 : Keep h0 h9 [] := ((Keep.refl h0 [])).ext E9
  have E12 : Exa Z h9 b9 "[I" := Ea9
  have V13 : Arv Z h9 b9 k9 .int v31_6 [] (.int (0 : Int32)) := Arv.new A9 neg35_10
  refine own_Goes.via (T' := T9) (g' := (mkF m 37 #[.val (.int xs), .val (.int xf), .val (.int xe), .val (.long xv), .second, .val (.long xm), .second, .val (.long xc), .second, .val (.int v11_2), .val (.int v31_6), .unset, .unset, .unset, .unset] [(.ref b9)])) (st9) ?_
  refine own_Goes.via (T' := T9) (g' := (mkF m 39 #[.val (.int xs), .val (.int xf), .val (.int xe), .val (.long xv), .second, .val (.long xm), .second, .val (.long xc), .second, .val (.int v11_2), .val (.int v31_6), .val (.ref b9), .unset, .unset, .unset] [])) (fun t_ k_ => XS.astore X9.here hx rfl (hb hby at_37) rfl rfl (l' := #[.val (.int xs), .val (.int xf), .val (.int xe), .val (.long xv), .second, .val (.long xm), .second, .val (.long xc), .second, .val (.int v11_2), .val (.int v31_6), .val (.ref b9), .unset, .unset, .unset]) rfl k_) ?_
  refine own_Goes.via (T' := T9) (g' := (mkF m 40 #[.val (.int xs), .val (.int xf), .val (.int xe), .val (.long xv), .second, .val (.long xm), .second, .val (.long xc), .second, .val (.int v11_2), .val (.int v31_6), .val (.ref b9), .unset, .unset, .unset] [(.int xf)])) (fun t_ k_ => XS.iloadN X9.here hx rfl (hb hby at_39) rfl k_) ?_
  refine own_Goes.via (T' := T9) (g' := (mkF m 41 #[.val (.int xs), .val (.int xf), .val (.int xe), .val (.long xv), .second, .val (.long xm), .second, .val (.long xc), .second, .val (.int v11_2), .val (.int v31_6), .val (.ref b9), .unset, .unset, .unset] [(.int (1 : Int32)), (.int xf)])) (fun t_ k_ => XS.iconst X9.here hx rfl (hb hby at_40) k_) ?_
  refine own_Goes.via (T' := T9) (g' := (mkF m 42 #[.val (.int xs), .val (.int xf), .val (.int xe), .val (.long xv), .second, .val (.long xm), .second, .val (.long xc), .second, .val (.int v11_2), .val (.int v31_6), .val (.ref b9), .unset, .unset, .unset] [(.int ((xf.toUInt32 >>> ((1 : Int32) &&& 31).toUInt32).toInt32))])) (fun t_ k_ => XS.iushr X9.here hx rfl (hb hby at_41) rfl k_) ?_
  refine own_Goes.via (T' := T9) (g' := (mkF m 43 #[.val (.int xs), .val (.int xf), .val (.int xe), .val (.long xv), .second, .val (.long xm), .second, .val (.long xc), .second, .val (.int v11_2), .val (.int v31_6), .val (.ref b9), .unset, .unset, .unset] [(.int (3 : Int32)), (.int ((xf.toUInt32 >>> ((1 : Int32) &&& 31).toUInt32).toInt32))])) (fun t_ k_ => XS.iconst X9.here hx rfl (hb hby at_42) k_) ?_
  refine own_Goes.via (T' := T9) (g' := (mkF m 44 #[.val (.int xs), .val (.int xf), .val (.int xe), .val (.long xv), .second, .val (.long xm), .second, .val (.long xc), .second, .val (.int v11_2), .val (.int v31_6), .val (.ref b9), .unset, .unset, .unset] [(.int (((xf.toUInt32 >>> ((1 : Int32) &&& 31).toUInt32).toInt32) &&& (3 : Int32)))])) (fun t_ k_ => XS.iand X9.here hx rfl (hb hby at_43) rfl k_) ?_
  have neg44_15 : ¬ (((xf.toUInt32 >>> ((1 : Int32) &&& 31).toUInt32).toInt32) &&& (3 : Int32)) < 0 := own_pl0_2 hv11_2 hv31_6 neg35_10 hcap35_11
  have hcap44_16 : (((xf.toUInt32 >>> ((1 : Int32) &&& 31).toUInt32).toInt32) &&& (3 : Int32)).toNatClampNeg ≤ 3 := own_pl0_3 hv11_2 hv31_6 neg35_10 hcap35_11 neg44_15
  obtain ⟨T14, h14, k14, X14, e14, E14, A14, Ea14, st14⟩ := newPE X9 hx hZ (hw _ (List.mem_of_getElem? (i := 1) rfl)) e9 (g := (mkF m 44 #[.val (.int xs), .val (.int xf), .val (.int xe), .val (.long xv), .second, .val (.long xm), .second, .val (.long xc), .second, .val (.int v11_2), .val (.int v31_6), .val (.ref b9), .unset, .unset, .unset] [(.int (((xf.toUInt32 >>> ((1 : Int32) &&& 31).toUInt32).toInt32) &&& (3 : Int32)))])) rfl (hb hby at_44) rfl neg44_15 (cap := 3) hcap44_16 (by decide) (by decide) (by decide) (ad := "[J") (by decide)
  obtain ⟨b14, g14⟩ : ∃ z, z = h9.size := ⟨_, rfl⟩
  rw [← g14] at A14 Ea14 st14
  have ne_b9_b14 : b9 ≠ b14 := Nat.ne_of_lt (Nat.lt_of_lt_of_le E12.lt (Nat.le_of_eq g14.symm))
  have E17 : Exa Z h14 b9 "[I" := E12.ext E14
  have V18 : Arv Z h14 b9 k9 .int v31_6 [] (.int (0 : Int32)) := V13.ext E14
  have ge_b14 : n0 ≤ b14 := Nat.le_trans sz9 (Nat.le_of_eq g14.symm)
  have sz_b14 : h0.size ≤ b14 := Nat.le_trans (K9).1 (Nat.le_of_eq g14.symm)
  have sz14 : n0 ≤ h14.size := Nat.le_trans sz9 E14.1
  have K14 : Keep h0 h14 [] := (K9).ext E14
  have E19 : Exa Z h14 b14 "[J" := Ea14
  have V20 : Arv Z h14 b14 k14 .long (((xf.toUInt32 >>> ((1 : Int32) &&& 31).toUInt32).toInt32) &&& (3 : Int32)) [] (.long (0 : Int64)) := Arv.new A14 neg44_15
  refine own_Goes.via (T' := T14) (g' := (mkF m 46 #[.val (.int xs), .val (.int xf), .val (.int xe), .val (.long xv), .second, .val (.long xm), .second, .val (.long xc), .second, .val (.int v11_2), .val (.int v31_6), .val (.ref b9), .unset, .unset, .unset] [(.ref b14)])) (st14) ?_
  refine own_Goes.via (T' := T14) (g' := (mkF m 48 #[.val (.int xs), .val (.int xf), .val (.int xe), .val (.long xv), .second, .val (.long xm), .second, .val (.long xc), .second, .val (.int v11_2), .val (.int v31_6), .val (.ref b9), .val (.ref b14), .unset, .unset] [])) (fun t_ k_ => XS.astore X14.here hx rfl (hb hby at_46) rfl rfl (l' := #[.val (.int xs), .val (.int xf), .val (.int xe), .val (.long xv), .second, .val (.long xm), .second, .val (.long xc), .second, .val (.int v11_2), .val (.int v31_6), .val (.ref b9), .val (.ref b14), .unset, .unset]) rfl k_) ?_
  obtain ⟨T21, h21, X21, e21, E21, A21, D21, -, st21⟩ := newO X14 hx hZ hown (hw _ (List.mem_of_getElem? (i := 2) rfl)) (hw _ (List.mem_of_getElem? (i := 3) rfl)) (hw _ (List.mem_of_getElem? (i := 4) rfl)) e14 (g := (mkF m 48 #[.val (.int xs), .val (.int xf), .val (.int xe), .val (.long xv), .second, .val (.long xm), .second, .val (.long xc), .second, .val (.int v11_2), .val (.int v31_6), .val (.ref b9), .val (.ref b14), .unset, .unset] [])) rfl (hb hby at_48) (by decide) (by decide)
  obtain ⟨b21, g21⟩ : ∃ z, z = h14.size := ⟨_, rfl⟩
  rw [← g21] at A21 D21 st21
  have ne_b9_b21 : b9 ≠ b21 := Nat.ne_of_lt (Nat.lt_of_lt_of_le E17.lt (Nat.le_of_eq g21.symm))
  have ne_b14_b21 : b14 ≠ b21 := Nat.ne_of_lt (Nat.lt_of_lt_of_le E19.lt (Nat.le_of_eq g21.symm))
  have E22 : Exa Z h21 b9 "[I" := E17.ext E21
  have V23 : Arv Z h21 b9 k9 .int v31_6 [] (.int (0 : Int32)) := V18.ext E21
  have E24 : Exa Z h21 b14 "[J" := E19.ext E21
  have V25 : Arv Z h21 b14 k14 .long (((xf.toUInt32 >>> ((1 : Int32) &&& 31).toUInt32).toInt32) &&& (3 : Int32)) [] (.long (0 : Int64)) := V20.ext E21
  have ge_b21 : n0 ≤ b21 := Nat.le_trans sz14 (Nat.le_of_eq g21.symm)
  have sz_b21 : h0.size ≤ b21 := Nat.le_trans (K14).1 (Nat.le_of_eq g21.symm)
  have sz21 : n0 ≤ h21.size := Nat.le_trans sz14 E21.1
  have K21 : Keep h0 h21 [] := (K14).ext E21
  have E26 : Exa Z h21 b21 "com/example/wattfold/wattfold/solver/ScaledProblem$VmKind" := A21
  have F27 : Fld Z h21 b21 "com/example/wattfold/wattfold/solver/ScaledProblem$VmKind" "entry" "I" (.int (0 : Int32)) := D21 (Or.inr (hw _ (List.mem_of_getElem? (i := 17) rfl))) (ty := .int) (by decide)
  have F28 : Fld Z h21 b21 "com/example/wattfold/wattfold/solver/ScaledProblem$VmKind" "vms" "[I" .null := D21 (Or.inr (hw _ (List.mem_of_getElem? (i := 19) rfl))) (ty := (.array .int)) (by decide)
  have F29 : Fld Z h21 b21 "com/example/wattfold/wattfold/solver/ScaledProblem$VmKind" "vcpus" "J" (.long (0 : Int64)) := D21 (Or.inr (hw _ (List.mem_of_getElem? (i := 21) rfl))) (ty := .long) (by decide)
  have F30 : Fld Z h21 b21 "com/example/wattfold/wattfold/solver/ScaledProblem$VmKind" "memory" "J" (.long (0 : Int64)) := D21 (Or.inr (hw _ (List.mem_of_getElem? (i := 23) rfl))) (ty := .long) (by decide)
  have F31 : Fld Z h21 b21 "com/example/wattfold/wattfold/solver/ScaledProblem$VmKind" "disks" "[J" .null := D21 (Or.inr (hw _ (List.mem_of_getElem? (i := 25) rfl))) (ty := (.array .long)) (by decide)
  have F32 : Fld Z h21 b21 "com/example/wattfold/wattfold/solver/ScaledProblem$VmKind" "failover" "Z" (.int (0 : Int32)) := D21 (Or.inr (hw _ (List.mem_of_getElem? (i := 27) rfl))) (ty := .boolean) (by decide)
  have F33 : Fld Z h21 b21 "com/example/wattfold/wattfold/solver/ScaledProblem$VmKind" "moveCost" "J" (.long (0 : Int64)) := D21 (Or.inr (hw _ (List.mem_of_getElem? (i := 29) rfl))) (ty := .long) (by decide)
  refine own_Goes.via (T' := T21) (g' := (mkF m 51 #[.val (.int xs), .val (.int xf), .val (.int xe), .val (.long xv), .second, .val (.long xm), .second, .val (.long xc), .second, .val (.int v11_2), .val (.int v31_6), .val (.ref b9), .val (.ref b14), .unset, .unset] [(.ref b21)])) (st21) ?_
  refine own_Goes.via (T' := T21) (g' := (mkF m 52 #[.val (.int xs), .val (.int xf), .val (.int xe), .val (.long xv), .second, .val (.long xm), .second, .val (.long xc), .second, .val (.int v11_2), .val (.int v31_6), .val (.ref b9), .val (.ref b14), .unset, .unset] [(.ref b21), (.ref b21)])) (fun t_ k_ => XS.dup X21.here hx rfl (hb hby at_51) rfl rfl k_) ?_
  refine own_Goes.via (T' := T21) (g' := (mkF m 53 #[.val (.int xs), .val (.int xf), .val (.int xe), .val (.long xv), .second, .val (.long xm), .second, .val (.long xc), .second, .val (.int v11_2), .val (.int v31_6), .val (.ref b9), .val (.ref b14), .unset, .unset] [(.int xe), (.ref b21), (.ref b21)])) (fun t_ k_ => XS.iloadN X21.here hx rfl (hb hby at_52) rfl k_) ?_
  refine own_Goes.via (T' := T21) (g' := (mkF m 55 #[.val (.int xs), .val (.int xf), .val (.int xe), .val (.long xv), .second, .val (.long xm), .second, .val (.long xc), .second, .val (.int v11_2), .val (.int v31_6), .val (.ref b9), .val (.ref b14), .unset, .unset] [(.ref b9), (.int xe), (.ref b21), (.ref b21)])) (fun t_ k_ => XS.aload X21.here hx rfl (hb hby at_53) rfl rfl k_) ?_
  refine own_Goes.via (T' := T21) (g' := (mkF m 56 #[.val (.int xs), .val (.int xf), .val (.int xe), .val (.long xv), .second, .val (.long xm), .second, .val (.long xc), .second, .val (.int v11_2), .val (.int v31_6), .val (.ref b9), .val (.ref b14), .unset, .unset] [(.long xv), (.ref b9), (.int xe), (.ref b21), (.ref b21)])) (fun t_ k_ => XS.lloadN X21.here hx rfl (hb hby at_55) rfl k_) ?_
  refine own_Goes.via (T' := T21) (g' := (mkF m 58 #[.val (.int xs), .val (.int xf), .val (.int xe), .val (.long xv), .second, .val (.long xm), .second, .val (.long xc), .second, .val (.int v11_2), .val (.int v31_6), .val (.ref b9), .val (.ref b14), .unset, .unset] [(.long xm), (.long xv), (.ref b9), (.int xe), (.ref b21), (.ref b21)])) (fun t_ k_ => XS.lload X21.here hx rfl (hb hby at_56) rfl k_) ?_
  refine own_Goes.via (T' := T21) (g' := (mkF m 60 #[.val (.int xs), .val (.int xf), .val (.int xe), .val (.long xv), .second, .val (.long xm), .second, .val (.long xc), .second, .val (.int v11_2), .val (.int v31_6), .val (.ref b9), .val (.ref b14), .unset, .unset] [(.ref b14), (.long xm), (.long xv), (.ref b9), (.int xe), (.ref b21), (.ref b21)])) (fun t_ k_ => XS.aload X21.here hx rfl (hb hby at_58) rfl rfl k_) ?_
  refine own_Goes.via (T' := T21) (g' := (mkF m 62 #[.val (.int xs), .val (.int xf), .val (.int xe), .val (.long xv), .second, .val (.long xm), .second, .val (.long xc), .second, .val (.int v11_2), .val (.int v31_6), .val (.ref b9), .val (.ref b14), .unset, .unset] [(.int v11_2), (.ref b14), (.long xm), (.long xv), (.ref b9), (.int xe), (.ref b21), (.ref b21)])) (fun t_ k_ => XS.iload X21.here hx rfl (hb hby at_60) rfl k_) ?_
  refine own_Goes.via (T' := T21) (g' := (mkF m 64 #[.val (.int xs), .val (.int xf), .val (.int xe), .val (.long xv), .second, .val (.long xm), .second, .val (.long xc), .second, .val (.int v11_2), .val (.int v31_6), .val (.ref b9), .val (.ref b14), .unset, .unset] [(.long xc), (.int v11_2), (.ref b14), (.long xm), (.long xv), (.ref b9), (.int xe), (.ref b21), (.ref b21)])) (fun t_ k_ => XS.lload X21.here hx rfl (hb hby at_62) rfl k_) ?_
  obtain ⟨_, _, ⟨T34, L34, k34, n34⟩, -, X34, ⟨Lc34, hQ34, l34, y34, z34⟩, st34⟩ := X21.specialBack hx (y := (⟨"com/example/wattfold/wattfold/solver/ScaledProblem$VmKind", "<init>", "(I[IJJ[JZJ)V"⟩ : MethodName)) rfl hown (mvT hZ (hw _ (List.mem_of_getElem? (i := 5) rfl))) (mvT hZ (hw _ (List.mem_of_getElem? (i := 6) rfl))) (mvT hZ (hw _ (List.mem_of_getElem? (i := 7) rfl))) (by decide) (backOf (W := 1) (rm1 l Z a0 hw [] b21 xe b9 xv xm b14 v11_2 xc h21 n0 sz21 E26 F27 F28 F29 F30 F31 F32 F33 ge_b21) hZ (hw _ (List.mem_of_getElem? (i := 7) rfl)) (hw _ (List.mem_of_getElem? (i := 4) rfl)) (by decide) (by decide)) (g := (mkF m 64 #[.val (.int xs), .val (.int xf), .val (.int xe), .val (.long xv), .second, .val (.long xm), .second, .val (.long xc), .second, .val (.int v11_2), .val (.int v31_6), .val (.ref b9), .val (.ref b14), .unset, .unset] [(.long xc), (.int v11_2), (.ref b14), (.long xm), (.long xv), (.ref b9), (.int xe), (.ref b21), (.ref b21)])) rfl (by rw [hml]; rfl) (Steps.refl _) (a := b21) (argsL := [(.int xe), (.ref b9), (.long xv), (.long xm), (.ref b14), (.int v11_2), (.long xc)]) (rest := [(.ref b21)]) (lenOf pd_0_0 rfl) rfl (by show 2 * 0 + _ ≤ _; exact Nat.le_of_eq rfl) (hb hby at_64) (fun _ _ => ⟨rfl, e21, (by decide : 3 + 0 ≤ _), (by decide : 25 + 0 ≤ _)⟩)
  dsimp only [Pt.U, Pt.locs, Pt.cells, Pt.slots] at X34 l34 y34 z34 st34 hQ34
  subst l34 y34 z34
  obtain ⟨rfl, Nq34, Kq34, pf34_0, pf34_1, pf34_2, pf34_3, pf34_4, pf34_5, pf34_6, pf34_7⟩ := hQ34
  have N34 := Fr.app N0 Nq34
  have E35 : Exa Z T34.heap b9 "[I" := E22.keep Kq34
  have V36 : Arv Z T34.heap b9 k9 .int v31_6 [] (.int (0 : Int32)) := V23.keep Kq34 (ninS ne_b9_b21 nin0)
  have E37 : Exa Z T34.heap b14 "[J" := E24.keep Kq34
  have V38 : Arv Z T34.heap b14 k14 .long (((xf.toUInt32 >>> ((1 : Int32) &&& 31).toUInt32).toInt32) &&& (3 : Int32)) [] (.long (0 : Int64)) := V25.keep Kq34 (ninS ne_b14_b21 nin0)
  have E39 : Exa Z T34.heap b21 "com/example/wattfold/wattfold/solver/ScaledProblem$VmKind" := E26.keep Kq34
  have sz34 : n0 ≤ T34.heap.size := Nat.le_trans sz21 Kq34.1
  have K34 : Keep h0 T34.heap [] := (K21).trans Kq34 (allS (Or.inr sz_b21) all0)
  refine own_Goes.via (T' := T34) (g' := (mkF m 67 #[.val (.int xs), .val (.int xf), .val (.int xe), .val (.long xv), .second, .val (.long xm), .second, .val (.long xc), .second, .val (.int v11_2), .val (.int v31_6), .val (.ref b9), .val (.ref b14), .unset, .unset] [(.ref b21)])) (fun t_ k_ => st34.trans k_) ?_
  refine own_Goes.via (T' := T34) (g' := (mkF m 69 #[.val (.int xs), .val (.int xf), .val (.int xe), .val (.long xv), .second, .val (.long xm), .second, .val (.long xc), .second, .val (.int v11_2), .val (.int v31_6), .val (.ref b9), .val (.ref b14), .val (.ref b21), .unset] [])) (fun t_ k_ => XS.astore X34.here hx rfl (hb hby at_67) rfl rfl (l' := #[.val (.int xs), .val (.int xf), .val (.int xe), .val (.long xv), .second, .val (.long xm), .second, .val (.long xc), .second, .val (.int v11_2), .val (.int v31_6), .val (.ref b9), .val (.ref b14), .val (.ref b21), .unset]) rfl k_) ?_
  refine own_Goes.via (T' := T34) (g' := (mkF m 71 #[.val (.int xs), .val (.int xf), .val (.int xe), .val (.long xv), .second, .val (.long xm), .second, .val (.long xc), .second, .val (.int v11_2), .val (.int v31_6), .val (.ref b9), .val (.ref b14), .val (.ref b21), .unset] [(.ref b21)])) (fun t_ k_ => XS.aload X34.here hx rfl (hb hby at_69) rfl rfl k_) ?_
  obtain ⟨cq40, kq40, q40a, q40b, q40c⟩ := isOf hZ rfl pf34_0
  obtain ⟨_, _, ⟨T40, L40, k40, n40⟩, -, X40, ⟨Lc40, hQ40, l40, y40, z40⟩, st40⟩ := X34.virtualBack hx (y := (⟨"com/example/wattfold/wattfold/solver/ScaledProblem$VmKind", "perServer", "()I"⟩ : MethodName)) (z := (⟨"com/example/wattfold/wattfold/solver/ScaledProblem$VmKind", "perServer", "()I"⟩ : MethodName)) hown (mvT hZ (hw _ (List.mem_of_getElem? (i := 30) rfl))) (mvT hZ (hw _ (List.mem_of_getElem? (i := 31) rfl))) (notFace_of_selects (args := #[]) (mvT hZ (hw _ (List.mem_of_getElem? (i := 33) rfl)))) (mvT hZ (hw _ (List.mem_of_getElem? (i := 33) rfl))) (mvT hZ (hw _ (List.mem_of_getElem? (i := 32) rfl))) (by decide) (backOf (W := 0) (rm4 l Z a0 hw [] b21 b9 k9 v31_6 (nar .boolean v11_2) T34.heap n0 sz34 pf34_0 pf34_2 pf34_6 V36) hZ (hw _ (List.mem_of_getElem? (i := 34) rfl)) (hw _ (List.mem_of_getElem? (i := 4) rfl)) (by decide) (by decide)) q40a q40c (g := (mkF m 71 #[.val (.int xs), .val (.int xf), .val (.int xe), .val (.long xv), .second, .val (.long xm), .second, .val (.long xc), .second, .val (.int v11_2), .val (.int v31_6), .val (.ref b9), .val (.ref b14), .val (.ref b21), .unset] [(.ref b21)])) rfl (by rw [hml]; rfl) (Steps.refl _) (argsL := []) (rest := []) (lenOf pd_0_1 rfl) rfl (by show 2 * 0 + _ ≤ _; exact Nat.le_of_eq rfl) (hb hby at_71) (fun _ _ => ⟨rfl, rfl, (by decide : 3 + 0 ≤ _), (by decide : 25 + 0 ≤ _)⟩)
  dsimp only [Pt.U, Pt.locs, Pt.cells, Pt.slots] at X40 l40 y40 z40 st40 hQ40
  subst l40 y40 z40
  obtain ⟨rfl, Nq40, hh40⟩ := hQ40
  have N40 := Fr.app N34 Nq40
  refine own_Goes.via (T' := T40) (g' := (mkF m 74 #[.val (.int xs), .val (.int xf), .val (.int xe), .val (.long xv), .second, .val (.long xm), .second, .val (.long xc), .second, .val (.int v11_2), .val (.int v31_6), .val (.ref b9), .val (.ref b14), .val (.ref b21), .unset] [(.int (own_f4 v31_6 (nar .boolean v11_2)))])) (fun t_ k_ => st40.trans k_) ?_
  obtain ⟨v41, hv41⟩ : ∃ z : Int32, z = (own_f4 v31_6 (nar .boolean v11_2)) := ⟨_, rfl⟩
  rw [← hv41]
  refine own_Goes.via (T' := T40) (g' := (mkF m 76 #[.val (.int xs), .val (.int xf), .val (.int xe), .val (.long xv), .second, .val (.long xm), .second, .val (.long xc), .second, .val (.int v11_2), .val (.int v31_6), .val (.ref b9), .val (.ref b14), .val (.ref b21), .val (.int v41)] [])) (fun t_ k_ => XS.istore X40.here hx rfl (hb hby at_74) rfl (l' := #[.val (.int xs), .val (.int xf), .val (.int xe), .val (.long xv), .second, .val (.long xm), .second, .val (.long xc), .second, .val (.int v11_2), .val (.int v31_6), .val (.ref b9), .val (.ref b14), .val (.ref b21), .val (.int v41)]) rfl k_) ?_
  refine own_Goes.via (T' := T40) (g' := (mkF m 78 #[.val (.int xs), .val (.int xf), .val (.int xe), .val (.long xv), .second, .val (.long xm), .second, .val (.long xc), .second, .val (.int v11_2), .val (.int v31_6), .val (.ref b9), .val (.ref b14), .val (.ref b21), .val (.int v41)] [(.int v11_2)])) (fun t_ k_ => XS.iload X40.here hx rfl (hb hby at_76) rfl k_) ?_
  by_cases hc78_42 : v11_2 = (0 : Int32)
  · refine own_Goes.via (T' := T40) (g' := (mkF m 101 #[.val (.int xs), .val (.int xf), .val (.int xe), .val (.long xv), .second, .val (.long xm), .second, .val (.long xc), .second, .val (.int v11_2), .val (.int v31_6), .val (.ref b9), .val (.ref b14), .val (.ref b21), .val (.int v41)] [])) (fun t_ k_ => XS.ifYes X40.here hx rfl (pc0 := 78) (pc' := 101) rfl (hb hby at_78) rfl ((if0 _ _).trans (teq hc78_42).1) (by decide) (by decide) k_) ?_
    refine own_Goes.via (T' := T40) (g' := (mkF m 103 #[.val (.int xs), .val (.int xf), .val (.int xe), .val (.long xv), .second, .val (.long xm), .second, .val (.long xc), .second, .val (.int v11_2), .val (.int v31_6), .val (.ref b9), .val (.ref b14), .val (.ref b21), .val (.int v41)] [(.int v41)])) (fun t_ k_ => XS.iload X40.here hx rfl (hb hby at_101) rfl k_) ?_
    refine own_Goes.via (T' := T40) (g' := (mkF m 105 #[.val (.int xs), .val (.int xf), .val (.int xe), .val (.long xv), .second, .val (.long xm), .second, .val (.long xc), .second, .val (.int v11_2), .val (.int v31_6), .val (.ref b9), .val (.ref b14), .val (.ref b21), .val (.int v41)] [(.int v31_6), (.int v41)])) (fun t_ k_ => XS.iload X40.here hx rfl (hb hby at_103) rfl k_) ?_
    suffices J113_46 : ∀ (v113_44 : Int32) (hv113_44 : v113_44 = (if v41 = v31_6 then (1 : Int32) else (0 : Int32))), own_Goes p.tables e below P T40 (mkF m 113 #[.val (.int xs), .val (.int xf), .val (.int xe), .val (.long xv), .second, .val (.long xm), .second, .val (.long xc), .second, .val (.int v11_2), .val (.int v31_6), .val (.ref b9), .val (.ref b14), .val (.ref b21), .val (.int v41)] [(.int v113_44)]) by
      by_cases hc105_43 : v41 = v31_6
      · refine own_Goes.via (T' := T40) (g' := (mkF m 108 #[.val (.int xs), .val (.int xf), .val (.int xe), .val (.long xv), .second, .val (.long xm), .second, .val (.long xc), .second, .val (.int v11_2), .val (.int v31_6), .val (.ref b9), .val (.ref b14), .val (.ref b21), .val (.int v41)] [])) (fun t_ k_ => XS.icmpNo X40.here hx rfl (hb hby at_105) rfl (teq hc105_43).2 k_) ?_
        refine own_Goes.via (T' := T40) (g' := (mkF m 109 #[.val (.int xs), .val (.int xf), .val (.int xe), .val (.long xv), .second, .val (.long xm), .second, .val (.long xc), .second, .val (.int v11_2), .val (.int v31_6), .val (.ref b9), .val (.ref b14), .val (.ref b21), .val (.int v41)] [(.int (1 : Int32))])) (fun t_ k_ => XS.iconst X40.here hx rfl (hb hby at_108) k_) ?_
        refine own_Goes.via (T' := T40) (g' := (mkF m 113 #[.val (.int xs), .val (.int xf), .val (.int xe), .val (.long xv), .second, .val (.long xm), .second, .val (.long xc), .second, .val (.int v11_2), .val (.int v31_6), .val (.ref b9), .val (.ref b14), .val (.ref b21), .val (.int v41)] [(.int (1 : Int32))])) (fun t_ k_ => XS.goto X40.here hx rfl (pc0 := 109) (pc' := 113) rfl (hb hby at_109) (by decide) (by decide) k_) ?_
        exact J113_46 (1 : Int32) ((if_pos hc105_43)).symm
      · refine own_Goes.via (T' := T40) (g' := (mkF m 112 #[.val (.int xs), .val (.int xf), .val (.int xe), .val (.long xv), .second, .val (.long xm), .second, .val (.long xc), .second, .val (.int v11_2), .val (.int v31_6), .val (.ref b9), .val (.ref b14), .val (.ref b21), .val (.int v41)] [])) (fun t_ k_ => XS.icmpYes X40.here hx rfl (pc0 := 105) (pc' := 112) rfl (hb hby at_105) rfl (feq hc105_43).2 (by decide) (by decide) k_) ?_
        refine own_Goes.via (T' := T40) (g' := (mkF m 113 #[.val (.int xs), .val (.int xf), .val (.int xe), .val (.long xv), .second, .val (.long xm), .second, .val (.long xc), .second, .val (.int v11_2), .val (.int v31_6), .val (.ref b9), .val (.ref b14), .val (.ref b21), .val (.int v41)] [(.int (0 : Int32))])) (fun t_ k_ => XS.iconst X40.here hx rfl (hb hby at_112) k_) ?_
        exact J113_46 (0 : Int32) ((if_neg hc105_43)).symm
    intro v113_44 hv113_44
    have hfin : v113_44 = 1 := own_pl0_4 hv11_2 hv31_6 hv41 hv113_44 hc78_42 neg35_10 hcap35_11 neg44_15 hcap44_16
    rw [hfin]
    obtain ⟨fs, hr, hrun, hended, hW, hsame⟩ := X40.leave (v := some (.int 1)) (fun h => by rw [Bd.returns] at h; cases h)
    refine own_Goes.fin (retN X40 hx (t := .boolean) Bd.returns (by simp) (hb hby at_113) hr) hrun hended ?_
    subst hPd
    refine ⟨_, _, rfl, ?_, ⟨_, rfl⟩, hW, hsame.mono (by decide) (by decide)⟩
    show Q0 Z xs xf xe xv xm xc h0 n0 _ T40.heap _
    rw [hh40]
    exact ⟨rfl, N40⟩
  · refine own_Goes.via (T' := T40) (g' := (mkF m 81 #[.val (.int xs), .val (.int xf), .val (.int xe), .val (.long xv), .second, .val (.long xm), .second, .val (.long xc), .second, .val (.int v11_2), .val (.int v31_6), .val (.ref b9), .val (.ref b14), .val (.ref b21), .val (.int v41)] [])) (fun t_ k_ => XS.ifNo X40.here hx rfl (hb hby at_78) rfl ((if0 _ _).trans (feq hc78_42).1) k_) ?_
    refine own_Goes.via (T' := T40) (g' := (mkF m 83 #[.val (.int xs), .val (.int xf), .val (.int xe), .val (.long xv), .second, .val (.long xm), .second, .val (.long xc), .second, .val (.int v11_2), .val (.int v31_6), .val (.ref b9), .val (.ref b14), .val (.ref b21), .val (.int v41)] [(.int v41)])) (fun t_ k_ => XS.iload X40.here hx rfl (hb hby at_81) rfl k_) ?_
    suffices J100_50 : ∀ (v100_48 : Int32) (hv100_48 : v100_48 = (if v41 < (0 : Int32) then (0 : Int32) else (if ((2 : Int32) * v41) = v31_6 then (1 : Int32) else (0 : Int32)))), own_Goes p.tables e below P T40 (mkF m 100 #[.val (.int xs), .val (.int xf), .val (.int xe), .val (.long xv), .second, .val (.long xm), .second, .val (.long xc), .second, .val (.int v11_2), .val (.int v31_6), .val (.ref b9), .val (.ref b14), .val (.ref b21), .val (.int v41)] [(.int v100_48)]) by
      by_cases hc83_47 : v41 < (0 : Int32)
      · refine own_Goes.via (T' := T40) (g' := (mkF m 99 #[.val (.int xs), .val (.int xf), .val (.int xe), .val (.long xv), .second, .val (.long xm), .second, .val (.long xc), .second, .val (.int v11_2), .val (.int v31_6), .val (.ref b9), .val (.ref b14), .val (.ref b21), .val (.int v41)] [])) (fun t_ k_ => XS.ifYes X40.here hx rfl (pc0 := 83) (pc' := 99) rfl (hb hby at_83) rfl ((if0 _ _).trans (tlt hc83_47).1) (by decide) (by decide) k_) ?_
        refine own_Goes.via (T' := T40) (g' := (mkF m 100 #[.val (.int xs), .val (.int xf), .val (.int xe), .val (.long xv), .second, .val (.long xm), .second, .val (.long xc), .second, .val (.int v11_2), .val (.int v31_6), .val (.ref b9), .val (.ref b14), .val (.ref b21), .val (.int v41)] [(.int (0 : Int32))])) (fun t_ k_ => XS.iconst X40.here hx rfl (hb hby at_99) k_) ?_
        exact J100_50 (0 : Int32) ((if_pos hc83_47)).symm
      · refine own_Goes.via (T' := T40) (g' := (mkF m 86 #[.val (.int xs), .val (.int xf), .val (.int xe), .val (.long xv), .second, .val (.long xm), .second, .val (.long xc), .second, .val (.int v11_2), .val (.int v31_6), .val (.ref b9), .val (.ref b14), .val (.ref b21), .val (.int v41)] [])) (fun t_ k_ => XS.ifNo X40.here hx rfl (hb hby at_83) rfl ((if0 _ _).trans (flt hc83_47).1) k_) ?_
        refine own_Goes.via (T' := T40) (g' := (mkF m 87 #[.val (.int xs), .val (.int xf), .val (.int xe), .val (.long xv), .second, .val (.long xm), .second, .val (.long xc), .second, .val (.int v11_2), .val (.int v31_6), .val (.ref b9), .val (.ref b14), .val (.ref b21), .val (.int v41)] [(.int (2 : Int32))])) (fun t_ k_ => XS.iconst X40.here hx rfl (hb hby at_86) k_) ?_
        refine own_Goes.via (T' := T40) (g' := (mkF m 89 #[.val (.int xs), .val (.int xf), .val (.int xe), .val (.long xv), .second, .val (.long xm), .second, .val (.long xc), .second, .val (.int v11_2), .val (.int v31_6), .val (.ref b9), .val (.ref b14), .val (.ref b21), .val (.int v41)] [(.int v41), (.int (2 : Int32))])) (fun t_ k_ => XS.iload X40.here hx rfl (hb hby at_87) rfl k_) ?_
        refine own_Goes.via (T' := T40) (g' := (mkF m 90 #[.val (.int xs), .val (.int xf), .val (.int xe), .val (.long xv), .second, .val (.long xm), .second, .val (.long xc), .second, .val (.int v11_2), .val (.int v31_6), .val (.ref b9), .val (.ref b14), .val (.ref b21), .val (.int v41)] [(.int ((2 : Int32) * v41))])) (fun t_ k_ => XS.imul X40.here hx rfl (hb hby at_89) rfl k_) ?_
        refine own_Goes.via (T' := T40) (g' := (mkF m 92 #[.val (.int xs), .val (.int xf), .val (.int xe), .val (.long xv), .second, .val (.long xm), .second, .val (.long xc), .second, .val (.int v11_2), .val (.int v31_6), .val (.ref b9), .val (.ref b14), .val (.ref b21), .val (.int v41)] [(.int v31_6), (.int ((2 : Int32) * v41))])) (fun t_ k_ => XS.iload X40.here hx rfl (hb hby at_90) rfl k_) ?_
        by_cases hc92_51 : ((2 : Int32) * v41) = v31_6
        · refine own_Goes.via (T' := T40) (g' := (mkF m 95 #[.val (.int xs), .val (.int xf), .val (.int xe), .val (.long xv), .second, .val (.long xm), .second, .val (.long xc), .second, .val (.int v11_2), .val (.int v31_6), .val (.ref b9), .val (.ref b14), .val (.ref b21), .val (.int v41)] [])) (fun t_ k_ => XS.icmpNo X40.here hx rfl (hb hby at_92) rfl (teq hc92_51).2 k_) ?_
          refine own_Goes.via (T' := T40) (g' := (mkF m 96 #[.val (.int xs), .val (.int xf), .val (.int xe), .val (.long xv), .second, .val (.long xm), .second, .val (.long xc), .second, .val (.int v11_2), .val (.int v31_6), .val (.ref b9), .val (.ref b14), .val (.ref b21), .val (.int v41)] [(.int (1 : Int32))])) (fun t_ k_ => XS.iconst X40.here hx rfl (hb hby at_95) k_) ?_
          refine own_Goes.via (T' := T40) (g' := (mkF m 100 #[.val (.int xs), .val (.int xf), .val (.int xe), .val (.long xv), .second, .val (.long xm), .second, .val (.long xc), .second, .val (.int v11_2), .val (.int v31_6), .val (.ref b9), .val (.ref b14), .val (.ref b21), .val (.int v41)] [(.int (1 : Int32))])) (fun t_ k_ => XS.goto X40.here hx rfl (pc0 := 96) (pc' := 100) rfl (hb hby at_96) (by decide) (by decide) k_) ?_
          exact J100_50 (1 : Int32) (((if_neg hc83_47).trans (if_pos hc92_51))).symm
        · refine own_Goes.via (T' := T40) (g' := (mkF m 99 #[.val (.int xs), .val (.int xf), .val (.int xe), .val (.long xv), .second, .val (.long xm), .second, .val (.long xc), .second, .val (.int v11_2), .val (.int v31_6), .val (.ref b9), .val (.ref b14), .val (.ref b21), .val (.int v41)] [])) (fun t_ k_ => XS.icmpYes X40.here hx rfl (pc0 := 92) (pc' := 99) rfl (hb hby at_92) rfl (feq hc92_51).2 (by decide) (by decide) k_) ?_
          refine own_Goes.via (T' := T40) (g' := (mkF m 100 #[.val (.int xs), .val (.int xf), .val (.int xe), .val (.long xv), .second, .val (.long xm), .second, .val (.long xc), .second, .val (.int v11_2), .val (.int v31_6), .val (.ref b9), .val (.ref b14), .val (.ref b21), .val (.int v41)] [(.int (0 : Int32))])) (fun t_ k_ => XS.iconst X40.here hx rfl (hb hby at_99) k_) ?_
          exact J100_50 (0 : Int32) (((if_neg hc83_47).trans (if_neg hc92_51))).symm
    intro v100_48 hv100_48
    have hfin : v100_48 = 1 := own_pl0_5 hv11_2 hv31_6 hv41 hv100_48 hc78_42 neg35_10 hcap35_11 neg44_15 hcap44_16
    rw [hfin]
    obtain ⟨fs, hr, hrun, hended, hW, hsame⟩ := X40.leave (v := some (.int 1)) (fun h => by rw [Bd.returns] at h; cases h)
    refine own_Goes.fin (retN X40 hx (t := .boolean) Bd.returns (by simp) (hb hby at_100) hr) hrun hended ?_
    subst hPd
    refine ⟨_, _, rfl, ?_, ⟨_, rfl⟩, hW, hsame.mono (by decide) (by decide)⟩
    show Q0 Z xs xf xe xv xm xc h0 n0 _ T40.heap _
    rw [hh40]
    exact ⟨rfl, N40⟩
set_option maxRecDepth 65536 in
set_option maxHeartbeats 40000000 in
theorem comes_1 {Post : Tables → Env → Array Value → State → Outcome → State → Prop} (hpost : ∀ tb e args s v u, (limb_1_1.after args s (.returned v) u = true ∧ limb_1_2.after args s (.returned v) u = true ∧ True) → FrameEnd s (.returned v) u (Jvm.fieldLocs frame_1_writes args s ++ Jvm.arrayLocs frame_1_arrays args s ++ Jvm.staticLocs frame_1_statics s) 16 128 → Post tb e args s (.returned v) u) :
    ArmFor flags0 classFile x code maxLocals ret World_1 tables_1 room_1 Calls_1 rest_1 Pre_1 Post := by
  intro l hfl _ _ p e ha hc hk s m args below hf hA hF happ hP
  obtain ⟨hcalls, hrest, hpre⟩ := hP
  obtain ⟨-, -, -, hnamed, -, -, -, hat⟩ := (Spec.applies_iff hf).mp happ
  obtain ⟨hg, hn⟩ := and_e (Cond.before_iff.mp (show (Jvm.Cond.and given_1 narrow_1).before args s = true from hpre))
  obtain ⟨g1, g2⟩ := and_e hg
  obtain ⟨g3, g4⟩ := and_e g2
  obtain ⟨g5, g6⟩ := and_e g4
  obtain ⟨g7, g8⟩ := and_e g6
  obtain ⟨g9, g10⟩ := and_e g8
  obtain ⟨g11, g12⟩ := and_e g10
  obtain ⟨w0, w1, w2, w3, w4, w5, rfl⟩ : ∃ w0 w1 w2 w3 w4 w5 : Value, args = #[w0, w1, w2, w3, w4, w5] := by
    have hs : args.size = 6 := by simpa [Cond.value, given_1] using g1
    obtain ⟨L⟩ := args
    match L, hs with
    | [w0, w1, w2, w3, w4, w5], _ => exact ⟨w0, w1, w2, w3, w4, w5, rfl⟩
  have hw := fun d (hd : d ∈ tables_1) => atoms_spec (ws := Jvm.Cond.code x code maxLocals ret :: tables_1) hat d (List.mem_cons_of_mem _ hd)
  have hfit : Fit s := fun {y c} hc i hi => by
    obtain ⟨ha, rfl⟩ := Array.getElem?_eq_some_iff.mp hc
    have q := List.all_eq_true.mp ((Array.all_eq_true_iff_forall_mem.mp hF) _ (Array.getElem_mem ha)) i (List.mem_range.mpr hi)
    simpa [Array.getElem?_eq_getElem hi] using q
  obtain ⟨i0, ei0⟩ := is_v g3
  obtain rfl : w0 = (.int i0) := Option.some.inj ei0
  obtain ⟨i1, ei1⟩ := is_v g5
  obtain rfl : w1 = (.int i1) := Option.some.inj ei1
  obtain ⟨i2, ei2⟩ := is_v g7
  obtain rfl : w2 = (.int i2) := Option.some.inj ei2
  obtain ⟨i3, ei3⟩ := isL_v g9
  obtain rfl : w3 = (.long i3) := Option.some.inj ei3
  obtain ⟨i4, ei4⟩ := isL_v g11
  obtain rfl : w4 = (.long i4) := Option.some.inj ei4
  obtain ⟨i5, ei5⟩ := isL_v g12
  obtain rfl : w5 = (.long i5) := Option.some.inj ei5
  obtain ⟨n, o, h1, h2, h3, _, L, rfl, ⟨rfl, N⟩, hq⟩ := rm0 l s _ hw tables_1 i0 i1 i2 i3 i4 i5  s.heap s.heap.size (Nat.le_refl _)  p e ha hc hk s m _ below hf ((Spec.applies_iff_loose hf).mp happ).1 ⟨rfl, State.Warmed39.refl s, rfl⟩ trivial
  refine ⟨n, _, h1, h2, h3, hpost _ _ _ _ _ _ ⟨Cond.after_iff.mpr rfl, Cond.after_iff.mpr (eq_i res_at (Term.int_eval (1)) rfl), trivial⟩ ⟨hq.1, hq.2.1, (hq.2.2.sift fun y hy => Or.inr (N y hy)).mono (by decide) (by decide)⟩⟩
theorem main_1_1 : Claimed_1_1 := comes_1 fun _ _ _ _ _ _ h hF => ⟨h.1, hF⟩
theorem main_1_2 : Claimed_1_2 := comes_1 fun _ _ _ _ _ _ h hF => ⟨h.2.1, hF⟩
end Jvm.Pilot.@@N@@
namespace Jvm.Pilot.@@N@@
open Jvm Jvm.ClassFile Sem Op Lib Jvm.Free Jvm.Stand Jvm.Pilot.@@N@@.Jvm.D
/-! MADE BY PROGRAM (witnessworld.py) out of the Statement's table words and the real class files: 12 classes; the members and pool entries that the words name. The judged class is class 1, her method 1. -/
namespace start1
open Jvm.ClassFile
def u (s : String) : CpInfo := .utf8 (stringToUtf16 s)
/-- a pool by its gaps: so many unusable entries, then the entry; so many at the end -/
def gap : Nat → List CpInfo → List CpInfo
  | 0, r => r
  | n + 1, r => .unusable :: gap n r
def poolList (es : List (Nat × CpInfo)) (last : Nat) : List CpInfo := es.foldr (fun e r => gap e.1 (e.2 :: r)) (gap last [])
def pool (es : List (Nat × CpInfo)) (last : Nat) : Array CpInfo := ⟨poolList es last⟩
def fileOf (pool : Array CpInfo) (this : Nat) (attrs : Array Attribute := #[]) (ms : Array MethodInfo := #[]) (fl : Nat := 33) (sup : Nat := 0) (ifs : Array Nat := #[]) (fds : Array FieldInfo := #[]) : ClassFile where
  minorVersion := 0
  majorVersion := 65
  constantPool := pool
  accessFlags := fl
  thisClass := this
  superClass := sup
  interfaces := ifs
  fields := fds
  methods := ms
  attributes := attrs
def plain (name : String) (sup : Option ClassId) : Class where
  name := name
  kind := .ordinary
  loader := none
  accessFlags := 33
  super := sup
  interfaces := #[]
  cf := none
  fields := #[]
  methods := #[]
  instanceTypes := #[]
  staticTypes := #[]
  resolved := #[]
  callSites := []
  init := .initialized
  statics := none
  mirror := none

def pool0 : Array CpInfo := pool [(5, u "<init>"), (0, u "()V"), (1, .class_ 10), (1, u "java/lang/Object")] 113

def k0c0 : Code := { maxStack := 0, maxLocals := 1, code := object_method_1_code, exceptionTable := #[], attributes := #[] }
def k0m0 : Method := { name := "<init>", desc := "()V", sig := { parameters := [], returnType := none }, accessFlags := 1, code := some k0c0 }
/-- java/lang/Object -/
def k0 : Class := { plain "java/lang/Object" none with
  accessFlags := 33
  interfaces := #[]
  cf := some (fileOf pool0 8 #[] #[{ accessFlags := 1, nameIndex := 5, descriptorIndex := 6, attributes := #[] }] 33 0 #[] #[])
  fields := #[]
  methods := #[k0m0]
  instanceTypes := #[]
  staticTypes := #[]
  resolved := Array.replicate 124 none
  statics := none }

def pool1 : Array CpInfo := pool [(2, .class_ 4), (1, u "java/lang/Object"), (0, u "<init>"), (0, u "()V"), (0, .class_ 8), (0, u "com/example/wattfold/wattfold/solver/ScaledProblem$VmKind"), (0, .methodref 7 10), (0, .nameAndType 5 11), (0, u "(I[IJJ[JZJ)V"), (0, .methodref 7 13), (0, .nameAndType 14 15), (0, u "perServer"), (0, u "()I"), (0, .class_ 17), (0, u "com/example/wattfold/wattfold/solver/VmKindPerServerPinLaw"), (2, u "law"), (0, u "(IIIJJJ)Z")] 11

def k1m0 : Method := { name := "<init>", desc := "()V", sig := { parameters := [], returnType := none }, accessFlags := 1, code := none }
def k1c1 : Code := { maxStack := 12, maxLocals := 15, code := code, exceptionTable := #[], attributes := #[] }
def k1m1 : Method := { name := "law", desc := "(IIIJJJ)Z", sig := { parameters := [.int, .int, .int, .long, .long, .long], returnType := some .boolean }, accessFlags := 9, code := some k1c1 }
/-- com/example/wattfold/wattfold/solver/VmKindPerServerPinLaw -/
def k1 : Class := { plain "com/example/wattfold/wattfold/solver/VmKindPerServerPinLaw" (some 0) with
  accessFlags := 49
  interfaces := #[]
  cf := some (fileOf pool1 16 #[] #[{ accessFlags := 1, nameIndex := 5, descriptorIndex := 6, attributes := #[] }, { accessFlags := 9, nameIndex := 20, descriptorIndex := 21, attributes := #[] }] 49 2 #[] #[])
  fields := #[]
  methods := #[k1m0, k1m1]
  instanceTypes := #[]
  staticTypes := #[]
  resolved := Array.replicate 33 none
  statics := none }

def pool2 : Array CpInfo := pool [(1, .methodref 2 3), (0, .class_ 4), (0, .nameAndType 5 6), (0, u "java/lang/Object"), (0, u "<init>"), (0, u "()V"), (0, .class_ 8), (0, u "java/lang/Record")] 13

def k2c0 : Code := { maxStack := 1, maxLocals := 1, code := jdk_30_method_1_code, exceptionTable := #[], attributes := #[] }
def k2m0 : Method := { name := "<init>", desc := "()V", sig := { parameters := [], returnType := none }, accessFlags := 4, code := some k2c0 }
/-- java/lang/Record -/
def k2 : Class := { plain "java/lang/Record" (some 0) with
  accessFlags := 1057
  interfaces := #[]
  cf := some (fileOf pool2 7 #[] #[{ accessFlags := 4, nameIndex := 5, descriptorIndex := 6, attributes := #[] }] 1057 2 #[] #[])
  fields := #[]
  methods := #[k2m0]
  instanceTypes := #[]
  staticTypes := #[]
  resolved := Array.replicate 22 none
  statics := none }

def pool3 : Array CpInfo := pool [(1, .methodref 2 3), (0, .class_ 4), (0, .nameAndType 5 6), (0, u "java/lang/Record"), (0, u "<init>"), (0, u "()V"), (0, .fieldref 8 9), (0, .class_ 10), (0, .nameAndType 11 12), (0, u "com/example/wattfold/wattfold/solver/ScaledProblem$VmKind"), (0, u "entry"), (0, u "I"), (0, .fieldref 8 14), (0, .nameAndType 15 16), (0, u "vms"), (0, u "[I"), (0, .fieldref 8 18), (0, .nameAndType 19 20), (0, u "vcpus"), (0, u "J"), (0, .fieldref 8 22), (0, .nameAndType 23 20), (0, u "memory"), (0, .fieldref 8 25), (0, .nameAndType 26 27), (0, u "disks"), (0, u "[J"), (0, .fieldref 8 29), (0, .nameAndType 30 31), (0, u "failover"), (0, u "Z"), (0, .fieldref 8 33), (0, .nameAndType 34 20), (0, u "moveCost"), (0, .methodref 8 36), (0, .nameAndType 37 38), (0, u "count"), (0, u "()I"), (12, u "(I[IJJ[JZJ)V"), (3, u "perServer"), (10, .class_ 67), (0, u "com/example/wattfold/wattfold/solver/ScaledProblem")] 25

def k3c0 : Code := { maxStack := 3, maxLocals := 11, code := prog_52_method_1_code, exceptionTable := #[], attributes := #[] }
def k3m0 : Method := { name := "<init>", desc := "(I[IJJ[JZJ)V", sig := { parameters := [.int, (.array .int), .long, .long, (.array .long), .boolean, .long], returnType := none }, accessFlags := 0, code := some k3c0 }
def k3c1 : Code := { maxStack := 1, maxLocals := 1, code := prog_52_method_2_code, exceptionTable := #[], attributes := #[] }
def k3m1 : Method := { name := "count", desc := "()I", sig := { parameters := [], returnType := some .int }, accessFlags := 0, code := some k3c1 }
def k3c2 : Code := { maxStack := 2, maxLocals := 1, code := prog_52_method_3_code, exceptionTable := #[], attributes := #[] }
def k3m2 : Method := { name := "perServer", desc := "()I", sig := { parameters := [], returnType := some .int }, accessFlags := 0, code := some k3c2 }
/-- com/example/wattfold/wattfold/solver/ScaledProblem$VmKind -/
def k3 : Class := { plain "com/example/wattfold/wattfold/solver/ScaledProblem$VmKind" (some 2) with
  accessFlags := 48
  interfaces := #[]
  cf := some (fileOf pool3 8 #[.nestHost 66] #[{ accessFlags := 0, nameIndex := 5, descriptorIndex := 51, attributes := #[] }, { accessFlags := 0, nameIndex := 37, descriptorIndex := 38, attributes := #[] }, { accessFlags := 0, nameIndex := 55, descriptorIndex := 38, attributes := #[] }] 48 2 #[] #[{ accessFlags := 18, nameIndex := 11, descriptorIndex := 12, attributes := #[] }, { accessFlags := 18, nameIndex := 15, descriptorIndex := 16, attributes := #[] }, { accessFlags := 18, nameIndex := 19, descriptorIndex := 20, attributes := #[] }, { accessFlags := 18, nameIndex := 23, descriptorIndex := 20, attributes := #[] }, { accessFlags := 18, nameIndex := 26, descriptorIndex := 27, attributes := #[] }, { accessFlags := 18, nameIndex := 30, descriptorIndex := 31, attributes := #[] }, { accessFlags := 18, nameIndex := 34, descriptorIndex := 20, attributes := #[] }])
  fields := #[{ name := "entry", type := .int, accessFlags := 18, slot := 0, constantValue := 0 }, { name := "vms", type := (.array .int), accessFlags := 18, slot := 1, constantValue := 0 }, { name := "vcpus", type := .long, accessFlags := 18, slot := 2, constantValue := 0 }, { name := "memory", type := .long, accessFlags := 18, slot := 3, constantValue := 0 }, { name := "disks", type := (.array .long), accessFlags := 18, slot := 4, constantValue := 0 }, { name := "failover", type := .boolean, accessFlags := 18, slot := 5, constantValue := 0 }, { name := "moveCost", type := .long, accessFlags := 18, slot := 6, constantValue := 0 }]
  methods := #[k3m0, k3m1, k3m2]
  instanceTypes := #[.int, (.array .int), .long, .long, (.array .long), .boolean, .long]
  staticTypes := #[]
  resolved := Array.replicate 93 none
  statics := none }

def pool4 : Array CpInfo := pool [(1, u "java/lang/Cloneable"), (0, .class_ 1), (0, u "java/lang/Object"), (0, .class_ 3)] 3

/-- java/lang/Cloneable -/
def k4 : Class := { plain "java/lang/Cloneable" (some 0) with
  accessFlags := 1537
  interfaces := #[]
  cf := some (fileOf pool4 2 #[] #[] 1537 4 #[] #[])
  fields := #[]
  methods := #[]
  instanceTypes := #[]
  staticTypes := #[]
  resolved := Array.replicate 8 none
  statics := none }

def pool5 : Array CpInfo := pool [(1, u "java/io/Serializable"), (0, .class_ 1), (0, u "java/lang/Object"), (0, .class_ 3)] 3

/-- java/io/Serializable -/
def k5 : Class := { plain "java/io/Serializable" (some 0) with
  accessFlags := 1537
  interfaces := #[]
  cf := some (fileOf pool5 2 #[] #[] 1537 4 #[] #[])
  fields := #[]
  methods := #[]
  instanceTypes := #[]
  staticTypes := #[]
  resolved := Array.replicate 8 none
  statics := none }

/-- the primitive byte -/
def k6 : Class := { plain "byte" none with kind := .primitive 'B', accessFlags := 0x411 }
/-- [B -/
def k7 : Class := { plain "[B" (some 0) with kind := .array 6 .byte, interfaces := #[4, 5], accessFlags := 1041 }

/-- the primitive int -/
def k8 : Class := { plain "int" none with kind := .primitive 'I', accessFlags := 0x411 }
/-- [I -/
def k9 : Class := { plain "[I" (some 0) with kind := .array 8 .int, interfaces := #[4, 5], accessFlags := 1041 }

/-- the primitive long -/
def k10 : Class := { plain "long" none with kind := .primitive 'J', accessFlags := 0x411 }
/-- [J -/
def k11 : Class := { plain "[J" (some 0) with kind := .array 10 .long, interfaces := #[4, 5], accessFlags := 1041 }

def heap : Heap := #[]
def classes : Array Class := #[k0, k1, k2, k3, k4, k5, k6, k7, k8, k9, k10, k11]
def interned : List (Array UInt16 × Addr) := []
def slotsUsed : Nat := 0
def theMethod : MethodId := ⟨1, 1⟩
def args0 : Array Value := #[.int 5, .int 7, .int 9, .long 1, .long 1, .long 1]
def aboutOver (below : List Frame) : State where
  vm := { classes := classes, interned := interned.toArray }
  heap := heap
  slotsUsed := slotsUsed
  threads := #[{ frames := .invoking theMethod args0 :: below }]
def below0 : List Frame := [.native { method := ⟨0, 0⟩, args := #[] }]
def about1 : State := aboutOver below0
def p0 : Program := .bare "" "" ""
def e0 : Env := launch0.env 0 0 0
theorem w_frames : about1.frames = Frame.invoking theMethod args0 :: below0 := rfl
set_option maxRecDepth 65536 in
theorem w_args : argsFit about1.vm theMethod args0 = true := by decide +kernel
set_option maxRecDepth 65536 in
theorem w_heap : heapFits about1 = true := by decide +kernel
set_option maxRecDepth 65536 in
theorem w_runnable : about1.curStatus? = some .runnable := by decide +kernel
set_option maxRecDepth 65536 in
theorem w_alone : about1.alone = true := by decide +kernel
set_option maxRecDepth 65536 in
theorem w_named : about1.methodNamed? x = some theMethod := by decide +kernel
set_option maxRecDepth 65536 in
theorem w_hears : about1.hears theMethod below0 = true := by decide +kernel
set_option maxRecDepth 65536 in
theorem w_ripe : about1.ripe theMethod args0 below0 = true := by decide +kernel
theorem w_running : about1.status = .running := rfl
set_option maxRecDepth 65536 in
theorem w_room : about1.hasRoom e0.platform room_1 = true :=
  launch0.hasRoom_least _ room_1 (by decide +kernel) (by decide +kernel) (by decide +kernel) (by decide +kernel) (by decide +kernel) (by decide +kernel)
theorem allAtoms_all (ts : List Jvm.Cond) (a : Array Jvm.Value) (st : Jvm.State) : (allAtoms ts).before a st = ts.all (fun c => c.before a st) := by
  induction ts with
  | nil => rfl
  | cons c t ih =>
    show (Jvm.Cond.and c (allAtoms t)).before a st = _
    rw [Jvm.Cond.before_and, ih, List.all_cons]
def words1 : List Jvm.Cond := Jvm.Cond.code x code maxLocals ret :: tables_1
/-- a 'code' word, met by the world's own term for the bytes: nothing is compared byte by byte -/
theorem code_word {y : MethodName} {bytes : ByteArray} {mx : Nat} {rt : Option FieldType} {a : Array Value} {s : State} {m : MethodId} {meth : Method} {c : Code} (h1 : s.methodNamed? y = some m) (h2 : s.vm.method? m = some meth) (h3 : meth.code = some c) (h4 : c.code = bytes)
    (h5 : (c.maxLocals == mx && c.exceptionTable.isEmpty && decide (c.maxStack ≤ mostOperands) && decide (meth.sig.returnType = rt) && !meth.locks && decide (parseMethodDescriptor y.desc = some meth.sig)) = true) : (Jvm.Cond.code y bytes mx rt).before a s = true := by
  simp only [Bool.and_eq_true, beq_iff_eq, Bool.not_eq_true', decide_eq_true_eq] at h5
  obtain ⟨⟨⟨⟨⟨g1, g2⟩, g3⟩, g4⟩, g5⟩, g6⟩ := h5
  simp [Cond.before, Cond.holds, Cond.value, h1, h2, h3, h4, g1, g2, g3, g4, g5, g6]
def isCode : Jvm.Cond → Bool
  | .code _ _ _ _ => true
  | _ => false
theorem all_split {L : List Jvm.Cond} {P : Jvm.Cond → Bool} (h1 : L.all (fun c => isCode c || P c) = true) (h2 : ∀ c ∈ L.filter isCode, P c = true) : L.all P = true := by
  refine List.all_eq_true.mpr fun c hc => ?_
  have h := List.all_eq_true.mp h1 c hc
  rcases Bool.eq_false_or_eq_true (isCode c) with hi | hi
  · exact h2 c (List.mem_filter.mpr ⟨hc, hi⟩)
  · simpa [hi] using h
set_option maxRecDepth 65536 in
theorem w_c0 : (Jvm.Cond.code x code maxLocals ret).before args0 about1 = true := code_word (m := ⟨1, 1⟩) (meth := k1m1) (c := k1c1) (by decide +kernel) rfl rfl rfl (by decide +kernel)
set_option maxRecDepth 65536 in
theorem w_c1 : (Jvm.Cond.code ({ cls := "com/example/wattfold/wattfold/solver/ScaledProblem$VmKind", name := "<init>", desc := "(I[IJJ[JZJ)V" } : Jvm.MethodName) prog_52_method_1_code (11 : Nat) (Option.none : Option Jvm.ClassFile.FieldType)).before args0 about1 = true := code_word (m := ⟨3, 0⟩) (meth := k3m0) (c := k3c0) (by decide +kernel) rfl rfl rfl (by decide +kernel)
set_option maxRecDepth 65536 in
theorem w_c2 : (Jvm.Cond.code ({ cls := "java/lang/Record", name := "<init>", desc := "()V" } : Jvm.MethodName) jdk_30_method_1_code (1 : Nat) (Option.none : Option Jvm.ClassFile.FieldType)).before args0 about1 = true := code_word (m := ⟨2, 0⟩) (meth := k2m0) (c := k2c0) (by decide +kernel) rfl rfl rfl (by decide +kernel)
set_option maxRecDepth 65536 in
theorem w_c3 : (Jvm.Cond.code ({ cls := "java/lang/Object", name := "<init>", desc := "()V" } : Jvm.MethodName) object_method_1_code (1 : Nat) (Option.none : Option Jvm.ClassFile.FieldType)).before args0 about1 = true := code_word (m := ⟨0, 0⟩) (meth := k0m0) (c := k0c0) (by decide +kernel) rfl rfl rfl (by decide +kernel)
set_option maxRecDepth 65536 in
theorem w_c4 : (Jvm.Cond.code ({ cls := "com/example/wattfold/wattfold/solver/ScaledProblem$VmKind", name := "perServer", desc := "()I" } : Jvm.MethodName) prog_52_method_3_code (1 : Nat) (Option.some Jvm.ClassFile.FieldType.int)).before args0 about1 = true := code_word (m := ⟨3, 2⟩) (meth := k3m2) (c := k3c2) (by decide +kernel) rfl rfl rfl (by decide +kernel)
set_option maxRecDepth 65536 in
theorem w_c5 : (Jvm.Cond.code ({ cls := "com/example/wattfold/wattfold/solver/ScaledProblem$VmKind", name := "count", desc := "()I" } : Jvm.MethodName) prog_52_method_2_code (1 : Nat) (Option.some Jvm.ClassFile.FieldType.int)).before args0 about1 = true := code_word (m := ⟨3, 1⟩) (meth := k3m1) (c := k3c1) (by decide +kernel) rfl rfl rfl (by decide +kernel)
def codes1 : List Jvm.Cond := [Jvm.Cond.code x code maxLocals ret, Jvm.Cond.code ({ cls := "com/example/wattfold/wattfold/solver/ScaledProblem$VmKind", name := "<init>", desc := "(I[IJJ[JZJ)V" } : Jvm.MethodName) prog_52_method_1_code (11 : Nat) (Option.none : Option Jvm.ClassFile.FieldType), Jvm.Cond.code ({ cls := "java/lang/Record", name := "<init>", desc := "()V" } : Jvm.MethodName) jdk_30_method_1_code (1 : Nat) (Option.none : Option Jvm.ClassFile.FieldType), Jvm.Cond.code ({ cls := "java/lang/Object", name := "<init>", desc := "()V" } : Jvm.MethodName) object_method_1_code (1 : Nat) (Option.none : Option Jvm.ClassFile.FieldType), Jvm.Cond.code ({ cls := "com/example/wattfold/wattfold/solver/ScaledProblem$VmKind", name := "perServer", desc := "()I" } : Jvm.MethodName) prog_52_method_3_code (1 : Nat) (Option.some Jvm.ClassFile.FieldType.int), Jvm.Cond.code ({ cls := "com/example/wattfold/wattfold/solver/ScaledProblem$VmKind", name := "count", desc := "()I" } : Jvm.MethodName) prog_52_method_2_code (1 : Nat) (Option.some Jvm.ClassFile.FieldType.int)]
set_option maxRecDepth 65536 in
theorem codes_eq : words1.filter isCode = codes1 := rfl
theorem w_codes : ∀ c ∈ words1.filter isCode, c.before args0 about1 = true := by
  rw [codes_eq]
  intro c hc
  simp only [codes1, List.mem_cons, List.not_mem_nil, or_false] at hc
  rcases hc with rfl | rfl | rfl | rfl | rfl | rfl
  · exact w_c0
  · exact w_c1
  · exact w_c2
  · exact w_c3
  · exact w_c4
  · exact w_c5
set_option maxRecDepth 65536 in
theorem w_t1 : (words1.take 24).all (fun c => isCode c || c.before args0 about1) = true := by decide +kernel
set_option maxRecDepth 65536 in
theorem w_t2 : (words1.drop 24).all (fun c => isCode c || c.before args0 about1) = true := by decide +kernel
theorem w_tables : (allAtoms (Jvm.Cond.code x code maxLocals ret :: tables_1)).before args0 about1 = true := by
  rw [allAtoms_all]
  show words1.all (fun c => c.before args0 about1) = true
  refine all_split ?_ w_codes
  rw [← List.take_append_drop 24 words1, List.all_append, w_t1, w_t2]
  rfl
set_option maxRecDepth 65536 in
theorem w_case : (Jvm.Cond.and given_1 narrow_1).before args0 about1 = true := by decide +kernel
theorem w_applies : (headSpec (Jvm.Cond.code x code maxLocals ret :: tables_1) room_1).applies x e0.platform about1 = true :=
  (Spec.applies_iff w_frames).mpr ⟨w_running, w_runnable, w_alone, w_named, w_hears, w_ripe, w_room, w_tables⟩
theorem atStart : AtStart classFile x code maxLocals ret World_1 tables_1 room_1 Calls_1 rest_1 Pre_1 launch0 p0 e0 about1 theMethod args0 below0 :=
  ⟨lists_1, trivial, launch0.admits_env _ _ _, launch0.least_env, fairChoices_fair.cas, fairChoices_fair.clock, w_frames, w_args, w_heap, w_applies, trivial, trivial, w_case⟩
end start1
theorem witness_1 : WitnessClaimed_1 := ⟨start1.p0, start1.e0, start1.about1, start1.theMethod, start1.args0, start1.below0, start1.atStart⟩
end Jvm.Pilot.@@N@@
