import JvmDerived
import JvmDerived.Pilot.@@N@@Statement
import JvmDerived.Pilot.@@N@@Code
set_option linter.unusedVariables false
set_option linter.unusedSimpArgs false
@@BLOCK:NumsL.lean.txt@@
namespace Jvm.Pilot.@@N@@
open Jvm Jvm.ClassFile Sem Op Lib Jvm.Free Jvm.Stand Jvm.LawKit Jvm.RoadKit Bundle Jvm.Pilot.@@N@@.Jvm.D
/-- from the state T with the frame g the run comes to an end that P speaks of -/
def own_Goes (tb : Tables) (e : Env) (below : List Frame) (P : Outcome → State → Prop) (T : State) (g : JFrame) : Prop :=
  ∃ s₂ o, Steps tb e below (T.setTop g) s₂ ∧ s₂.status = .running ∧ Ended s₂ below o ∧ P o s₂
theorem own_Goes.via {tb : Tables} {e : Env} {below : List Frame} {P : Outcome → State → Prop} {T T' : State} {g g' : JFrame} (h : ∀ t, Steps tb e below (T'.setTop g') t → Steps tb e below (T.setTop g) t) (k : own_Goes tb e below P T' g') : own_Goes tb e below P T g := by
  obtain ⟨s₂, o, a, b⟩ := k
  exact ⟨s₂, o, h _ a, b⟩
theorem own_Goes.fin {tb : Tables} {e : Env} {below : List Frame} {P : Outcome → State → Prop} {T s₂ : State} {g : JFrame} {o : Outcome} (h1 : Steps tb e below (T.setTop g) s₂) (h2 : s₂.status = .running) (h3 : Ended s₂ below o) (h4 : P o s₂) : own_Goes tb e below P T g := ⟨s₂, o, h1, h2, h3, h4⟩
theorem own_ltT {x y : Int64} (h : x < y) : ifCond.holds .lt (lcmpW x y) = true ∧ ifCond.holds .ge (lcmpW x y) = false := by
  have q : lcmpW x y < 0 := by rw [lcW]; exact (lc_lt x y).mpr h
  exact ⟨(if0 _ _).trans (tlt q).1, (if0 _ _).trans (tlt q).2.1⟩
theorem own_ltF {x y : Int64} (h : ¬ x < y) : ifCond.holds .lt (lcmpW x y) = false ∧ ifCond.holds .ge (lcmpW x y) = true := by
  have q : ¬ lcmpW x y < 0 := by rw [lcW]; exact fun z => h ((lc_lt x y).mp z)
  exact ⟨(if0 _ _).trans (flt q).1, (if0 _ _).trans (flt q).2.1⟩
theorem own_gtT {x y : Int64} (h : y < x) : ifCond.holds .gt (lcmpW x y) = true ∧ ifCond.holds .le (lcmpW x y) = false := by
  have q : 0 < lcmpW x y := by rw [lcW]; exact (lc_gt x y).mpr h
  exact ⟨(if0 _ _).trans (tlt q).2.2.1, (if0 _ _).trans (tlt q).2.2.2⟩
theorem own_gtF {x y : Int64} (h : ¬ y < x) : ifCond.holds .gt (lcmpW x y) = false ∧ ifCond.holds .le (lcmpW x y) = true := by
  have q : ¬ 0 < lcmpW x y := by rw [lcW]; exact fun z => h ((lc_gt x y).mp z)
  exact ⟨(if0 _ _).trans (flt q).2.2.1, (if0 _ _).trans (flt q).2.2.2⟩
theorem own_eqT {x y : Int64} (h : x = y) : ifCond.holds .eq (lcmpW x y) = true ∧ ifCond.holds .ne (lcmpW x y) = false := by
  have q : lcmpW x y = 0 := by rw [lcW]; exact (lc_eq x y).mpr h
  exact ⟨(if0 _ _).trans (teq q).1, (if0 _ _).trans (teq q).2⟩
theorem own_eqF {x y : Int64} (h : ¬ x = y) : ifCond.holds .eq (lcmpW x y) = false ∧ ifCond.holds .ne (lcmpW x y) = true := by
  have q : ¬ lcmpW x y = 0 := by rw [lcW]; exact fun z => h ((lc_eq x y).mp z)
  exact ⟨(if0 _ _).trans (feq q).1, (if0 _ _).trans (feq q).2⟩
theorem own_lrem (x y : Int64) : x - (x / y) * y = x % y := Int64.toInt_inj.mp (by rw [Jvm.Kit.i64_rem, Int64.toInt_mod])
theorem d2_0 : decode prog_22_method_1_code 0 = .ok (.aload_n 0, 1) := by decide +kernel
theorem d2_1 : decode prog_22_method_1_code 1 = .ok (.invokespecial 1, 3) := by decide +kernel
theorem d2_4 : decode prog_22_method_1_code 4 = .ok (.return_, 1) := by decide +kernel
theorem pn_2 : plainName "com/example/keysweep/keysweep/NumberCombiner" = true := by first | (simp [plainName, overriddenIn]; done) | decide +kernel
theorem ef_2 (m : MethodId) (ao : Addr) : entryFrame m #[(.ref ao)] 1 = mkF m 0 #[.val (.ref ao)] [] := by first | (simp [entryFrame, mkF, argsToLocals, Value.category]; done) | rfl
def Q2 (Z : State) (ao : Addr) (h0 : Heap) (n0 : Nat) (v : Option Value) (h : Heap) (L : List Loc) : Prop := v = none ∧ Fr n0 L ∧ h = h0
set_option maxRecDepth 65536 in
set_option maxHeartbeats 40000000 in
theorem rm2 (l : Launch) (Z : State) (a0 : Array Value) (hw : ∀ d ∈ tables_1, d.before a0 Z = true) (ws : List Jvm.Cond) (ao : Addr) (h0 : Heap) (n0 : Nat) (Z0 : n0 ≤ h0.size) :
    MetFree l (⟨"com/example/keysweep/keysweep/NumberCombiner", "<init>", "()V"⟩ : MethodName) (head1 (Jvm.Cond.code (⟨"com/example/keysweep/keysweep/NumberCombiner", "<init>", "()V"⟩ : MethodName) prog_22_method_1_code 1 none :: ws) ({ frames := 1, cells := 0, slots := 0, locals := 12 } : Room)) (fun a U => a = #[(.ref ao)] ∧ Z.Warmed39 U.vm ∧ U.heap = h0) (fun _ _ _ _ _ => True) (fun _ U o U' => ∃ v L, o = .returned v ∧ Q2 Z ao h0 n0 v U'.heap L ∧ FrameEnd U o U' L ({ frames := 1, cells := 0, slots := 0, locals := 12 } : Room).cells ({ frames := 1, cells := 0, slots := 0, locals := 12 } : Room).slots) := by
  refine MetFree.of_bodySF (plainFor_of_name pn_2) hisR ?_
  intro p e s m args below meth c s₁ Bd hml0 hP hK
  obtain ⟨rfl, hZ, hh⟩ := hP
  have hx := Bd.exec
  have hby := Bd.bytes
  have hml : c.maxLocals = 1 := hml0
  have hown : s.vm.findClass "com/example/keysweep/keysweep/NumberCombiner" = some m.cls := findClass_of_methodNamed Bd.named
  have hnm := (name_of_methodNamed Bd.named Bd.method).1
  have X0 : Stand p l e ({ frames := 1, cells := 0, slots := 0, locals := 12 } : Room) s m #[(.ref ao)] below meth c s₁ [] 0 0 := Stand.of_body Bd
  have e0 : s₁.heap = h0 := by rw [← hh, Bd.state]; rfl
  have N0 := Fr.nil n0
  suffices G : own_Goes p.tables e below (fun o U' => ∃ v L, o = .returned v ∧ Q2 Z ao h0 n0 v U'.heap L ∧ FrameEnd s o U' L ({ frames := 1, cells := 0, slots := 0, locals := 12 } : Room).cells ({ frames := 1, cells := 0, slots := 0, locals := 12 } : Room).slots) s₁ (mkF m 0 #[.val (.ref ao)] []) by
    obtain ⟨t2_, o2_, z1_, z2_, z3_, z4_⟩ := G
    exact ⟨t2_, o2_, castTop (ef_2 m ao) z1_, z2_, z3_, z4_⟩
  generalize hPd : (fun (o : Outcome) (U' : State) => ∃ v L, o = .returned v ∧ Q2 Z ao h0 n0 v U'.heap L ∧ FrameEnd s o U' L ({ frames := 1, cells := 0, slots := 0, locals := 12 } : Room).cells ({ frames := 1, cells := 0, slots := 0, locals := 12 } : Room).slots) = P
  refine own_Goes.via (T' := s₁) (g' := (mkF m 1 #[.val (.ref ao)] [(.ref ao)])) (fun t_ k_ => XS.aloadN X0.here hx rfl (hb hby d2_0) rfl rfl k_) ?_
  obtain ⟨T1, X1, e1, st1⟩ := initO X0 hx hZ hown (hw _ (List.mem_of_getElem? (i := 11) rfl)) (hw _ (List.mem_of_getElem? (i := 12) rfl)) (hw _ (List.mem_of_getElem? (i := 13) rfl)) e0 (g := (mkF m 1 #[.val (.ref ao)] [(.ref ao)])) rfl (by rw [hml]; rfl) rfl (hb hby d2_1) (by decide) (W := 0) (by show 2 * 0 + _ ≤ _; exact Nat.le_of_eq rfl) (by decide)
  refine own_Goes.via (T' := T1) (g' := (mkF m 4 #[.val (.ref ao)] [])) (st1) ?_
  obtain ⟨fs, hr, hrun, hended, hW, hsame⟩ := X1.leave (v := none) (fun _ => rfl)
  refine own_Goes.fin (X1.returnOut hx Bd.returns (hb hby d2_4) hr) hrun hended ?_
  subst hPd
  refine ⟨_, _, rfl, ?_, ⟨_, rfl⟩, hW, hsame.mono (by decide) (by decide)⟩
  show Q2 Z ao h0 n0 _ T1.heap _
  rw [e1]
  exact ⟨rfl, N0, rfl⟩
theorem d1_0 : decode prog_34_method_1_code 0 = .ok (.aload_n 0, 1) := by decide +kernel
theorem d1_1 : decode prog_34_method_1_code 1 = .ok (.invokespecial 1, 3) := by decide +kernel
theorem d1_4 : decode prog_34_method_1_code 4 = .ok (.return_, 1) := by decide +kernel
theorem pn_1 : plainName "com/example/keysweep/keysweep/SumCombiner" = true := by first | (simp [plainName, overriddenIn]; done) | decide +kernel
theorem pd_1_0 : parseMethodDescriptor "()V" = some ⟨[], none⟩ := by decide +kernel
theorem ef_1 (m : MethodId) (ao : Addr) : entryFrame m #[(.ref ao)] 1 = mkF m 0 #[.val (.ref ao)] [] := by first | (simp [entryFrame, mkF, argsToLocals, Value.category]; done) | rfl
def Q1 (Z : State) (ao : Addr) (h0 : Heap) (n0 : Nat) (v : Option Value) (h : Heap) (L : List Loc) : Prop := v = none ∧ Fr n0 L ∧ h = h0
set_option maxRecDepth 65536 in
set_option maxHeartbeats 40000000 in
theorem rm1 (l : Launch) (Z : State) (a0 : Array Value) (hw : ∀ d ∈ tables_1, d.before a0 Z = true) (ws : List Jvm.Cond) (ao : Addr) (h0 : Heap) (n0 : Nat) (Z0 : n0 ≤ h0.size) :
    MetFree l (⟨"com/example/keysweep/keysweep/SumCombiner", "<init>", "()V"⟩ : MethodName) (head1 (Jvm.Cond.code (⟨"com/example/keysweep/keysweep/SumCombiner", "<init>", "()V"⟩ : MethodName) prog_34_method_1_code 1 none :: ws) ({ frames := 2, cells := 0, slots := 0, locals := 24 } : Room)) (fun a U => a = #[(.ref ao)] ∧ Z.Warmed39 U.vm ∧ U.heap = h0) (fun _ _ _ _ _ => True) (fun _ U o U' => ∃ v L, o = .returned v ∧ Q1 Z ao h0 n0 v U'.heap L ∧ FrameEnd U o U' L ({ frames := 2, cells := 0, slots := 0, locals := 24 } : Room).cells ({ frames := 2, cells := 0, slots := 0, locals := 24 } : Room).slots) := by
  refine MetFree.of_bodySF (plainFor_of_name pn_1) hisR ?_
  intro p e s m args below meth c s₁ Bd hml0 hP hK
  obtain ⟨rfl, hZ, hh⟩ := hP
  have hx := Bd.exec
  have hby := Bd.bytes
  have hml : c.maxLocals = 1 := hml0
  have hown : s.vm.findClass "com/example/keysweep/keysweep/SumCombiner" = some m.cls := findClass_of_methodNamed Bd.named
  have hnm := (name_of_methodNamed Bd.named Bd.method).1
  have X0 : Stand p l e ({ frames := 2, cells := 0, slots := 0, locals := 24 } : Room) s m #[(.ref ao)] below meth c s₁ [] 0 0 := Stand.of_body Bd
  have e0 : s₁.heap = h0 := by rw [← hh, Bd.state]; rfl
  have N0 := Fr.nil n0
  suffices G : own_Goes p.tables e below (fun o U' => ∃ v L, o = .returned v ∧ Q1 Z ao h0 n0 v U'.heap L ∧ FrameEnd s o U' L ({ frames := 2, cells := 0, slots := 0, locals := 24 } : Room).cells ({ frames := 2, cells := 0, slots := 0, locals := 24 } : Room).slots) s₁ (mkF m 0 #[.val (.ref ao)] []) by
    obtain ⟨t2_, o2_, z1_, z2_, z3_, z4_⟩ := G
    exact ⟨t2_, o2_, castTop (ef_1 m ao) z1_, z2_, z3_, z4_⟩
  generalize hPd : (fun (o : Outcome) (U' : State) => ∃ v L, o = .returned v ∧ Q1 Z ao h0 n0 v U'.heap L ∧ FrameEnd s o U' L ({ frames := 2, cells := 0, slots := 0, locals := 24 } : Room).cells ({ frames := 2, cells := 0, slots := 0, locals := 24 } : Room).slots) = P
  refine own_Goes.via (T' := s₁) (g' := (mkF m 1 #[.val (.ref ao)] [(.ref ao)])) (fun t_ k_ => XS.aloadN X0.here hx rfl (hb hby d1_0) rfl rfl k_) ?_
  obtain ⟨_, _, ⟨T1, L1, k1, n1⟩, -, X1, ⟨Lc1, hQ1, l1, y1, z1⟩, st1⟩ := X0.specialBack hx (y := (⟨"com/example/keysweep/keysweep/NumberCombiner", "<init>", "()V"⟩ : MethodName)) rfl hown (mvT hZ (hw _ (List.mem_of_getElem? (i := 6) rfl))) (mvT hZ (hw _ (List.mem_of_getElem? (i := 7) rfl))) (mvT hZ (hw _ (List.mem_of_getElem? (i := 10) rfl))) (by decide) (backOf (W := 0) (rm2 l Z a0 hw [] ao h0 n0 Z0 ) hZ (hw _ (List.mem_of_getElem? (i := 10) rfl)) (hw _ (List.mem_of_getElem? (i := 9) rfl)) (by decide) (by decide)) (g := (mkF m 1 #[.val (.ref ao)] [(.ref ao)])) rfl (by rw [hml]; rfl) (Steps.refl _) (a := ao) (argsL := []) (rest := []) (lenOf pd_1_0 rfl) rfl (by show 2 * 0 + _ ≤ _; exact Nat.le_of_eq rfl) (hb hby d1_1) (fun _ _ => ⟨rfl, e0, (by decide : 0 + 0 ≤ _), (by decide : 0 + 0 ≤ _)⟩)
  dsimp only [Pt.U, Pt.locs, Pt.cells, Pt.slots] at X1 l1 y1 z1 st1 hQ1
  subst l1 y1 z1
  obtain ⟨rfl, Nq1, hh1⟩ := hQ1
  have N1 := Fr.app N0 Nq1
  refine own_Goes.via (T' := T1) (g' := (mkF m 4 #[.val (.ref ao)] [])) (fun t_ k_ => st1.trans k_) ?_
  obtain ⟨fs, hr, hrun, hended, hW, hsame⟩ := X1.leave (v := none) (fun _ => rfl)
  refine own_Goes.fin (X1.returnOut hx Bd.returns (hb hby d1_4) hr) hrun hended ?_
  subst hPd
  refine ⟨_, _, rfl, ?_, ⟨_, rfl⟩, hW, hsame.mono (by decide) (by decide)⟩
  show Q1 Z ao h0 n0 _ T1.heap _
  rw [hh1]
  exact ⟨rfl, N1, rfl⟩
theorem d4_0 : decode prog_34_method_3_code 0 = .ok (.iconst 0, 1) := by decide +kernel
theorem d4_1 : decode prog_34_method_3_code 1 = .ok (.istore 7, 2) := by decide +kernel
theorem d4_3 : decode prog_34_method_3_code 3 = .ok (.lload_n 1, 1) := by decide +kernel
theorem d4_4 : decode prog_34_method_3_code 4 = .ok (.lload 5, 2) := by decide +kernel
theorem d4_6 : decode prog_34_method_3_code 6 = .ok (.lxor, 1) := by decide +kernel
theorem d4_7 : decode prog_34_method_3_code 7 = .ok (.lload_n 3, 1) := by decide +kernel
theorem d4_8 : decode prog_34_method_3_code 8 = .ok (.lload 5, 2) := by decide +kernel
theorem d4_10 : decode prog_34_method_3_code 10 = .ok (.lxor, 1) := by decide +kernel
theorem d4_11 : decode prog_34_method_3_code 11 = .ok (.land, 1) := by decide +kernel
theorem d4_12 : decode prog_34_method_3_code 12 = .ok (.lconst 0, 1) := by decide +kernel
theorem d4_13 : decode prog_34_method_3_code 13 = .ok (.lcmp, 1) := by decide +kernel
theorem d4_14 : decode prog_34_method_3_code 14 = .ok (.ifCond .ge 16, 3) := by decide +kernel
theorem d4_17 : decode prog_34_method_3_code 17 = .ok (.lload_n 3, 1) := by decide +kernel
theorem d4_18 : decode prog_34_method_3_code 18 = .ok (.lconst 0, 1) := by decide +kernel
theorem d4_19 : decode prog_34_method_3_code 19 = .ok (.lcmp, 1) := by decide +kernel
theorem d4_20 : decode prog_34_method_3_code 20 = .ok (.ifCond .ge 7, 3) := by decide +kernel
theorem d4_23 : decode prog_34_method_3_code 23 = .ok (.iconst (-1), 1) := by decide +kernel
theorem d4_24 : decode prog_34_method_3_code 24 = .ok (.goto 4, 3) := by decide +kernel
theorem d4_27 : decode prog_34_method_3_code 27 = .ok (.iconst 1, 1) := by decide +kernel
theorem d4_28 : decode prog_34_method_3_code 28 = .ok (.istore 7, 2) := by decide +kernel
theorem d4_30 : decode prog_34_method_3_code 30 = .ok (.iload 7, 2) := by decide +kernel
theorem d4_32 : decode prog_34_method_3_code 32 = .ok (.ireturn, 1) := by decide +kernel
theorem pn_4 : plainName "com/example/keysweep/keysweep/SumCombiner" = true := by first | (simp [plainName, overriddenIn]; done) | decide +kernel
theorem ef_4 (m : MethodId) (ao : Addr) (xa : Int64) (xb : Int64) (xc : Int64) : entryFrame m #[(.ref ao), (.long xa), (.long xb), (.long xc)] 8 = mkF m 0 #[.val (.ref ao), .val (.long xa), .second, .val (.long xb), .second, .val (.long xc), .second, .unset] [] := by first | (simp [entryFrame, mkF, argsToLocals, Value.category]; done) | rfl
def own_f4 (xa : Int64) (xb : Int64) (xc : Int64) : Int32 := (if ((xa ^^^ xc) &&& (xb ^^^ xc)) < (0 : Int64) then (if xb < (0 : Int64) then (-1 : Int32) else (1 : Int32)) else (0 : Int32))
def Q4 (Z : State) (ao : Addr) (xa : Int64) (xb : Int64) (xc : Int64) (h0 : Heap) (n0 : Nat) (v : Option Value) (h : Heap) (L : List Loc) : Prop := v = some (.int (own_f4 xa xb xc)) ∧ Fr n0 L ∧ h = h0
set_option maxRecDepth 65536 in
set_option maxHeartbeats 40000000 in
theorem rm4 (l : Launch) (Z : State) (a0 : Array Value) (hw : ∀ d ∈ tables_1, d.before a0 Z = true) (ws : List Jvm.Cond) (ao : Addr) (xa : Int64) (xb : Int64) (xc : Int64) (h0 : Heap) (n0 : Nat) (Z0 : n0 ≤ h0.size) :
    MetFree l (⟨"com/example/keysweep/keysweep/SumCombiner", "wraps", "(JJJ)I"⟩ : MethodName) (head1 (Jvm.Cond.code (⟨"com/example/keysweep/keysweep/SumCombiner", "wraps", "(JJJ)I"⟩ : MethodName) prog_34_method_3_code 8 (some .int) :: ws) ({ frames := 0, cells := 0, slots := 0, locals := 0 } : Room)) (fun a U => a = #[(.ref ao), (.long xa), (.long xb), (.long xc)] ∧ Z.Warmed39 U.vm ∧ U.heap = h0) (fun _ _ _ _ _ => True) (fun _ U o U' => ∃ v L, o = .returned v ∧ Q4 Z ao xa xb xc h0 n0 v U'.heap L ∧ FrameEnd U o U' L ({ frames := 0, cells := 0, slots := 0, locals := 0 } : Room).cells ({ frames := 0, cells := 0, slots := 0, locals := 0 } : Room).slots) := by
  refine MetFree.of_bodySF (plainFor_of_name pn_4) hisR ?_
  intro p e s m args below meth c s₁ Bd hml0 hP hK
  obtain ⟨rfl, hZ, hh⟩ := hP
  have hx := Bd.exec
  have hby := Bd.bytes
  have hml : c.maxLocals = 8 := hml0
  have hown : s.vm.findClass "com/example/keysweep/keysweep/SumCombiner" = some m.cls := findClass_of_methodNamed Bd.named
  have hnm := (name_of_methodNamed Bd.named Bd.method).1
  have X0 : Stand p l e ({ frames := 0, cells := 0, slots := 0, locals := 0 } : Room) s m #[(.ref ao), (.long xa), (.long xb), (.long xc)] below meth c s₁ [] 0 0 := Stand.of_body Bd
  have e0 : s₁.heap = h0 := by rw [← hh, Bd.state]; rfl
  have N0 := Fr.nil n0
  suffices G : own_Goes p.tables e below (fun o U' => ∃ v L, o = .returned v ∧ Q4 Z ao xa xb xc h0 n0 v U'.heap L ∧ FrameEnd s o U' L ({ frames := 0, cells := 0, slots := 0, locals := 0 } : Room).cells ({ frames := 0, cells := 0, slots := 0, locals := 0 } : Room).slots) s₁ (mkF m 0 #[.val (.ref ao), .val (.long xa), .second, .val (.long xb), .second, .val (.long xc), .second, .unset] []) by
    obtain ⟨t2_, o2_, z1_, z2_, z3_, z4_⟩ := G
    exact ⟨t2_, o2_, castTop (ef_4 m ao xa xb xc) z1_, z2_, z3_, z4_⟩
  generalize hPd : (fun (o : Outcome) (U' : State) => ∃ v L, o = .returned v ∧ Q4 Z ao xa xb xc h0 n0 v U'.heap L ∧ FrameEnd s o U' L ({ frames := 0, cells := 0, slots := 0, locals := 0 } : Room).cells ({ frames := 0, cells := 0, slots := 0, locals := 0 } : Room).slots) = P
  refine own_Goes.via (T' := s₁) (g' := (mkF m 1 #[.val (.ref ao), .val (.long xa), .second, .val (.long xb), .second, .val (.long xc), .second, .unset] [(.int (0 : Int32))])) (fun t_ k_ => XS.iconst X0.here hx rfl (hb hby d4_0) k_) ?_
  refine own_Goes.via (T' := s₁) (g' := (mkF m 3 #[.val (.ref ao), .val (.long xa), .second, .val (.long xb), .second, .val (.long xc), .second, .val (.int (0 : Int32))] [])) (fun t_ k_ => XS.istore X0.here hx rfl (hb hby d4_1) rfl (l' := #[.val (.ref ao), .val (.long xa), .second, .val (.long xb), .second, .val (.long xc), .second, .val (.int (0 : Int32))]) rfl k_) ?_
  refine own_Goes.via (T' := s₁) (g' := (mkF m 4 #[.val (.ref ao), .val (.long xa), .second, .val (.long xb), .second, .val (.long xc), .second, .val (.int (0 : Int32))] [(.long xa)])) (fun t_ k_ => XS.lloadN X0.here hx rfl (hb hby d4_3) rfl k_) ?_
  refine own_Goes.via (T' := s₁) (g' := (mkF m 6 #[.val (.ref ao), .val (.long xa), .second, .val (.long xb), .second, .val (.long xc), .second, .val (.int (0 : Int32))] [(.long xc), (.long xa)])) (fun t_ k_ => XS.lload X0.here hx rfl (hb hby d4_4) rfl k_) ?_
  refine own_Goes.via (T' := s₁) (g' := (mkF m 7 #[.val (.ref ao), .val (.long xa), .second, .val (.long xb), .second, .val (.long xc), .second, .val (.int (0 : Int32))] [(.long (xa ^^^ xc))])) (fun t_ k_ => XS.lxor X0.here hx rfl (hb hby d4_6) rfl k_) ?_
  refine own_Goes.via (T' := s₁) (g' := (mkF m 8 #[.val (.ref ao), .val (.long xa), .second, .val (.long xb), .second, .val (.long xc), .second, .val (.int (0 : Int32))] [(.long xb), (.long (xa ^^^ xc))])) (fun t_ k_ => XS.lloadN X0.here hx rfl (hb hby d4_7) rfl k_) ?_
  refine own_Goes.via (T' := s₁) (g' := (mkF m 10 #[.val (.ref ao), .val (.long xa), .second, .val (.long xb), .second, .val (.long xc), .second, .val (.int (0 : Int32))] [(.long xc), (.long xb), (.long (xa ^^^ xc))])) (fun t_ k_ => XS.lload X0.here hx rfl (hb hby d4_8) rfl k_) ?_
  refine own_Goes.via (T' := s₁) (g' := (mkF m 11 #[.val (.ref ao), .val (.long xa), .second, .val (.long xb), .second, .val (.long xc), .second, .val (.int (0 : Int32))] [(.long (xb ^^^ xc)), (.long (xa ^^^ xc))])) (fun t_ k_ => XS.lxor X0.here hx rfl (hb hby d4_10) rfl k_) ?_
  refine own_Goes.via (T' := s₁) (g' := (mkF m 12 #[.val (.ref ao), .val (.long xa), .second, .val (.long xb), .second, .val (.long xc), .second, .val (.int (0 : Int32))] [(.long ((xa ^^^ xc) &&& (xb ^^^ xc)))])) (fun t_ k_ => XS.land X0.here hx rfl (hb hby d4_11) rfl k_) ?_
  refine own_Goes.via (T' := s₁) (g' := (mkF m 13 #[.val (.ref ao), .val (.long xa), .second, .val (.long xb), .second, .val (.long xc), .second, .val (.int (0 : Int32))] [(.long (0 : Int64)), (.long ((xa ^^^ xc) &&& (xb ^^^ xc)))])) (fun t_ k_ => XS.lconst X0.here hx rfl (hb hby d4_12) k_) ?_
  refine own_Goes.via (T' := s₁) (g' := (mkF m 14 #[.val (.ref ao), .val (.long xa), .second, .val (.long xb), .second, .val (.long xc), .second, .val (.int (0 : Int32))] [(.int (lcmpW ((xa ^^^ xc) &&& (xb ^^^ xc)) (0 : Int64)))])) (fun t_ k_ => XS.lcmp X0.here hx rfl (hb hby d4_13) rfl k_) ?_
  suffices J30_4 : ∀ (v30_2 : Int32) (hv30_2 : v30_2 = (if ((xa ^^^ xc) &&& (xb ^^^ xc)) < (0 : Int64) then (if xb < (0 : Int64) then (-1 : Int32) else (1 : Int32)) else (0 : Int32))), own_Goes p.tables e below P s₁ (mkF m 30 #[.val (.ref ao), .val (.long xa), .second, .val (.long xb), .second, .val (.long xc), .second, .val (.int v30_2)] []) by
    by_cases hc14_1 : ((xa ^^^ xc) &&& (xb ^^^ xc)) < (0 : Int64)
    · refine own_Goes.via (T' := s₁) (g' := (mkF m 17 #[.val (.ref ao), .val (.long xa), .second, .val (.long xb), .second, .val (.long xc), .second, .val (.int (0 : Int32))] [])) (fun t_ k_ => XS.ifNo X0.here hx rfl (hb hby d4_14) rfl (own_ltT hc14_1).2 k_) ?_
      refine own_Goes.via (T' := s₁) (g' := (mkF m 18 #[.val (.ref ao), .val (.long xa), .second, .val (.long xb), .second, .val (.long xc), .second, .val (.int (0 : Int32))] [(.long xb)])) (fun t_ k_ => XS.lloadN X0.here hx rfl (hb hby d4_17) rfl k_) ?_
      refine own_Goes.via (T' := s₁) (g' := (mkF m 19 #[.val (.ref ao), .val (.long xa), .second, .val (.long xb), .second, .val (.long xc), .second, .val (.int (0 : Int32))] [(.long (0 : Int64)), (.long xb)])) (fun t_ k_ => XS.lconst X0.here hx rfl (hb hby d4_18) k_) ?_
      refine own_Goes.via (T' := s₁) (g' := (mkF m 20 #[.val (.ref ao), .val (.long xa), .second, .val (.long xb), .second, .val (.long xc), .second, .val (.int (0 : Int32))] [(.int (lcmpW xb (0 : Int64)))])) (fun t_ k_ => XS.lcmp X0.here hx rfl (hb hby d4_19) rfl k_) ?_
      by_cases hc20_5 : xb < (0 : Int64)
      · refine own_Goes.via (T' := s₁) (g' := (mkF m 23 #[.val (.ref ao), .val (.long xa), .second, .val (.long xb), .second, .val (.long xc), .second, .val (.int (0 : Int32))] [])) (fun t_ k_ => XS.ifNo X0.here hx rfl (hb hby d4_20) rfl (own_ltT hc20_5).2 k_) ?_
        refine own_Goes.via (T' := s₁) (g' := (mkF m 24 #[.val (.ref ao), .val (.long xa), .second, .val (.long xb), .second, .val (.long xc), .second, .val (.int (0 : Int32))] [(.int (-1 : Int32))])) (fun t_ k_ => XS.iconst X0.here hx rfl (hb hby d4_23) k_) ?_
        refine own_Goes.via (T' := s₁) (g' := (mkF m 28 #[.val (.ref ao), .val (.long xa), .second, .val (.long xb), .second, .val (.long xc), .second, .val (.int (0 : Int32))] [(.int (-1 : Int32))])) (fun t_ k_ => XS.goto X0.here hx rfl (pc0 := 24) (pc' := 28) rfl (hb hby d4_24) (by decide) (by decide) k_) ?_
        refine own_Goes.via (T' := s₁) (g' := (mkF m 30 #[.val (.ref ao), .val (.long xa), .second, .val (.long xb), .second, .val (.long xc), .second, .val (.int (-1 : Int32))] [])) (fun t_ k_ => XS.istore X0.here hx rfl (hb hby d4_28) rfl (l' := #[.val (.ref ao), .val (.long xa), .second, .val (.long xb), .second, .val (.long xc), .second, .val (.int (-1 : Int32))]) rfl k_) ?_
        exact J30_4 (-1 : Int32) (((if_pos hc14_1).trans (if_pos hc20_5))).symm
      · refine own_Goes.via (T' := s₁) (g' := (mkF m 27 #[.val (.ref ao), .val (.long xa), .second, .val (.long xb), .second, .val (.long xc), .second, .val (.int (0 : Int32))] [])) (fun t_ k_ => XS.ifYes X0.here hx rfl (pc0 := 20) (pc' := 27) rfl (hb hby d4_20) rfl (own_ltF hc20_5).2 (by decide) (by decide) k_) ?_
        refine own_Goes.via (T' := s₁) (g' := (mkF m 28 #[.val (.ref ao), .val (.long xa), .second, .val (.long xb), .second, .val (.long xc), .second, .val (.int (0 : Int32))] [(.int (1 : Int32))])) (fun t_ k_ => XS.iconst X0.here hx rfl (hb hby d4_27) k_) ?_
        refine own_Goes.via (T' := s₁) (g' := (mkF m 30 #[.val (.ref ao), .val (.long xa), .second, .val (.long xb), .second, .val (.long xc), .second, .val (.int (1 : Int32))] [])) (fun t_ k_ => XS.istore X0.here hx rfl (hb hby d4_28) rfl (l' := #[.val (.ref ao), .val (.long xa), .second, .val (.long xb), .second, .val (.long xc), .second, .val (.int (1 : Int32))]) rfl k_) ?_
        exact J30_4 (1 : Int32) (((if_pos hc14_1).trans (if_neg hc20_5))).symm
    · refine own_Goes.via (T' := s₁) (g' := (mkF m 30 #[.val (.ref ao), .val (.long xa), .second, .val (.long xb), .second, .val (.long xc), .second, .val (.int (0 : Int32))] [])) (fun t_ k_ => XS.ifYes X0.here hx rfl (pc0 := 14) (pc' := 30) rfl (hb hby d4_14) rfl (own_ltF hc14_1).2 (by decide) (by decide) k_) ?_
      exact J30_4 (0 : Int32) ((if_neg hc14_1)).symm
  intro v30_2 hv30_2
  refine own_Goes.via (T' := s₁) (g' := (mkF m 32 #[.val (.ref ao), .val (.long xa), .second, .val (.long xb), .second, .val (.long xc), .second, .val (.int v30_2)] [(.int v30_2)])) (fun t_ k_ => XS.iload X0.here hx rfl (hb hby d4_30) rfl k_) ?_
  obtain ⟨fs, hr, hrun, hended, hW, hsame⟩ := X0.leave (v := some (.int v30_2)) (fun h => by rw [Bd.returns] at h; cases h)
  refine own_Goes.fin (retOut X0 hx Bd.returns rfl (Or.inl ⟨rfl, Or.inl rfl, _, rfl⟩) (hb hby d4_32) hr) hrun hended ?_
  subst hPd
  refine ⟨_, _, rfl, ?_, ⟨_, rfl⟩, hW, hsame.mono (by decide) (by decide)⟩
  show Q4 Z ao xa xb xc h0 n0 _ s₁.heap _
  rw [e0]
  exact ⟨(by subst hv30_2; first | rfl | (simp only [own_f4])), N0, rfl⟩
theorem d5_0 : decode method_2_code 0 = .ok (.iconst 0, 1) := by decide +kernel
theorem d5_1 : decode method_2_code 1 = .ok (.istore 4, 2) := by decide +kernel
theorem d5_3 : decode method_2_code 3 = .ok (.lload_n 2, 1) := by decide +kernel
theorem d5_4 : decode method_2_code 4 = .ok (.lconst 0, 1) := by decide +kernel
theorem d5_5 : decode method_2_code 5 = .ok (.lcmp, 1) := by decide +kernel
theorem d5_6 : decode method_2_code 6 = .ok (.ifCond .le 19, 3) := by decide +kernel
theorem d5_9 : decode method_2_code 9 = .ok (.lload_n 0, 1) := by decide +kernel
theorem d5_10 : decode method_2_code 10 = .ok (.ldc2_w 9, 3) := by decide +kernel
theorem d5_13 : decode method_2_code 13 = .ok (.lload_n 2, 1) := by decide +kernel
theorem d5_14 : decode method_2_code 14 = .ok (.lsub, 1) := by decide +kernel
theorem d5_15 : decode method_2_code 15 = .ok (.lcmp, 1) := by decide +kernel
theorem d5_16 : decode method_2_code 16 = .ok (.ifCond .le 28, 3) := by decide +kernel
theorem d5_19 : decode method_2_code 19 = .ok (.iconst 1, 1) := by decide +kernel
theorem d5_20 : decode method_2_code 20 = .ok (.istore 4, 2) := by decide +kernel
theorem d5_22 : decode method_2_code 22 = .ok (.goto 22, 3) := by decide +kernel
theorem d5_25 : decode method_2_code 25 = .ok (.lload_n 2, 1) := by decide +kernel
theorem d5_26 : decode method_2_code 26 = .ok (.lconst 0, 1) := by decide +kernel
theorem d5_27 : decode method_2_code 27 = .ok (.lcmp, 1) := by decide +kernel
theorem d5_28 : decode method_2_code 28 = .ok (.ifCond .ge 16, 3) := by decide +kernel
theorem d5_31 : decode method_2_code 31 = .ok (.lload_n 0, 1) := by decide +kernel
theorem d5_32 : decode method_2_code 32 = .ok (.ldc2_w 11, 3) := by decide +kernel
theorem d5_35 : decode method_2_code 35 = .ok (.lload_n 2, 1) := by decide +kernel
theorem d5_36 : decode method_2_code 36 = .ok (.lsub, 1) := by decide +kernel
theorem d5_37 : decode method_2_code 37 = .ok (.lcmp, 1) := by decide +kernel
theorem d5_38 : decode method_2_code 38 = .ok (.ifCond .ge 6, 3) := by decide +kernel
theorem d5_41 : decode method_2_code 41 = .ok (.iconst (-1), 1) := by decide +kernel
theorem d5_42 : decode method_2_code 42 = .ok (.istore 4, 2) := by decide +kernel
theorem d5_44 : decode method_2_code 44 = .ok (.iload 4, 2) := by decide +kernel
theorem d5_46 : decode method_2_code 46 = .ok (.ireturn, 1) := by decide +kernel
theorem pn_5 : plainName "com/example/keysweep/keysweep/SumCombinerWrapsPinLaw" = true := by first | (simp [plainName, overriddenIn]; done) | decide +kernel
theorem ef_5 (m : MethodId) (xa : Int64) (xb : Int64) : entryFrame m #[(.long xa), (.long xb)] 5 = mkF m 0 #[.val (.long xa), .second, .val (.long xb), .second, .unset] [] := by first | (simp [entryFrame, mkF, argsToLocals, Value.category]; done) | rfl
def own_f5 (xa : Int64) (xb : Int64) : Int32 := (if (0 : Int64) < xb then (if ((9223372036854775807 : Int64) - xb) < xa then (1 : Int32) else (0 : Int32)) else (if xb < (0 : Int64) then (if xa < ((-9223372036854775808 : Int64) - xb) then (-1 : Int32) else (0 : Int32)) else (0 : Int32)))
def Q5 (Z : State) (xa : Int64) (xb : Int64) (h0 : Heap) (n0 : Nat) (v : Option Value) (h : Heap) (L : List Loc) : Prop := v = some (.int (own_f5 xa xb)) ∧ Fr n0 L ∧ h = h0
set_option maxRecDepth 65536 in
set_option maxHeartbeats 40000000 in
theorem rm5 (l : Launch) (Z : State) (a0 : Array Value) (hw : ∀ d ∈ tables_1, d.before a0 Z = true) (ws : List Jvm.Cond) (xa : Int64) (xb : Int64) (h0 : Heap) (n0 : Nat) (Z0 : n0 ≤ h0.size) :
    MetFree l (⟨"com/example/keysweep/keysweep/SumCombinerWrapsPinLaw", "expectedWrap", "(JJ)I"⟩ : MethodName) (head1 (Jvm.Cond.code (⟨"com/example/keysweep/keysweep/SumCombinerWrapsPinLaw", "expectedWrap", "(JJ)I"⟩ : MethodName) method_2_code 5 (some .int) :: ws) ({ frames := 0, cells := 0, slots := 0, locals := 0 } : Room)) (fun a U => a = #[(.long xa), (.long xb)] ∧ Z.Warmed39 U.vm ∧ U.heap = h0) (fun _ _ _ _ _ => True) (fun _ U o U' => ∃ v L, o = .returned v ∧ Q5 Z xa xb h0 n0 v U'.heap L ∧ FrameEnd U o U' L ({ frames := 0, cells := 0, slots := 0, locals := 0 } : Room).cells ({ frames := 0, cells := 0, slots := 0, locals := 0 } : Room).slots) := by
  refine MetFree.of_bodySF (plainFor_of_name pn_5) hisR ?_
  intro p e s m args below meth c s₁ Bd hml0 hP hK
  obtain ⟨rfl, hZ, hh⟩ := hP
  have hx := Bd.exec
  have hby := Bd.bytes
  have hml : c.maxLocals = 5 := hml0
  have hown : s.vm.findClass "com/example/keysweep/keysweep/SumCombinerWrapsPinLaw" = some m.cls := findClass_of_methodNamed Bd.named
  have hnm := (name_of_methodNamed Bd.named Bd.method).1
  have X0 : Stand p l e ({ frames := 0, cells := 0, slots := 0, locals := 0 } : Room) s m #[(.long xa), (.long xb)] below meth c s₁ [] 0 0 := Stand.of_body Bd
  have e0 : s₁.heap = h0 := by rw [← hh, Bd.state]; rfl
  have N0 := Fr.nil n0
  suffices G : own_Goes p.tables e below (fun o U' => ∃ v L, o = .returned v ∧ Q5 Z xa xb h0 n0 v U'.heap L ∧ FrameEnd s o U' L ({ frames := 0, cells := 0, slots := 0, locals := 0 } : Room).cells ({ frames := 0, cells := 0, slots := 0, locals := 0 } : Room).slots) s₁ (mkF m 0 #[.val (.long xa), .second, .val (.long xb), .second, .unset] []) by
    obtain ⟨t2_, o2_, z1_, z2_, z3_, z4_⟩ := G
    exact ⟨t2_, o2_, castTop (ef_5 m xa xb) z1_, z2_, z3_, z4_⟩
  generalize hPd : (fun (o : Outcome) (U' : State) => ∃ v L, o = .returned v ∧ Q5 Z xa xb h0 n0 v U'.heap L ∧ FrameEnd s o U' L ({ frames := 0, cells := 0, slots := 0, locals := 0 } : Room).cells ({ frames := 0, cells := 0, slots := 0, locals := 0 } : Room).slots) = P
  refine own_Goes.via (T' := s₁) (g' := (mkF m 1 #[.val (.long xa), .second, .val (.long xb), .second, .unset] [(.int (0 : Int32))])) (fun t_ k_ => XS.iconst X0.here hx rfl (hb hby d5_0) k_) ?_
  refine own_Goes.via (T' := s₁) (g' := (mkF m 3 #[.val (.long xa), .second, .val (.long xb), .second, .val (.int (0 : Int32))] [])) (fun t_ k_ => XS.istore X0.here hx rfl (hb hby d5_1) rfl (l' := #[.val (.long xa), .second, .val (.long xb), .second, .val (.int (0 : Int32))]) rfl k_) ?_
  refine own_Goes.via (T' := s₁) (g' := (mkF m 4 #[.val (.long xa), .second, .val (.long xb), .second, .val (.int (0 : Int32))] [(.long xb)])) (fun t_ k_ => XS.lloadN X0.here hx rfl (hb hby d5_3) rfl k_) ?_
  refine own_Goes.via (T' := s₁) (g' := (mkF m 5 #[.val (.long xa), .second, .val (.long xb), .second, .val (.int (0 : Int32))] [(.long (0 : Int64)), (.long xb)])) (fun t_ k_ => XS.lconst X0.here hx rfl (hb hby d5_4) k_) ?_
  refine own_Goes.via (T' := s₁) (g' := (mkF m 6 #[.val (.long xa), .second, .val (.long xb), .second, .val (.int (0 : Int32))] [(.int (lcmpW xb (0 : Int64)))])) (fun t_ k_ => XS.lcmp X0.here hx rfl (hb hby d5_5) rfl k_) ?_
  suffices J44_4 : ∀ (v44_2 : Int32) (hv44_2 : v44_2 = (if (0 : Int64) < xb then (if ((9223372036854775807 : Int64) - xb) < xa then (1 : Int32) else (0 : Int32)) else (if xb < (0 : Int64) then (if xa < ((-9223372036854775808 : Int64) - xb) then (-1 : Int32) else (0 : Int32)) else (0 : Int32)))), own_Goes p.tables e below P s₁ (mkF m 44 #[.val (.long xa), .second, .val (.long xb), .second, .val (.int v44_2)] []) by
    by_cases hc6_1 : (0 : Int64) < xb
    · refine own_Goes.via (T' := s₁) (g' := (mkF m 9 #[.val (.long xa), .second, .val (.long xb), .second, .val (.int (0 : Int32))] [])) (fun t_ k_ => XS.ifNo X0.here hx rfl (hb hby d5_6) rfl (own_gtT hc6_1).2 k_) ?_
      refine own_Goes.via (T' := s₁) (g' := (mkF m 10 #[.val (.long xa), .second, .val (.long xb), .second, .val (.int (0 : Int32))] [(.long xa)])) (fun t_ k_ => XS.lloadN X0.here hx rfl (hb hby d5_9) rfl k_) ?_
      refine own_Goes.via (T' := s₁) (g' := (mkF m 13 #[.val (.long xa), .second, .val (.long xb), .second, .val (.int (0 : Int32))] [(.long (9223372036854775807 : Int64)), (.long xa)])) (X0.ldc2Long hx hown (mvT hZ (hw _ (List.mem_of_getElem? (i := 23) rfl))) (g := (mkF m 10 #[.val (.long xa), .second, .val (.long xb), .second, .val (.int (0 : Int32))] [(.long xa)])) rfl (hb hby d5_10)) ?_
      refine own_Goes.via (T' := s₁) (g' := (mkF m 14 #[.val (.long xa), .second, .val (.long xb), .second, .val (.int (0 : Int32))] [(.long xb), (.long (9223372036854775807 : Int64)), (.long xa)])) (fun t_ k_ => XS.lloadN X0.here hx rfl (hb hby d5_13) rfl k_) ?_
      refine own_Goes.via (T' := s₁) (g' := (mkF m 15 #[.val (.long xa), .second, .val (.long xb), .second, .val (.int (0 : Int32))] [(.long ((9223372036854775807 : Int64) - xb)), (.long xa)])) (fun t_ k_ => XS.lsub X0.here hx rfl (hb hby d5_14) rfl k_) ?_
      refine own_Goes.via (T' := s₁) (g' := (mkF m 16 #[.val (.long xa), .second, .val (.long xb), .second, .val (.int (0 : Int32))] [(.int (lcmpW xa ((9223372036854775807 : Int64) - xb)))])) (fun t_ k_ => XS.lcmp X0.here hx rfl (hb hby d5_15) rfl k_) ?_
      by_cases hc16_5 : ((9223372036854775807 : Int64) - xb) < xa
      · refine own_Goes.via (T' := s₁) (g' := (mkF m 19 #[.val (.long xa), .second, .val (.long xb), .second, .val (.int (0 : Int32))] [])) (fun t_ k_ => XS.ifNo X0.here hx rfl (hb hby d5_16) rfl (own_gtT hc16_5).2 k_) ?_
        refine own_Goes.via (T' := s₁) (g' := (mkF m 20 #[.val (.long xa), .second, .val (.long xb), .second, .val (.int (0 : Int32))] [(.int (1 : Int32))])) (fun t_ k_ => XS.iconst X0.here hx rfl (hb hby d5_19) k_) ?_
        refine own_Goes.via (T' := s₁) (g' := (mkF m 22 #[.val (.long xa), .second, .val (.long xb), .second, .val (.int (1 : Int32))] [])) (fun t_ k_ => XS.istore X0.here hx rfl (hb hby d5_20) rfl (l' := #[.val (.long xa), .second, .val (.long xb), .second, .val (.int (1 : Int32))]) rfl k_) ?_
        refine own_Goes.via (T' := s₁) (g' := (mkF m 44 #[.val (.long xa), .second, .val (.long xb), .second, .val (.int (1 : Int32))] [])) (fun t_ k_ => XS.goto X0.here hx rfl (pc0 := 22) (pc' := 44) rfl (hb hby d5_22) (by decide) (by decide) k_) ?_
        exact J44_4 (1 : Int32) (((if_pos hc6_1).trans (if_pos hc16_5))).symm
      · refine own_Goes.via (T' := s₁) (g' := (mkF m 44 #[.val (.long xa), .second, .val (.long xb), .second, .val (.int (0 : Int32))] [])) (fun t_ k_ => XS.ifYes X0.here hx rfl (pc0 := 16) (pc' := 44) rfl (hb hby d5_16) rfl (own_gtF hc16_5).2 (by decide) (by decide) k_) ?_
        exact J44_4 (0 : Int32) (((if_pos hc6_1).trans (if_neg hc16_5))).symm
    · refine own_Goes.via (T' := s₁) (g' := (mkF m 25 #[.val (.long xa), .second, .val (.long xb), .second, .val (.int (0 : Int32))] [])) (fun t_ k_ => XS.ifYes X0.here hx rfl (pc0 := 6) (pc' := 25) rfl (hb hby d5_6) rfl (own_gtF hc6_1).2 (by decide) (by decide) k_) ?_
      refine own_Goes.via (T' := s₁) (g' := (mkF m 26 #[.val (.long xa), .second, .val (.long xb), .second, .val (.int (0 : Int32))] [(.long xb)])) (fun t_ k_ => XS.lloadN X0.here hx rfl (hb hby d5_25) rfl k_) ?_
      refine own_Goes.via (T' := s₁) (g' := (mkF m 27 #[.val (.long xa), .second, .val (.long xb), .second, .val (.int (0 : Int32))] [(.long (0 : Int64)), (.long xb)])) (fun t_ k_ => XS.lconst X0.here hx rfl (hb hby d5_26) k_) ?_
      refine own_Goes.via (T' := s₁) (g' := (mkF m 28 #[.val (.long xa), .second, .val (.long xb), .second, .val (.int (0 : Int32))] [(.int (lcmpW xb (0 : Int64)))])) (fun t_ k_ => XS.lcmp X0.here hx rfl (hb hby d5_27) rfl k_) ?_
      by_cases hc28_6 : xb < (0 : Int64)
      · refine own_Goes.via (T' := s₁) (g' := (mkF m 31 #[.val (.long xa), .second, .val (.long xb), .second, .val (.int (0 : Int32))] [])) (fun t_ k_ => XS.ifNo X0.here hx rfl (hb hby d5_28) rfl (own_ltT hc28_6).2 k_) ?_
        refine own_Goes.via (T' := s₁) (g' := (mkF m 32 #[.val (.long xa), .second, .val (.long xb), .second, .val (.int (0 : Int32))] [(.long xa)])) (fun t_ k_ => XS.lloadN X0.here hx rfl (hb hby d5_31) rfl k_) ?_
        refine own_Goes.via (T' := s₁) (g' := (mkF m 35 #[.val (.long xa), .second, .val (.long xb), .second, .val (.int (0 : Int32))] [(.long (-9223372036854775808 : Int64)), (.long xa)])) (X0.ldc2Long hx hown (mvT hZ (hw _ (List.mem_of_getElem? (i := 24) rfl))) (g := (mkF m 32 #[.val (.long xa), .second, .val (.long xb), .second, .val (.int (0 : Int32))] [(.long xa)])) rfl (hb hby d5_32)) ?_
        refine own_Goes.via (T' := s₁) (g' := (mkF m 36 #[.val (.long xa), .second, .val (.long xb), .second, .val (.int (0 : Int32))] [(.long xb), (.long (-9223372036854775808 : Int64)), (.long xa)])) (fun t_ k_ => XS.lloadN X0.here hx rfl (hb hby d5_35) rfl k_) ?_
        refine own_Goes.via (T' := s₁) (g' := (mkF m 37 #[.val (.long xa), .second, .val (.long xb), .second, .val (.int (0 : Int32))] [(.long ((-9223372036854775808 : Int64) - xb)), (.long xa)])) (fun t_ k_ => XS.lsub X0.here hx rfl (hb hby d5_36) rfl k_) ?_
        refine own_Goes.via (T' := s₁) (g' := (mkF m 38 #[.val (.long xa), .second, .val (.long xb), .second, .val (.int (0 : Int32))] [(.int (lcmpW xa ((-9223372036854775808 : Int64) - xb)))])) (fun t_ k_ => XS.lcmp X0.here hx rfl (hb hby d5_37) rfl k_) ?_
        by_cases hc38_7 : xa < ((-9223372036854775808 : Int64) - xb)
        · refine own_Goes.via (T' := s₁) (g' := (mkF m 41 #[.val (.long xa), .second, .val (.long xb), .second, .val (.int (0 : Int32))] [])) (fun t_ k_ => XS.ifNo X0.here hx rfl (hb hby d5_38) rfl (own_ltT hc38_7).2 k_) ?_
          refine own_Goes.via (T' := s₁) (g' := (mkF m 42 #[.val (.long xa), .second, .val (.long xb), .second, .val (.int (0 : Int32))] [(.int (-1 : Int32))])) (fun t_ k_ => XS.iconst X0.here hx rfl (hb hby d5_41) k_) ?_
          refine own_Goes.via (T' := s₁) (g' := (mkF m 44 #[.val (.long xa), .second, .val (.long xb), .second, .val (.int (-1 : Int32))] [])) (fun t_ k_ => XS.istore X0.here hx rfl (hb hby d5_42) rfl (l' := #[.val (.long xa), .second, .val (.long xb), .second, .val (.int (-1 : Int32))]) rfl k_) ?_
          exact J44_4 (-1 : Int32) (((if_neg hc6_1).trans ((if_pos hc28_6).trans (if_pos hc38_7)))).symm
        · refine own_Goes.via (T' := s₁) (g' := (mkF m 44 #[.val (.long xa), .second, .val (.long xb), .second, .val (.int (0 : Int32))] [])) (fun t_ k_ => XS.ifYes X0.here hx rfl (pc0 := 38) (pc' := 44) rfl (hb hby d5_38) rfl (own_ltF hc38_7).2 (by decide) (by decide) k_) ?_
          exact J44_4 (0 : Int32) (((if_neg hc6_1).trans ((if_pos hc28_6).trans (if_neg hc38_7)))).symm
      · refine own_Goes.via (T' := s₁) (g' := (mkF m 44 #[.val (.long xa), .second, .val (.long xb), .second, .val (.int (0 : Int32))] [])) (fun t_ k_ => XS.ifYes X0.here hx rfl (pc0 := 28) (pc' := 44) rfl (hb hby d5_28) rfl (own_ltF hc28_6).2 (by decide) (by decide) k_) ?_
        exact J44_4 (0 : Int32) (((if_neg hc6_1).trans (if_neg hc28_6))).symm
  intro v44_2 hv44_2
  refine own_Goes.via (T' := s₁) (g' := (mkF m 46 #[.val (.long xa), .second, .val (.long xb), .second, .val (.int v44_2)] [(.int v44_2)])) (fun t_ k_ => XS.iload X0.here hx rfl (hb hby d5_44) rfl k_) ?_
  obtain ⟨fs, hr, hrun, hended, hW, hsame⟩ := X0.leave (v := some (.int v44_2)) (fun h => by rw [Bd.returns] at h; cases h)
  refine own_Goes.fin (retOut X0 hx Bd.returns rfl (Or.inl ⟨rfl, Or.inl rfl, _, rfl⟩) (hb hby d5_46) hr) hrun hended ?_
  subst hPd
  refine ⟨_, _, rfl, ?_, ⟨_, rfl⟩, hW, hsame.mono (by decide) (by decide)⟩
  show Q5 Z xa xb h0 n0 _ s₁.heap _
  rw [e0]
  exact ⟨(by subst hv44_2; first | rfl | (simp only [own_f5])), N0, rfl⟩
theorem own_add (x y : Int64) : (x + y).toInt = x.toInt + y.toInt ∨ (2 ^ 63 ≤ x.toInt + y.toInt ∧ (x + y).toInt = x.toInt + y.toInt - 2 ^ 64) ∨ (x.toInt + y.toInt < -2 ^ 63 ∧ (x + y).toInt = x.toInt + y.toInt + 2 ^ 64) := by
  have b1 := x.toInt_lt
  have b2 := x.le_toInt
  have b3 := y.toInt_lt
  have b4 := y.le_toInt
  rw [Int64.toInt_add, Int.bmod_def]
  split <;> omega
theorem own_key (xa xb : Int64) : own_f4 xa xb (xa + xb) = own_f5 xa xb := by
  have b1 := xa.toInt_lt
  have b2 := xa.le_toInt
  have b3 := xb.toInt_lt
  have b4 := xb.le_toInt
  have hb := own_add xa xb
  have b5 := (xa + xb).toInt_lt
  have b6 := (xa + xb).le_toInt
  have z : (0 : Int64).toInt = 0 := rfl
  have mx : (9223372036854775807 : Int64).toInt = 9223372036854775807 := rfl
  have mn : (-9223372036854775808 : Int64).toInt = -9223372036854775808 := rfl
  have l0 : ∀ x : Int64, x < (0 : Int64) ↔ x.toInt < 0 := fun x => by rw [Int64.lt_iff_toInt_lt, z]
  have l1 : (0 : Int64) < xb ↔ 0 < xb.toInt := by rw [Int64.lt_iff_toInt_lt, z]
  have c1 : ((xa ^^^ (xa + xb)) &&& (xb ^^^ (xa + xb))) < (0 : Int64) ↔ (¬ (xa.toInt < 0 ↔ (xa + xb).toInt < 0) ∧ ¬ (xb.toInt < 0 ↔ (xa + xb).toInt < 0)) := by
    rw [Jvm.Free.XT.and_neg64, Jvm.Free.XT.xor_neg64, Jvm.Free.XT.xor_neg64, l0, l0, l0]
  unfold own_f4 own_f5
  rcases Int.lt_trichotomy xb.toInt 0 with p | p | p
  · have m2 : xa < ((-9223372036854775808 : Int64) - xb) ↔ xa.toInt < -9223372036854775808 - xb.toInt := by
      rw [Int64.lt_iff_toInt_lt, Jvm.Kit.i64_sub (by rw [mn]; omega) (by rw [mn]; omega), mn]
    rw [if_neg (show ¬ (0 : Int64) < xb by rw [l1]; omega), if_pos (show xb < (0 : Int64) by rw [l0]; exact p), if_pos (show xb < (0 : Int64) by rw [l0]; exact p)]
    by_cases q : xa.toInt < -9223372036854775808 - xb.toInt
    · rw [if_pos (m2.mpr q), if_pos (c1.mpr (by omega))]
    · rw [if_neg (fun y => q (m2.mp y)), if_neg (fun y => by have y' := c1.mp y; omega)]
  · rw [if_neg (show ¬ (0 : Int64) < xb by rw [l1]; omega), if_neg (show ¬ xb < (0 : Int64) by rw [l0]; omega), if_neg (show ¬ xb < (0 : Int64) by rw [l0]; omega), if_neg (fun y => by have y' := c1.mp y; omega)]
  · have m1 : ((9223372036854775807 : Int64) - xb) < xa ↔ 9223372036854775807 - xb.toInt < xa.toInt := by
      rw [Int64.lt_iff_toInt_lt, Jvm.Kit.i64_sub (by rw [mx]; omega) (by rw [mx]; omega), mx]
    rw [if_pos (show (0 : Int64) < xb by rw [l1]; exact p), if_neg (show ¬ xb < (0 : Int64) by rw [l0]; omega)]
    by_cases q : 9223372036854775807 - xb.toInt < xa.toInt
    · rw [if_pos (m1.mpr q), if_pos (c1.mpr (by omega))]
    · rw [if_neg (fun y => q (m1.mp y)), if_neg (fun y => by have y' := c1.mp y; omega)]
theorem pn_0 : plainName "com/example/keysweep/keysweep/SumCombinerWrapsPinLaw" = true := by first | (simp [plainName, overriddenIn]; done) | decide +kernel
theorem pd_0_0 : parseMethodDescriptor "()V" = some ⟨[], none⟩ := by decide +kernel
theorem pd_0_1 : parseMethodDescriptor "(JJJ)I" = some ⟨[.long, .long, .long], some .int⟩ := by decide +kernel
theorem pd_0_2 : parseMethodDescriptor "(JJ)I" = some ⟨[.long, .long], some .int⟩ := by decide +kernel
theorem ef_0 (m : MethodId) (xa : Int64) (xb : Int64) : entryFrame m #[(.long xa), (.long xb)] maxLocals = mkF m 0 #[.val (.long xa), .second, .val (.long xb), .second, .unset, .unset, .unset, .unset] [] := by first | (simp [entryFrame, mkF, argsToLocals, Value.category, maxLocals]; done) | rfl
def Q0 (Z : State) (xa : Int64) (xb : Int64) (h0 : Heap) (n0 : Nat) (v : Option Value) (h : Heap) (L : List Loc) : Prop := v = some (.int 1) ∧ Fr n0 L
set_option maxRecDepth 65536 in
theorem own_pl0_0 {xa : Int64} {xb : Int64} {v1 : Int64} {v6 : Int32} {v8 : Int32} {v40_10 : Int32} (hv1 : v1 = (xa + xb)) (hv6 : v6 = (own_f4 xa xb v1)) (hv8 : v8 = (own_f5 xa xb)) (hv40_10 : v40_10 = (if v6 = v8 then (1 : Int32) else (0 : Int32))) : v40_10 = 1 := by
  rw [hv40_10, hv6, hv8, hv1, own_key, if_pos rfl]
set_option maxRecDepth 65536 in
set_option maxHeartbeats 40000000 in
theorem rm0 (l : Launch) (Z : State) (a0 : Array Value) (hw : ∀ d ∈ tables_1, d.before a0 Z = true) (ws : List Jvm.Cond) (xa : Int64) (xb : Int64) (h0 : Heap) (n0 : Nat) (Z0 : n0 ≤ h0.size) :
    MetFree l x (head1 (Jvm.Cond.code x code maxLocals ret :: ws) room_1) (fun a U => a = #[(.long xa), (.long xb)] ∧ Z.Warmed39 U.vm ∧ U.heap = h0) (fun _ _ _ _ _ => True) (fun _ U o U' => ∃ v L, o = .returned v ∧ Q0 Z xa xb h0 n0 v U'.heap L ∧ FrameEnd U o U' L 1 11) := by
  refine MetFree.of_bodySF (plainFor_of_name pn_0) hisR ?_
  intro p e s m args below meth c s₁ Bd hml0 hP hK
  obtain ⟨rfl, hZ, hh⟩ := hP
  have hx := Bd.exec
  have hby := Bd.bytes
  have hml : c.maxLocals = 8 := hml0
  have hown : s.vm.findClass "com/example/keysweep/keysweep/SumCombinerWrapsPinLaw" = some m.cls := findClass_of_methodNamed Bd.named
  have hnm := (name_of_methodNamed Bd.named Bd.method).1
  have X0 : Stand p l e room_1 s m #[(.long xa), (.long xb)] below meth c s₁ [] 0 0 := Stand.of_body Bd
  have e0 : s₁.heap = h0 := by rw [← hh, Bd.state]; rfl
  have N0 := Fr.nil n0
  suffices G : own_Goes p.tables e below (fun o U' => ∃ v L, o = .returned v ∧ Q0 Z xa xb h0 n0 v U'.heap L ∧ FrameEnd s o U' L 1 11) s₁ (mkF m 0 #[.val (.long xa), .second, .val (.long xb), .second, .unset, .unset, .unset, .unset] []) by
    obtain ⟨t2_, o2_, z1_, z2_, z3_, z4_⟩ := G
    exact ⟨t2_, o2_, castTop (ef_0 m xa xb) z1_, z2_, z3_, z4_⟩
  generalize hPd : (fun (o : Outcome) (U' : State) => ∃ v L, o = .returned v ∧ Q0 Z xa xb h0 n0 v U'.heap L ∧ FrameEnd s o U' L 1 11) = P
  refine own_Goes.via (T' := s₁) (g' := (mkF m 1 #[.val (.long xa), .second, .val (.long xb), .second, .unset, .unset, .unset, .unset] [(.long xa)])) (fun t_ k_ => XS.lloadN X0.here hx rfl (hb hby at_0) rfl k_) ?_
  refine own_Goes.via (T' := s₁) (g' := (mkF m 2 #[.val (.long xa), .second, .val (.long xb), .second, .unset, .unset, .unset, .unset] [(.long xb), (.long xa)])) (fun t_ k_ => XS.lloadN X0.here hx rfl (hb hby at_1) rfl k_) ?_
  refine own_Goes.via (T' := s₁) (g' := (mkF m 3 #[.val (.long xa), .second, .val (.long xb), .second, .unset, .unset, .unset, .unset] [(.long (xa + xb))])) (fun t_ k_ => XS.ladd X0.here hx rfl (hb hby at_2) rfl k_) ?_
  refine own_Goes.via (T' := s₁) (g' := (mkF m 5 #[.val (.long xa), .second, .val (.long xb), .second, .val (.long (xa + xb)), .second, .unset, .unset] [])) (fun t_ k_ => XS.lstore X0.here hx rfl (hb hby at_3) rfl (l' := #[.val (.long xa), .second, .val (.long xb), .second, .val (.long (xa + xb)), .second, .unset, .unset]) rfl k_) ?_
  obtain ⟨v1, hv1⟩ : ∃ z : Int64, z = (xa + xb) := ⟨_, rfl⟩
  rw [← hv1]
  obtain ⟨T2, h2, X2, e2, E2, A2, D2, -, st2⟩ := newO X0 hx hZ hown (hw _ (List.mem_of_getElem? (i := 0) rfl)) (hw _ (List.mem_of_getElem? (i := 1) rfl)) (hw _ (List.mem_of_getElem? (i := 2) rfl)) e0 (g := (mkF m 5 #[.val (.long xa), .second, .val (.long xb), .second, .val (.long v1), .second, .unset, .unset] [])) rfl (hb hby at_5) (by decide) (by decide)
  obtain ⟨b2, g2⟩ : ∃ z, z = h0.size := ⟨_, rfl⟩
  rw [← g2] at A2 D2 st2
  have ge_b2 : n0 ≤ b2 := Nat.le_trans Z0 (Nat.le_of_eq g2.symm)
  have sz_b2 : h0.size ≤ b2 := Nat.le_trans ((Keep.refl h0 [])).1 (Nat.le_of_eq g2.symm)
  have sz2 : n0 ≤ h2.size := Nat.le_trans Z0 E2.1
  have K2 : Keep h0 h2 [] := ((Keep.refl h0 [])).ext E2
  have E3 : Exa Z h2 b2 "com/example/keysweep/keysweep/SumCombiner" := A2
  refine own_Goes.via (T' := T2) (g' := (mkF m 8 #[.val (.long xa), .second, .val (.long xb), .second, .val (.long v1), .second, .unset, .unset] [(.ref b2)])) (st2) ?_
  refine own_Goes.via (T' := T2) (g' := (mkF m 9 #[.val (.long xa), .second, .val (.long xb), .second, .val (.long v1), .second, .unset, .unset] [(.ref b2), (.ref b2)])) (fun t_ k_ => XS.dup X2.here hx rfl (hb hby at_8) rfl rfl k_) ?_
  obtain ⟨_, _, ⟨T4, L4, k4, n4⟩, -, X4, ⟨Lc4, hQ4, l4, y4, z4⟩, st4⟩ := X2.specialBack hx (y := (⟨"com/example/keysweep/keysweep/SumCombiner", "<init>", "()V"⟩ : MethodName)) rfl hown (mvT hZ (hw _ (List.mem_of_getElem? (i := 3) rfl))) (mvT hZ (hw _ (List.mem_of_getElem? (i := 4) rfl))) (mvT hZ (hw _ (List.mem_of_getElem? (i := 5) rfl))) (by decide) (backOf (W := 1) (rm1 l Z a0 hw [] b2 h2 n0 sz2 ) hZ (hw _ (List.mem_of_getElem? (i := 5) rfl)) (hw _ (List.mem_of_getElem? (i := 2) rfl)) (by decide) (by decide)) (g := (mkF m 9 #[.val (.long xa), .second, .val (.long xb), .second, .val (.long v1), .second, .unset, .unset] [(.ref b2), (.ref b2)])) rfl (by rw [hml]; rfl) (Steps.refl _) (a := b2) (argsL := []) (rest := [(.ref b2)]) (lenOf pd_0_0 rfl) rfl (by show 2 * 0 + _ ≤ _; exact Nat.le_of_eq rfl) (hb hby at_9) (fun _ _ => ⟨rfl, e2, (by decide : 1 + 0 ≤ _), (by decide : 11 + 0 ≤ _)⟩)
  dsimp only [Pt.U, Pt.locs, Pt.cells, Pt.slots] at X4 l4 y4 z4 st4 hQ4
  subst l4 y4 z4
  obtain ⟨rfl, Nq4, hh4⟩ := hQ4
  have N4 := Fr.app N0 Nq4
  refine own_Goes.via (T' := T4) (g' := (mkF m 12 #[.val (.long xa), .second, .val (.long xb), .second, .val (.long v1), .second, .unset, .unset] [(.ref b2)])) (fun t_ k_ => st4.trans k_) ?_
  refine own_Goes.via (T' := T4) (g' := (mkF m 14 #[.val (.long xa), .second, .val (.long xb), .second, .val (.long v1), .second, .val (.ref b2), .unset] [])) (fun t_ k_ => XS.astore X4.here hx rfl (hb hby at_12) rfl rfl (l' := #[.val (.long xa), .second, .val (.long xb), .second, .val (.long v1), .second, .val (.ref b2), .unset]) rfl k_) ?_
  refine own_Goes.via (T' := T4) (g' := (mkF m 16 #[.val (.long xa), .second, .val (.long xb), .second, .val (.long v1), .second, .val (.ref b2), .unset] [(.ref b2)])) (fun t_ k_ => XS.aload X4.here hx rfl (hb hby at_14) rfl rfl k_) ?_
  refine own_Goes.via (T' := T4) (g' := (mkF m 17 #[.val (.long xa), .second, .val (.long xb), .second, .val (.long v1), .second, .val (.ref b2), .unset] [(.long xa), (.ref b2)])) (fun t_ k_ => XS.lloadN X4.here hx rfl (hb hby at_16) rfl k_) ?_
  refine own_Goes.via (T' := T4) (g' := (mkF m 18 #[.val (.long xa), .second, .val (.long xb), .second, .val (.long v1), .second, .val (.ref b2), .unset] [(.long xb), (.long xa), (.ref b2)])) (fun t_ k_ => XS.lloadN X4.here hx rfl (hb hby at_17) rfl k_) ?_
  refine own_Goes.via (T' := T4) (g' := (mkF m 20 #[.val (.long xa), .second, .val (.long xb), .second, .val (.long v1), .second, .val (.ref b2), .unset] [(.long v1), (.long xb), (.long xa), (.ref b2)])) (fun t_ k_ => XS.lload X4.here hx rfl (hb hby at_18) rfl k_) ?_
  obtain ⟨cq5, kq5, q5a, q5b, q5c⟩ := isOf hZ hh4 E3
  obtain ⟨_, _, ⟨T5, L5, k5, n5⟩, -, X5, ⟨Lc5, hQ5, l5, y5, z5⟩, st5⟩ := X4.virtualBack hx (y := (⟨"com/example/keysweep/keysweep/SumCombiner", "wraps", "(JJJ)I"⟩ : MethodName)) (z := (⟨"com/example/keysweep/keysweep/SumCombiner", "wraps", "(JJJ)I"⟩ : MethodName)) hown (mvT hZ (hw _ (List.mem_of_getElem? (i := 14) rfl))) (mvT hZ (hw _ (List.mem_of_getElem? (i := 15) rfl))) (notFace_of_selects (args := #[]) (mvT hZ (hw _ (List.mem_of_getElem? (i := 17) rfl)))) (mvT hZ (hw _ (List.mem_of_getElem? (i := 17) rfl))) (mvT hZ (hw _ (List.mem_of_getElem? (i := 16) rfl))) (by decide) (backOf (W := 0) (rm4 l Z a0 hw [] b2 xa xb v1 h2 n0 sz2 ) hZ (hw _ (List.mem_of_getElem? (i := 18) rfl)) (hw _ (List.mem_of_getElem? (i := 2) rfl)) (by decide) (by decide)) q5a q5c (g := (mkF m 20 #[.val (.long xa), .second, .val (.long xb), .second, .val (.long v1), .second, .val (.ref b2), .unset] [(.long v1), (.long xb), (.long xa), (.ref b2)])) rfl (by rw [hml]; rfl) (Steps.refl _) (argsL := [(.long xa), (.long xb), (.long v1)]) (rest := []) (lenOf pd_0_1 rfl) rfl (by show 2 * 0 + _ ≤ _; exact Nat.le_of_eq rfl) (hb hby at_20) (fun _ _ => ⟨rfl, hh4, (by decide : 1 + 0 ≤ _), (by decide : 11 + 0 ≤ _)⟩)
  dsimp only [Pt.U, Pt.locs, Pt.cells, Pt.slots] at X5 l5 y5 z5 st5 hQ5
  subst l5 y5 z5
  obtain ⟨rfl, Nq5, hh5⟩ := hQ5
  have N5 := Fr.app N4 Nq5
  refine own_Goes.via (T' := T5) (g' := (mkF m 23 #[.val (.long xa), .second, .val (.long xb), .second, .val (.long v1), .second, .val (.ref b2), .unset] [(.int (own_f4 xa xb v1))])) (fun t_ k_ => st5.trans k_) ?_
  obtain ⟨v6, hv6⟩ : ∃ z : Int32, z = (own_f4 xa xb v1) := ⟨_, rfl⟩
  rw [← hv6]
  refine own_Goes.via (T' := T5) (g' := (mkF m 25 #[.val (.long xa), .second, .val (.long xb), .second, .val (.long v1), .second, .val (.ref b2), .val (.int v6)] [])) (fun t_ k_ => XS.istore X5.here hx rfl (hb hby at_23) rfl (l' := #[.val (.long xa), .second, .val (.long xb), .second, .val (.long v1), .second, .val (.ref b2), .val (.int v6)]) rfl k_) ?_
  refine own_Goes.via (T' := T5) (g' := (mkF m 27 #[.val (.long xa), .second, .val (.long xb), .second, .val (.long v1), .second, .val (.ref b2), .val (.int v6)] [(.int v6)])) (fun t_ k_ => XS.iload X5.here hx rfl (hb hby at_25) rfl k_) ?_
  refine own_Goes.via (T' := T5) (g' := (mkF m 28 #[.val (.long xa), .second, .val (.long xb), .second, .val (.long v1), .second, .val (.ref b2), .val (.int v6)] [(.long xa), (.int v6)])) (fun t_ k_ => XS.lloadN X5.here hx rfl (hb hby at_27) rfl k_) ?_
  refine own_Goes.via (T' := T5) (g' := (mkF m 29 #[.val (.long xa), .second, .val (.long xb), .second, .val (.long v1), .second, .val (.ref b2), .val (.int v6)] [(.long xb), (.long xa), (.int v6)])) (fun t_ k_ => XS.lloadN X5.here hx rfl (hb hby at_28) rfl k_) ?_
  obtain ⟨_, _, ⟨T7, L7, k7, n7⟩, -, X7, ⟨Lc7, hQ7, l7, y7, z7⟩, st7⟩ := Jvm.LawKit.callS X5 hx (y := (⟨"com/example/keysweep/keysweep/SumCombinerWrapsPinLaw", "expectedWrap", "(JJ)I"⟩ : MethodName)) hown (mvT hZ (hw _ (List.mem_of_getElem? (i := 19) rfl))) (mvT hZ (hw _ (List.mem_of_getElem? (i := 20) rfl))) (mvT hZ (hw _ (List.mem_of_getElem? (i := 21) rfl))) (mvT hZ (hw _ (List.mem_of_getElem? (i := 22) rfl))) (by decide) (backOf (W := 1) (rm5 l Z a0 hw [] xa xb h2 n0 sz2 ) hZ (hw _ (List.mem_of_getElem? (i := 22) rfl)) (hw _ (List.mem_of_getElem? (i := 21) rfl)) (by decide) (by decide)) (g := (mkF m 29 #[.val (.long xa), .second, .val (.long xb), .second, .val (.long v1), .second, .val (.ref b2), .val (.int v6)] [(.long xb), (.long xa), (.int v6)])) rfl (by rw [hml]; rfl) (argsL := [(.long xa), (.long xb)]) (rest := [(.int v6)]) (lenOf pd_0_2 rfl) rfl (by show 2 * 0 + _ ≤ _; exact Nat.le_of_eq rfl) (hb hby at_29) (fun _ _ => ⟨rfl, hh5, (by decide : 1 + 0 ≤ _), (by decide : 11 + 0 ≤ _)⟩)
  dsimp only [Pt.U, Pt.locs, Pt.cells, Pt.slots] at X7 l7 y7 z7 st7 hQ7
  subst l7 y7 z7
  obtain ⟨rfl, Nq7, hh7⟩ := hQ7
  have N7 := Fr.app N5 Nq7
  refine own_Goes.via (T' := T7) (g' := (mkF m 32 #[.val (.long xa), .second, .val (.long xb), .second, .val (.long v1), .second, .val (.ref b2), .val (.int v6)] [(.int (own_f5 xa xb)), (.int v6)])) (st7) ?_
  obtain ⟨v8, hv8⟩ : ∃ z : Int32, z = (own_f5 xa xb) := ⟨_, rfl⟩
  rw [← hv8]
  suffices J40_12 : ∀ (v40_10 : Int32) (hv40_10 : v40_10 = (if v6 = v8 then (1 : Int32) else (0 : Int32))), own_Goes p.tables e below P T7 (mkF m 40 #[.val (.long xa), .second, .val (.long xb), .second, .val (.long v1), .second, .val (.ref b2), .val (.int v6)] [(.int v40_10)]) by
    by_cases hc32_9 : v6 = v8
    · refine own_Goes.via (T' := T7) (g' := (mkF m 35 #[.val (.long xa), .second, .val (.long xb), .second, .val (.long v1), .second, .val (.ref b2), .val (.int v6)] [])) (fun t_ k_ => XS.icmpNo X7.here hx rfl (hb hby at_32) rfl (teq hc32_9).2 k_) ?_
      refine own_Goes.via (T' := T7) (g' := (mkF m 36 #[.val (.long xa), .second, .val (.long xb), .second, .val (.long v1), .second, .val (.ref b2), .val (.int v6)] [(.int (1 : Int32))])) (fun t_ k_ => XS.iconst X7.here hx rfl (hb hby at_35) k_) ?_
      refine own_Goes.via (T' := T7) (g' := (mkF m 40 #[.val (.long xa), .second, .val (.long xb), .second, .val (.long v1), .second, .val (.ref b2), .val (.int v6)] [(.int (1 : Int32))])) (fun t_ k_ => XS.goto X7.here hx rfl (pc0 := 36) (pc' := 40) rfl (hb hby at_36) (by decide) (by decide) k_) ?_
      exact J40_12 (1 : Int32) ((if_pos hc32_9)).symm
    · refine own_Goes.via (T' := T7) (g' := (mkF m 39 #[.val (.long xa), .second, .val (.long xb), .second, .val (.long v1), .second, .val (.ref b2), .val (.int v6)] [])) (fun t_ k_ => XS.icmpYes X7.here hx rfl (pc0 := 32) (pc' := 39) rfl (hb hby at_32) rfl (feq hc32_9).2 (by decide) (by decide) k_) ?_
      refine own_Goes.via (T' := T7) (g' := (mkF m 40 #[.val (.long xa), .second, .val (.long xb), .second, .val (.long v1), .second, .val (.ref b2), .val (.int v6)] [(.int (0 : Int32))])) (fun t_ k_ => XS.iconst X7.here hx rfl (hb hby at_39) k_) ?_
      exact J40_12 (0 : Int32) ((if_neg hc32_9)).symm
  intro v40_10 hv40_10
  have hfin : v40_10 = 1 := own_pl0_0 hv1 hv6 hv8 hv40_10
  rw [hfin]
  obtain ⟨fs, hr, hrun, hended, hW, hsame⟩ := X7.leave (v := some (.int 1)) (fun h => by rw [Bd.returns] at h; cases h)
  refine own_Goes.fin (retN X7 hx (t := .boolean) Bd.returns (by simp) (hb hby at_40) hr) hrun hended ?_
  subst hPd
  refine ⟨_, _, rfl, ?_, ⟨_, rfl⟩, hW, hsame.mono (by decide) (by decide)⟩
  show Q0 Z xa xb h0 n0 _ T7.heap _
  rw [hh7]
  exact ⟨rfl, N7⟩
set_option maxRecDepth 65536 in
set_option maxHeartbeats 40000000 in
theorem comes_1 {Post : Tables → Env → Array Value → State → Outcome → State → Prop} (hpost : ∀ tb e args s v u, (limb_1_1.after args s (.returned v) u = true ∧ limb_1_2.after args s (.returned v) u = true ∧ True) → FrameEnd s (.returned v) u (Jvm.fieldLocs frame_1_writes args s ++ Jvm.arrayLocs frame_1_arrays args s ++ Jvm.staticLocs frame_1_statics s) 16 128 → Post tb e args s (.returned v) u) :
    ArmFor flags0 classFile x code maxLocals ret World_1 tables_1 room_1 Calls_1 rest_1 Pre_1 Post := by
  intro l hfl _ _ p e ha hc hk s m args below hf hA hF happ hP
  obtain ⟨hcalls, hrest, hpre⟩ := hP
  obtain ⟨-, -, -, hnamed, -, -, -, hat⟩ := (Spec.applies_iff hf).mp happ
  obtain ⟨hg, hn⟩ := and_e (Cond.before_iff.mp (show (Jvm.Cond.and given_1 narrow_1).before args s = true from hpre))
  obtain ⟨g1, g2⟩ := and_e hg
  obtain ⟨g3, g4⟩ := and_e g2
  obtain ⟨w0, w1, rfl⟩ : ∃ w0 w1 : Value, args = #[w0, w1] := by
    have hs : args.size = 2 := by simpa [Cond.value, given_1] using g1
    obtain ⟨L⟩ := args
    match L, hs with
    | [w0, w1], _ => exact ⟨w0, w1, rfl⟩
  have hw := fun d (hd : d ∈ tables_1) => atoms_spec (ws := Jvm.Cond.code x code maxLocals ret :: tables_1) hat d (List.mem_cons_of_mem _ hd)
  have hfit : Fit s := fun {y c} hc i hi => by
    obtain ⟨ha, rfl⟩ := Array.getElem?_eq_some_iff.mp hc
    have q := List.all_eq_true.mp ((Array.all_eq_true_iff_forall_mem.mp hF) _ (Array.getElem_mem ha)) i (List.mem_range.mpr hi)
    simpa [Array.getElem?_eq_getElem hi] using q
  obtain ⟨i0, ei0⟩ := isL_v g3
  obtain rfl : w0 = (.long i0) := Option.some.inj ei0
  obtain ⟨i1, ei1⟩ := isL_v g4
  obtain rfl : w1 = (.long i1) := Option.some.inj ei1
  obtain ⟨n, o, h1, h2, h3, _, L, rfl, ⟨rfl, N⟩, hq⟩ := rm0 l s _ hw tables_1 i0 i1  s.heap s.heap.size (Nat.le_refl _)  p e ha hc hk s m _ below hf ((Spec.applies_iff_loose hf).mp happ).1 ⟨rfl, State.Warmed39.refl s, rfl⟩ trivial
  refine ⟨n, _, h1, h2, h3, hpost _ _ _ _ _ _ ⟨Cond.after_iff.mpr rfl, Cond.after_iff.mpr (eq_i res_at (Term.int_eval (1)) rfl), trivial⟩ ⟨hq.1, hq.2.1, (hq.2.2.sift fun y hy => Or.inr (N y hy)).mono (by decide) (by decide)⟩⟩
theorem main_1_1 : Claimed_1_1 := comes_1 fun _ _ _ _ _ _ h hF => ⟨h.1, hF⟩
theorem main_1_2 : Claimed_1_2 := comes_1 fun _ _ _ _ _ _ h hF => ⟨h.2.1, hF⟩
end Jvm.Pilot.@@N@@
namespace Jvm.Pilot.@@N@@
open Jvm Jvm.ClassFile Sem Op Lib Jvm.Free Jvm.Stand Jvm.Pilot.@@N@@.Jvm.D
/-! MADE BY PROGRAM (witnessworld.py) out of the Statement's table words and the real class files: 12 classes; the members and pool entries that the words name. The judged class is class 1, her method 2. -/
namespace start1
open Jvm.ClassFile
def u (s : String) : CpInfo := .utf8 (stringToUtf16 s)
/-- a pool by its gaps: so many unusable entries, then the entry; so many at the end -/
def gap : Nat → List CpInfo → List CpInfo
  | 0, r => r
  | n + 1, r => .unusable :: gap n r
def poolList (es : List (Nat × CpInfo)) (last : Nat) : List CpInfo := es.foldr (fun e r => gap e.1 (e.2 :: r)) (gap last [])
def pool (es : List (Nat × CpInfo)) (last : Nat) : Array CpInfo := ⟨poolList es last⟩
def fileOf (pool : Array CpInfo) (this : Nat) (attrs : Array Attribute := #[]) (ms : Array MethodInfo := #[]) (fl : Nat := 33) (sup : Nat := 0) (ifs : Array Nat := #[]) (fds : Array FieldInfo := #[]) : ClassFile where
  minorVersion := 0
  majorVersion := 65
  constantPool := pool
  accessFlags := fl
  thisClass := this
  superClass := sup
  interfaces := ifs
  fields := fds
  methods := ms
  attributes := attrs
def plain (name : String) (sup : Option ClassId) : Class where
  name := name
  kind := .ordinary
  loader := none
  accessFlags := 33
  super := sup
  interfaces := #[]
  cf := none
  fields := #[]
  methods := #[]
  instanceTypes := #[]
  staticTypes := #[]
  resolved := #[]
  callSites := []
  init := .initialized
  statics := none
  mirror := none

def pool0 : Array CpInfo := pool [(5, u "<init>"), (0, u "()V"), (1, .class_ 10), (1, u "java/lang/Object")] 113

def k0c0 : Code := { maxStack := 0, maxLocals := 1, code := object_method_1_code, exceptionTable := #[], attributes := #[] }
def k0m0 : Method := { name := "<init>", desc := "()V", sig := { parameters := [], returnType := none }, accessFlags := 1, code := some k0c0 }
/-- java/lang/Object -/
def k0 : Class := { plain "java/lang/Object" none with
  accessFlags := 33
  interfaces := #[]
  cf := some (fileOf pool0 8 #[] #[{ accessFlags := 1, nameIndex := 5, descriptorIndex := 6, attributes := #[] }] 33 0 #[] #[])
  fields := #[]
  methods := #[k0m0]
  instanceTypes := #[]
  staticTypes := #[]
  resolved := Array.replicate 124 none
  statics := none }

def pool1 : Array CpInfo := pool [(2, .class_ 4), (0, .nameAndType 5 6), (0, u "java/lang/Object"), (0, u "<init>"), (0, u "()V"), (2, .long 9223372036854775807), (1, .long 9223372036854775808), (1, .class_ 14), (0, u "com/example/keysweep/keysweep/SumCombiner"), (0, .methodref 13 3), (0, .methodref 13 17), (0, .nameAndType 18 19), (0, u "wraps"), (0, u "(JJJ)I"), (0, .methodref 21 22), (0, .class_ 23), (0, .nameAndType 24 25), (0, u "com/example/keysweep/keysweep/SumCombinerWrapsPinLaw"), (0, u "expectedWrap"), (0, u "(JJ)I"), (3, u "law"), (0, u "(JJ)Z")] 2

def k1m0 : Method := { name := "<init>", desc := "()V", sig := { parameters := [], returnType := none }, accessFlags := 2, code := none }
def k1c1 : Code := { maxStack := 6, maxLocals := 5, code := method_2_code, exceptionTable := #[], attributes := #[] }
def k1m1 : Method := { name := "expectedWrap", desc := "(JJ)I", sig := { parameters := [.long, .long], returnType := some .int }, accessFlags := 10, code := some k1c1 }
def k1c2 : Code := { maxStack := 7, maxLocals := 8, code := code, exceptionTable := #[], attributes := #[] }
def k1m2 : Method := { name := "law", desc := "(JJ)Z", sig := { parameters := [.long, .long], returnType := some .boolean }, accessFlags := 9, code := some k1c2 }
/-- com/example/keysweep/keysweep/SumCombinerWrapsPinLaw -/
def k1 : Class := { plain "com/example/keysweep/keysweep/SumCombinerWrapsPinLaw" (some 0) with
  accessFlags := 49
  interfaces := #[]
  cf := some (fileOf pool1 21 #[] #[{ accessFlags := 2, nameIndex := 5, descriptorIndex := 6, attributes := #[] }, { accessFlags := 10, nameIndex := 24, descriptorIndex := 25, attributes := #[] }, { accessFlags := 9, nameIndex := 29, descriptorIndex := 30, attributes := #[] }] 49 2 #[] #[])
  fields := #[]
  methods := #[k1m0, k1m1, k1m2]
  instanceTypes := #[]
  staticTypes := #[]
  resolved := Array.replicate 33 none
  statics := none }

def pool2 : Array CpInfo := pool [(1, .class_ 2), (0, u "com/example/keysweep/keysweep/EntrySource"), (0, .class_ 4), (0, u "java/lang/Object")] 17

/-- com/example/keysweep/keysweep/EntrySource -/
def k2 : Class := { plain "com/example/keysweep/keysweep/EntrySource" (some 0) with
  accessFlags := 1537
  interfaces := #[]
  cf := some (fileOf pool2 1 #[] #[] 1537 3 #[] #[])
  fields := #[]
  methods := #[]
  instanceTypes := #[]
  staticTypes := #[]
  resolved := Array.replicate 22 none
  statics := none }

def pool3 : Array CpInfo := pool [(1, .class_ 2), (0, u "com/example/keysweep/keysweep/SeekableIterator"), (0, .class_ 4), (0, u "java/lang/Object"), (0, .class_ 6), (0, u "com/example/keysweep/keysweep/EntrySource")] 9

/-- com/example/keysweep/keysweep/SeekableIterator -/
def k3 : Class := { plain "com/example/keysweep/keysweep/SeekableIterator" (some 0) with
  accessFlags := 1537
  interfaces := #[2]
  cf := some (fileOf pool3 1 #[] #[] 1537 3 #[5] #[])
  fields := #[]
  methods := #[]
  instanceTypes := #[]
  staticTypes := #[]
  resolved := Array.replicate 16 none
  statics := none }

def pool4 : Array CpInfo := pool [(1, .methodref 2 3), (0, .class_ 4), (0, .nameAndType 5 6), (0, u "java/lang/Object"), (0, u "<init>"), (0, u "()V"), (0, .class_ 8), (0, u "com/example/keysweep/keysweep/NumberCombiner"), (1, u "columns"), (43, u "Lcom/example/keysweep/keysweep/FamilySet;"), (2, u "source"), (0, u "Lcom/example/keysweep/keysweep/EntrySource;"), (2, u "options"), (0, u "Ljava/util/Map;"), (2, u "context"), (0, u "Lcom/example/keysweep/keysweep/IteratorContext;"), (2, u "range"), (0, u "Lcom/example/keysweep/keysweep/Range;"), (2, u "families"), (2, u "replay"), (2, u "run"), (0, u "Lcom/example/keysweep/keysweep/NumberCombiner$Run;"), (43, u "heldKey"), (0, u "Lcom/example/keysweep/keysweep/Key;"), (9, u "heldValue"), (0, u "[B"), (60, .class_ 198), (0, u "com/example/keysweep/keysweep/NumberCombiner$Run"), (17, u "combinedHanded"), (0, u "Z"), (13, .class_ 232), (0, u "com/example/keysweep/keysweep/SeekableIterator"), (0, u "COLUMNS"), (0, u "Ljava/lang/String;")] 20

def k4c0 : Code := { maxStack := 1, maxLocals := 1, code := prog_22_method_1_code, exceptionTable := #[], attributes := #[] }
def k4m0 : Method := { name := "<init>", desc := "()V", sig := { parameters := [], returnType := none }, accessFlags := 0, code := some k4c0 }
/-- com/example/keysweep/keysweep/NumberCombiner -/
def k4 : Class := { plain "com/example/keysweep/keysweep/NumberCombiner" (some 0) with
  accessFlags := 1056
  interfaces := #[3]
  cf := some (fileOf pool4 7 #[.nestMembers #[197]] #[{ accessFlags := 0, nameIndex := 5, descriptorIndex := 6, attributes := #[] }] 1056 2 #[231] #[{ accessFlags := 24, nameIndex := 233, descriptorIndex := 234, attributes := #[] }, { accessFlags := 2, nameIndex := 57, descriptorIndex := 58, attributes := #[] }, { accessFlags := 2, nameIndex := 61, descriptorIndex := 62, attributes := #[] }, { accessFlags := 2, nameIndex := 65, descriptorIndex := 66, attributes := #[] }, { accessFlags := 2, nameIndex := 10, descriptorIndex := 54, attributes := #[] }, { accessFlags := 2, nameIndex := 69, descriptorIndex := 70, attributes := #[] }, { accessFlags := 2, nameIndex := 73, descriptorIndex := 54, attributes := #[] }, { accessFlags := 2, nameIndex := 124, descriptorIndex := 125, attributes := #[] }, { accessFlags := 2, nameIndex := 135, descriptorIndex := 136, attributes := #[] }, { accessFlags := 2, nameIndex := 76, descriptorIndex := 58, attributes := #[] }, { accessFlags := 2, nameIndex := 79, descriptorIndex := 80, attributes := #[] }, { accessFlags := 2, nameIndex := 216, descriptorIndex := 217, attributes := #[] }])
  fields := #[{ name := "COLUMNS", type := (.object "java/lang/String"), accessFlags := 24, slot := 0, constantValue := 0 }, { name := "source", type := (.object "com/example/keysweep/keysweep/EntrySource"), accessFlags := 2, slot := 0, constantValue := 0 }, { name := "options", type := (.object "java/util/Map"), accessFlags := 2, slot := 1, constantValue := 0 }, { name := "context", type := (.object "com/example/keysweep/keysweep/IteratorContext"), accessFlags := 2, slot := 2, constantValue := 0 }, { name := "columns", type := (.object "com/example/keysweep/keysweep/FamilySet"), accessFlags := 2, slot := 3, constantValue := 0 }, { name := "range", type := (.object "com/example/keysweep/keysweep/Range"), accessFlags := 2, slot := 4, constantValue := 0 }, { name := "families", type := (.object "com/example/keysweep/keysweep/FamilySet"), accessFlags := 2, slot := 5, constantValue := 0 }, { name := "heldKey", type := (.object "com/example/keysweep/keysweep/Key"), accessFlags := 2, slot := 6, constantValue := 0 }, { name := "heldValue", type := (.array .byte), accessFlags := 2, slot := 7, constantValue := 0 }, { name := "replay", type := (.object "com/example/keysweep/keysweep/EntrySource"), accessFlags := 2, slot := 8, constantValue := 0 }, { name := "run", type := (.object "com/example/keysweep/keysweep/NumberCombiner$Run"), accessFlags := 2, slot := 9, constantValue := 0 }, { name := "combinedHanded", type := .boolean, accessFlags := 2, slot := 10, constantValue := 0 }]
  methods := #[k4m0]
  instanceTypes := #[(.object "com/example/keysweep/keysweep/EntrySource"), (.object "java/util/Map"), (.object "com/example/keysweep/keysweep/IteratorContext"), (.object "com/example/keysweep/keysweep/FamilySet"), (.object "com/example/keysweep/keysweep/Range"), (.object "com/example/keysweep/keysweep/FamilySet"), (.object "com/example/keysweep/keysweep/Key"), (.array .byte), (.object "com/example/keysweep/keysweep/EntrySource"), (.object "com/example/keysweep/keysweep/NumberCombiner$Run"), .boolean]
  staticTypes := #[(.object "java/lang/String")]
  resolved := Array.replicate 255 none
  statics := none }

def pool5 : Array CpInfo := pool [(1, .methodref 2 3), (0, .class_ 4), (0, .nameAndType 5 6), (0, u "com/example/keysweep/keysweep/NumberCombiner"), (0, u "<init>"), (0, u "()V"), (0, .class_ 8), (0, u "com/example/keysweep/keysweep/SumCombiner"), (4, u "wraps"), (0, u "(JJJ)I")] 3

def k5c0 : Code := { maxStack := 1, maxLocals := 1, code := prog_34_method_1_code, exceptionTable := #[], attributes := #[] }
def k5m0 : Method := { name := "<init>", desc := "()V", sig := { parameters := [], returnType := none }, accessFlags := 1, code := some k5c0 }
def k5c1 : Code := { maxStack := 6, maxLocals := 8, code := prog_34_method_3_code, exceptionTable := #[], attributes := #[] }
def k5m1 : Method := { name := "wraps", desc := "(JJJ)I", sig := { parameters := [.long, .long, .long], returnType := some .int }, accessFlags := 0, code := some k5c1 }
/-- com/example/keysweep/keysweep/SumCombiner -/
def k5 : Class := { plain "com/example/keysweep/keysweep/SumCombiner" (some 4) with
  accessFlags := 49
  interfaces := #[]
  cf := some (fileOf pool5 7 #[] #[{ accessFlags := 1, nameIndex := 5, descriptorIndex := 6, attributes := #[] }, { accessFlags := 0, nameIndex := 13, descriptorIndex := 14, attributes := #[] }] 49 2 #[] #[])
  fields := #[]
  methods := #[k5m0, k5m1]
  instanceTypes := #[(.object "com/example/keysweep/keysweep/EntrySource"), (.object "java/util/Map"), (.object "com/example/keysweep/keysweep/IteratorContext"), (.object "com/example/keysweep/keysweep/FamilySet"), (.object "com/example/keysweep/keysweep/Range"), (.object "com/example/keysweep/keysweep/FamilySet"), (.object "com/example/keysweep/keysweep/Key"), (.array .byte), (.object "com/example/keysweep/keysweep/EntrySource"), (.object "com/example/keysweep/keysweep/NumberCombiner$Run"), .boolean]
  staticTypes := #[]
  resolved := Array.replicate 18 none
  statics := none }

def pool6 : Array CpInfo := pool [(1, u "java/lang/Cloneable"), (0, .class_ 1), (0, u "java/lang/Object"), (0, .class_ 3)] 3

/-- java/lang/Cloneable -/
def k6 : Class := { plain "java/lang/Cloneable" (some 0) with
  accessFlags := 1537
  interfaces := #[]
  cf := some (fileOf pool6 2 #[] #[] 1537 4 #[] #[])
  fields := #[]
  methods := #[]
  instanceTypes := #[]
  staticTypes := #[]
  resolved := Array.replicate 8 none
  statics := none }

def pool7 : Array CpInfo := pool [(1, u "java/io/Serializable"), (0, .class_ 1), (0, u "java/lang/Object"), (0, .class_ 3)] 3

/-- java/io/Serializable -/
def k7 : Class := { plain "java/io/Serializable" (some 0) with
  accessFlags := 1537
  interfaces := #[]
  cf := some (fileOf pool7 2 #[] #[] 1537 4 #[] #[])
  fields := #[]
  methods := #[]
  instanceTypes := #[]
  staticTypes := #[]
  resolved := Array.replicate 8 none
  statics := none }

/-- the primitive byte -/
def k8 : Class := { plain "byte" none with kind := .primitive 'B', accessFlags := 0x411 }
/-- [B -/
def k9 : Class := { plain "[B" (some 0) with kind := .array 8 .byte, interfaces := #[6, 7], accessFlags := 1041 }

/-- the primitive int -/
def k10 : Class := { plain "int" none with kind := .primitive 'I', accessFlags := 0x411 }
/-- [I -/
def k11 : Class := { plain "[I" (some 0) with kind := .array 10 .int, interfaces := #[6, 7], accessFlags := 1041 }

def heap : Heap := #[]
def classes : Array Class := #[k0, k1, k2, k3, k4, k5, k6, k7, k8, k9, k10, k11]
def interned : List (Array UInt16 × Addr) := []
def slotsUsed : Nat := 0
def theMethod : MethodId := ⟨1, 2⟩
def args0 : Array Value := #[.long 5, .long 7]
def aboutOver (below : List Frame) : State where
  vm := { classes := classes, interned := interned.toArray }
  heap := heap
  slotsUsed := slotsUsed
  threads := #[{ frames := .invoking theMethod args0 :: below }]
def below0 : List Frame := [.native { method := ⟨0, 0⟩, args := #[] }]
def about1 : State := aboutOver below0
def p0 : Program := .bare "" "" ""
def e0 : Env := launch0.env 0 0 0
theorem w_frames : about1.frames = Frame.invoking theMethod args0 :: below0 := rfl
set_option maxRecDepth 65536 in
theorem w_args : argsFit about1.vm theMethod args0 = true := by decide +kernel
set_option maxRecDepth 65536 in
theorem w_heap : heapFits about1 = true := by decide +kernel
set_option maxRecDepth 65536 in
theorem w_runnable : about1.curStatus? = some .runnable := by decide +kernel
set_option maxRecDepth 65536 in
theorem w_alone : about1.alone = true := by decide +kernel
set_option maxRecDepth 65536 in
theorem w_named : about1.methodNamed? x = some theMethod := by decide +kernel
set_option maxRecDepth 65536 in
theorem w_hears : about1.hears theMethod below0 = true := by decide +kernel
set_option maxRecDepth 65536 in
theorem w_ripe : about1.ripe theMethod args0 below0 = true := by decide +kernel
theorem w_running : about1.status = .running := rfl
set_option maxRecDepth 65536 in
theorem w_room : about1.hasRoom e0.platform room_1 = true :=
  launch0.hasRoom_least _ room_1 (by decide +kernel) (by decide +kernel) (by decide +kernel) (by decide +kernel) (by decide +kernel) (by decide +kernel)
theorem allAtoms_all (ts : List Jvm.Cond) (a : Array Jvm.Value) (st : Jvm.State) : (allAtoms ts).before a st = ts.all (fun c => c.before a st) := by
  induction ts with
  | nil => rfl
  | cons c t ih =>
    show (Jvm.Cond.and c (allAtoms t)).before a st = _
    rw [Jvm.Cond.before_and, ih, List.all_cons]
def words1 : List Jvm.Cond := Jvm.Cond.code x code maxLocals ret :: tables_1
/-- a 'code' word, met by the world's own term for the bytes: nothing is compared byte by byte -/
theorem code_word {y : MethodName} {bytes : ByteArray} {mx : Nat} {rt : Option FieldType} {a : Array Value} {s : State} {m : MethodId} {meth : Method} {c : Code} (h1 : s.methodNamed? y = some m) (h2 : s.vm.method? m = some meth) (h3 : meth.code = some c) (h4 : c.code = bytes)
    (h5 : (c.maxLocals == mx && c.exceptionTable.isEmpty && decide (c.maxStack ≤ mostOperands) && decide (meth.sig.returnType = rt) && !meth.locks && decide (parseMethodDescriptor y.desc = some meth.sig)) = true) : (Jvm.Cond.code y bytes mx rt).before a s = true := by
  simp only [Bool.and_eq_true, beq_iff_eq, Bool.not_eq_true', decide_eq_true_eq] at h5
  obtain ⟨⟨⟨⟨⟨g1, g2⟩, g3⟩, g4⟩, g5⟩, g6⟩ := h5
  simp [Cond.before, Cond.holds, Cond.value, h1, h2, h3, h4, g1, g2, g3, g4, g5, g6]
def isCode : Jvm.Cond → Bool
  | .code _ _ _ _ => true
  | _ => false
theorem all_split {L : List Jvm.Cond} {P : Jvm.Cond → Bool} (h1 : L.all (fun c => isCode c || P c) = true) (h2 : ∀ c ∈ L.filter isCode, P c = true) : L.all P = true := by
  refine List.all_eq_true.mpr fun c hc => ?_
  have h := List.all_eq_true.mp h1 c hc
  rcases Bool.eq_false_or_eq_true (isCode c) with hi | hi
  · exact h2 c (List.mem_filter.mpr ⟨hc, hi⟩)
  · simpa [hi] using h
set_option maxRecDepth 65536 in
theorem w_c0 : (Jvm.Cond.code x code maxLocals ret).before args0 about1 = true := code_word (m := ⟨1, 2⟩) (meth := k1m2) (c := k1c2) (by decide +kernel) rfl rfl rfl (by decide +kernel)
set_option maxRecDepth 65536 in
theorem w_c1 : (Jvm.Cond.code ({ cls := "com/example/keysweep/keysweep/SumCombiner", name := "<init>", desc := "()V" } : Jvm.MethodName) prog_34_method_1_code (1 : Nat) (Option.none : Option Jvm.ClassFile.FieldType)).before args0 about1 = true := code_word (m := ⟨5, 0⟩) (meth := k5m0) (c := k5c0) (by decide +kernel) rfl rfl rfl (by decide +kernel)
set_option maxRecDepth 65536 in
theorem w_c2 : (Jvm.Cond.code ({ cls := "com/example/keysweep/keysweep/NumberCombiner", name := "<init>", desc := "()V" } : Jvm.MethodName) prog_22_method_1_code (1 : Nat) (Option.none : Option Jvm.ClassFile.FieldType)).before args0 about1 = true := code_word (m := ⟨4, 0⟩) (meth := k4m0) (c := k4c0) (by decide +kernel) rfl rfl rfl (by decide +kernel)
set_option maxRecDepth 65536 in
theorem w_c3 : (Jvm.Cond.code ({ cls := "java/lang/Object", name := "<init>", desc := "()V" } : Jvm.MethodName) object_method_1_code (1 : Nat) (Option.none : Option Jvm.ClassFile.FieldType)).before args0 about1 = true := code_word (m := ⟨0, 0⟩) (meth := k0m0) (c := k0c0) (by decide +kernel) rfl rfl rfl (by decide +kernel)
set_option maxRecDepth 65536 in
theorem w_c4 : (Jvm.Cond.code ({ cls := "com/example/keysweep/keysweep/SumCombiner", name := "wraps", desc := "(JJJ)I" } : Jvm.MethodName) prog_34_method_3_code (8 : Nat) (Option.some Jvm.ClassFile.FieldType.int)).before args0 about1 = true := code_word (m := ⟨5, 1⟩) (meth := k5m1) (c := k5c1) (by decide +kernel) rfl rfl rfl (by decide +kernel)
set_option maxRecDepth 65536 in
theorem w_c5 : (Jvm.Cond.code ({ cls := "com/example/keysweep/keysweep/SumCombinerWrapsPinLaw", name := "expectedWrap", desc := "(JJ)I" } : Jvm.MethodName) method_2_code (5 : Nat) (Option.some Jvm.ClassFile.FieldType.int)).before args0 about1 = true := code_word (m := ⟨1, 1⟩) (meth := k1m1) (c := k1c1) (by decide +kernel) rfl rfl rfl (by decide +kernel)
def codes1 : List Jvm.Cond := [Jvm.Cond.code x code maxLocals ret, Jvm.Cond.code ({ cls := "com/example/keysweep/keysweep/SumCombiner", name := "<init>", desc := "()V" } : Jvm.MethodName) prog_34_method_1_code (1 : Nat) (Option.none : Option Jvm.ClassFile.FieldType), Jvm.Cond.code ({ cls := "com/example/keysweep/keysweep/NumberCombiner", name := "<init>", desc := "()V" } : Jvm.MethodName) prog_22_method_1_code (1 : Nat) (Option.none : Option Jvm.ClassFile.FieldType), Jvm.Cond.code ({ cls := "java/lang/Object", name := "<init>", desc := "()V" } : Jvm.MethodName) object_method_1_code (1 : Nat) (Option.none : Option Jvm.ClassFile.FieldType), Jvm.Cond.code ({ cls := "com/example/keysweep/keysweep/SumCombiner", name := "wraps", desc := "(JJJ)I" } : Jvm.MethodName) prog_34_method_3_code (8 : Nat) (Option.some Jvm.ClassFile.FieldType.int), Jvm.Cond.code ({ cls := "com/example/keysweep/keysweep/SumCombinerWrapsPinLaw", name := "expectedWrap", desc := "(JJ)I" } : Jvm.MethodName) method_2_code (5 : Nat) (Option.some Jvm.ClassFile.FieldType.int)]
set_option maxRecDepth 65536 in
theorem codes_eq : words1.filter isCode = codes1 := rfl
theorem w_codes : ∀ c ∈ words1.filter isCode, c.before args0 about1 = true := by
  rw [codes_eq]
  intro c hc
  simp only [codes1, List.mem_cons, List.not_mem_nil, or_false] at hc
  rcases hc with rfl | rfl | rfl | rfl | rfl | rfl
  · exact w_c0
  · exact w_c1
  · exact w_c2
  · exact w_c3
  · exact w_c4
  · exact w_c5
set_option maxRecDepth 65536 in
theorem w_t1 : (words1.take 24).all (fun c => isCode c || c.before args0 about1) = true := by decide +kernel
set_option maxRecDepth 65536 in
theorem w_t2 : (words1.drop 24).all (fun c => isCode c || c.before args0 about1) = true := by decide +kernel
theorem w_tables : (allAtoms (Jvm.Cond.code x code maxLocals ret :: tables_1)).before args0 about1 = true := by
  rw [allAtoms_all]
  show words1.all (fun c => c.before args0 about1) = true
  refine all_split ?_ w_codes
  rw [← List.take_append_drop 24 words1, List.all_append, w_t1, w_t2]
  rfl
set_option maxRecDepth 65536 in
theorem w_case : (Jvm.Cond.and given_1 narrow_1).before args0 about1 = true := by decide +kernel
theorem w_applies : (headSpec (Jvm.Cond.code x code maxLocals ret :: tables_1) room_1).applies x e0.platform about1 = true :=
  (Spec.applies_iff w_frames).mpr ⟨w_running, w_runnable, w_alone, w_named, w_hears, w_ripe, w_room, w_tables⟩
theorem atStart : AtStart classFile x code maxLocals ret World_1 tables_1 room_1 Calls_1 rest_1 Pre_1 launch0 p0 e0 about1 theMethod args0 below0 :=
  ⟨lists_1, trivial, launch0.admits_env _ _ _, launch0.least_env, fairChoices_fair.cas, fairChoices_fair.clock, w_frames, w_args, w_heap, w_applies, trivial, trivial, w_case⟩
end start1
theorem witness_1 : WitnessClaimed_1 := ⟨start1.p0, start1.e0, start1.about1, start1.theMethod, start1.args0, start1.below0, start1.atStart⟩
end Jvm.Pilot.@@N@@
