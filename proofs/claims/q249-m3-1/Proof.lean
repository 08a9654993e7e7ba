import JvmDerived
import JvmDerived.Pilot.@@N@@Statement
import JvmDerived.Pilot.@@N@@Code
set_option linter.unusedVariables false
set_option linter.unusedSimpArgs false
@@BLOCK:NumsL.lean.txt@@
namespace Jvm.Pilot.@@N@@
open Jvm Jvm.ClassFile Sem Op Lib Jvm.Free Jvm.Stand Jvm.LawKit Jvm.RoadKit Bundle Jvm.Pilot.@@N@@.Jvm.D
/-- from the state T with the frame g the run comes to an end that P speaks of -/
def own_Goes (tb : Tables) (e : Env) (below : List Frame) (P : Outcome → State → Prop) (T : State) (g : JFrame) : Prop :=
  ∃ s₂ o, Steps tb e below (T.setTop g) s₂ ∧ s₂.status = .running ∧ Ended s₂ below o ∧ P o s₂
theorem own_Goes.via {tb : Tables} {e : Env} {below : List Frame} {P : Outcome → State → Prop} {T T' : State} {g g' : JFrame} (h : ∀ t, Steps tb e below (T'.setTop g') t → Steps tb e below (T.setTop g) t) (k : own_Goes tb e below P T' g') : own_Goes tb e below P T g := by
  obtain ⟨s₂, o, a, b⟩ := k
  exact ⟨s₂, o, h _ a, b⟩
theorem own_Goes.fin {tb : Tables} {e : Env} {below : List Frame} {P : Outcome → State → Prop} {T s₂ : State} {g : JFrame} {o : Outcome} (h1 : Steps tb e below (T.setTop g) s₂) (h2 : s₂.status = .running) (h3 : Ended s₂ below o) (h4 : P o s₂) : own_Goes tb e below P T g := ⟨s₂, o, h1, h2, h3, h4⟩
theorem own_ltT {x y : Int64} (h : x < y) : ifCond.holds .lt (lcmpW x y) = true ∧ ifCond.holds .ge (lcmpW x y) = false := by
  have q : lcmpW x y < 0 := by rw [lcW]; exact (lc_lt x y).mpr h
  exact ⟨(if0 _ _).trans (tlt q).1, (if0 _ _).trans (tlt q).2.1⟩
theorem own_ltF {x y : Int64} (h : ¬ x < y) : ifCond.holds .lt (lcmpW x y) = false ∧ ifCond.holds .ge (lcmpW x y) = true := by
  have q : ¬ lcmpW x y < 0 := by rw [lcW]; exact fun z => h ((lc_lt x y).mp z)
  exact ⟨(if0 _ _).trans (flt q).1, (if0 _ _).trans (flt q).2.1⟩
theorem own_gtT {x y : Int64} (h : y < x) : ifCond.holds .gt (lcmpW x y) = true ∧ ifCond.holds .le (lcmpW x y) = false := by
  have q : 0 < lcmpW x y := by rw [lcW]; exact (lc_gt x y).mpr h
  exact ⟨(if0 _ _).trans (tlt q).2.2.1, (if0 _ _).trans (tlt q).2.2.2⟩
theorem own_gtF {x y : Int64} (h : ¬ y < x) : ifCond.holds .gt (lcmpW x y) = false ∧ ifCond.holds .le (lcmpW x y) = true := by
  have q : ¬ 0 < lcmpW x y := by rw [lcW]; exact fun z => h ((lc_gt x y).mp z)
  exact ⟨(if0 _ _).trans (flt q).2.2.1, (if0 _ _).trans (flt q).2.2.2⟩
theorem own_eqT {x y : Int64} (h : x = y) : ifCond.holds .eq (lcmpW x y) = true ∧ ifCond.holds .ne (lcmpW x y) = false := by
  have q : lcmpW x y = 0 := by rw [lcW]; exact (lc_eq x y).mpr h
  exact ⟨(if0 _ _).trans (teq q).1, (if0 _ _).trans (teq q).2⟩
theorem own_eqF {x y : Int64} (h : ¬ x = y) : ifCond.holds .eq (lcmpW x y) = false ∧ ifCond.holds .ne (lcmpW x y) = true := by
  have q : ¬ lcmpW x y = 0 := by rw [lcW]; exact fun z => h ((lc_eq x y).mp z)
  exact ⟨(if0 _ _).trans (feq q).1, (if0 _ _).trans (feq q).2⟩
theorem own_lrem (x y : Int64) : x - (x / y) * y = x % y := Int64.toInt_inj.mp (by rw [Jvm.Kit.i64_rem, Int64.toInt_mod])
theorem d1_0 : decode prog_52_method_1_code 0 = .ok (.aload_n 0, 1) := by decide +kernel
theorem d1_1 : decode prog_52_method_1_code 1 = .ok (.invokespecial 1, 3) := by decide +kernel
theorem d1_4 : decode prog_52_method_1_code 4 = .ok (.aload_n 0, 1) := by decide +kernel
theorem d1_5 : decode prog_52_method_1_code 5 = .ok (.iload_n 1, 1) := by decide +kernel
theorem d1_6 : decode prog_52_method_1_code 6 = .ok (.putfield 7, 3) := by decide +kernel
theorem d1_9 : decode prog_52_method_1_code 9 = .ok (.return_, 1) := by decide +kernel
theorem pn_1 : plainName "com/example/ogmios/ogmios/topology/Ring" = true := by first | (simp [plainName, overriddenIn]; done) | decide +kernel
theorem ef_1 (m : MethodId) (ao : Addr) (xn : Int32) : entryFrame m #[(.ref ao), (.int xn)] 2 = mkF m 0 #[.val (.ref ao), .val (.int xn)] [] := by first | (simp [entryFrame, mkF, argsToLocals, Value.category]; done) | rfl
def Q1 (Z : State) (ao : Addr) (xn : Int32) (h0 : Heap) (n0 : Nat) (v : Option Value) (h : Heap) (L : List Loc) : Prop := v = none ∧ Fr n0 L ∧ Keep h0 h [ao] ∧ Exa Z h ao "com/example/ogmios/ogmios/topology/Ring" ∧ Fld Z h ao "com/example/ogmios/ogmios/topology/Ring" "nodes" "I" (.int xn)
set_option maxRecDepth 65536 in
set_option maxHeartbeats 40000000 in
theorem rm1 (l : Launch) (Z : State) (a0 : Array Value) (hw : ∀ d ∈ tables_1, d.before a0 Z = true) (ws : List Jvm.Cond) (ao : Addr) (xn : Int32) (h0 : Heap) (n0 : Nat) (Z0 : n0 ≤ h0.size) (PF0 : Exa Z h0 ao "com/example/ogmios/ogmios/topology/Ring") (PF1 : Fld Z h0 ao "com/example/ogmios/ogmios/topology/Ring" "nodes" "I" (.int (0 : Int32))) (ge_ao : n0 ≤ ao) :
    MetFree l (⟨"com/example/ogmios/ogmios/topology/Ring", "<init>", "(I)V"⟩ : MethodName) (head1 (Jvm.Cond.code (⟨"com/example/ogmios/ogmios/topology/Ring", "<init>", "(I)V"⟩ : MethodName) prog_52_method_1_code 2 none :: ws) ({ frames := 1, cells := 0, slots := 0, locals := 12 } : Room)) (fun a U => a = #[(.ref ao), (.int xn)] ∧ Z.Warmed39 U.vm ∧ U.heap = h0) (fun _ _ _ _ _ => True) (fun _ U o U' => ∃ v L, o = .returned v ∧ Q1 Z ao xn h0 n0 v U'.heap L ∧ FrameEnd U o U' L ({ frames := 1, cells := 0, slots := 0, locals := 12 } : Room).cells ({ frames := 1, cells := 0, slots := 0, locals := 12 } : Room).slots) := by
  refine MetFree.of_bodySF (plainFor_of_name pn_1) hisR ?_
  intro p e s m args below meth c s₁ Bd hml0 hP hK
  obtain ⟨rfl, hZ, hh⟩ := hP
  have hx := Bd.exec
  have hby := Bd.bytes
  have hml : c.maxLocals = 2 := hml0
  have hown : s.vm.findClass "com/example/ogmios/ogmios/topology/Ring" = some m.cls := findClass_of_methodNamed Bd.named
  have hnm := (name_of_methodNamed Bd.named Bd.method).1
  have X0 : Stand p l e ({ frames := 1, cells := 0, slots := 0, locals := 12 } : Room) s m #[(.ref ao), (.int xn)] below meth c s₁ [] 0 0 := Stand.of_body Bd
  have e0 : s₁.heap = h0 := by rw [← hh, Bd.state]; rfl
  have N0 := Fr.nil n0
  suffices G : own_Goes p.tables e below (fun o U' => ∃ v L, o = .returned v ∧ Q1 Z ao xn h0 n0 v U'.heap L ∧ FrameEnd s o U' L ({ frames := 1, cells := 0, slots := 0, locals := 12 } : Room).cells ({ frames := 1, cells := 0, slots := 0, locals := 12 } : Room).slots) s₁ (mkF m 0 #[.val (.ref ao), .val (.int xn)] []) by
    obtain ⟨t2_, o2_, z1_, z2_, z3_, z4_⟩ := G
    exact ⟨t2_, o2_, castTop (ef_1 m ao xn) z1_, z2_, z3_, z4_⟩
  generalize hPd : (fun (o : Outcome) (U' : State) => ∃ v L, o = .returned v ∧ Q1 Z ao xn h0 n0 v U'.heap L ∧ FrameEnd s o U' L ({ frames := 1, cells := 0, slots := 0, locals := 12 } : Room).cells ({ frames := 1, cells := 0, slots := 0, locals := 12 } : Room).slots) = P
  refine own_Goes.via (T' := s₁) (g' := (mkF m 1 #[.val (.ref ao), .val (.int xn)] [(.ref ao)])) (fun t_ k_ => XS.aloadN X0.here hx rfl (hb hby d1_0) rfl rfl k_) ?_
  obtain ⟨T1, X1, e1, st1⟩ := initO X0 hx hZ hown (hw _ (List.mem_of_getElem? (i := 8) rfl)) (hw _ (List.mem_of_getElem? (i := 9) rfl)) (hw _ (List.mem_of_getElem? (i := 10) rfl)) e0 (g := (mkF m 1 #[.val (.ref ao), .val (.int xn)] [(.ref ao)])) rfl (by rw [hml]; rfl) rfl (hb hby d1_1) (by decide) (W := 0) (by show 2 * 0 + _ ≤ _; exact Nat.le_of_eq rfl) (by decide)
  refine own_Goes.via (T' := T1) (g' := (mkF m 4 #[.val (.ref ao), .val (.int xn)] [])) (st1) ?_
  refine own_Goes.via (T' := T1) (g' := (mkF m 5 #[.val (.ref ao), .val (.int xn)] [(.ref ao)])) (fun t_ k_ => XS.aloadN X1.here hx rfl (hb hby d1_4) rfl rfl k_) ?_
  refine own_Goes.via (T' := T1) (g' := (mkF m 6 #[.val (.ref ao), .val (.int xn)] [(.int xn), (.ref ao)])) (fun t_ k_ => XS.iloadN X1.here hx rfl (hb hby d1_5) rfl k_) ?_
  obtain ⟨T2, h2, X2, e2, W2, st2⟩ := putF X1 hx hZ hown (host := "") (Or.inl (hw _ (List.mem_of_getElem? (i := 11) rfl))) Via.refl e1 PF1 PF0 (Or.inr ⟨(hw _ (List.mem_of_getElem? (i := 12) rfl)), rfl, hnm⟩) (hw _ (List.mem_of_getElem? (i := 3) rfl)) (ty := .int) (by decide) rfl rfl (g := (mkF m 6 #[.val (.ref ao), .val (.int xn)] [(.int xn), (.ref ao)])) rfl rfl (hb hby d1_6)
  have E3 : Exa Z h2 ao "com/example/ogmios/ogmios/topology/Ring" := PF0.wr W2
  have F4 : Fld Z h2 ao "com/example/ogmios/ogmios/topology/Ring" "nodes" "I" (.int xn) := PF1.same W2
  have N2 := Fr.snoc X2 N0 ge_ao
  have sz2 : n0 ≤ h2.size := Nat.le_trans Z0 (Keep.of_wr W2).1
  have K2 : Keep h0 h2 [ao] := ((Keep.refl h0 [ao])).wr W2 (Or.inl (List.mem_of_getElem? (i := 0) rfl))
  refine own_Goes.via (T' := T2) (g' := (mkF m 9 #[.val (.ref ao), .val (.int xn)] [])) (st2) ?_
  obtain ⟨fs, hr, hrun, hended, hW, hsame⟩ := X2.leave (v := none) (fun _ => rfl)
  refine own_Goes.fin (X2.returnOut hx Bd.returns (hb hby d1_9) hr) hrun hended ?_
  subst hPd
  refine ⟨_, _, rfl, ?_, ⟨_, rfl⟩, hW, hsame.mono (by decide) (by decide)⟩
  show Q1 Z ao xn h0 n0 _ T2.heap _
  rw [e2]
  exact ⟨rfl, N2, K2, E3, F4⟩
theorem d3_0 : decode prog_52_method_2_code 0 = .ok (.iload_n 2, 1) := by decide +kernel
theorem d3_1 : decode prog_52_method_2_code 1 = .ok (.iload_n 1, 1) := by decide +kernel
theorem d3_2 : decode prog_52_method_2_code 2 = .ok (.iconst 1, 1) := by decide +kernel
theorem d3_3 : decode prog_52_method_2_code 3 = .ok (.iadd, 1) := by decide +kernel
theorem d3_4 : decode prog_52_method_2_code 4 = .ok (.aload_n 0, 1) := by decide +kernel
theorem d3_5 : decode prog_52_method_2_code 5 = .ok (.getfield 7, 3) := by decide +kernel
theorem d3_8 : decode prog_52_method_2_code 8 = .ok (.irem, 1) := by decide +kernel
theorem d3_9 : decode prog_52_method_2_code 9 = .ok (.if_icmp .ne 7, 3) := by decide +kernel
theorem d3_12 : decode prog_52_method_2_code 12 = .ok (.iconst 1, 1) := by decide +kernel
theorem d3_13 : decode prog_52_method_2_code 13 = .ok (.goto 4, 3) := by decide +kernel
theorem d3_16 : decode prog_52_method_2_code 16 = .ok (.iconst 0, 1) := by decide +kernel
theorem d3_17 : decode prog_52_method_2_code 17 = .ok (.ireturn, 1) := by decide +kernel
theorem pn_3 : plainName "com/example/ogmios/ogmios/topology/Ring" = true := by first | (simp [plainName, overriddenIn]; done) | decide +kernel
theorem ef_3 (m : MethodId) (ao : Addr) (xf : Int32) (xt : Int32) : entryFrame m #[(.ref ao), (.int xf), (.int xt)] 3 = mkF m 0 #[.val (.ref ao), .val (.int xf), .val (.int xt)] [] := by first | (simp [entryFrame, mkF, argsToLocals, Value.category]; done) | rfl
def own_f3 (xf : Int32) (xt : Int32) (xn : Int32) : Int32 := (if xt = ((xf + (1 : Int32)) % xn) then (1 : Int32) else (0 : Int32))
def Q3 (Z : State) (ao : Addr) (xf : Int32) (xt : Int32) (xn : Int32) (h0 : Heap) (n0 : Nat) (v : Option Value) (h : Heap) (L : List Loc) : Prop := v = some (.int (own_f3 xf xt xn)) ∧ Fr n0 L ∧ h = h0
set_option maxRecDepth 65536 in
set_option maxHeartbeats 40000000 in
theorem rm3 (l : Launch) (Z : State) (a0 : Array Value) (hw : ∀ d ∈ tables_1, d.before a0 Z = true) (ws : List Jvm.Cond) (ao : Addr) (xf : Int32) (xt : Int32) (xn : Int32) (h0 : Heap) (n0 : Nat) (Z0 : n0 ≤ h0.size) (PF0 : Fld Z h0 ao "com/example/ogmios/ogmios/topology/Ring" "nodes" "I" (.int xn)) (hn0 : xn ≠ (0 : Int32)) :
    MetFree l (⟨"com/example/ogmios/ogmios/topology/Ring", "hasChannel", "(II)Z"⟩ : MethodName) (head1 (Jvm.Cond.code (⟨"com/example/ogmios/ogmios/topology/Ring", "hasChannel", "(II)Z"⟩ : MethodName) prog_52_method_2_code 3 (some .boolean) :: ws) ({ frames := 0, cells := 0, slots := 0, locals := 0 } : Room)) (fun a U => a = #[(.ref ao), (.int xf), (.int xt)] ∧ Z.Warmed39 U.vm ∧ U.heap = h0) (fun _ _ _ _ _ => True) (fun _ U o U' => ∃ v L, o = .returned v ∧ Q3 Z ao xf xt xn h0 n0 v U'.heap L ∧ FrameEnd U o U' L ({ frames := 0, cells := 0, slots := 0, locals := 0 } : Room).cells ({ frames := 0, cells := 0, slots := 0, locals := 0 } : Room).slots) := by
  refine MetFree.of_bodySF (plainFor_of_name pn_3) hisR ?_
  intro p e s m args below meth c s₁ Bd hml0 hP hK
  obtain ⟨rfl, hZ, hh⟩ := hP
  have hx := Bd.exec
  have hby := Bd.bytes
  have hml : c.maxLocals = 3 := hml0
  have hown : s.vm.findClass "com/example/ogmios/ogmios/topology/Ring" = some m.cls := findClass_of_methodNamed Bd.named
  have hnm := (name_of_methodNamed Bd.named Bd.method).1
  have X0 : Stand p l e ({ frames := 0, cells := 0, slots := 0, locals := 0 } : Room) s m #[(.ref ao), (.int xf), (.int xt)] below meth c s₁ [] 0 0 := Stand.of_body Bd
  have e0 : s₁.heap = h0 := by rw [← hh, Bd.state]; rfl
  have N0 := Fr.nil n0
  suffices G : own_Goes p.tables e below (fun o U' => ∃ v L, o = .returned v ∧ Q3 Z ao xf xt xn h0 n0 v U'.heap L ∧ FrameEnd s o U' L ({ frames := 0, cells := 0, slots := 0, locals := 0 } : Room).cells ({ frames := 0, cells := 0, slots := 0, locals := 0 } : Room).slots) s₁ (mkF m 0 #[.val (.ref ao), .val (.int xf), .val (.int xt)] []) by
    obtain ⟨t2_, o2_, z1_, z2_, z3_, z4_⟩ := G
    exact ⟨t2_, o2_, castTop (ef_3 m ao xf xt) z1_, z2_, z3_, z4_⟩
  generalize hPd : (fun (o : Outcome) (U' : State) => ∃ v L, o = .returned v ∧ Q3 Z ao xf xt xn h0 n0 v U'.heap L ∧ FrameEnd s o U' L ({ frames := 0, cells := 0, slots := 0, locals := 0 } : Room).cells ({ frames := 0, cells := 0, slots := 0, locals := 0 } : Room).slots) = P
  refine own_Goes.via (T' := s₁) (g' := (mkF m 1 #[.val (.ref ao), .val (.int xf), .val (.int xt)] [(.int xt)])) (fun t_ k_ => XS.iloadN X0.here hx rfl (hb hby d3_0) rfl k_) ?_
  refine own_Goes.via (T' := s₁) (g' := (mkF m 2 #[.val (.ref ao), .val (.int xf), .val (.int xt)] [(.int xf), (.int xt)])) (fun t_ k_ => XS.iloadN X0.here hx rfl (hb hby d3_1) rfl k_) ?_
  refine own_Goes.via (T' := s₁) (g' := (mkF m 3 #[.val (.ref ao), .val (.int xf), .val (.int xt)] [(.int (1 : Int32)), (.int xf), (.int xt)])) (fun t_ k_ => XS.iconst X0.here hx rfl (hb hby d3_2) k_) ?_
  refine own_Goes.via (T' := s₁) (g' := (mkF m 4 #[.val (.ref ao), .val (.int xf), .val (.int xt)] [(.int (xf + (1 : Int32))), (.int xt)])) (fun t_ k_ => XS.iadd X0.here hx rfl (hb hby d3_3) rfl k_) ?_
  refine own_Goes.via (T' := s₁) (g' := (mkF m 5 #[.val (.ref ao), .val (.int xf), .val (.int xt)] [(.ref ao), (.int (xf + (1 : Int32))), (.int xt)])) (fun t_ k_ => XS.aloadN X0.here hx rfl (hb hby d3_4) rfl rfl k_) ?_
  obtain ⟨T1, X1, e1, st1⟩ := getF X0 hx hZ hown (host := "") (Or.inl (hw _ (List.mem_of_getElem? (i := 11) rfl))) Via.refl e0 PF0 (g := (mkF m 5 #[.val (.ref ao), .val (.int xf), .val (.int xt)] [(.ref ao), (.int (xf + (1 : Int32))), (.int xt)])) rfl rfl (hb hby d3_5)
  refine own_Goes.via (T' := T1) (g' := (mkF m 8 #[.val (.ref ao), .val (.int xf), .val (.int xt)] [(.int xn), (.int (xf + (1 : Int32))), (.int xt)])) (st1) ?_
  have nz8_2 : xn ≠ (0 : Int32) := by first | assumption | decide
  refine own_Goes.via (T' := T1) (g' := (mkF m 9 #[.val (.ref ao), .val (.int xf), .val (.int xt)] [(.int ((xf + (1 : Int32)) % xn)), (.int xt)])) (fun t_ k_ => iremM X1 hx rfl (hb hby d3_8) rfl nz8_2 k_) ?_
  suffices J17_6 : ∀ (v17_4 : Int32) (hv17_4 : v17_4 = (if xt = ((xf + (1 : Int32)) % xn) then (1 : Int32) else (0 : Int32))), own_Goes p.tables e below P T1 (mkF m 17 #[.val (.ref ao), .val (.int xf), .val (.int xt)] [(.int v17_4)]) by
    by_cases hc9_3 : xt = ((xf + (1 : Int32)) % xn)
    · refine own_Goes.via (T' := T1) (g' := (mkF m 12 #[.val (.ref ao), .val (.int xf), .val (.int xt)] [])) (fun t_ k_ => XS.icmpNo X1.here hx rfl (hb hby d3_9) rfl (teq hc9_3).2 k_) ?_
      refine own_Goes.via (T' := T1) (g' := (mkF m 13 #[.val (.ref ao), .val (.int xf), .val (.int xt)] [(.int (1 : Int32))])) (fun t_ k_ => XS.iconst X1.here hx rfl (hb hby d3_12) k_) ?_
      refine own_Goes.via (T' := T1) (g' := (mkF m 17 #[.val (.ref ao), .val (.int xf), .val (.int xt)] [(.int (1 : Int32))])) (fun t_ k_ => XS.goto X1.here hx rfl (pc0 := 13) (pc' := 17) rfl (hb hby d3_13) (by decide) (by decide) k_) ?_
      exact J17_6 (1 : Int32) ((if_pos hc9_3)).symm
    · refine own_Goes.via (T' := T1) (g' := (mkF m 16 #[.val (.ref ao), .val (.int xf), .val (.int xt)] [])) (fun t_ k_ => XS.icmpYes X1.here hx rfl (pc0 := 9) (pc' := 16) rfl (hb hby d3_9) rfl (feq hc9_3).2 (by decide) (by decide) k_) ?_
      refine own_Goes.via (T' := T1) (g' := (mkF m 17 #[.val (.ref ao), .val (.int xf), .val (.int xt)] [(.int (0 : Int32))])) (fun t_ k_ => XS.iconst X1.here hx rfl (hb hby d3_16) k_) ?_
      exact J17_6 (0 : Int32) ((if_neg hc9_3)).symm
  intro v17_4 hv17_4
  have hnar7 : nar .boolean v17_4 = v17_4 := by rw [hv17_4]; (repeat' split) <;> rfl
  obtain ⟨fs, hr, hrun, hended, hW, hsame⟩ := X1.leave (v := some (.int v17_4)) (fun h => by rw [Bd.returns] at h; cases h)
  refine own_Goes.fin (retN X1 hx (t := .boolean) Bd.returns (by simp) (hb hby d3_17) (by rw [hnar7]; exact hr)) hrun hended ?_
  subst hPd
  refine ⟨_, _, rfl, ?_, ⟨_, rfl⟩, hW, hsame.mono (by decide) (by decide)⟩
  show Q3 Z ao xf xt xn h0 n0 _ T1.heap _
  rw [e1]
  exact ⟨(by subst hv17_4; first | rfl | (simp only [own_f3])), N0, rfl⟩
theorem own_n {xa v2 : Int32} (hv2 : v2 = ((2 : Int32) + ((xa &&& (2147483647 : Int32)) % (2147483646 : Int32)))) : 2 ≤ v2.toInt := by
  have m := Jvm.Kit.i32_mask xa (2147483647 : Int32) (k := 31) (by decide) (by decide)
  have y : (2147483646 : Int32).toInt = 2147483646 := rfl
  have t : (2 : Int32).toInt = 2 := rfl
  have r : ((xa &&& (2147483647 : Int32)) % (2147483646 : Int32)).toInt = (xa &&& (2147483647 : Int32)).toInt % (2147483646 : Int32).toInt := Jvm.Kit.i32_rem_nonneg (by omega)
  rw [y] at r
  have a : ((2 : Int32) + ((xa &&& (2147483647 : Int32)) % (2147483646 : Int32))).toInt = 2 + ((xa &&& (2147483647 : Int32)) % (2147483646 : Int32)).toInt := Jvm.Kit.i32_add (by rw [t, r]; omega) (by rw [t, r]; omega)
  rw [hv2, a, r]
  omega
theorem own_nz {n : Int32} (h : 2 ≤ n.toInt) : n ≠ (0 : Int32) := fun q => by
  rw [q] at h
  exact absurd h (by decide)
theorem own_mod {x n v : Int32} (h : 2 ≤ n.toInt) (hv : v = ((x &&& (2147483647 : Int32)) % n)) : 0 ≤ v.toInt ∧ v.toInt < n.toInt := by
  have m := Jvm.Kit.i32_mask x (2147483647 : Int32) (k := 31) (by decide) (by decide)
  have r : ((x &&& (2147483647 : Int32)) % n).toInt = (x &&& (2147483647 : Int32)).toInt % n.toInt := Jvm.Kit.i32_rem_nonneg (by omega)
  rw [hv, r]
  exact ⟨Int.emod_nonneg _ (by omega), Int.emod_lt_of_pos _ (by omega)⟩
theorem own_ring {f t n : Int32} (h2 : 2 ≤ n.toInt) (h0 : 0 ≤ f.toInt) (h1 : f.toInt < n.toInt) : own_f3 f t n = (if f = (n - (1 : Int32)) then (if t = (0 : Int32) then (1 : Int32) else (0 : Int32)) else (if t = (f + (1 : Int32)) then (1 : Int32) else (0 : Int32))) := by
  have b := n.toInt_lt
  have o : (1 : Int32).toInt = 1 := rfl
  have a1 : (f + (1 : Int32)).toInt = f.toInt + 1 := Jvm.Kit.i32_add (by rw [o]; omega) (by rw [o]; omega)
  have a2 : (n - (1 : Int32)).toInt = n.toInt - 1 := Jvm.Kit.i32_sub (by rw [o]; omega) (by rw [o]; omega)
  have r : ((f + (1 : Int32)) % n).toInt = (f.toInt + 1) % n.toInt := by rw [Jvm.Kit.i32_rem_nonneg (by rw [a1]; omega), a1]
  unfold own_f3
  by_cases q : f = (n - (1 : Int32))
  · have q' : f.toInt = n.toInt - 1 := by rw [q, a2]
    have e : (f + (1 : Int32)) % n = (0 : Int32) := Int32.toInt_inj.mp (by rw [r, q', show n.toInt - 1 + 1 = n.toInt by omega, Int.emod_self]; rfl)
    rw [if_pos q, e]
  · have q' : f.toInt ≠ n.toInt - 1 := fun z => q (Int32.toInt_inj.mp (by rw [z, a2]))
    have e : (f + (1 : Int32)) % n = f + (1 : Int32) := Int32.toInt_inj.mp (by rw [r, a1]; exact Int.emod_eq_of_lt (by omega) (by omega))
    rw [if_neg q, e]
theorem pn_0 : plainName "com/example/ogmios/ogmios/topology/RingHasChannelPinLaw" = true := by first | (simp [plainName, overriddenIn]; done) | decide +kernel
theorem pd_0_0 : parseMethodDescriptor "(I)V" = some ⟨[.int], none⟩ := by decide +kernel
theorem pd_0_1 : parseMethodDescriptor "(II)Z" = some ⟨[.int, .int], some .boolean⟩ := by decide +kernel
theorem ef_0 (m : MethodId) (xa : Int32) (xb : Int32) (xc : Int32) (xd : Int32) : entryFrame m #[(.int xa), (.int xb), (.int xc), (.int xd)] maxLocals = mkF m 0 #[.val (.int xa), .val (.int xb), .val (.int xc), .val (.int xd), .unset, .unset, .unset, .unset, .unset, .unset, .unset] [] := by first | (simp [entryFrame, mkF, argsToLocals, Value.category, maxLocals]; done) | rfl
def Q0 (Z : State) (xa : Int32) (xb : Int32) (xc : Int32) (xd : Int32) (h0 : Heap) (n0 : Nat) (v : Option Value) (h : Heap) (L : List Loc) : Prop := v = some (.int 1) ∧ Fr n0 L
set_option maxRecDepth 65536 in
theorem own_pl0_0 {xa : Int32} {v2 : Int32} (hv2 : v2 = ((2 : Int32) + ((xa &&& (2147483647 : Int32)) % (2147483646 : Int32)))) (nz7_1 : (2147483646 : Int32) ≠ (0 : Int32)) : v2 ≠ (0 : Int32) := by
  exact own_nz (own_n hv2)
set_option maxRecDepth 65536 in
theorem own_pl0_1 {xa : Int32} {xb : Int32} {v2 : Int32} {v4 : Int32} (hv2 : v2 = ((2 : Int32) + ((xa &&& (2147483647 : Int32)) % (2147483646 : Int32)))) (hv4 : v4 = ((xb &&& (2147483647 : Int32)) % v2)) (nz7_1 : (2147483646 : Int32) ≠ (0 : Int32)) (nz17_3 : v2 ≠ (0 : Int32)) : v2 ≠ (0 : Int32) := by
  exact own_nz (own_n hv2)
set_option maxRecDepth 65536 in
theorem own_pl0_2 {xa : Int32} {xb : Int32} {xc : Int32} {xd : Int32} {v2 : Int32} {v4 : Int32} {v6 : Int32} {v7 : Int32} {v110_9 : Int32} {v110_10 : Int32} (hv2 : v2 = ((2 : Int32) + ((xa &&& (2147483647 : Int32)) % (2147483646 : Int32)))) (hv4 : v4 = ((xb &&& (2147483647 : Int32)) % v2)) (hv6 : v6 = ((xc &&& (2147483647 : Int32)) % v2)) (hv7 : v7 = (xd &&& (3 : Int32))) (hv110_9 : v110_9 = (if v7 = (1 : Int32) then v4 else (if v7 = (2 : Int32) then (v2 - (1 : Int32)) else v4))) (hv110_10 : v110_10 = (if v7 = (1 : Int32) then (if v4 = (v2 - (1 : Int32)) then (0 : Int32) else (v4 + (1 : Int32))) else (if v7 = (2 : Int32) then (if (xc &&& (1 : Int32)) = (0 : Int32) then (0 : Int32) else v6) else (if v7 = (3 : Int32) then (if v4 = (0 : Int32) then (v2 - (1 : Int32)) else (v4 - (1 : Int32))) else v6)))) (nz7_1 : (2147483646 : Int32) ≠ (0 : Int32)) (nz17_3 : v2 ≠ (0 : Int32)) (nz26_5 : v2 ≠ (0 : Int32)) : v2 ≠ (0 : Int32) := by
  exact own_nz (own_n hv2)
set_option maxRecDepth 65536 in
theorem own_pl0_3 {xa : Int32} {xb : Int32} {xc : Int32} {xd : Int32} {v2 : Int32} {v4 : Int32} {v6 : Int32} {v7 : Int32} {v110_9 : Int32} {v110_10 : Int32} {v25 : Int32} {v172_27 : Int32} {v184_33 : Int32} (hv2 : v2 = ((2 : Int32) + ((xa &&& (2147483647 : Int32)) % (2147483646 : Int32)))) (hv4 : v4 = ((xb &&& (2147483647 : Int32)) % v2)) (hv6 : v6 = ((xc &&& (2147483647 : Int32)) % v2)) (hv7 : v7 = (xd &&& (3 : Int32))) (hv110_9 : v110_9 = (if v7 = (1 : Int32) then v4 else (if v7 = (2 : Int32) then (v2 - (1 : Int32)) else v4))) (hv110_10 : v110_10 = (if v7 = (1 : Int32) then (if v4 = (v2 - (1 : Int32)) then (0 : Int32) else (v4 + (1 : Int32))) else (if v7 = (2 : Int32) then (if (xc &&& (1 : Int32)) = (0 : Int32) then (0 : Int32) else v6) else (if v7 = (3 : Int32) then (if v4 = (0 : Int32) then (v2 - (1 : Int32)) else (v4 - (1 : Int32))) else v6)))) (hv25 : v25 = (own_f3 v110_9 v110_10 v2)) (hv172_27 : v172_27 = (if v110_9 = (v2 - (1 : Int32)) then (if v110_10 = (0 : Int32) then (1 : Int32) else (0 : Int32)) else (if v110_10 = (v110_9 + (1 : Int32)) then (1 : Int32) else (0 : Int32)))) (hv184_33 : v184_33 = (if v25 = v172_27 then (1 : Int32) else (0 : Int32))) (nz7_1 : (2147483646 : Int32) ≠ (0 : Int32)) (nz17_3 : v2 ≠ (0 : Int32)) (nz26_5 : v2 ≠ (0 : Int32)) (cd127_24 : v2 ≠ (0 : Int32)) : v184_33 = 1 := by
  have n2 := own_n hv2
  have f4 := own_mod n2 hv4
  have o : (1 : Int32).toInt = 1 := rfl
  have b := v2.toInt_lt
  have a2 : (v2 - (1 : Int32)).toInt = v2.toInt - 1 := Jvm.Kit.i32_sub (by rw [o]; omega) (by rw [o]; omega)
  have hf : 0 ≤ v110_9.toInt ∧ v110_9.toInt < v2.toInt := by
    rw [hv110_9]
    split
    · exact f4
    · split
      · rw [a2]; omega
      · exact f4
  rw [hv184_33, hv25, hv172_27, own_ring n2 hf.1 hf.2, if_pos rfl]
set_option maxRecDepth 65536 in
set_option maxHeartbeats 40000000 in
theorem rm0 (l : Launch) (Z : State) (a0 : Array Value) (hw : ∀ d ∈ tables_1, d.before a0 Z = true) (ws : List Jvm.Cond) (xa : Int32) (xb : Int32) (xc : Int32) (xd : Int32) (h0 : Heap) (n0 : Nat) (Z0 : n0 ≤ h0.size) :
    MetFree l x (head1 (Jvm.Cond.code x code maxLocals ret :: ws) room_1) (fun a U => a = #[(.int xa), (.int xb), (.int xc), (.int xd)] ∧ Z.Warmed39 U.vm ∧ U.heap = h0) (fun _ _ _ _ _ => True) (fun _ U o U' => ∃ v L, o = .returned v ∧ Q0 Z xa xb xc xd h0 n0 v U'.heap L ∧ FrameEnd U o U' L 1 1) := by
  refine MetFree.of_bodySF (plainFor_of_name pn_0) hisR ?_
  intro p e s m args below meth c s₁ Bd hml0 hP hK
  obtain ⟨rfl, hZ, hh⟩ := hP
  have hx := Bd.exec
  have hby := Bd.bytes
  have hml : c.maxLocals = 11 := hml0
  have hown : s.vm.findClass "com/example/ogmios/ogmios/topology/RingHasChannelPinLaw" = some m.cls := findClass_of_methodNamed Bd.named
  have hnm := (name_of_methodNamed Bd.named Bd.method).1
  have X0 : Stand p l e room_1 s m #[(.int xa), (.int xb), (.int xc), (.int xd)] below meth c s₁ [] 0 0 := Stand.of_body Bd
  have e0 : s₁.heap = h0 := by rw [← hh, Bd.state]; rfl
  have N0 := Fr.nil n0
  suffices G : own_Goes p.tables e below (fun o U' => ∃ v L, o = .returned v ∧ Q0 Z xa xb xc xd h0 n0 v U'.heap L ∧ FrameEnd s o U' L 1 1) s₁ (mkF m 0 #[.val (.int xa), .val (.int xb), .val (.int xc), .val (.int xd), .unset, .unset, .unset, .unset, .unset, .unset, .unset] []) by
    obtain ⟨t2_, o2_, z1_, z2_, z3_, z4_⟩ := G
    exact ⟨t2_, o2_, castTop (ef_0 m xa xb xc xd) z1_, z2_, z3_, z4_⟩
  generalize hPd : (fun (o : Outcome) (U' : State) => ∃ v L, o = .returned v ∧ Q0 Z xa xb xc xd h0 n0 v U'.heap L ∧ FrameEnd s o U' L 1 1) = P
  refine own_Goes.via (T' := s₁) (g' := (mkF m 1 #[.val (.int xa), .val (.int xb), .val (.int xc), .val (.int xd), .unset, .unset, .unset, .unset, .unset, .unset, .unset] [(.int (2 : Int32))])) (fun t_ k_ => XS.iconst X0.here hx rfl (hb hby at_0) k_) ?_
  refine own_Goes.via (T' := s₁) (g' := (mkF m 2 #[.val (.int xa), .val (.int xb), .val (.int xc), .val (.int xd), .unset, .unset, .unset, .unset, .unset, .unset, .unset] [(.int xa), (.int (2 : Int32))])) (fun t_ k_ => XS.iloadN X0.here hx rfl (hb hby at_1) rfl k_) ?_
  refine own_Goes.via (T' := s₁) (g' := (mkF m 4 #[.val (.int xa), .val (.int xb), .val (.int xc), .val (.int xd), .unset, .unset, .unset, .unset, .unset, .unset, .unset] [(.int (2147483647 : Int32)), (.int xa), (.int (2 : Int32))])) (X0.ldcInt hx hown (mvT hZ (hw _ (List.mem_of_getElem? (i := 0) rfl))) (g := (mkF m 2 #[.val (.int xa), .val (.int xb), .val (.int xc), .val (.int xd), .unset, .unset, .unset, .unset, .unset, .unset, .unset] [(.int xa), (.int (2 : Int32))])) rfl (hb hby at_2)) ?_
  refine own_Goes.via (T' := s₁) (g' := (mkF m 5 #[.val (.int xa), .val (.int xb), .val (.int xc), .val (.int xd), .unset, .unset, .unset, .unset, .unset, .unset, .unset] [(.int (xa &&& (2147483647 : Int32))), (.int (2 : Int32))])) (fun t_ k_ => XS.iand X0.here hx rfl (hb hby at_4) rfl k_) ?_
  refine own_Goes.via (T' := s₁) (g' := (mkF m 7 #[.val (.int xa), .val (.int xb), .val (.int xc), .val (.int xd), .unset, .unset, .unset, .unset, .unset, .unset, .unset] [(.int (2147483646 : Int32)), (.int (xa &&& (2147483647 : Int32))), (.int (2 : Int32))])) (X0.ldcInt hx hown (mvT hZ (hw _ (List.mem_of_getElem? (i := 1) rfl))) (g := (mkF m 5 #[.val (.int xa), .val (.int xb), .val (.int xc), .val (.int xd), .unset, .unset, .unset, .unset, .unset, .unset, .unset] [(.int (xa &&& (2147483647 : Int32))), (.int (2 : Int32))])) rfl (hb hby at_5)) ?_
  have nz7_1 : (2147483646 : Int32) ≠ (0 : Int32) := by decide
  refine own_Goes.via (T' := s₁) (g' := (mkF m 8 #[.val (.int xa), .val (.int xb), .val (.int xc), .val (.int xd), .unset, .unset, .unset, .unset, .unset, .unset, .unset] [(.int ((xa &&& (2147483647 : Int32)) % (2147483646 : Int32))), (.int (2 : Int32))])) (fun t_ k_ => iremM X0 hx rfl (hb hby at_7) rfl nz7_1 k_) ?_
  refine own_Goes.via (T' := s₁) (g' := (mkF m 9 #[.val (.int xa), .val (.int xb), .val (.int xc), .val (.int xd), .unset, .unset, .unset, .unset, .unset, .unset, .unset] [(.int ((2 : Int32) + ((xa &&& (2147483647 : Int32)) % (2147483646 : Int32))))])) (fun t_ k_ => XS.iadd X0.here hx rfl (hb hby at_8) rfl k_) ?_
  refine own_Goes.via (T' := s₁) (g' := (mkF m 11 #[.val (.int xa), .val (.int xb), .val (.int xc), .val (.int xd), .val (.int ((2 : Int32) + ((xa &&& (2147483647 : Int32)) % (2147483646 : Int32)))), .unset, .unset, .unset, .unset, .unset, .unset] [])) (fun t_ k_ => XS.istore X0.here hx rfl (hb hby at_9) rfl (l' := #[.val (.int xa), .val (.int xb), .val (.int xc), .val (.int xd), .val (.int ((2 : Int32) + ((xa &&& (2147483647 : Int32)) % (2147483646 : Int32)))), .unset, .unset, .unset, .unset, .unset, .unset]) rfl k_) ?_
  obtain ⟨v2, hv2⟩ : ∃ z : Int32, z = ((2 : Int32) + ((xa &&& (2147483647 : Int32)) % (2147483646 : Int32))) := ⟨_, rfl⟩
  rw [← hv2]
  refine own_Goes.via (T' := s₁) (g' := (mkF m 12 #[.val (.int xa), .val (.int xb), .val (.int xc), .val (.int xd), .val (.int v2), .unset, .unset, .unset, .unset, .unset, .unset] [(.int xb)])) (fun t_ k_ => XS.iloadN X0.here hx rfl (hb hby at_11) rfl k_) ?_
  refine own_Goes.via (T' := s₁) (g' := (mkF m 14 #[.val (.int xa), .val (.int xb), .val (.int xc), .val (.int xd), .val (.int v2), .unset, .unset, .unset, .unset, .unset, .unset] [(.int (2147483647 : Int32)), (.int xb)])) (X0.ldcInt hx hown (mvT hZ (hw _ (List.mem_of_getElem? (i := 0) rfl))) (g := (mkF m 12 #[.val (.int xa), .val (.int xb), .val (.int xc), .val (.int xd), .val (.int v2), .unset, .unset, .unset, .unset, .unset, .unset] [(.int xb)])) rfl (hb hby at_12)) ?_
  refine own_Goes.via (T' := s₁) (g' := (mkF m 15 #[.val (.int xa), .val (.int xb), .val (.int xc), .val (.int xd), .val (.int v2), .unset, .unset, .unset, .unset, .unset, .unset] [(.int (xb &&& (2147483647 : Int32)))])) (fun t_ k_ => XS.iand X0.here hx rfl (hb hby at_14) rfl k_) ?_
  refine own_Goes.via (T' := s₁) (g' := (mkF m 17 #[.val (.int xa), .val (.int xb), .val (.int xc), .val (.int xd), .val (.int v2), .unset, .unset, .unset, .unset, .unset, .unset] [(.int v2), (.int (xb &&& (2147483647 : Int32)))])) (fun t_ k_ => XS.iload X0.here hx rfl (hb hby at_15) rfl k_) ?_
  have nz17_3 : v2 ≠ (0 : Int32) := own_pl0_0 hv2 nz7_1
  refine own_Goes.via (T' := s₁) (g' := (mkF m 18 #[.val (.int xa), .val (.int xb), .val (.int xc), .val (.int xd), .val (.int v2), .unset, .unset, .unset, .unset, .unset, .unset] [(.int ((xb &&& (2147483647 : Int32)) % v2))])) (fun t_ k_ => iremM X0 hx rfl (hb hby at_17) rfl nz17_3 k_) ?_
  refine own_Goes.via (T' := s₁) (g' := (mkF m 20 #[.val (.int xa), .val (.int xb), .val (.int xc), .val (.int xd), .val (.int v2), .val (.int ((xb &&& (2147483647 : Int32)) % v2)), .unset, .unset, .unset, .unset, .unset] [])) (fun t_ k_ => XS.istore X0.here hx rfl (hb hby at_18) rfl (l' := #[.val (.int xa), .val (.int xb), .val (.int xc), .val (.int xd), .val (.int v2), .val (.int ((xb &&& (2147483647 : Int32)) % v2)), .unset, .unset, .unset, .unset, .unset]) rfl k_) ?_
  obtain ⟨v4, hv4⟩ : ∃ z : Int32, z = ((xb &&& (2147483647 : Int32)) % v2) := ⟨_, rfl⟩
  rw [← hv4]
  refine own_Goes.via (T' := s₁) (g' := (mkF m 21 #[.val (.int xa), .val (.int xb), .val (.int xc), .val (.int xd), .val (.int v2), .val (.int v4), .unset, .unset, .unset, .unset, .unset] [(.int xc)])) (fun t_ k_ => XS.iloadN X0.here hx rfl (hb hby at_20) rfl k_) ?_
  refine own_Goes.via (T' := s₁) (g' := (mkF m 23 #[.val (.int xa), .val (.int xb), .val (.int xc), .val (.int xd), .val (.int v2), .val (.int v4), .unset, .unset, .unset, .unset, .unset] [(.int (2147483647 : Int32)), (.int xc)])) (X0.ldcInt hx hown (mvT hZ (hw _ (List.mem_of_getElem? (i := 0) rfl))) (g := (mkF m 21 #[.val (.int xa), .val (.int xb), .val (.int xc), .val (.int xd), .val (.int v2), .val (.int v4), .unset, .unset, .unset, .unset, .unset] [(.int xc)])) rfl (hb hby at_21)) ?_
  refine own_Goes.via (T' := s₁) (g' := (mkF m 24 #[.val (.int xa), .val (.int xb), .val (.int xc), .val (.int xd), .val (.int v2), .val (.int v4), .unset, .unset, .unset, .unset, .unset] [(.int (xc &&& (2147483647 : Int32)))])) (fun t_ k_ => XS.iand X0.here hx rfl (hb hby at_23) rfl k_) ?_
  refine own_Goes.via (T' := s₁) (g' := (mkF m 26 #[.val (.int xa), .val (.int xb), .val (.int xc), .val (.int xd), .val (.int v2), .val (.int v4), .unset, .unset, .unset, .unset, .unset] [(.int v2), (.int (xc &&& (2147483647 : Int32)))])) (fun t_ k_ => XS.iload X0.here hx rfl (hb hby at_24) rfl k_) ?_
  have nz26_5 : v2 ≠ (0 : Int32) := own_pl0_1 hv2 hv4 nz7_1 nz17_3
  refine own_Goes.via (T' := s₁) (g' := (mkF m 27 #[.val (.int xa), .val (.int xb), .val (.int xc), .val (.int xd), .val (.int v2), .val (.int v4), .unset, .unset, .unset, .unset, .unset] [(.int ((xc &&& (2147483647 : Int32)) % v2))])) (fun t_ k_ => iremM X0 hx rfl (hb hby at_26) rfl nz26_5 k_) ?_
  refine own_Goes.via (T' := s₁) (g' := (mkF m 29 #[.val (.int xa), .val (.int xb), .val (.int xc), .val (.int xd), .val (.int v2), .val (.int v4), .val (.int ((xc &&& (2147483647 : Int32)) % v2)), .unset, .unset, .unset, .unset] [])) (fun t_ k_ => XS.istore X0.here hx rfl (hb hby at_27) rfl (l' := #[.val (.int xa), .val (.int xb), .val (.int xc), .val (.int xd), .val (.int v2), .val (.int v4), .val (.int ((xc &&& (2147483647 : Int32)) % v2)), .unset, .unset, .unset, .unset]) rfl k_) ?_
  obtain ⟨v6, hv6⟩ : ∃ z : Int32, z = ((xc &&& (2147483647 : Int32)) % v2) := ⟨_, rfl⟩
  rw [← hv6]
  refine own_Goes.via (T' := s₁) (g' := (mkF m 30 #[.val (.int xa), .val (.int xb), .val (.int xc), .val (.int xd), .val (.int v2), .val (.int v4), .val (.int v6), .unset, .unset, .unset, .unset] [(.int xd)])) (fun t_ k_ => XS.iloadN X0.here hx rfl (hb hby at_29) rfl k_) ?_
  refine own_Goes.via (T' := s₁) (g' := (mkF m 31 #[.val (.int xa), .val (.int xb), .val (.int xc), .val (.int xd), .val (.int v2), .val (.int v4), .val (.int v6), .unset, .unset, .unset, .unset] [(.int (3 : Int32)), (.int xd)])) (fun t_ k_ => XS.iconst X0.here hx rfl (hb hby at_30) k_) ?_
  refine own_Goes.via (T' := s₁) (g' := (mkF m 32 #[.val (.int xa), .val (.int xb), .val (.int xc), .val (.int xd), .val (.int v2), .val (.int v4), .val (.int v6), .unset, .unset, .unset, .unset] [(.int (xd &&& (3 : Int32)))])) (fun t_ k_ => XS.iand X0.here hx rfl (hb hby at_31) rfl k_) ?_
  refine own_Goes.via (T' := s₁) (g' := (mkF m 34 #[.val (.int xa), .val (.int xb), .val (.int xc), .val (.int xd), .val (.int v2), .val (.int v4), .val (.int v6), .val (.int (xd &&& (3 : Int32))), .unset, .unset, .unset] [])) (fun t_ k_ => XS.istore X0.here hx rfl (hb hby at_32) rfl (l' := #[.val (.int xa), .val (.int xb), .val (.int xc), .val (.int xd), .val (.int v2), .val (.int v4), .val (.int v6), .val (.int (xd &&& (3 : Int32))), .unset, .unset, .unset]) rfl k_) ?_
  obtain ⟨v7, hv7⟩ : ∃ z : Int32, z = (xd &&& (3 : Int32)) := ⟨_, rfl⟩
  rw [← hv7]
  refine own_Goes.via (T' := s₁) (g' := (mkF m 36 #[.val (.int xa), .val (.int xb), .val (.int xc), .val (.int xd), .val (.int v2), .val (.int v4), .val (.int v6), .val (.int v7), .unset, .unset, .unset] [(.int v7)])) (fun t_ k_ => XS.iload X0.here hx rfl (hb hby at_34) rfl k_) ?_
  refine own_Goes.via (T' := s₁) (g' := (mkF m 37 #[.val (.int xa), .val (.int xb), .val (.int xc), .val (.int xd), .val (.int v2), .val (.int v4), .val (.int v6), .val (.int v7), .unset, .unset, .unset] [(.int (1 : Int32)), (.int v7)])) (fun t_ k_ => XS.iconst X0.here hx rfl (hb hby at_36) k_) ?_
  suffices J110_12 : ∀ (v110_9 : Int32) (v110_10 : Int32) (hv110_9 : v110_9 = (if v7 = (1 : Int32) then v4 else (if v7 = (2 : Int32) then (v2 - (1 : Int32)) else v4))) (hv110_10 : v110_10 = (if v7 = (1 : Int32) then (if v4 = (v2 - (1 : Int32)) then (0 : Int32) else (v4 + (1 : Int32))) else (if v7 = (2 : Int32) then (if (xc &&& (1 : Int32)) = (0 : Int32) then (0 : Int32) else v6) else (if v7 = (3 : Int32) then (if v4 = (0 : Int32) then (v2 - (1 : Int32)) else (v4 - (1 : Int32))) else v6)))), own_Goes p.tables e below P s₁ (mkF m 110 #[.val (.int xa), .val (.int xb), .val (.int xc), .val (.int xd), .val (.int v2), .val (.int v110_9), .val (.int v110_10), .val (.int v7), .unset, .unset, .unset] []) by
    by_cases hc37_8 : v7 = (1 : Int32)
    · refine own_Goes.via (T' := s₁) (g' := (mkF m 40 #[.val (.int xa), .val (.int xb), .val (.int xc), .val (.int xd), .val (.int v2), .val (.int v4), .val (.int v6), .val (.int v7), .unset, .unset, .unset] [])) (fun t_ k_ => XS.icmpNo X0.here hx rfl (hb hby at_37) rfl (teq hc37_8).2 k_) ?_
      refine own_Goes.via (T' := s₁) (g' := (mkF m 42 #[.val (.int xa), .val (.int xb), .val (.int xc), .val (.int xd), .val (.int v2), .val (.int v4), .val (.int v6), .val (.int v7), .unset, .unset, .unset] [(.int v4)])) (fun t_ k_ => XS.iload X0.here hx rfl (hb hby at_40) rfl k_) ?_
      refine own_Goes.via (T' := s₁) (g' := (mkF m 44 #[.val (.int xa), .val (.int xb), .val (.int xc), .val (.int xd), .val (.int v2), .val (.int v4), .val (.int v6), .val (.int v7), .unset, .unset, .unset] [(.int v2), (.int v4)])) (fun t_ k_ => XS.iload X0.here hx rfl (hb hby at_42) rfl k_) ?_
      refine own_Goes.via (T' := s₁) (g' := (mkF m 45 #[.val (.int xa), .val (.int xb), .val (.int xc), .val (.int xd), .val (.int v2), .val (.int v4), .val (.int v6), .val (.int v7), .unset, .unset, .unset] [(.int (1 : Int32)), (.int v2), (.int v4)])) (fun t_ k_ => XS.iconst X0.here hx rfl (hb hby at_44) k_) ?_
      refine own_Goes.via (T' := s₁) (g' := (mkF m 46 #[.val (.int xa), .val (.int xb), .val (.int xc), .val (.int xd), .val (.int v2), .val (.int v4), .val (.int v6), .val (.int v7), .unset, .unset, .unset] [(.int (v2 - (1 : Int32))), (.int v4)])) (fun t_ k_ => XS.isub X0.here hx rfl (hb hby at_45) rfl k_) ?_
      by_cases hc46_13 : v4 = (v2 - (1 : Int32))
      · refine own_Goes.via (T' := s₁) (g' := (mkF m 49 #[.val (.int xa), .val (.int xb), .val (.int xc), .val (.int xd), .val (.int v2), .val (.int v4), .val (.int v6), .val (.int v7), .unset, .unset, .unset] [])) (fun t_ k_ => XS.icmpNo X0.here hx rfl (hb hby at_46) rfl (teq hc46_13).2 k_) ?_
        refine own_Goes.via (T' := s₁) (g' := (mkF m 50 #[.val (.int xa), .val (.int xb), .val (.int xc), .val (.int xd), .val (.int v2), .val (.int v4), .val (.int v6), .val (.int v7), .unset, .unset, .unset] [(.int (0 : Int32))])) (fun t_ k_ => XS.iconst X0.here hx rfl (hb hby at_49) k_) ?_
        refine own_Goes.via (T' := s₁) (g' := (mkF m 57 #[.val (.int xa), .val (.int xb), .val (.int xc), .val (.int xd), .val (.int v2), .val (.int v4), .val (.int v6), .val (.int v7), .unset, .unset, .unset] [(.int (0 : Int32))])) (fun t_ k_ => XS.goto X0.here hx rfl (pc0 := 50) (pc' := 57) rfl (hb hby at_50) (by decide) (by decide) k_) ?_
        refine own_Goes.via (T' := s₁) (g' := (mkF m 59 #[.val (.int xa), .val (.int xb), .val (.int xc), .val (.int xd), .val (.int v2), .val (.int v4), .val (.int (0 : Int32)), .val (.int v7), .unset, .unset, .unset] [])) (fun t_ k_ => XS.istore X0.here hx rfl (hb hby at_57) rfl (l' := #[.val (.int xa), .val (.int xb), .val (.int xc), .val (.int xd), .val (.int v2), .val (.int v4), .val (.int (0 : Int32)), .val (.int v7), .unset, .unset, .unset]) rfl k_) ?_
        refine own_Goes.via (T' := s₁) (g' := (mkF m 110 #[.val (.int xa), .val (.int xb), .val (.int xc), .val (.int xd), .val (.int v2), .val (.int v4), .val (.int (0 : Int32)), .val (.int v7), .unset, .unset, .unset] [])) (fun t_ k_ => XS.goto X0.here hx rfl (pc0 := 59) (pc' := 110) rfl (hb hby at_59) (by decide) (by decide) k_) ?_
        exact J110_12 v4 (0 : Int32) ((if_pos hc37_8)).symm (((if_pos hc37_8).trans (if_pos hc46_13))).symm
      · refine own_Goes.via (T' := s₁) (g' := (mkF m 53 #[.val (.int xa), .val (.int xb), .val (.int xc), .val (.int xd), .val (.int v2), .val (.int v4), .val (.int v6), .val (.int v7), .unset, .unset, .unset] [])) (fun t_ k_ => XS.icmpYes X0.here hx rfl (pc0 := 46) (pc' := 53) rfl (hb hby at_46) rfl (feq hc46_13).2 (by decide) (by decide) k_) ?_
        refine own_Goes.via (T' := s₁) (g' := (mkF m 55 #[.val (.int xa), .val (.int xb), .val (.int xc), .val (.int xd), .val (.int v2), .val (.int v4), .val (.int v6), .val (.int v7), .unset, .unset, .unset] [(.int v4)])) (fun t_ k_ => XS.iload X0.here hx rfl (hb hby at_53) rfl k_) ?_
        refine own_Goes.via (T' := s₁) (g' := (mkF m 56 #[.val (.int xa), .val (.int xb), .val (.int xc), .val (.int xd), .val (.int v2), .val (.int v4), .val (.int v6), .val (.int v7), .unset, .unset, .unset] [(.int (1 : Int32)), (.int v4)])) (fun t_ k_ => XS.iconst X0.here hx rfl (hb hby at_55) k_) ?_
        refine own_Goes.via (T' := s₁) (g' := (mkF m 57 #[.val (.int xa), .val (.int xb), .val (.int xc), .val (.int xd), .val (.int v2), .val (.int v4), .val (.int v6), .val (.int v7), .unset, .unset, .unset] [(.int (v4 + (1 : Int32)))])) (fun t_ k_ => XS.iadd X0.here hx rfl (hb hby at_56) rfl k_) ?_
        refine own_Goes.via (T' := s₁) (g' := (mkF m 59 #[.val (.int xa), .val (.int xb), .val (.int xc), .val (.int xd), .val (.int v2), .val (.int v4), .val (.int (v4 + (1 : Int32))), .val (.int v7), .unset, .unset, .unset] [])) (fun t_ k_ => XS.istore X0.here hx rfl (hb hby at_57) rfl (l' := #[.val (.int xa), .val (.int xb), .val (.int xc), .val (.int xd), .val (.int v2), .val (.int v4), .val (.int (v4 + (1 : Int32))), .val (.int v7), .unset, .unset, .unset]) rfl k_) ?_
        refine own_Goes.via (T' := s₁) (g' := (mkF m 110 #[.val (.int xa), .val (.int xb), .val (.int xc), .val (.int xd), .val (.int v2), .val (.int v4), .val (.int (v4 + (1 : Int32))), .val (.int v7), .unset, .unset, .unset] [])) (fun t_ k_ => XS.goto X0.here hx rfl (pc0 := 59) (pc' := 110) rfl (hb hby at_59) (by decide) (by decide) k_) ?_
        exact J110_12 v4 (v4 + (1 : Int32)) ((if_pos hc37_8)).symm (((if_pos hc37_8).trans (if_neg hc46_13))).symm
    · refine own_Goes.via (T' := s₁) (g' := (mkF m 62 #[.val (.int xa), .val (.int xb), .val (.int xc), .val (.int xd), .val (.int v2), .val (.int v4), .val (.int v6), .val (.int v7), .unset, .unset, .unset] [])) (fun t_ k_ => XS.icmpYes X0.here hx rfl (pc0 := 37) (pc' := 62) rfl (hb hby at_37) rfl (feq hc37_8).2 (by decide) (by decide) k_) ?_
      refine own_Goes.via (T' := s₁) (g' := (mkF m 64 #[.val (.int xa), .val (.int xb), .val (.int xc), .val (.int xd), .val (.int v2), .val (.int v4), .val (.int v6), .val (.int v7), .unset, .unset, .unset] [(.int v7)])) (fun t_ k_ => XS.iload X0.here hx rfl (hb hby at_62) rfl k_) ?_
      refine own_Goes.via (T' := s₁) (g' := (mkF m 65 #[.val (.int xa), .val (.int xb), .val (.int xc), .val (.int xd), .val (.int v2), .val (.int v4), .val (.int v6), .val (.int v7), .unset, .unset, .unset] [(.int (2 : Int32)), (.int v7)])) (fun t_ k_ => XS.iconst X0.here hx rfl (hb hby at_64) k_) ?_
      by_cases hc65_14 : v7 = (2 : Int32)
      · refine own_Goes.via (T' := s₁) (g' := (mkF m 68 #[.val (.int xa), .val (.int xb), .val (.int xc), .val (.int xd), .val (.int v2), .val (.int v4), .val (.int v6), .val (.int v7), .unset, .unset, .unset] [])) (fun t_ k_ => XS.icmpNo X0.here hx rfl (hb hby at_65) rfl (teq hc65_14).2 k_) ?_
        refine own_Goes.via (T' := s₁) (g' := (mkF m 70 #[.val (.int xa), .val (.int xb), .val (.int xc), .val (.int xd), .val (.int v2), .val (.int v4), .val (.int v6), .val (.int v7), .unset, .unset, .unset] [(.int v2)])) (fun t_ k_ => XS.iload X0.here hx rfl (hb hby at_68) rfl k_) ?_
        refine own_Goes.via (T' := s₁) (g' := (mkF m 71 #[.val (.int xa), .val (.int xb), .val (.int xc), .val (.int xd), .val (.int v2), .val (.int v4), .val (.int v6), .val (.int v7), .unset, .unset, .unset] [(.int (1 : Int32)), (.int v2)])) (fun t_ k_ => XS.iconst X0.here hx rfl (hb hby at_70) k_) ?_
        refine own_Goes.via (T' := s₁) (g' := (mkF m 72 #[.val (.int xa), .val (.int xb), .val (.int xc), .val (.int xd), .val (.int v2), .val (.int v4), .val (.int v6), .val (.int v7), .unset, .unset, .unset] [(.int (v2 - (1 : Int32)))])) (fun t_ k_ => XS.isub X0.here hx rfl (hb hby at_71) rfl k_) ?_
        refine own_Goes.via (T' := s₁) (g' := (mkF m 74 #[.val (.int xa), .val (.int xb), .val (.int xc), .val (.int xd), .val (.int v2), .val (.int (v2 - (1 : Int32))), .val (.int v6), .val (.int v7), .unset, .unset, .unset] [])) (fun t_ k_ => XS.istore X0.here hx rfl (hb hby at_72) rfl (l' := #[.val (.int xa), .val (.int xb), .val (.int xc), .val (.int xd), .val (.int v2), .val (.int (v2 - (1 : Int32))), .val (.int v6), .val (.int v7), .unset, .unset, .unset]) rfl k_) ?_
        refine own_Goes.via (T' := s₁) (g' := (mkF m 75 #[.val (.int xa), .val (.int xb), .val (.int xc), .val (.int xd), .val (.int v2), .val (.int (v2 - (1 : Int32))), .val (.int v6), .val (.int v7), .unset, .unset, .unset] [(.int xc)])) (fun t_ k_ => XS.iloadN X0.here hx rfl (hb hby at_74) rfl k_) ?_
        refine own_Goes.via (T' := s₁) (g' := (mkF m 76 #[.val (.int xa), .val (.int xb), .val (.int xc), .val (.int xd), .val (.int v2), .val (.int (v2 - (1 : Int32))), .val (.int v6), .val (.int v7), .unset, .unset, .unset] [(.int (1 : Int32)), (.int xc)])) (fun t_ k_ => XS.iconst X0.here hx rfl (hb hby at_75) k_) ?_
        refine own_Goes.via (T' := s₁) (g' := (mkF m 77 #[.val (.int xa), .val (.int xb), .val (.int xc), .val (.int xd), .val (.int v2), .val (.int (v2 - (1 : Int32))), .val (.int v6), .val (.int v7), .unset, .unset, .unset] [(.int (xc &&& (1 : Int32)))])) (fun t_ k_ => XS.iand X0.here hx rfl (hb hby at_76) rfl k_) ?_
        by_cases hc77_15 : (xc &&& (1 : Int32)) = (0 : Int32)
        · refine own_Goes.via (T' := s₁) (g' := (mkF m 80 #[.val (.int xa), .val (.int xb), .val (.int xc), .val (.int xd), .val (.int v2), .val (.int (v2 - (1 : Int32))), .val (.int v6), .val (.int v7), .unset, .unset, .unset] [])) (fun t_ k_ => XS.ifNo X0.here hx rfl (hb hby at_77) rfl ((if0 _ _).trans (teq hc77_15).2) k_) ?_
          refine own_Goes.via (T' := s₁) (g' := (mkF m 81 #[.val (.int xa), .val (.int xb), .val (.int xc), .val (.int xd), .val (.int v2), .val (.int (v2 - (1 : Int32))), .val (.int v6), .val (.int v7), .unset, .unset, .unset] [(.int (0 : Int32))])) (fun t_ k_ => XS.iconst X0.here hx rfl (hb hby at_80) k_) ?_
          refine own_Goes.via (T' := s₁) (g' := (mkF m 83 #[.val (.int xa), .val (.int xb), .val (.int xc), .val (.int xd), .val (.int v2), .val (.int (v2 - (1 : Int32))), .val (.int (0 : Int32)), .val (.int v7), .unset, .unset, .unset] [])) (fun t_ k_ => XS.istore X0.here hx rfl (hb hby at_81) rfl (l' := #[.val (.int xa), .val (.int xb), .val (.int xc), .val (.int xd), .val (.int v2), .val (.int (v2 - (1 : Int32))), .val (.int (0 : Int32)), .val (.int v7), .unset, .unset, .unset]) rfl k_) ?_
          refine own_Goes.via (T' := s₁) (g' := (mkF m 110 #[.val (.int xa), .val (.int xb), .val (.int xc), .val (.int xd), .val (.int v2), .val (.int (v2 - (1 : Int32))), .val (.int (0 : Int32)), .val (.int v7), .unset, .unset, .unset] [])) (fun t_ k_ => XS.goto X0.here hx rfl (pc0 := 83) (pc' := 110) rfl (hb hby at_83) (by decide) (by decide) k_) ?_
          exact J110_12 (v2 - (1 : Int32)) (0 : Int32) (((if_neg hc37_8).trans (if_pos hc65_14))).symm (((if_neg hc37_8).trans ((if_pos hc65_14).trans (if_pos hc77_15)))).symm
        · refine own_Goes.via (T' := s₁) (g' := (mkF m 110 #[.val (.int xa), .val (.int xb), .val (.int xc), .val (.int xd), .val (.int v2), .val (.int (v2 - (1 : Int32))), .val (.int v6), .val (.int v7), .unset, .unset, .unset] [])) (fun t_ k_ => XS.ifYes X0.here hx rfl (pc0 := 77) (pc' := 110) rfl (hb hby at_77) rfl ((if0 _ _).trans (feq hc77_15).2) (by decide) (by decide) k_) ?_
          exact J110_12 (v2 - (1 : Int32)) v6 (((if_neg hc37_8).trans (if_pos hc65_14))).symm (((if_neg hc37_8).trans ((if_pos hc65_14).trans (if_neg hc77_15)))).symm
      · refine own_Goes.via (T' := s₁) (g' := (mkF m 86 #[.val (.int xa), .val (.int xb), .val (.int xc), .val (.int xd), .val (.int v2), .val (.int v4), .val (.int v6), .val (.int v7), .unset, .unset, .unset] [])) (fun t_ k_ => XS.icmpYes X0.here hx rfl (pc0 := 65) (pc' := 86) rfl (hb hby at_65) rfl (feq hc65_14).2 (by decide) (by decide) k_) ?_
        refine own_Goes.via (T' := s₁) (g' := (mkF m 88 #[.val (.int xa), .val (.int xb), .val (.int xc), .val (.int xd), .val (.int v2), .val (.int v4), .val (.int v6), .val (.int v7), .unset, .unset, .unset] [(.int v7)])) (fun t_ k_ => XS.iload X0.here hx rfl (hb hby at_86) rfl k_) ?_
        refine own_Goes.via (T' := s₁) (g' := (mkF m 89 #[.val (.int xa), .val (.int xb), .val (.int xc), .val (.int xd), .val (.int v2), .val (.int v4), .val (.int v6), .val (.int v7), .unset, .unset, .unset] [(.int (3 : Int32)), (.int v7)])) (fun t_ k_ => XS.iconst X0.here hx rfl (hb hby at_88) k_) ?_
        by_cases hc89_16 : v7 = (3 : Int32)
        · refine own_Goes.via (T' := s₁) (g' := (mkF m 92 #[.val (.int xa), .val (.int xb), .val (.int xc), .val (.int xd), .val (.int v2), .val (.int v4), .val (.int v6), .val (.int v7), .unset, .unset, .unset] [])) (fun t_ k_ => XS.icmpNo X0.here hx rfl (hb hby at_89) rfl (teq hc89_16).2 k_) ?_
          refine own_Goes.via (T' := s₁) (g' := (mkF m 94 #[.val (.int xa), .val (.int xb), .val (.int xc), .val (.int xd), .val (.int v2), .val (.int v4), .val (.int v6), .val (.int v7), .unset, .unset, .unset] [(.int v4)])) (fun t_ k_ => XS.iload X0.here hx rfl (hb hby at_92) rfl k_) ?_
          by_cases hc94_17 : v4 = (0 : Int32)
          · refine own_Goes.via (T' := s₁) (g' := (mkF m 97 #[.val (.int xa), .val (.int xb), .val (.int xc), .val (.int xd), .val (.int v2), .val (.int v4), .val (.int v6), .val (.int v7), .unset, .unset, .unset] [])) (fun t_ k_ => XS.ifNo X0.here hx rfl (hb hby at_94) rfl ((if0 _ _).trans (teq hc94_17).2) k_) ?_
            refine own_Goes.via (T' := s₁) (g' := (mkF m 99 #[.val (.int xa), .val (.int xb), .val (.int xc), .val (.int xd), .val (.int v2), .val (.int v4), .val (.int v6), .val (.int v7), .unset, .unset, .unset] [(.int v2)])) (fun t_ k_ => XS.iload X0.here hx rfl (hb hby at_97) rfl k_) ?_
            refine own_Goes.via (T' := s₁) (g' := (mkF m 100 #[.val (.int xa), .val (.int xb), .val (.int xc), .val (.int xd), .val (.int v2), .val (.int v4), .val (.int v6), .val (.int v7), .unset, .unset, .unset] [(.int (1 : Int32)), (.int v2)])) (fun t_ k_ => XS.iconst X0.here hx rfl (hb hby at_99) k_) ?_
            refine own_Goes.via (T' := s₁) (g' := (mkF m 101 #[.val (.int xa), .val (.int xb), .val (.int xc), .val (.int xd), .val (.int v2), .val (.int v4), .val (.int v6), .val (.int v7), .unset, .unset, .unset] [(.int (v2 - (1 : Int32)))])) (fun t_ k_ => XS.isub X0.here hx rfl (hb hby at_100) rfl k_) ?_
            refine own_Goes.via (T' := s₁) (g' := (mkF m 108 #[.val (.int xa), .val (.int xb), .val (.int xc), .val (.int xd), .val (.int v2), .val (.int v4), .val (.int v6), .val (.int v7), .unset, .unset, .unset] [(.int (v2 - (1 : Int32)))])) (fun t_ k_ => XS.goto X0.here hx rfl (pc0 := 101) (pc' := 108) rfl (hb hby at_101) (by decide) (by decide) k_) ?_
            refine own_Goes.via (T' := s₁) (g' := (mkF m 110 #[.val (.int xa), .val (.int xb), .val (.int xc), .val (.int xd), .val (.int v2), .val (.int v4), .val (.int (v2 - (1 : Int32))), .val (.int v7), .unset, .unset, .unset] [])) (fun t_ k_ => XS.istore X0.here hx rfl (hb hby at_108) rfl (l' := #[.val (.int xa), .val (.int xb), .val (.int xc), .val (.int xd), .val (.int v2), .val (.int v4), .val (.int (v2 - (1 : Int32))), .val (.int v7), .unset, .unset, .unset]) rfl k_) ?_
            exact J110_12 v4 (v2 - (1 : Int32)) (((if_neg hc37_8).trans (if_neg hc65_14))).symm (((if_neg hc37_8).trans ((if_neg hc65_14).trans ((if_pos hc89_16).trans (if_pos hc94_17))))).symm
          · refine own_Goes.via (T' := s₁) (g' := (mkF m 104 #[.val (.int xa), .val (.int xb), .val (.int xc), .val (.int xd), .val (.int v2), .val (.int v4), .val (.int v6), .val (.int v7), .unset, .unset, .unset] [])) (fun t_ k_ => XS.ifYes X0.here hx rfl (pc0 := 94) (pc' := 104) rfl (hb hby at_94) rfl ((if0 _ _).trans (feq hc94_17).2) (by decide) (by decide) k_) ?_
            refine own_Goes.via (T' := s₁) (g' := (mkF m 106 #[.val (.int xa), .val (.int xb), .val (.int xc), .val (.int xd), .val (.int v2), .val (.int v4), .val (.int v6), .val (.int v7), .unset, .unset, .unset] [(.int v4)])) (fun t_ k_ => XS.iload X0.here hx rfl (hb hby at_104) rfl k_) ?_
            refine own_Goes.via (T' := s₁) (g' := (mkF m 107 #[.val (.int xa), .val (.int xb), .val (.int xc), .val (.int xd), .val (.int v2), .val (.int v4), .val (.int v6), .val (.int v7), .unset, .unset, .unset] [(.int (1 : Int32)), (.int v4)])) (fun t_ k_ => XS.iconst X0.here hx rfl (hb hby at_106) k_) ?_
            refine own_Goes.via (T' := s₁) (g' := (mkF m 108 #[.val (.int xa), .val (.int xb), .val (.int xc), .val (.int xd), .val (.int v2), .val (.int v4), .val (.int v6), .val (.int v7), .unset, .unset, .unset] [(.int (v4 - (1 : Int32)))])) (fun t_ k_ => XS.isub X0.here hx rfl (hb hby at_107) rfl k_) ?_
            refine own_Goes.via (T' := s₁) (g' := (mkF m 110 #[.val (.int xa), .val (.int xb), .val (.int xc), .val (.int xd), .val (.int v2), .val (.int v4), .val (.int (v4 - (1 : Int32))), .val (.int v7), .unset, .unset, .unset] [])) (fun t_ k_ => XS.istore X0.here hx rfl (hb hby at_108) rfl (l' := #[.val (.int xa), .val (.int xb), .val (.int xc), .val (.int xd), .val (.int v2), .val (.int v4), .val (.int (v4 - (1 : Int32))), .val (.int v7), .unset, .unset, .unset]) rfl k_) ?_
            exact J110_12 v4 (v4 - (1 : Int32)) (((if_neg hc37_8).trans (if_neg hc65_14))).symm (((if_neg hc37_8).trans ((if_neg hc65_14).trans ((if_pos hc89_16).trans (if_neg hc94_17))))).symm
        · refine own_Goes.via (T' := s₁) (g' := (mkF m 110 #[.val (.int xa), .val (.int xb), .val (.int xc), .val (.int xd), .val (.int v2), .val (.int v4), .val (.int v6), .val (.int v7), .unset, .unset, .unset] [])) (fun t_ k_ => XS.icmpYes X0.here hx rfl (pc0 := 89) (pc' := 110) rfl (hb hby at_89) rfl (feq hc89_16).2 (by decide) (by decide) k_) ?_
          exact J110_12 v4 v6 (((if_neg hc37_8).trans (if_neg hc65_14))).symm (((if_neg hc37_8).trans ((if_neg hc65_14).trans (if_neg hc89_16)))).symm
  intro v110_9 v110_10 hv110_9 hv110_10
  obtain ⟨T18, h18, X18, e18, E18, A18, D18, -, st18⟩ := newO X0 hx hZ hown (hw _ (List.mem_of_getElem? (i := 2) rfl)) (hw _ (List.mem_of_getElem? (i := 3) rfl)) (hw _ (List.mem_of_getElem? (i := 4) rfl)) e0 (g := (mkF m 110 #[.val (.int xa), .val (.int xb), .val (.int xc), .val (.int xd), .val (.int v2), .val (.int v110_9), .val (.int v110_10), .val (.int v7), .unset, .unset, .unset] [])) rfl (hb hby at_110) (by decide) (by decide)
  obtain ⟨b18, g18⟩ : ∃ z, z = h0.size := ⟨_, rfl⟩
  rw [← g18] at A18 D18 st18
  have ge_b18 : n0 ≤ b18 := Nat.le_trans Z0 (Nat.le_of_eq g18.symm)
  have sz_b18 : h0.size ≤ b18 := Nat.le_trans ((Keep.refl h0 [])).1 (Nat.le_of_eq g18.symm)
  have sz18 : n0 ≤ h18.size := Nat.le_trans Z0 E18.1
  have K18 : Keep h0 h18 [] := ((Keep.refl h0 [])).ext E18
  have E19 : Exa Z h18 b18 "com/example/ogmios/ogmios/topology/Ring" := A18
  have F20 : Fld Z h18 b18 "com/example/ogmios/ogmios/topology/Ring" "nodes" "I" (.int (0 : Int32)) := D18 (Or.inr (hw _ (List.mem_of_getElem? (i := 12) rfl))) (ty := .int) (by decide)
  refine own_Goes.via (T' := T18) (g' := (mkF m 113 #[.val (.int xa), .val (.int xb), .val (.int xc), .val (.int xd), .val (.int v2), .val (.int v110_9), .val (.int v110_10), .val (.int v7), .unset, .unset, .unset] [(.ref b18)])) (st18) ?_
  refine own_Goes.via (T' := T18) (g' := (mkF m 114 #[.val (.int xa), .val (.int xb), .val (.int xc), .val (.int xd), .val (.int v2), .val (.int v110_9), .val (.int v110_10), .val (.int v7), .unset, .unset, .unset] [(.ref b18), (.ref b18)])) (fun t_ k_ => XS.dup X18.here hx rfl (hb hby at_113) rfl rfl k_) ?_
  refine own_Goes.via (T' := T18) (g' := (mkF m 116 #[.val (.int xa), .val (.int xb), .val (.int xc), .val (.int xd), .val (.int v2), .val (.int v110_9), .val (.int v110_10), .val (.int v7), .unset, .unset, .unset] [(.int v2), (.ref b18), (.ref b18)])) (fun t_ k_ => XS.iload X18.here hx rfl (hb hby at_114) rfl k_) ?_
  obtain ⟨_, _, ⟨T21, L21, k21, n21⟩, -, X21, ⟨Lc21, hQ21, l21, y21, z21⟩, st21⟩ := X18.specialBack hx (y := (⟨"com/example/ogmios/ogmios/topology/Ring", "<init>", "(I)V"⟩ : MethodName)) rfl hown (mvT hZ (hw _ (List.mem_of_getElem? (i := 5) rfl))) (mvT hZ (hw _ (List.mem_of_getElem? (i := 6) rfl))) (mvT hZ (hw _ (List.mem_of_getElem? (i := 7) rfl))) (by decide) (backOf (W := 1) (rm1 l Z a0 hw [] b18 v2 h18 n0 sz18 E19 F20 ge_b18) hZ (hw _ (List.mem_of_getElem? (i := 7) rfl)) (hw _ (List.mem_of_getElem? (i := 4) rfl)) (by decide) (by decide)) (g := (mkF m 116 #[.val (.int xa), .val (.int xb), .val (.int xc), .val (.int xd), .val (.int v2), .val (.int v110_9), .val (.int v110_10), .val (.int v7), .unset, .unset, .unset] [(.int v2), (.ref b18), (.ref b18)])) rfl (by rw [hml]; rfl) (Steps.refl _) (a := b18) (argsL := [(.int v2)]) (rest := [(.ref b18)]) (lenOf pd_0_0 rfl) rfl (by show 2 * 0 + _ ≤ _; exact Nat.le_of_eq rfl) (hb hby at_116) (fun _ _ => ⟨rfl, e18, (by decide : 1 + 0 ≤ _), (by decide : 1 + 0 ≤ _)⟩)
  dsimp only [Pt.U, Pt.locs, Pt.cells, Pt.slots] at X21 l21 y21 z21 st21 hQ21
  subst l21 y21 z21
  obtain ⟨rfl, Nq21, Kq21, pf21_0, pf21_1⟩ := hQ21
  have N21 := Fr.app N0 Nq21
  have E22 : Exa Z T21.heap b18 "com/example/ogmios/ogmios/topology/Ring" := E19.keep Kq21
  have sz21 : n0 ≤ T21.heap.size := Nat.le_trans sz18 Kq21.1
  have K21 : Keep h0 T21.heap [] := (K18).trans Kq21 (allS (Or.inr sz_b18) all0)
  refine own_Goes.via (T' := T21) (g' := (mkF m 119 #[.val (.int xa), .val (.int xb), .val (.int xc), .val (.int xd), .val (.int v2), .val (.int v110_9), .val (.int v110_10), .val (.int v7), .unset, .unset, .unset] [(.ref b18)])) (fun t_ k_ => st21.trans k_) ?_
  refine own_Goes.via (T' := T21) (g' := (mkF m 121 #[.val (.int xa), .val (.int xb), .val (.int xc), .val (.int xd), .val (.int v2), .val (.int v110_9), .val (.int v110_10), .val (.int v7), .val (.ref b18), .unset, .unset] [])) (fun t_ k_ => XS.astore X21.here hx rfl (hb hby at_119) rfl rfl (l' := #[.val (.int xa), .val (.int xb), .val (.int xc), .val (.int xd), .val (.int v2), .val (.int v110_9), .val (.int v110_10), .val (.int v7), .val (.ref b18), .unset, .unset]) rfl k_) ?_
  refine own_Goes.via (T' := T21) (g' := (mkF m 123 #[.val (.int xa), .val (.int xb), .val (.int xc), .val (.int xd), .val (.int v2), .val (.int v110_9), .val (.int v110_10), .val (.int v7), .val (.ref b18), .unset, .unset] [(.ref b18)])) (fun t_ k_ => XS.aload X21.here hx rfl (hb hby at_121) rfl rfl k_) ?_
  refine own_Goes.via (T' := T21) (g' := (mkF m 125 #[.val (.int xa), .val (.int xb), .val (.int xc), .val (.int xd), .val (.int v2), .val (.int v110_9), .val (.int v110_10), .val (.int v7), .val (.ref b18), .unset, .unset] [(.int v110_9), (.ref b18)])) (fun t_ k_ => XS.iload X21.here hx rfl (hb hby at_123) rfl k_) ?_
  refine own_Goes.via (T' := T21) (g' := (mkF m 127 #[.val (.int xa), .val (.int xb), .val (.int xc), .val (.int xd), .val (.int v2), .val (.int v110_9), .val (.int v110_10), .val (.int v7), .val (.ref b18), .unset, .unset] [(.int v110_10), (.int v110_9), (.ref b18)])) (fun t_ k_ => XS.iload X21.here hx rfl (hb hby at_125) rfl k_) ?_
  have cd127_24 : v2 ≠ (0 : Int32) := own_pl0_2 hv2 hv4 hv6 hv7 hv110_9 hv110_10 nz7_1 nz17_3 nz26_5
  obtain ⟨cq23, kq23, q23a, q23b, q23c⟩ := isOf hZ rfl pf21_0
  obtain ⟨_, _, ⟨T23, L23, k23, n23⟩, -, X23, ⟨Lc23, hQ23, l23, y23, z23⟩, st23⟩ := X21.virtualBack hx (y := (⟨"com/example/ogmios/ogmios/topology/Ring", "hasChannel", "(II)Z"⟩ : MethodName)) (z := (⟨"com/example/ogmios/ogmios/topology/Ring", "hasChannel", "(II)Z"⟩ : MethodName)) hown (mvT hZ (hw _ (List.mem_of_getElem? (i := 13) rfl))) (mvT hZ (hw _ (List.mem_of_getElem? (i := 14) rfl))) (notFace_of_selects (args := #[]) (mvT hZ (hw _ (List.mem_of_getElem? (i := 16) rfl)))) (mvT hZ (hw _ (List.mem_of_getElem? (i := 16) rfl))) (mvT hZ (hw _ (List.mem_of_getElem? (i := 15) rfl))) (by decide) (backOf (W := 0) (rm3 l Z a0 hw [] b18 v110_9 v110_10 v2 T21.heap n0 sz21 pf21_1 cd127_24) hZ (hw _ (List.mem_of_getElem? (i := 17) rfl)) (hw _ (List.mem_of_getElem? (i := 4) rfl)) (by decide) (by decide)) q23a q23c (g := (mkF m 127 #[.val (.int xa), .val (.int xb), .val (.int xc), .val (.int xd), .val (.int v2), .val (.int v110_9), .val (.int v110_10), .val (.int v7), .val (.ref b18), .unset, .unset] [(.int v110_10), (.int v110_9), (.ref b18)])) rfl (by rw [hml]; rfl) (Steps.refl _) (argsL := [(.int v110_9), (.int v110_10)]) (rest := []) (lenOf pd_0_1 rfl) rfl (by show 2 * 0 + _ ≤ _; exact Nat.le_of_eq rfl) (hb hby at_127) (fun _ _ => ⟨rfl, rfl, (by decide : 1 + 0 ≤ _), (by decide : 1 + 0 ≤ _)⟩)
  dsimp only [Pt.U, Pt.locs, Pt.cells, Pt.slots] at X23 l23 y23 z23 st23 hQ23
  subst l23 y23 z23
  obtain ⟨rfl, Nq23, hh23⟩ := hQ23
  have N23 := Fr.app N21 Nq23
  refine own_Goes.via (T' := T23) (g' := (mkF m 130 #[.val (.int xa), .val (.int xb), .val (.int xc), .val (.int xd), .val (.int v2), .val (.int v110_9), .val (.int v110_10), .val (.int v7), .val (.ref b18), .unset, .unset] [(.int (own_f3 v110_9 v110_10 v2))])) (fun t_ k_ => st23.trans k_) ?_
  obtain ⟨v25, hv25⟩ : ∃ z : Int32, z = (own_f3 v110_9 v110_10 v2) := ⟨_, rfl⟩
  rw [← hv25]
  refine own_Goes.via (T' := T23) (g' := (mkF m 132 #[.val (.int xa), .val (.int xb), .val (.int xc), .val (.int xd), .val (.int v2), .val (.int v110_9), .val (.int v110_10), .val (.int v7), .val (.ref b18), .val (.int v25), .unset] [])) (fun t_ k_ => XS.istore X23.here hx rfl (hb hby at_130) rfl (l' := #[.val (.int xa), .val (.int xb), .val (.int xc), .val (.int xd), .val (.int v2), .val (.int v110_9), .val (.int v110_10), .val (.int v7), .val (.ref b18), .val (.int v25), .unset]) rfl k_) ?_
  refine own_Goes.via (T' := T23) (g' := (mkF m 134 #[.val (.int xa), .val (.int xb), .val (.int xc), .val (.int xd), .val (.int v2), .val (.int v110_9), .val (.int v110_10), .val (.int v7), .val (.ref b18), .val (.int v25), .unset] [(.int v110_9)])) (fun t_ k_ => XS.iload X23.here hx rfl (hb hby at_132) rfl k_) ?_
  refine own_Goes.via (T' := T23) (g' := (mkF m 136 #[.val (.int xa), .val (.int xb), .val (.int xc), .val (.int xd), .val (.int v2), .val (.int v110_9), .val (.int v110_10), .val (.int v7), .val (.ref b18), .val (.int v25), .unset] [(.int v2), (.int v110_9)])) (fun t_ k_ => XS.iload X23.here hx rfl (hb hby at_134) rfl k_) ?_
  refine own_Goes.via (T' := T23) (g' := (mkF m 137 #[.val (.int xa), .val (.int xb), .val (.int xc), .val (.int xd), .val (.int v2), .val (.int v110_9), .val (.int v110_10), .val (.int v7), .val (.ref b18), .val (.int v25), .unset] [(.int (1 : Int32)), (.int v2), (.int v110_9)])) (fun t_ k_ => XS.iconst X23.here hx rfl (hb hby at_136) k_) ?_
  refine own_Goes.via (T' := T23) (g' := (mkF m 138 #[.val (.int xa), .val (.int xb), .val (.int xc), .val (.int xd), .val (.int v2), .val (.int v110_9), .val (.int v110_10), .val (.int v7), .val (.ref b18), .val (.int v25), .unset] [(.int (v2 - (1 : Int32))), (.int v110_9)])) (fun t_ k_ => XS.isub X23.here hx rfl (hb hby at_137) rfl k_) ?_
  suffices J172_29 : ∀ (v172_27 : Int32) (hv172_27 : v172_27 = (if v110_9 = (v2 - (1 : Int32)) then (if v110_10 = (0 : Int32) then (1 : Int32) else (0 : Int32)) else (if v110_10 = (v110_9 + (1 : Int32)) then (1 : Int32) else (0 : Int32)))), own_Goes p.tables e below P T23 (mkF m 172 #[.val (.int xa), .val (.int xb), .val (.int xc), .val (.int xd), .val (.int v2), .val (.int v110_9), .val (.int v110_10), .val (.int v7), .val (.ref b18), .val (.int v25), .val (.int v172_27)] []) by
    by_cases hc138_26 : v110_9 = (v2 - (1 : Int32))
    · refine own_Goes.via (T' := T23) (g' := (mkF m 141 #[.val (.int xa), .val (.int xb), .val (.int xc), .val (.int xd), .val (.int v2), .val (.int v110_9), .val (.int v110_10), .val (.int v7), .val (.ref b18), .val (.int v25), .unset] [])) (fun t_ k_ => XS.icmpNo X23.here hx rfl (hb hby at_138) rfl (teq hc138_26).2 k_) ?_
      refine own_Goes.via (T' := T23) (g' := (mkF m 143 #[.val (.int xa), .val (.int xb), .val (.int xc), .val (.int xd), .val (.int v2), .val (.int v110_9), .val (.int v110_10), .val (.int v7), .val (.ref b18), .val (.int v25), .unset] [(.int v110_10)])) (fun t_ k_ => XS.iload X23.here hx rfl (hb hby at_141) rfl k_) ?_
      by_cases hc143_30 : v110_10 = (0 : Int32)
      · refine own_Goes.via (T' := T23) (g' := (mkF m 146 #[.val (.int xa), .val (.int xb), .val (.int xc), .val (.int xd), .val (.int v2), .val (.int v110_9), .val (.int v110_10), .val (.int v7), .val (.ref b18), .val (.int v25), .unset] [])) (fun t_ k_ => XS.ifNo X23.here hx rfl (hb hby at_143) rfl ((if0 _ _).trans (teq hc143_30).2) k_) ?_
        refine own_Goes.via (T' := T23) (g' := (mkF m 147 #[.val (.int xa), .val (.int xb), .val (.int xc), .val (.int xd), .val (.int v2), .val (.int v110_9), .val (.int v110_10), .val (.int v7), .val (.ref b18), .val (.int v25), .unset] [(.int (1 : Int32))])) (fun t_ k_ => XS.iconst X23.here hx rfl (hb hby at_146) k_) ?_
        refine own_Goes.via (T' := T23) (g' := (mkF m 151 #[.val (.int xa), .val (.int xb), .val (.int xc), .val (.int xd), .val (.int v2), .val (.int v110_9), .val (.int v110_10), .val (.int v7), .val (.ref b18), .val (.int v25), .unset] [(.int (1 : Int32))])) (fun t_ k_ => XS.goto X23.here hx rfl (pc0 := 147) (pc' := 151) rfl (hb hby at_147) (by decide) (by decide) k_) ?_
        refine own_Goes.via (T' := T23) (g' := (mkF m 153 #[.val (.int xa), .val (.int xb), .val (.int xc), .val (.int xd), .val (.int v2), .val (.int v110_9), .val (.int v110_10), .val (.int v7), .val (.ref b18), .val (.int v25), .val (.int (1 : Int32))] [])) (fun t_ k_ => XS.istore X23.here hx rfl (hb hby at_151) rfl (l' := #[.val (.int xa), .val (.int xb), .val (.int xc), .val (.int xd), .val (.int v2), .val (.int v110_9), .val (.int v110_10), .val (.int v7), .val (.ref b18), .val (.int v25), .val (.int (1 : Int32))]) rfl k_) ?_
        refine own_Goes.via (T' := T23) (g' := (mkF m 172 #[.val (.int xa), .val (.int xb), .val (.int xc), .val (.int xd), .val (.int v2), .val (.int v110_9), .val (.int v110_10), .val (.int v7), .val (.ref b18), .val (.int v25), .val (.int (1 : Int32))] [])) (fun t_ k_ => XS.goto X23.here hx rfl (pc0 := 153) (pc' := 172) rfl (hb hby at_153) (by decide) (by decide) k_) ?_
        exact J172_29 (1 : Int32) (((if_pos hc138_26).trans (if_pos hc143_30))).symm
      · refine own_Goes.via (T' := T23) (g' := (mkF m 150 #[.val (.int xa), .val (.int xb), .val (.int xc), .val (.int xd), .val (.int v2), .val (.int v110_9), .val (.int v110_10), .val (.int v7), .val (.ref b18), .val (.int v25), .unset] [])) (fun t_ k_ => XS.ifYes X23.here hx rfl (pc0 := 143) (pc' := 150) rfl (hb hby at_143) rfl ((if0 _ _).trans (feq hc143_30).2) (by decide) (by decide) k_) ?_
        refine own_Goes.via (T' := T23) (g' := (mkF m 151 #[.val (.int xa), .val (.int xb), .val (.int xc), .val (.int xd), .val (.int v2), .val (.int v110_9), .val (.int v110_10), .val (.int v7), .val (.ref b18), .val (.int v25), .unset] [(.int (0 : Int32))])) (fun t_ k_ => XS.iconst X23.here hx rfl (hb hby at_150) k_) ?_
        refine own_Goes.via (T' := T23) (g' := (mkF m 153 #[.val (.int xa), .val (.int xb), .val (.int xc), .val (.int xd), .val (.int v2), .val (.int v110_9), .val (.int v110_10), .val (.int v7), .val (.ref b18), .val (.int v25), .val (.int (0 : Int32))] [])) (fun t_ k_ => XS.istore X23.here hx rfl (hb hby at_151) rfl (l' := #[.val (.int xa), .val (.int xb), .val (.int xc), .val (.int xd), .val (.int v2), .val (.int v110_9), .val (.int v110_10), .val (.int v7), .val (.ref b18), .val (.int v25), .val (.int (0 : Int32))]) rfl k_) ?_
        refine own_Goes.via (T' := T23) (g' := (mkF m 172 #[.val (.int xa), .val (.int xb), .val (.int xc), .val (.int xd), .val (.int v2), .val (.int v110_9), .val (.int v110_10), .val (.int v7), .val (.ref b18), .val (.int v25), .val (.int (0 : Int32))] [])) (fun t_ k_ => XS.goto X23.here hx rfl (pc0 := 153) (pc' := 172) rfl (hb hby at_153) (by decide) (by decide) k_) ?_
        exact J172_29 (0 : Int32) (((if_pos hc138_26).trans (if_neg hc143_30))).symm
    · refine own_Goes.via (T' := T23) (g' := (mkF m 156 #[.val (.int xa), .val (.int xb), .val (.int xc), .val (.int xd), .val (.int v2), .val (.int v110_9), .val (.int v110_10), .val (.int v7), .val (.ref b18), .val (.int v25), .unset] [])) (fun t_ k_ => XS.icmpYes X23.here hx rfl (pc0 := 138) (pc' := 156) rfl (hb hby at_138) rfl (feq hc138_26).2 (by decide) (by decide) k_) ?_
      refine own_Goes.via (T' := T23) (g' := (mkF m 158 #[.val (.int xa), .val (.int xb), .val (.int xc), .val (.int xd), .val (.int v2), .val (.int v110_9), .val (.int v110_10), .val (.int v7), .val (.ref b18), .val (.int v25), .unset] [(.int v110_10)])) (fun t_ k_ => XS.iload X23.here hx rfl (hb hby at_156) rfl k_) ?_
      refine own_Goes.via (T' := T23) (g' := (mkF m 160 #[.val (.int xa), .val (.int xb), .val (.int xc), .val (.int xd), .val (.int v2), .val (.int v110_9), .val (.int v110_10), .val (.int v7), .val (.ref b18), .val (.int v25), .unset] [(.int v110_9), (.int v110_10)])) (fun t_ k_ => XS.iload X23.here hx rfl (hb hby at_158) rfl k_) ?_
      refine own_Goes.via (T' := T23) (g' := (mkF m 161 #[.val (.int xa), .val (.int xb), .val (.int xc), .val (.int xd), .val (.int v2), .val (.int v110_9), .val (.int v110_10), .val (.int v7), .val (.ref b18), .val (.int v25), .unset] [(.int (1 : Int32)), (.int v110_9), (.int v110_10)])) (fun t_ k_ => XS.iconst X23.here hx rfl (hb hby at_160) k_) ?_
      refine own_Goes.via (T' := T23) (g' := (mkF m 162 #[.val (.int xa), .val (.int xb), .val (.int xc), .val (.int xd), .val (.int v2), .val (.int v110_9), .val (.int v110_10), .val (.int v7), .val (.ref b18), .val (.int v25), .unset] [(.int (v110_9 + (1 : Int32))), (.int v110_10)])) (fun t_ k_ => XS.iadd X23.here hx rfl (hb hby at_161) rfl k_) ?_
      by_cases hc162_31 : v110_10 = (v110_9 + (1 : Int32))
      · refine own_Goes.via (T' := T23) (g' := (mkF m 165 #[.val (.int xa), .val (.int xb), .val (.int xc), .val (.int xd), .val (.int v2), .val (.int v110_9), .val (.int v110_10), .val (.int v7), .val (.ref b18), .val (.int v25), .unset] [])) (fun t_ k_ => XS.icmpNo X23.here hx rfl (hb hby at_162) rfl (teq hc162_31).2 k_) ?_
        refine own_Goes.via (T' := T23) (g' := (mkF m 166 #[.val (.int xa), .val (.int xb), .val (.int xc), .val (.int xd), .val (.int v2), .val (.int v110_9), .val (.int v110_10), .val (.int v7), .val (.ref b18), .val (.int v25), .unset] [(.int (1 : Int32))])) (fun t_ k_ => XS.iconst X23.here hx rfl (hb hby at_165) k_) ?_
        refine own_Goes.via (T' := T23) (g' := (mkF m 170 #[.val (.int xa), .val (.int xb), .val (.int xc), .val (.int xd), .val (.int v2), .val (.int v110_9), .val (.int v110_10), .val (.int v7), .val (.ref b18), .val (.int v25), .unset] [(.int (1 : Int32))])) (fun t_ k_ => XS.goto X23.here hx rfl (pc0 := 166) (pc' := 170) rfl (hb hby at_166) (by decide) (by decide) k_) ?_
        refine own_Goes.via (T' := T23) (g' := (mkF m 172 #[.val (.int xa), .val (.int xb), .val (.int xc), .val (.int xd), .val (.int v2), .val (.int v110_9), .val (.int v110_10), .val (.int v7), .val (.ref b18), .val (.int v25), .val (.int (1 : Int32))] [])) (fun t_ k_ => XS.istore X23.here hx rfl (hb hby at_170) rfl (l' := #[.val (.int xa), .val (.int xb), .val (.int xc), .val (.int xd), .val (.int v2), .val (.int v110_9), .val (.int v110_10), .val (.int v7), .val (.ref b18), .val (.int v25), .val (.int (1 : Int32))]) rfl k_) ?_
        exact J172_29 (1 : Int32) (((if_neg hc138_26).trans (if_pos hc162_31))).symm
      · refine own_Goes.via (T' := T23) (g' := (mkF m 169 #[.val (.int xa), .val (.int xb), .val (.int xc), .val (.int xd), .val (.int v2), .val (.int v110_9), .val (.int v110_10), .val (.int v7), .val (.ref b18), .val (.int v25), .unset] [])) (fun t_ k_ => XS.icmpYes X23.here hx rfl (pc0 := 162) (pc' := 169) rfl (hb hby at_162) rfl (feq hc162_31).2 (by decide) (by decide) k_) ?_
        refine own_Goes.via (T' := T23) (g' := (mkF m 170 #[.val (.int xa), .val (.int xb), .val (.int xc), .val (.int xd), .val (.int v2), .val (.int v110_9), .val (.int v110_10), .val (.int v7), .val (.ref b18), .val (.int v25), .unset] [(.int (0 : Int32))])) (fun t_ k_ => XS.iconst X23.here hx rfl (hb hby at_169) k_) ?_
        refine own_Goes.via (T' := T23) (g' := (mkF m 172 #[.val (.int xa), .val (.int xb), .val (.int xc), .val (.int xd), .val (.int v2), .val (.int v110_9), .val (.int v110_10), .val (.int v7), .val (.ref b18), .val (.int v25), .val (.int (0 : Int32))] [])) (fun t_ k_ => XS.istore X23.here hx rfl (hb hby at_170) rfl (l' := #[.val (.int xa), .val (.int xb), .val (.int xc), .val (.int xd), .val (.int v2), .val (.int v110_9), .val (.int v110_10), .val (.int v7), .val (.ref b18), .val (.int v25), .val (.int (0 : Int32))]) rfl k_) ?_
        exact J172_29 (0 : Int32) (((if_neg hc138_26).trans (if_neg hc162_31))).symm
  intro v172_27 hv172_27
  refine own_Goes.via (T' := T23) (g' := (mkF m 174 #[.val (.int xa), .val (.int xb), .val (.int xc), .val (.int xd), .val (.int v2), .val (.int v110_9), .val (.int v110_10), .val (.int v7), .val (.ref b18), .val (.int v25), .val (.int v172_27)] [(.int v25)])) (fun t_ k_ => XS.iload X23.here hx rfl (hb hby at_172) rfl k_) ?_
  refine own_Goes.via (T' := T23) (g' := (mkF m 176 #[.val (.int xa), .val (.int xb), .val (.int xc), .val (.int xd), .val (.int v2), .val (.int v110_9), .val (.int v110_10), .val (.int v7), .val (.ref b18), .val (.int v25), .val (.int v172_27)] [(.int v172_27), (.int v25)])) (fun t_ k_ => XS.iload X23.here hx rfl (hb hby at_174) rfl k_) ?_
  suffices J184_35 : ∀ (v184_33 : Int32) (hv184_33 : v184_33 = (if v25 = v172_27 then (1 : Int32) else (0 : Int32))), own_Goes p.tables e below P T23 (mkF m 184 #[.val (.int xa), .val (.int xb), .val (.int xc), .val (.int xd), .val (.int v2), .val (.int v110_9), .val (.int v110_10), .val (.int v7), .val (.ref b18), .val (.int v25), .val (.int v172_27)] [(.int v184_33)]) by
    by_cases hc176_32 : v25 = v172_27
    · refine own_Goes.via (T' := T23) (g' := (mkF m 179 #[.val (.int xa), .val (.int xb), .val (.int xc), .val (.int xd), .val (.int v2), .val (.int v110_9), .val (.int v110_10), .val (.int v7), .val (.ref b18), .val (.int v25), .val (.int v172_27)] [])) (fun t_ k_ => XS.icmpNo X23.here hx rfl (hb hby at_176) rfl (teq hc176_32).2 k_) ?_
      refine own_Goes.via (T' := T23) (g' := (mkF m 180 #[.val (.int xa), .val (.int xb), .val (.int xc), .val (.int xd), .val (.int v2), .val (.int v110_9), .val (.int v110_10), .val (.int v7), .val (.ref b18), .val (.int v25), .val (.int v172_27)] [(.int (1 : Int32))])) (fun t_ k_ => XS.iconst X23.here hx rfl (hb hby at_179) k_) ?_
      refine own_Goes.via (T' := T23) (g' := (mkF m 184 #[.val (.int xa), .val (.int xb), .val (.int xc), .val (.int xd), .val (.int v2), .val (.int v110_9), .val (.int v110_10), .val (.int v7), .val (.ref b18), .val (.int v25), .val (.int v172_27)] [(.int (1 : Int32))])) (fun t_ k_ => XS.goto X23.here hx rfl (pc0 := 180) (pc' := 184) rfl (hb hby at_180) (by decide) (by decide) k_) ?_
      exact J184_35 (1 : Int32) ((if_pos hc176_32)).symm
    · refine own_Goes.via (T' := T23) (g' := (mkF m 183 #[.val (.int xa), .val (.int xb), .val (.int xc), .val (.int xd), .val (.int v2), .val (.int v110_9), .val (.int v110_10), .val (.int v7), .val (.ref b18), .val (.int v25), .val (.int v172_27)] [])) (fun t_ k_ => XS.icmpYes X23.here hx rfl (pc0 := 176) (pc' := 183) rfl (hb hby at_176) rfl (feq hc176_32).2 (by decide) (by decide) k_) ?_
      refine own_Goes.via (T' := T23) (g' := (mkF m 184 #[.val (.int xa), .val (.int xb), .val (.int xc), .val (.int xd), .val (.int v2), .val (.int v110_9), .val (.int v110_10), .val (.int v7), .val (.ref b18), .val (.int v25), .val (.int v172_27)] [(.int (0 : Int32))])) (fun t_ k_ => XS.iconst X23.here hx rfl (hb hby at_183) k_) ?_
      exact J184_35 (0 : Int32) ((if_neg hc176_32)).symm
  intro v184_33 hv184_33
  have hfin : v184_33 = 1 := own_pl0_3 hv2 hv4 hv6 hv7 hv110_9 hv110_10 hv25 hv172_27 hv184_33 nz7_1 nz17_3 nz26_5 cd127_24
  rw [hfin]
  obtain ⟨fs, hr, hrun, hended, hW, hsame⟩ := X23.leave (v := some (.int 1)) (fun h => by rw [Bd.returns] at h; cases h)
  refine own_Goes.fin (retN X23 hx (t := .boolean) Bd.returns (by simp) (hb hby at_184) hr) hrun hended ?_
  subst hPd
  refine ⟨_, _, rfl, ?_, ⟨_, rfl⟩, hW, hsame.mono (by decide) (by decide)⟩
  show Q0 Z xa xb xc xd h0 n0 _ T23.heap _
  rw [hh23]
  exact ⟨rfl, N23⟩
set_option maxRecDepth 65536 in
set_option maxHeartbeats 40000000 in
theorem comes_1 {Post : Tables → Env → Array Value → State → Outcome → State → Prop} (hpost : ∀ tb e args s v u, (limb_1_1.after args s (.returned v) u = true ∧ limb_1_2.after args s (.returned v) u = true ∧ True) → FrameEnd s (.returned v) u (Jvm.fieldLocs frame_1_writes args s ++ Jvm.arrayLocs frame_1_arrays args s ++ Jvm.staticLocs frame_1_statics s) 16 128 → Post tb e args s (.returned v) u) :
    ArmFor flags0 classFile x code maxLocals ret World_1 tables_1 room_1 Calls_1 rest_1 Pre_1 Post := by
  intro l hfl _ _ p e ha hc hk s m args below hf hA hF happ hP
  obtain ⟨hcalls, hrest, hpre⟩ := hP
  obtain ⟨-, -, -, hnamed, -, -, -, hat⟩ := (Spec.applies_iff hf).mp happ
  obtain ⟨hg, hn⟩ := and_e (Cond.before_iff.mp (show (Jvm.Cond.and given_1 narrow_1).before args s = true from hpre))
  obtain ⟨g1, g2⟩ := and_e hg
  obtain ⟨g3, g4⟩ := and_e g2
  obtain ⟨g5, g6⟩ := and_e g4
  obtain ⟨g7, g8⟩ := and_e g6
  obtain ⟨w0, w1, w2, w3, rfl⟩ : ∃ w0 w1 w2 w3 : Value, args = #[w0, w1, w2, w3] := by
    have hs : args.size = 4 := by simpa [Cond.value, given_1] using g1
    obtain ⟨L⟩ := args
    match L, hs with
    | [w0, w1, w2, w3], _ => exact ⟨w0, w1, w2, w3, rfl⟩
  have hw := fun d (hd : d ∈ tables_1) => atoms_spec (ws := Jvm.Cond.code x code maxLocals ret :: tables_1) hat d (List.mem_cons_of_mem _ hd)
  have hfit : Fit s := fun {y c} hc i hi => by
    obtain ⟨ha, rfl⟩ := Array.getElem?_eq_some_iff.mp hc
    have q := List.all_eq_true.mp ((Array.all_eq_true_iff_forall_mem.mp hF) _ (Array.getElem_mem ha)) i (List.mem_range.mpr hi)
    simpa [Array.getElem?_eq_getElem hi] using q
  obtain ⟨i0, ei0⟩ := is_v g3
  obtain rfl : w0 = (.int i0) := Option.some.inj ei0
  obtain ⟨i1, ei1⟩ := is_v g5
  obtain rfl : w1 = (.int i1) := Option.some.inj ei1
  obtain ⟨i2, ei2⟩ := is_v g7
  obtain rfl : w2 = (.int i2) := Option.some.inj ei2
  obtain ⟨i3, ei3⟩ := is_v g8
  obtain rfl : w3 = (.int i3) := Option.some.inj ei3
  obtain ⟨n, o, h1, h2, h3, _, L, rfl, ⟨rfl, N⟩, hq⟩ := rm0 l s _ hw tables_1 i0 i1 i2 i3  s.heap s.heap.size (Nat.le_refl _)  p e ha hc hk s m _ below hf ((Spec.applies_iff_loose hf).mp happ).1 ⟨rfl, State.Warmed39.refl s, rfl⟩ trivial
  refine ⟨n, _, h1, h2, h3, hpost _ _ _ _ _ _ ⟨Cond.after_iff.mpr rfl, Cond.after_iff.mpr (eq_i res_at (Term.int_eval (1)) rfl), trivial⟩ ⟨hq.1, hq.2.1, (hq.2.2.sift fun y hy => Or.inr (N y hy)).mono (by decide) (by decide)⟩⟩
theorem main_1_1 : Claimed_1_1 := comes_1 fun _ _ _ _ _ _ h hF => ⟨h.1, hF⟩
theorem main_1_2 : Claimed_1_2 := comes_1 fun _ _ _ _ _ _ h hF => ⟨h.2.1, hF⟩
end Jvm.Pilot.@@N@@
namespace Jvm.Pilot.@@N@@
open Jvm Jvm.ClassFile Sem Op Lib Jvm.Free Jvm.Stand Jvm.Pilot.@@N@@.Jvm.D
/-! MADE BY PROGRAM (witnessworld.py) out of the Statement's table words and the real class files: 10 classes; the members and pool entries that the words name. The judged class is class 1, her method 1. -/
namespace start1
open Jvm.ClassFile
def u (s : String) : CpInfo := .utf8 (stringToUtf16 s)
/-- a pool by its gaps: so many unusable entries, then the entry; so many at the end -/
def gap : Nat → List CpInfo → List CpInfo
  | 0, r => r
  | n + 1, r => .unusable :: gap n r
def poolList (es : List (Nat × CpInfo)) (last : Nat) : List CpInfo := es.foldr (fun e r => gap e.1 (e.2 :: r)) (gap last [])
def pool (es : List (Nat × CpInfo)) (last : Nat) : Array CpInfo := ⟨poolList es last⟩
def fileOf (pool : Array CpInfo) (this : Nat) (attrs : Array Attribute := #[]) (ms : Array MethodInfo := #[]) (fl : Nat := 33) (sup : Nat := 0) (ifs : Array Nat := #[]) (fds : Array FieldInfo := #[]) : ClassFile where
  minorVersion := 0
  majorVersion := 65
  constantPool := pool
  accessFlags := fl
  thisClass := this
  superClass := sup
  interfaces := ifs
  fields := fds
  methods := ms
  attributes := attrs
def plain (name : String) (sup : Option ClassId) : Class where
  name := name
  kind := .ordinary
  loader := none
  accessFlags := 33
  super := sup
  interfaces := #[]
  cf := none
  fields := #[]
  methods := #[]
  instanceTypes := #[]
  staticTypes := #[]
  resolved := #[]
  callSites := []
  init := .initialized
  statics := none
  mirror := none

def pool0 : Array CpInfo := pool [(5, u "<init>"), (0, u "()V"), (1, .class_ 10), (1, u "java/lang/Object")] 113

def k0c0 : Code := { maxStack := 0, maxLocals := 1, code := object_method_1_code, exceptionTable := #[], attributes := #[] }
def k0m0 : Method := { name := "<init>", desc := "()V", sig := { parameters := [], returnType := none }, accessFlags := 1, code := some k0c0 }
/-- java/lang/Object -/
def k0 : Class := { plain "java/lang/Object" none with
  accessFlags := 33
  interfaces := #[]
  cf := some (fileOf pool0 8 #[] #[{ accessFlags := 1, nameIndex := 5, descriptorIndex := 6, attributes := #[] }] 33 0 #[] #[])
  fields := #[]
  methods := #[k0m0]
  instanceTypes := #[]
  staticTypes := #[]
  resolved := Array.replicate 124 none
  statics := none }

def pool1 : Array CpInfo := pool [(2, .class_ 4), (1, u "java/lang/Object"), (0, u "<init>"), (0, u "()V"), (0, .integer 2147483647), (0, .integer 2147483646), (0, .class_ 10), (0, u "com/example/ogmios/ogmios/topology/Ring"), (0, .methodref 9 12), (0, .nameAndType 5 13), (0, u "(I)V"), (0, .methodref 9 15), (0, .nameAndType 16 17), (0, u "hasChannel"), (0, u "(II)Z"), (0, .class_ 19), (0, u "com/example/ogmios/ogmios/topology/RingHasChannelPinLaw"), (2, u "law"), (0, u "(IIII)Z")] 3

def k1m0 : Method := { name := "<init>", desc := "()V", sig := { parameters := [], returnType := none }, accessFlags := 1, code := none }
def k1c1 : Code := { maxStack := 3, maxLocals := 11, code := code, exceptionTable := #[], attributes := #[] }
def k1m1 : Method := { name := "law", desc := "(IIII)Z", sig := { parameters := [.int, .int, .int, .int], returnType := some .boolean }, accessFlags := 9, code := some k1c1 }
/-- com/example/ogmios/ogmios/topology/RingHasChannelPinLaw -/
def k1 : Class := { plain "com/example/ogmios/ogmios/topology/RingHasChannelPinLaw" (some 0) with
  accessFlags := 49
  interfaces := #[]
  cf := some (fileOf pool1 18 #[] #[{ accessFlags := 1, nameIndex := 5, descriptorIndex := 6, attributes := #[] }, { accessFlags := 9, nameIndex := 22, descriptorIndex := 23, attributes := #[] }] 49 2 #[] #[])
  fields := #[]
  methods := #[k1m0, k1m1]
  instanceTypes := #[]
  staticTypes := #[]
  resolved := Array.replicate 27 none
  statics := none }

def pool2 : Array CpInfo := pool [(1, .class_ 2), (0, u "com/example/ogmios/ogmios/topology/Topology"), (0, .class_ 4), (0, u "java/lang/Object")] 10

/-- com/example/ogmios/ogmios/topology/Topology -/
def k2 : Class := { plain "com/example/ogmios/ogmios/topology/Topology" (some 0) with
  accessFlags := 1537
  interfaces := #[]
  cf := some (fileOf pool2 1 #[] #[] 1537 3 #[] #[])
  fields := #[]
  methods := #[]
  instanceTypes := #[]
  staticTypes := #[]
  resolved := Array.replicate 15 none
  statics := none }

def pool3 : Array CpInfo := pool [(1, .methodref 2 3), (0, .class_ 4), (0, .nameAndType 5 6), (0, u "java/lang/Object"), (0, u "<init>"), (0, u "()V"), (0, .fieldref 8 9), (0, .class_ 10), (0, .nameAndType 11 12), (0, u "com/example/ogmios/ogmios/topology/Ring"), (0, u "nodes"), (0, u "I"), (14, .class_ 28), (0, u "com/example/ogmios/ogmios/topology/Topology"), (0, u "(I)V"), (2, u "hasChannel"), (0, u "(II)Z")] 11

def k3c0 : Code := { maxStack := 2, maxLocals := 2, code := prog_52_method_1_code, exceptionTable := #[], attributes := #[] }
def k3m0 : Method := { name := "<init>", desc := "(I)V", sig := { parameters := [.int], returnType := none }, accessFlags := 1, code := some k3c0 }
def k3c1 : Code := { maxStack := 3, maxLocals := 3, code := prog_52_method_2_code, exceptionTable := #[], attributes := #[] }
def k3m1 : Method := { name := "hasChannel", desc := "(II)Z", sig := { parameters := [.int, .int], returnType := some .boolean }, accessFlags := 1, code := some k3c1 }
/-- com/example/ogmios/ogmios/topology/Ring -/
def k3 : Class := { plain "com/example/ogmios/ogmios/topology/Ring" (some 0) with
  accessFlags := 33
  interfaces := #[2]
  cf := some (fileOf pool3 8 #[] #[{ accessFlags := 1, nameIndex := 5, descriptorIndex := 29, attributes := #[] }, { accessFlags := 1, nameIndex := 32, descriptorIndex := 33, attributes := #[] }] 33 2 #[27] #[{ accessFlags := 18, nameIndex := 11, descriptorIndex := 12, attributes := #[] }])
  fields := #[{ name := "nodes", type := .int, accessFlags := 18, slot := 0, constantValue := 0 }]
  methods := #[k3m0, k3m1]
  instanceTypes := #[.int]
  staticTypes := #[]
  resolved := Array.replicate 45 none
  statics := none }

def pool4 : Array CpInfo := pool [(1, u "java/lang/Cloneable"), (0, .class_ 1), (0, u "java/lang/Object"), (0, .class_ 3)] 3

/-- java/lang/Cloneable -/
def k4 : Class := { plain "java/lang/Cloneable" (some 0) with
  accessFlags := 1537
  interfaces := #[]
  cf := some (fileOf pool4 2 #[] #[] 1537 4 #[] #[])
  fields := #[]
  methods := #[]
  instanceTypes := #[]
  staticTypes := #[]
  resolved := Array.replicate 8 none
  statics := none }

def pool5 : Array CpInfo := pool [(1, u "java/io/Serializable"), (0, .class_ 1), (0, u "java/lang/Object"), (0, .class_ 3)] 3

/-- java/io/Serializable -/
def k5 : Class := { plain "java/io/Serializable" (some 0) with
  accessFlags := 1537
  interfaces := #[]
  cf := some (fileOf pool5 2 #[] #[] 1537 4 #[] #[])
  fields := #[]
  methods := #[]
  instanceTypes := #[]
  staticTypes := #[]
  resolved := Array.replicate 8 none
  statics := none }

/-- the primitive byte -/
def k6 : Class := { plain "byte" none with kind := .primitive 'B', accessFlags := 0x411 }
/-- [B -/
def k7 : Class := { plain "[B" (some 0) with kind := .array 6 .byte, interfaces := #[4, 5], accessFlags := 1041 }

/-- the primitive int -/
def k8 : Class := { plain "int" none with kind := .primitive 'I', accessFlags := 0x411 }
/-- [I -/
def k9 : Class := { plain "[I" (some 0) with kind := .array 8 .int, interfaces := #[4, 5], accessFlags := 1041 }

def heap : Heap := #[]
def classes : Array Class := #[k0, k1, k2, k3, k4, k5, k6, k7, k8, k9]
def interned : List (Array UInt16 × Addr) := []
def slotsUsed : Nat := 0
def theMethod : MethodId := ⟨1, 1⟩
def args0 : Array Value := #[.int 5, .int 1, .int 7, .int 2]
def aboutOver (below : List Frame) : State where
  vm := { classes := classes, interned := interned.toArray }
  heap := heap
  slotsUsed := slotsUsed
  threads := #[{ frames := .invoking theMethod args0 :: below }]
def below0 : List Frame := [.native { method := ⟨0, 0⟩, args := #[] }]
def about1 : State := aboutOver below0
def p0 : Program := .bare "" "" ""
def e0 : Env := launch0.env 0 0 0
theorem w_frames : about1.frames = Frame.invoking theMethod args0 :: below0 := rfl
set_option maxRecDepth 65536 in
theorem w_args : argsFit about1.vm theMethod args0 = true := by decide +kernel
set_option maxRecDepth 65536 in
theorem w_heap : heapFits about1 = true := by decide +kernel
set_option maxRecDepth 65536 in
theorem w_runnable : about1.curStatus? = some .runnable := by decide +kernel
set_option maxRecDepth 65536 in
theorem w_alone : about1.alone = true := by decide +kernel
set_option maxRecDepth 65536 in
theorem w_named : about1.methodNamed? x = some theMethod := by decide +kernel
set_option maxRecDepth 65536 in
theorem w_hears : about1.hears theMethod below0 = true := by decide +kernel
set_option maxRecDepth 65536 in
theorem w_ripe : about1.ripe theMethod args0 below0 = true := by decide +kernel
theorem w_running : about1.status = .running := rfl
set_option maxRecDepth 65536 in
theorem w_room : about1.hasRoom e0.platform room_1 = true :=
  launch0.hasRoom_least _ room_1 (by decide +kernel) (by decide +kernel) (by decide +kernel) (by decide +kernel) (by decide +kernel) (by decide +kernel)
theorem allAtoms_all (ts : List Jvm.Cond) (a : Array Jvm.Value) (st : Jvm.State) : (allAtoms ts).before a st = ts.all (fun c => c.before a st) := by
  induction ts with
  | nil => rfl
  | cons c t ih =>
    show (Jvm.Cond.and c (allAtoms t)).before a st = _
    rw [Jvm.Cond.before_and, ih, List.all_cons]
def words1 : List Jvm.Cond := Jvm.Cond.code x code maxLocals ret :: tables_1
/-- a 'code' word, met by the world's own term for the bytes: nothing is compared byte by byte -/
theorem code_word {y : MethodName} {bytes : ByteArray} {mx : Nat} {rt : Option FieldType} {a : Array Value} {s : State} {m : MethodId} {meth : Method} {c : Code} (h1 : s.methodNamed? y = some m) (h2 : s.vm.method? m = some meth) (h3 : meth.code = some c) (h4 : c.code = bytes)
    (h5 : (c.maxLocals == mx && c.exceptionTable.isEmpty && decide (c.maxStack ≤ mostOperands) && decide (meth.sig.returnType = rt) && !meth.locks && decide (parseMethodDescriptor y.desc = some meth.sig)) = true) : (Jvm.Cond.code y bytes mx rt).before a s = true := by
  simp only [Bool.and_eq_true, beq_iff_eq, Bool.not_eq_true', decide_eq_true_eq] at h5
  obtain ⟨⟨⟨⟨⟨g1, g2⟩, g3⟩, g4⟩, g5⟩, g6⟩ := h5
  simp [Cond.before, Cond.holds, Cond.value, h1, h2, h3, h4, g1, g2, g3, g4, g5, g6]
def isCode : Jvm.Cond → Bool
  | .code _ _ _ _ => true
  | _ => false
theorem all_split {L : List Jvm.Cond} {P : Jvm.Cond → Bool} (h1 : L.all (fun c => isCode c || P c) = true) (h2 : ∀ c ∈ L.filter isCode, P c = true) : L.all P = true := by
  refine List.all_eq_true.mpr fun c hc => ?_
  have h := List.all_eq_true.mp h1 c hc
  rcases Bool.eq_false_or_eq_true (isCode c) with hi | hi
  · exact h2 c (List.mem_filter.mpr ⟨hc, hi⟩)
  · simpa [hi] using h
set_option maxRecDepth 65536 in
theorem w_c0 : (Jvm.Cond.code x code maxLocals ret).before args0 about1 = true := code_word (m := ⟨1, 1⟩) (meth := k1m1) (c := k1c1) (by decide +kernel) rfl rfl rfl (by decide +kernel)
set_option maxRecDepth 65536 in
theorem w_c1 : (Jvm.Cond.code ({ cls := "com/example/ogmios/ogmios/topology/Ring", name := "<init>", desc := "(I)V" } : Jvm.MethodName) prog_52_method_1_code (2 : Nat) (Option.none : Option Jvm.ClassFile.FieldType)).before args0 about1 = true := code_word (m := ⟨3, 0⟩) (meth := k3m0) (c := k3c0) (by decide +kernel) rfl rfl rfl (by decide +kernel)
set_option maxRecDepth 65536 in
theorem w_c2 : (Jvm.Cond.code ({ cls := "java/lang/Object", name := "<init>", desc := "()V" } : Jvm.MethodName) object_method_1_code (1 : Nat) (Option.none : Option Jvm.ClassFile.FieldType)).before args0 about1 = true := code_word (m := ⟨0, 0⟩) (meth := k0m0) (c := k0c0) (by decide +kernel) rfl rfl rfl (by decide +kernel)
set_option maxRecDepth 65536 in
theorem w_c3 : (Jvm.Cond.code ({ cls := "com/example/ogmios/ogmios/topology/Ring", name := "hasChannel", desc := "(II)Z" } : Jvm.MethodName) prog_52_method_2_code (3 : Nat) (Option.some Jvm.ClassFile.FieldType.boolean)).before args0 about1 = true := code_word (m := ⟨3, 1⟩) (meth := k3m1) (c := k3c1) (by decide +kernel) rfl rfl rfl (by decide +kernel)
def codes1 : List Jvm.Cond := [Jvm.Cond.code x code maxLocals ret, Jvm.Cond.code ({ cls := "com/example/ogmios/ogmios/topology/Ring", name := "<init>", desc := "(I)V" } : Jvm.MethodName) prog_52_method_1_code (2 : Nat) (Option.none : Option Jvm.ClassFile.FieldType), Jvm.Cond.code ({ cls := "java/lang/Object", name := "<init>", desc := "()V" } : Jvm.MethodName) object_method_1_code (1 : Nat) (Option.none : Option Jvm.ClassFile.FieldType), Jvm.Cond.code ({ cls := "com/example/ogmios/ogmios/topology/Ring", name := "hasChannel", desc := "(II)Z" } : Jvm.MethodName) prog_52_method_2_code (3 : Nat) (Option.some Jvm.ClassFile.FieldType.boolean)]
set_option maxRecDepth 65536 in
theorem codes_eq : words1.filter isCode = codes1 := rfl
theorem w_codes : ∀ c ∈ words1.filter isCode, c.before args0 about1 = true := by
  rw [codes_eq]
  intro c hc
  simp only [codes1, List.mem_cons, List.not_mem_nil, or_false] at hc
  rcases hc with rfl | rfl | rfl | rfl
  · exact w_c0
  · exact w_c1
  · exact w_c2
  · exact w_c3
set_option maxRecDepth 65536 in
theorem w_t1 : words1.all (fun c => isCode c || c.before args0 about1) = true := by decide +kernel
theorem w_tables : (allAtoms (Jvm.Cond.code x code maxLocals ret :: tables_1)).before args0 about1 = true := by
  rw [allAtoms_all]
  show words1.all (fun c => c.before args0 about1) = true
  refine all_split ?_ w_codes
  rw [w_t1]
set_option maxRecDepth 65536 in
theorem w_case : (Jvm.Cond.and given_1 narrow_1).before args0 about1 = true := by decide +kernel
theorem w_applies : (headSpec (Jvm.Cond.code x code maxLocals ret :: tables_1) room_1).applies x e0.platform about1 = true :=
  (Spec.applies_iff w_frames).mpr ⟨w_running, w_runnable, w_alone, w_named, w_hears, w_ripe, w_room, w_tables⟩
theorem atStart : AtStart classFile x code maxLocals ret World_1 tables_1 room_1 Calls_1 rest_1 Pre_1 launch0 p0 e0 about1 theMethod args0 below0 :=
  ⟨lists_1, trivial, launch0.admits_env _ _ _, launch0.least_env, fairChoices_fair.cas, fairChoices_fair.clock, w_frames, w_args, w_heap, w_applies, trivial, trivial, w_case⟩
end start1
theorem witness_1 : WitnessClaimed_1 := ⟨start1.p0, start1.e0, start1.about1, start1.theMethod, start1.args0, start1.below0, start1.atStart⟩
end Jvm.Pilot.@@N@@
