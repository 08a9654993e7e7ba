import JvmDerived
import JvmDerived.Pilot.@@N@@Statement
import JvmDerived.Pilot.@@N@@Code
set_option linter.unusedVariables false
set_option linter.unusedSimpArgs false
@@BLOCK:NumsL.lean.txt@@
namespace Jvm.Pilot.@@N@@
open Jvm Jvm.ClassFile Sem Op Lib Jvm.Free Jvm.Stand Jvm.LawKit Jvm.RoadKit Bundle Jvm.Pilot.@@N@@.Jvm.D
/-- from the state T with the frame g the run comes to an end that P speaks of -/
def own_Goes (tb : Tables) (e : Env) (below : List Frame) (P : Outcome → State → Prop) (T : State) (g : JFrame) : Prop :=
  ∃ s₂ o, Steps tb e below (T.setTop g) s₂ ∧ s₂.status = .running ∧ Ended s₂ below o ∧ P o s₂
theorem own_Goes.via {tb : Tables} {e : Env} {below : List Frame} {P : Outcome → State → Prop} {T T' : State} {g g' : JFrame} (h : ∀ t, Steps tb e below (T'.setTop g') t → Steps tb e below (T.setTop g) t) (k : own_Goes tb e below P T' g') : own_Goes tb e below P T g := by
  obtain ⟨s₂, o, a, b⟩ := k
  exact ⟨s₂, o, h _ a, b⟩
theorem own_Goes.fin {tb : Tables} {e : Env} {below : List Frame} {P : Outcome → State → Prop} {T s₂ : State} {g : JFrame} {o : Outcome} (h1 : Steps tb e below (T.setTop g) s₂) (h2 : s₂.status = .running) (h3 : Ended s₂ below o) (h4 : P o s₂) : own_Goes tb e below P T g := ⟨s₂, o, h1, h2, h3, h4⟩
theorem own_ltT {x y : Int64} (h : x < y) : ifCond.holds .lt (lcmpW x y) = true ∧ ifCond.holds .ge (lcmpW x y) = false := by
  have q : lcmpW x y < 0 := by rw [lcW]; exact (lc_lt x y).mpr h
  exact ⟨(if0 _ _).trans (tlt q).1, (if0 _ _).trans (tlt q).2.1⟩
theorem own_ltF {x y : Int64} (h : ¬ x < y) : ifCond.holds .lt (lcmpW x y) = false ∧ ifCond.holds .ge (lcmpW x y) = true := by
  have q : ¬ lcmpW x y < 0 := by rw [lcW]; exact fun z => h ((lc_lt x y).mp z)
  exact ⟨(if0 _ _).trans (flt q).1, (if0 _ _).trans (flt q).2.1⟩
theorem own_gtT {x y : Int64} (h : y < x) : ifCond.holds .gt (lcmpW x y) = true ∧ ifCond.holds .le (lcmpW x y) = false := by
  have q : 0 < lcmpW x y := by rw [lcW]; exact (lc_gt x y).mpr h
  exact ⟨(if0 _ _).trans (tlt q).2.2.1, (if0 _ _).trans (tlt q).2.2.2⟩
theorem own_gtF {x y : Int64} (h : ¬ y < x) : ifCond.holds .gt (lcmpW x y) = false ∧ ifCond.holds .le (lcmpW x y) = true := by
  have q : ¬ 0 < lcmpW x y := by rw [lcW]; exact fun z => h ((lc_gt x y).mp z)
  exact ⟨(if0 _ _).trans (flt q).2.2.1, (if0 _ _).trans (flt q).2.2.2⟩
theorem own_eqT {x y : Int64} (h : x = y) : ifCond.holds .eq (lcmpW x y) = true ∧ ifCond.holds .ne (lcmpW x y) = false := by
  have q : lcmpW x y = 0 := by rw [lcW]; exact (lc_eq x y).mpr h
  exact ⟨(if0 _ _).trans (teq q).1, (if0 _ _).trans (teq q).2⟩
theorem own_eqF {x y : Int64} (h : ¬ x = y) : ifCond.holds .eq (lcmpW x y) = false ∧ ifCond.holds .ne (lcmpW x y) = true := by
  have q : ¬ lcmpW x y = 0 := by rw [lcW]; exact fun z => h ((lc_eq x y).mp z)
  exact ⟨(if0 _ _).trans (feq q).1, (if0 _ _).trans (feq q).2⟩
theorem own_lrem (x y : Int64) : x - (x / y) * y = x % y := Int64.toInt_inj.mp (by rw [Jvm.Kit.i64_rem, Int64.toInt_mod])
theorem own_eqInt {args : Array Value} {s : State} {t : Term} {k : Int32} (h : (Cond.eq t (.int k)).value args s none s [] = some true) : t.eval args s none [] s = some (.int k) := by
  simp only [Cond.value, Term.eval] at h
  cases ht : t.eval args s none [] s with
  | none => simp [ht] at h
  | some x => cases x <;> simp [ht] at h ⊢ <;> exact h
theorem d1_0 : decode jdk_29_method_65_code 0 = .ok (.iload_n 0, 1) := by decide +kernel
theorem d1_1 : decode jdk_29_method_65_code 1 = .ok (.iload_n 1, 1) := by decide +kernel
theorem d1_2 : decode jdk_29_method_65_code 2 = .ok (.if_icmp .lt 7, 3) := by decide +kernel
theorem d1_5 : decode jdk_29_method_65_code 5 = .ok (.iload_n 0, 1) := by decide +kernel
theorem d1_6 : decode jdk_29_method_65_code 6 = .ok (.goto 4, 3) := by decide +kernel
theorem d1_9 : decode jdk_29_method_65_code 9 = .ok (.iload_n 1, 1) := by decide +kernel
theorem d1_10 : decode jdk_29_method_65_code 10 = .ok (.ireturn, 1) := by decide +kernel
theorem ef_1 (m : MethodId) (xa : Int32) (xb : Int32) : entryFrame m #[(.int xa), (.int xb)] 2 = mkF m 0 #[.val (.int xa), .val (.int xb)] [] := by first | (simp [entryFrame, mkF, argsToLocals, Value.category]; done) | rfl
def own_f1 (xa : Int32) (xb : Int32) : Int32 := (if xa < xb then xb else xa)
def Q1 (Z : State) (xa : Int32) (xb : Int32) (h0 : Heap) (n0 : Nat) (v : Option Value) (h : Heap) (L : List Loc) : Prop := v = some (.int (own_f1 xa xb)) ∧ Fr n0 L ∧ h = h0
set_option maxRecDepth 65536 in
set_option maxHeartbeats 40000000 in
theorem rm1 (l : Launch) (Z : State) (a0 : Array Value) (hw : ∀ d ∈ tables_1, d.before a0 Z = true) (ws : List Jvm.Cond) (xa : Int32) (xb : Int32) (h0 : Heap) (n0 : Nat) (Z0 : n0 ≤ h0.size) :
    MetFree l (⟨"java/lang/Math", "max", "(II)I"⟩ : MethodName) (head1 (Jvm.Cond.code (⟨"java/lang/Math", "max", "(II)I"⟩ : MethodName) jdk_29_method_65_code 2 (some .int) :: ws) ({ frames := 0, cells := 0, slots := 0, locals := 0 } : Room)) (fun a U => a = #[(.int xa), (.int xb)] ∧ Z.Warmed39 U.vm ∧ U.heap = h0) (fun _ _ _ _ _ => True) (fun _ U o U' => ∃ v L, o = .returned v ∧ Q1 Z xa xb h0 n0 v U'.heap L ∧ FrameEnd U o U' L ({ frames := 0, cells := 0, slots := 0, locals := 0 } : Room).cells ({ frames := 0, cells := 0, slots := 0, locals := 0 } : Room).slots) := by
  refine MetFree.of_bodySF (Jvm.Free.JP.mathPlain rfl (by decide +kernel)) hisR ?_
  intro p e s m args below meth c s₁ Bd hml0 hP hK
  obtain ⟨rfl, hZ, hh⟩ := hP
  have hx := Bd.exec
  have hby := Bd.bytes
  have hml : c.maxLocals = 2 := hml0
  have hown : s.vm.findClass "java/lang/Math" = some m.cls := findClass_of_methodNamed Bd.named
  have hnm := (name_of_methodNamed Bd.named Bd.method).1
  have X0 : Stand p l e ({ frames := 0, cells := 0, slots := 0, locals := 0 } : Room) s m #[(.int xa), (.int xb)] below meth c s₁ [] 0 0 := Stand.of_body Bd
  have e0 : s₁.heap = h0 := by rw [← hh, Bd.state]; rfl
  have N0 := Fr.nil n0
  suffices G : own_Goes p.tables e below (fun o U' => ∃ v L, o = .returned v ∧ Q1 Z xa xb h0 n0 v U'.heap L ∧ FrameEnd s o U' L ({ frames := 0, cells := 0, slots := 0, locals := 0 } : Room).cells ({ frames := 0, cells := 0, slots := 0, locals := 0 } : Room).slots) s₁ (mkF m 0 #[.val (.int xa), .val (.int xb)] []) by
    obtain ⟨t2_, o2_, z1_, z2_, z3_, z4_⟩ := G
    exact ⟨t2_, o2_, castTop (ef_1 m xa xb) z1_, z2_, z3_, z4_⟩
  generalize hPd : (fun (o : Outcome) (U' : State) => ∃ v L, o = .returned v ∧ Q1 Z xa xb h0 n0 v U'.heap L ∧ FrameEnd s o U' L ({ frames := 0, cells := 0, slots := 0, locals := 0 } : Room).cells ({ frames := 0, cells := 0, slots := 0, locals := 0 } : Room).slots) = P
  refine own_Goes.via (T' := s₁) (g' := (mkF m 1 #[.val (.int xa), .val (.int xb)] [(.int xa)])) (fun t_ k_ => XS.iloadN X0.here hx rfl (hb hby d1_0) rfl k_) ?_
  refine own_Goes.via (T' := s₁) (g' := (mkF m 2 #[.val (.int xa), .val (.int xb)] [(.int xb), (.int xa)])) (fun t_ k_ => XS.iloadN X0.here hx rfl (hb hby d1_1) rfl k_) ?_
  suffices J10_4 : ∀ (v10_2 : Int32) (hv10_2 : v10_2 = (if xa < xb then xb else xa)), own_Goes p.tables e below P s₁ (mkF m 10 #[.val (.int xa), .val (.int xb)] [(.int v10_2)]) by
    by_cases hc2_1 : xa < xb
    · refine own_Goes.via (T' := s₁) (g' := (mkF m 9 #[.val (.int xa), .val (.int xb)] [])) (fun t_ k_ => XS.icmpYes X0.here hx rfl (pc0 := 2) (pc' := 9) rfl (hb hby d1_2) rfl (tlt hc2_1).1 (by decide) (by decide) k_) ?_
      refine own_Goes.via (T' := s₁) (g' := (mkF m 10 #[.val (.int xa), .val (.int xb)] [(.int xb)])) (fun t_ k_ => XS.iloadN X0.here hx rfl (hb hby d1_9) rfl k_) ?_
      exact J10_4 xb ((if_pos hc2_1)).symm
    · refine own_Goes.via (T' := s₁) (g' := (mkF m 5 #[.val (.int xa), .val (.int xb)] [])) (fun t_ k_ => XS.icmpNo X0.here hx rfl (hb hby d1_2) rfl (flt hc2_1).1 k_) ?_
      refine own_Goes.via (T' := s₁) (g' := (mkF m 6 #[.val (.int xa), .val (.int xb)] [(.int xa)])) (fun t_ k_ => XS.iloadN X0.here hx rfl (hb hby d1_5) rfl k_) ?_
      refine own_Goes.via (T' := s₁) (g' := (mkF m 10 #[.val (.int xa), .val (.int xb)] [(.int xa)])) (fun t_ k_ => XS.goto X0.here hx rfl (pc0 := 6) (pc' := 10) rfl (hb hby d1_6) (by decide) (by decide) k_) ?_
      exact J10_4 xa ((if_neg hc2_1)).symm
  intro v10_2 hv10_2
  obtain ⟨fs, hr, hrun, hended, hW, hsame⟩ := X0.leave (v := some (.int v10_2)) (fun h => by rw [Bd.returns] at h; cases h)
  refine own_Goes.fin (retOut X0 hx Bd.returns rfl (Or.inl ⟨rfl, Or.inl rfl, _, rfl⟩) (hb hby d1_10) hr) hrun hended ?_
  subst hPd
  refine ⟨_, _, rfl, ?_, ⟨_, rfl⟩, hW, hsame.mono (by decide) (by decide)⟩
  show Q1 Z xa xb h0 n0 _ s₁.heap _
  rw [e0]
  exact ⟨(by subst hv10_2; first | rfl | (simp only [own_f1])), N0, rfl⟩
theorem d2_0 : decode prog_67_method_9_code 0 = .ok (.iload_n 1, 1) := by decide +kernel
theorem d2_1 : decode prog_67_method_9_code 1 = .ok (.aload_n 0, 1) := by decide +kernel
theorem d2_2 : decode prog_67_method_9_code 2 = .ok (.getfield 35, 3) := by decide +kernel
theorem d2_5 : decode prog_67_method_9_code 5 = .ok (.iadd, 1) := by decide +kernel
theorem d2_6 : decode prog_67_method_9_code 6 = .ok (.istore 4, 2) := by decide +kernel
theorem d2_8 : decode prog_67_method_9_code 8 = .ok (.iload_n 2, 1) := by decide +kernel
theorem d2_9 : decode prog_67_method_9_code 9 = .ok (.aload_n 0, 1) := by decide +kernel
theorem d2_10 : decode prog_67_method_9_code 10 = .ok (.getfield 39, 3) := by decide +kernel
theorem d2_13 : decode prog_67_method_9_code 13 = .ok (.iadd, 1) := by decide +kernel
theorem d2_14 : decode prog_67_method_9_code 14 = .ok (.istore 5, 2) := by decide +kernel
theorem d2_16 : decode prog_67_method_9_code 16 = .ok (.iload 4, 2) := by decide +kernel
theorem d2_18 : decode prog_67_method_9_code 18 = .ok (.ifCond .lt 24, 3) := by decide +kernel
theorem d2_21 : decode prog_67_method_9_code 21 = .ok (.iload 4, 2) := by decide +kernel
theorem d2_23 : decode prog_67_method_9_code 23 = .ok (.iload_n 3, 1) := by decide +kernel
theorem d2_24 : decode prog_67_method_9_code 24 = .ok (.if_icmp .ge 18, 3) := by decide +kernel
theorem d2_27 : decode prog_67_method_9_code 27 = .ok (.iload 5, 2) := by decide +kernel
theorem d2_29 : decode prog_67_method_9_code 29 = .ok (.ifCond .lt 13, 3) := by decide +kernel
theorem d2_32 : decode prog_67_method_9_code 32 = .ok (.iload 5, 2) := by decide +kernel
theorem d2_34 : decode prog_67_method_9_code 34 = .ok (.iload_n 3, 1) := by decide +kernel
theorem d2_35 : decode prog_67_method_9_code 35 = .ok (.if_icmp .ge 7, 3) := by decide +kernel
theorem d2_38 : decode prog_67_method_9_code 38 = .ok (.iconst 1, 1) := by decide +kernel
theorem d2_39 : decode prog_67_method_9_code 39 = .ok (.goto 4, 3) := by decide +kernel
theorem d2_42 : decode prog_67_method_9_code 42 = .ok (.iconst 0, 1) := by decide +kernel
theorem d2_43 : decode prog_67_method_9_code 43 = .ok (.ireturn, 1) := by decide +kernel
theorem pn_2 : plainName "com/example/gridwright/gridwright/games/slide/Move" = true := by first | (simp [plainName, overriddenIn]; done) | decide +kernel
theorem ef_2 (m : MethodId) (ao : Addr) (xa : Int32) (xb : Int32) (xn : Int32) : entryFrame m #[(.ref ao), (.int xa), (.int xb), (.int xn)] 6 = mkF m 0 #[.val (.ref ao), .val (.int xa), .val (.int xb), .val (.int xn), .unset, .unset] [] := by first | (simp [entryFrame, mkF, argsToLocals, Value.category]; done) | rfl
def own_f2 (xa : Int32) (xb : Int32) (xn : Int32) (xr : Int32) (xc : Int32) : Int32 := (if (xa + xr) < (0 : Int32) then (0 : Int32) else (if (xa + xr) < xn then (if (xb + xc) < (0 : Int32) then (0 : Int32) else (if (xb + xc) < xn then (1 : Int32) else (0 : Int32))) else (0 : Int32)))
def Q2 (Z : State) (ao : Addr) (xa : Int32) (xb : Int32) (xn : Int32) (xr : Int32) (xc : Int32) (h0 : Heap) (n0 : Nat) (v : Option Value) (h : Heap) (L : List Loc) : Prop := v = some (.int (own_f2 xa xb xn xr xc)) ∧ Fr n0 L ∧ h = h0
set_option maxRecDepth 65536 in
set_option maxHeartbeats 40000000 in
theorem rm2 (l : Launch) (Z : State) (a0 : Array Value) (hw : ∀ d ∈ tables_1, d.before a0 Z = true) (ws : List Jvm.Cond) (ao : Addr) (xa : Int32) (xb : Int32) (xn : Int32) (xr : Int32) (xc : Int32) (h0 : Heap) (n0 : Nat) (Z0 : n0 ≤ h0.size) (PF0 : Fld Z h0 ao "com/example/gridwright/gridwright/games/slide/Move" "rows" "I" (.int xr)) (PF1 : Fld Z h0 ao "com/example/gridwright/gridwright/games/slide/Move" "columns" "I" (.int xc)) :
    MetFree l (⟨"com/example/gridwright/gridwright/games/slide/Move", "keepsOnBoard", "(III)Z"⟩ : MethodName) (head1 (Jvm.Cond.code (⟨"com/example/gridwright/gridwright/games/slide/Move", "keepsOnBoard", "(III)Z"⟩ : MethodName) prog_67_method_9_code 6 (some .boolean) :: ws) ({ frames := 0, cells := 0, slots := 0, locals := 0 } : Room)) (fun a U => a = #[(.ref ao), (.int xa), (.int xb), (.int xn)] ∧ Z.Warmed39 U.vm ∧ U.heap = h0) (fun _ _ _ _ _ => True) (fun _ U o U' => ∃ v L, o = .returned v ∧ Q2 Z ao xa xb xn xr xc h0 n0 v U'.heap L ∧ FrameEnd U o U' L ({ frames := 0, cells := 0, slots := 0, locals := 0 } : Room).cells ({ frames := 0, cells := 0, slots := 0, locals := 0 } : Room).slots) := by
  refine MetFree.of_bodySF (plainFor_of_name pn_2) hisR ?_
  intro p e s m args below meth c s₁ Bd hml0 hP hK
  obtain ⟨rfl, hZ, hh⟩ := hP
  have hx := Bd.exec
  have hby := Bd.bytes
  have hml : c.maxLocals = 6 := hml0
  have hown : s.vm.findClass "com/example/gridwright/gridwright/games/slide/Move" = some m.cls := findClass_of_methodNamed Bd.named
  have hnm := (name_of_methodNamed Bd.named Bd.method).1
  have X0 : Stand p l e ({ frames := 0, cells := 0, slots := 0, locals := 0 } : Room) s m #[(.ref ao), (.int xa), (.int xb), (.int xn)] below meth c s₁ [] 0 0 := Stand.of_body Bd
  have e0 : s₁.heap = h0 := by rw [← hh, Bd.state]; rfl
  have N0 := Fr.nil n0
  suffices G : own_Goes p.tables e below (fun o U' => ∃ v L, o = .returned v ∧ Q2 Z ao xa xb xn xr xc h0 n0 v U'.heap L ∧ FrameEnd s o U' L ({ frames := 0, cells := 0, slots := 0, locals := 0 } : Room).cells ({ frames := 0, cells := 0, slots := 0, locals := 0 } : Room).slots) s₁ (mkF m 0 #[.val (.ref ao), .val (.int xa), .val (.int xb), .val (.int xn), .unset, .unset] []) by
    obtain ⟨t2_, o2_, z1_, z2_, z3_, z4_⟩ := G
    exact ⟨t2_, o2_, castTop (ef_2 m ao xa xb xn) z1_, z2_, z3_, z4_⟩
  generalize hPd : (fun (o : Outcome) (U' : State) => ∃ v L, o = .returned v ∧ Q2 Z ao xa xb xn xr xc h0 n0 v U'.heap L ∧ FrameEnd s o U' L ({ frames := 0, cells := 0, slots := 0, locals := 0 } : Room).cells ({ frames := 0, cells := 0, slots := 0, locals := 0 } : Room).slots) = P
  refine own_Goes.via (T' := s₁) (g' := (mkF m 1 #[.val (.ref ao), .val (.int xa), .val (.int xb), .val (.int xn), .unset, .unset] [(.int xa)])) (fun t_ k_ => XS.iloadN X0.here hx rfl (hb hby d2_0) rfl k_) ?_
  refine own_Goes.via (T' := s₁) (g' := (mkF m 2 #[.val (.ref ao), .val (.int xa), .val (.int xb), .val (.int xn), .unset, .unset] [(.ref ao), (.int xa)])) (fun t_ k_ => XS.aloadN X0.here hx rfl (hb hby d2_1) rfl rfl k_) ?_
  obtain ⟨T1, X1, e1, st1⟩ := getF X0 hx hZ hown (host := "") (Or.inl (hw _ (List.mem_of_getElem? (i := 13) rfl))) Via.refl e0 PF0 (g := (mkF m 2 #[.val (.ref ao), .val (.int xa), .val (.int xb), .val (.int xn), .unset, .unset] [(.ref ao), (.int xa)])) rfl rfl (hb hby d2_2)
  refine own_Goes.via (T' := T1) (g' := (mkF m 5 #[.val (.ref ao), .val (.int xa), .val (.int xb), .val (.int xn), .unset, .unset] [(.int xr), (.int xa)])) (st1) ?_
  refine own_Goes.via (T' := T1) (g' := (mkF m 6 #[.val (.ref ao), .val (.int xa), .val (.int xb), .val (.int xn), .unset, .unset] [(.int (xa + xr))])) (fun t_ k_ => XS.iadd X1.here hx rfl (hb hby d2_5) rfl k_) ?_
  refine own_Goes.via (T' := T1) (g' := (mkF m 8 #[.val (.ref ao), .val (.int xa), .val (.int xb), .val (.int xn), .val (.int (xa + xr)), .unset] [])) (fun t_ k_ => XS.istore X1.here hx rfl (hb hby d2_6) rfl (l' := #[.val (.ref ao), .val (.int xa), .val (.int xb), .val (.int xn), .val (.int (xa + xr)), .unset]) rfl k_) ?_
  obtain ⟨v2, hv2⟩ : ∃ z : Int32, z = (xa + xr) := ⟨_, rfl⟩
  rw [← hv2]
  refine own_Goes.via (T' := T1) (g' := (mkF m 9 #[.val (.ref ao), .val (.int xa), .val (.int xb), .val (.int xn), .val (.int v2), .unset] [(.int xb)])) (fun t_ k_ => XS.iloadN X1.here hx rfl (hb hby d2_8) rfl k_) ?_
  refine own_Goes.via (T' := T1) (g' := (mkF m 10 #[.val (.ref ao), .val (.int xa), .val (.int xb), .val (.int xn), .val (.int v2), .unset] [(.ref ao), (.int xb)])) (fun t_ k_ => XS.aloadN X1.here hx rfl (hb hby d2_9) rfl rfl k_) ?_
  obtain ⟨T3, X3, e3, st3⟩ := getF X1 hx hZ hown (host := "") (Or.inl (hw _ (List.mem_of_getElem? (i := 15) rfl))) Via.refl e1 PF1 (g := (mkF m 10 #[.val (.ref ao), .val (.int xa), .val (.int xb), .val (.int xn), .val (.int v2), .unset] [(.ref ao), (.int xb)])) rfl rfl (hb hby d2_10)
  refine own_Goes.via (T' := T3) (g' := (mkF m 13 #[.val (.ref ao), .val (.int xa), .val (.int xb), .val (.int xn), .val (.int v2), .unset] [(.int xc), (.int xb)])) (st3) ?_
  refine own_Goes.via (T' := T3) (g' := (mkF m 14 #[.val (.ref ao), .val (.int xa), .val (.int xb), .val (.int xn), .val (.int v2), .unset] [(.int (xb + xc))])) (fun t_ k_ => XS.iadd X3.here hx rfl (hb hby d2_13) rfl k_) ?_
  refine own_Goes.via (T' := T3) (g' := (mkF m 16 #[.val (.ref ao), .val (.int xa), .val (.int xb), .val (.int xn), .val (.int v2), .val (.int (xb + xc))] [])) (fun t_ k_ => XS.istore X3.here hx rfl (hb hby d2_14) rfl (l' := #[.val (.ref ao), .val (.int xa), .val (.int xb), .val (.int xn), .val (.int v2), .val (.int (xb + xc))]) rfl k_) ?_
  obtain ⟨v4, hv4⟩ : ∃ z : Int32, z = (xb + xc) := ⟨_, rfl⟩
  rw [← hv4]
  refine own_Goes.via (T' := T3) (g' := (mkF m 18 #[.val (.ref ao), .val (.int xa), .val (.int xb), .val (.int xn), .val (.int v2), .val (.int v4)] [(.int v2)])) (fun t_ k_ => XS.iload X3.here hx rfl (hb hby d2_16) rfl k_) ?_
  suffices J43_8 : ∀ (v43_6 : Int32) (hv43_6 : v43_6 = (if v2 < (0 : Int32) then (0 : Int32) else (if v2 < xn then (if v4 < (0 : Int32) then (0 : Int32) else (if v4 < xn then (1 : Int32) else (0 : Int32))) else (0 : Int32)))), own_Goes p.tables e below P T3 (mkF m 43 #[.val (.ref ao), .val (.int xa), .val (.int xb), .val (.int xn), .val (.int v2), .val (.int v4)] [(.int v43_6)]) by
    by_cases hc18_5 : v2 < (0 : Int32)
    · refine own_Goes.via (T' := T3) (g' := (mkF m 42 #[.val (.ref ao), .val (.int xa), .val (.int xb), .val (.int xn), .val (.int v2), .val (.int v4)] [])) (fun t_ k_ => XS.ifYes X3.here hx rfl (pc0 := 18) (pc' := 42) rfl (hb hby d2_18) rfl ((if0 _ _).trans (tlt hc18_5).1) (by decide) (by decide) k_) ?_
      refine own_Goes.via (T' := T3) (g' := (mkF m 43 #[.val (.ref ao), .val (.int xa), .val (.int xb), .val (.int xn), .val (.int v2), .val (.int v4)] [(.int (0 : Int32))])) (fun t_ k_ => XS.iconst X3.here hx rfl (hb hby d2_42) k_) ?_
      exact J43_8 (0 : Int32) ((if_pos hc18_5)).symm
    · refine own_Goes.via (T' := T3) (g' := (mkF m 21 #[.val (.ref ao), .val (.int xa), .val (.int xb), .val (.int xn), .val (.int v2), .val (.int v4)] [])) (fun t_ k_ => XS.ifNo X3.here hx rfl (hb hby d2_18) rfl ((if0 _ _).trans (flt hc18_5).1) k_) ?_
      refine own_Goes.via (T' := T3) (g' := (mkF m 23 #[.val (.ref ao), .val (.int xa), .val (.int xb), .val (.int xn), .val (.int v2), .val (.int v4)] [(.int v2)])) (fun t_ k_ => XS.iload X3.here hx rfl (hb hby d2_21) rfl k_) ?_
      refine own_Goes.via (T' := T3) (g' := (mkF m 24 #[.val (.ref ao), .val (.int xa), .val (.int xb), .val (.int xn), .val (.int v2), .val (.int v4)] [(.int xn), (.int v2)])) (fun t_ k_ => XS.iloadN X3.here hx rfl (hb hby d2_23) rfl k_) ?_
      by_cases hc24_9 : v2 < xn
      · refine own_Goes.via (T' := T3) (g' := (mkF m 27 #[.val (.ref ao), .val (.int xa), .val (.int xb), .val (.int xn), .val (.int v2), .val (.int v4)] [])) (fun t_ k_ => XS.icmpNo X3.here hx rfl (hb hby d2_24) rfl (tlt hc24_9).2.1 k_) ?_
        refine own_Goes.via (T' := T3) (g' := (mkF m 29 #[.val (.ref ao), .val (.int xa), .val (.int xb), .val (.int xn), .val (.int v2), .val (.int v4)] [(.int v4)])) (fun t_ k_ => XS.iload X3.here hx rfl (hb hby d2_27) rfl k_) ?_
        by_cases hc29_10 : v4 < (0 : Int32)
        · refine own_Goes.via (T' := T3) (g' := (mkF m 42 #[.val (.ref ao), .val (.int xa), .val (.int xb), .val (.int xn), .val (.int v2), .val (.int v4)] [])) (fun t_ k_ => XS.ifYes X3.here hx rfl (pc0 := 29) (pc' := 42) rfl (hb hby d2_29) rfl ((if0 _ _).trans (tlt hc29_10).1) (by decide) (by decide) k_) ?_
          refine own_Goes.via (T' := T3) (g' := (mkF m 43 #[.val (.ref ao), .val (.int xa), .val (.int xb), .val (.int xn), .val (.int v2), .val (.int v4)] [(.int (0 : Int32))])) (fun t_ k_ => XS.iconst X3.here hx rfl (hb hby d2_42) k_) ?_
          exact J43_8 (0 : Int32) (((if_neg hc18_5).trans ((if_pos hc24_9).trans (if_pos hc29_10)))).symm
        · refine own_Goes.via (T' := T3) (g' := (mkF m 32 #[.val (.ref ao), .val (.int xa), .val (.int xb), .val (.int xn), .val (.int v2), .val (.int v4)] [])) (fun t_ k_ => XS.ifNo X3.here hx rfl (hb hby d2_29) rfl ((if0 _ _).trans (flt hc29_10).1) k_) ?_
          refine own_Goes.via (T' := T3) (g' := (mkF m 34 #[.val (.ref ao), .val (.int xa), .val (.int xb), .val (.int xn), .val (.int v2), .val (.int v4)] [(.int v4)])) (fun t_ k_ => XS.iload X3.here hx rfl (hb hby d2_32) rfl k_) ?_
          refine own_Goes.via (T' := T3) (g' := (mkF m 35 #[.val (.ref ao), .val (.int xa), .val (.int xb), .val (.int xn), .val (.int v2), .val (.int v4)] [(.int xn), (.int v4)])) (fun t_ k_ => XS.iloadN X3.here hx rfl (hb hby d2_34) rfl k_) ?_
          by_cases hc35_11 : v4 < xn
          · refine own_Goes.via (T' := T3) (g' := (mkF m 38 #[.val (.ref ao), .val (.int xa), .val (.int xb), .val (.int xn), .val (.int v2), .val (.int v4)] [])) (fun t_ k_ => XS.icmpNo X3.here hx rfl (hb hby d2_35) rfl (tlt hc35_11).2.1 k_) ?_
            refine own_Goes.via (T' := T3) (g' := (mkF m 39 #[.val (.ref ao), .val (.int xa), .val (.int xb), .val (.int xn), .val (.int v2), .val (.int v4)] [(.int (1 : Int32))])) (fun t_ k_ => XS.iconst X3.here hx rfl (hb hby d2_38) k_) ?_
            refine own_Goes.via (T' := T3) (g' := (mkF m 43 #[.val (.ref ao), .val (.int xa), .val (.int xb), .val (.int xn), .val (.int v2), .val (.int v4)] [(.int (1 : Int32))])) (fun t_ k_ => XS.goto X3.here hx rfl (pc0 := 39) (pc' := 43) rfl (hb hby d2_39) (by decide) (by decide) k_) ?_
            exact J43_8 (1 : Int32) (((if_neg hc18_5).trans ((if_pos hc24_9).trans ((if_neg hc29_10).trans (if_pos hc35_11))))).symm
          · refine own_Goes.via (T' := T3) (g' := (mkF m 42 #[.val (.ref ao), .val (.int xa), .val (.int xb), .val (.int xn), .val (.int v2), .val (.int v4)] [])) (fun t_ k_ => XS.icmpYes X3.here hx rfl (pc0 := 35) (pc' := 42) rfl (hb hby d2_35) rfl (flt hc35_11).2.1 (by decide) (by decide) k_) ?_
            refine own_Goes.via (T' := T3) (g' := (mkF m 43 #[.val (.ref ao), .val (.int xa), .val (.int xb), .val (.int xn), .val (.int v2), .val (.int v4)] [(.int (0 : Int32))])) (fun t_ k_ => XS.iconst X3.here hx rfl (hb hby d2_42) k_) ?_
            exact J43_8 (0 : Int32) (((if_neg hc18_5).trans ((if_pos hc24_9).trans ((if_neg hc29_10).trans (if_neg hc35_11))))).symm
      · refine own_Goes.via (T' := T3) (g' := (mkF m 42 #[.val (.ref ao), .val (.int xa), .val (.int xb), .val (.int xn), .val (.int v2), .val (.int v4)] [])) (fun t_ k_ => XS.icmpYes X3.here hx rfl (pc0 := 24) (pc' := 42) rfl (hb hby d2_24) rfl (flt hc24_9).2.1 (by decide) (by decide) k_) ?_
        refine own_Goes.via (T' := T3) (g' := (mkF m 43 #[.val (.ref ao), .val (.int xa), .val (.int xb), .val (.int xn), .val (.int v2), .val (.int v4)] [(.int (0 : Int32))])) (fun t_ k_ => XS.iconst X3.here hx rfl (hb hby d2_42) k_) ?_
        exact J43_8 (0 : Int32) (((if_neg hc18_5).trans (if_neg hc24_9))).symm
  intro v43_6 hv43_6
  have hnar12 : nar .boolean v43_6 = v43_6 := by rw [hv43_6]; (repeat' split) <;> rfl
  obtain ⟨fs, hr, hrun, hended, hW, hsame⟩ := X3.leave (v := some (.int v43_6)) (fun h => by rw [Bd.returns] at h; cases h)
  refine own_Goes.fin (retN X3 hx (t := .boolean) Bd.returns (by simp) (hb hby d2_43) (by rw [hnar12]; exact hr)) hrun hended ?_
  subst hPd
  refine ⟨_, _, rfl, ?_, ⟨_, rfl⟩, hW, hsame.mono (by decide) (by decide)⟩
  show Q2 Z ao xa xb xn xr xc h0 n0 _ T3.heap _
  rw [e3]
  exact ⟨(by subst hv43_6; subst hv4; subst hv2; first | rfl | (simp only [own_f2])), N0, rfl⟩
theorem own_side {xs v : Int32} (hv : v = (own_f1 (1 : Int32) (xs &&& (2147483647 : Int32)))) : 1 ≤ v.toInt := by
  have o : (1 : Int32).toInt = 1 := rfl
  rw [hv]
  unfold own_f1
  split
  · rename_i q
    rw [Int32.lt_iff_toInt_lt] at q
    omega
  · decide
theorem own_nz {n : Int32} (h : 1 ≤ n.toInt) : n ≠ (0 : Int32) := fun q => by
  rw [q] at h
  exact absurd h (by decide)
theorem own_mod {x n v : Int32} (h : 1 ≤ n.toInt) (hv : v = ((x &&& (2147483647 : Int32)) % n)) : 0 ≤ v.toInt ∧ v.toInt < n.toInt := by
  have m := Jvm.Kit.i32_mask x (2147483647 : Int32) (k := 31) (by decide) (by decide)
  have r : ((x &&& (2147483647 : Int32)) % n).toInt = (x &&& (2147483647 : Int32)).toInt % n.toInt := Jvm.Kit.i32_rem_nonneg (by omega)
  rw [hv, r]
  exact ⟨Int.emod_nonneg _ (by omega), Int.emod_lt_of_pos _ (by omega)⟩
theorem own_mv {a b n dr dc : Int32} (ha : 0 ≤ a.toInt ∧ a.toInt < n.toInt) (hb : 0 ≤ b.toInt ∧ b.toInt < n.toInt) (h1 : -1 ≤ dr.toInt ∧ dr.toInt ≤ 1) (h2 : -1 ≤ dc.toInt ∧ dc.toInt ≤ 1) :
    own_f2 a b n dr dc = (if (0 ≤ a.toInt + dr.toInt ∧ a.toInt + dr.toInt < n.toInt ∧ 0 ≤ b.toInt + dc.toInt ∧ b.toInt + dc.toInt < n.toInt) then (1 : Int32) else (0 : Int32)) := by
  have bn := n.toInt_lt
  have z : (0 : Int32).toInt = 0 := rfl
  have e1 : (a + dr).toInt = a.toInt + dr.toInt := Jvm.Kit.i32_add (by omega) (by omega)
  have e2 : (b + dc).toInt = b.toInt + dc.toInt := Jvm.Kit.i32_add (by omega) (by omega)
  unfold own_f2
  simp only [Int32.lt_iff_toInt_lt, e1, e2, z]
  repeat' split
  all_goals first | rfl | (exfalso; omega)
theorem pn_0 : plainName "com/example/gridwright/gridwright/games/slide/MoveKeepsOnBoardPinLaw" = true := by first | (simp [plainName, overriddenIn]; done) | decide +kernel
theorem pd_0_0 : parseMethodDescriptor "(II)I" = some ⟨[.int, .int], some .int⟩ := by decide +kernel
theorem pd_0_1 : parseMethodDescriptor "(III)Z" = some ⟨[.int, .int, .int], some .boolean⟩ := by decide +kernel
theorem ef_0 (m : MethodId) (xw : Int32) (xr : Int32) (xc : Int32) (xs : Int32) : entryFrame m #[(.int xw), (.int xr), (.int xc), (.int xs)] maxLocals = mkF m 0 #[.val (.int xw), .val (.int xr), .val (.int xc), .val (.int xs), .unset, .unset, .unset, .unset, .unset, .unset] [] := by first | (simp [entryFrame, mkF, argsToLocals, Value.category, maxLocals]; done) | rfl
def Q0 (Z : State) (xw : Int32) (xr : Int32) (xc : Int32) (xs : Int32) (s_D : Addr) (s_L : Addr) (s_R : Addr) (s_U : Addr) (h0 : Heap) (n0 : Nat) (v : Option Value) (h : Heap) (L : List Loc) : Prop := v = some (.int 1) ∧ Fr n0 L
set_option maxRecDepth 65536 in
theorem own_pl0_0 {xs : Int32} {v14 : Int32} (hv14 : v14 = (own_f1 (1 : Int32) (xs &&& (2147483647 : Int32)))) : v14 ≠ (0 : Int32) := by
  exact own_nz (own_side hv14)
set_option maxRecDepth 65536 in
theorem own_pl0_1 {xr : Int32} {xs : Int32} {v14 : Int32} {v16 : Int32} (hv14 : v14 = (own_f1 (1 : Int32) (xs &&& (2147483647 : Int32)))) (hv16 : v16 = ((xr &&& (2147483647 : Int32)) % v14)) (nz16_15 : v14 ≠ (0 : Int32)) : v14 ≠ (0 : Int32) := by
  exact own_nz (own_side hv14)
set_option maxRecDepth 65536 in
theorem own_pl0_2 {xw : Int32} {xr : Int32} {xc : Int32} {xs : Int32} {v14 : Int32} {v16 : Int32} {v18 : Int32} {v19 : Int32} {v57_23 : Int32} {v27 : Int32} {v156_29 : Int32} (hv14 : v14 = (own_f1 (1 : Int32) (xs &&& (2147483647 : Int32)))) (hv16 : v16 = ((xr &&& (2147483647 : Int32)) % v14)) (hv18 : v18 = ((xc &&& (2147483647 : Int32)) % v14)) (hv19 : v19 = (xw &&& (3 : Int32))) (hv57_23 : v57_23 = (if v16 < (v14 - (1 : Int32)) then (1 : Int32) else (0 : Int32))) (hv27 : v27 = (own_f2 v16 v18 v14 (1 : Int32) (0 : Int32))) (hv156_29 : v156_29 = (if v27 = v57_23 then (1 : Int32) else (0 : Int32))) (hc35_20 : v19 = (0 : Int32)) (nz16_15 : v14 ≠ (0 : Int32)) (nz25_17 : v14 ≠ (0 : Int32)) : v156_29 = 1 := by
  have n1 := own_side hv14
  have r := own_mod n1 hv16
  have c := own_mod n1 hv18
  have o : (1 : Int32).toInt = 1 := rfl
  have z : (0 : Int32).toInt = 0 := rfl
  have mo : (-1 : Int32).toInt = -1 := rfl
  have bn := v14.toInt_lt
  have e : (v14 - (1 : Int32)).toInt = v14.toInt - 1 := Jvm.Kit.i32_sub (by rw [o]; omega) (by rw [o]; omega)
  rw [hv156_29, hv27, hv57_23, own_mv r c (by decide) (by decide)]
  simp only [Int32.lt_iff_toInt_lt, e, o, z, mo]
  rw [if_pos]
  repeat' split
  all_goals first | rfl | (exfalso; omega)
set_option maxRecDepth 65536 in
theorem own_pl0_3 {xw : Int32} {xr : Int32} {xc : Int32} {xs : Int32} {v14 : Int32} {v16 : Int32} {v18 : Int32} {v19 : Int32} {v83_35 : Int32} {v39 : Int32} {v156_41 : Int32} (hv14 : v14 = (own_f1 (1 : Int32) (xs &&& (2147483647 : Int32)))) (hv16 : v16 = ((xr &&& (2147483647 : Int32)) % v14)) (hv18 : v18 = ((xc &&& (2147483647 : Int32)) % v14)) (hv19 : v19 = (xw &&& (3 : Int32))) (hv83_35 : v83_35 = (if (0 : Int32) < v18 then (1 : Int32) else (0 : Int32))) (hv39 : v39 = (own_f2 v16 v18 v14 (0 : Int32) (-1 : Int32))) (hv156_41 : v156_41 = (if v39 = v83_35 then (1 : Int32) else (0 : Int32))) (hc35_20 : ¬ (v19 = (0 : Int32))) (hc65_32 : v19 = (1 : Int32)) (nz16_15 : v14 ≠ (0 : Int32)) (nz25_17 : v14 ≠ (0 : Int32)) : v156_41 = 1 := by
  have n1 := own_side hv14
  have r := own_mod n1 hv16
  have c := own_mod n1 hv18
  have o : (1 : Int32).toInt = 1 := rfl
  have z : (0 : Int32).toInt = 0 := rfl
  have mo : (-1 : Int32).toInt = -1 := rfl
  have bn := v14.toInt_lt
  have e : (v14 - (1 : Int32)).toInt = v14.toInt - 1 := Jvm.Kit.i32_sub (by rw [o]; omega) (by rw [o]; omega)
  rw [hv156_41, hv39, hv83_35, own_mv r c (by decide) (by decide)]
  simp only [Int32.lt_iff_toInt_lt, e, o, z, mo]
  rw [if_pos]
  repeat' split
  all_goals first | rfl | (exfalso; omega)
set_option maxRecDepth 65536 in
theorem own_pl0_4 {xw : Int32} {xr : Int32} {xc : Int32} {xs : Int32} {v14 : Int32} {v16 : Int32} {v18 : Int32} {v19 : Int32} {v113_47 : Int32} {v51 : Int32} {v156_53 : Int32} (hv14 : v14 = (own_f1 (1 : Int32) (xs &&& (2147483647 : Int32)))) (hv16 : v16 = ((xr &&& (2147483647 : Int32)) % v14)) (hv18 : v18 = ((xc &&& (2147483647 : Int32)) % v14)) (hv19 : v19 = (xw &&& (3 : Int32))) (hv113_47 : v113_47 = (if v18 < (v14 - (1 : Int32)) then (1 : Int32) else (0 : Int32))) (hv51 : v51 = (own_f2 v16 v18 v14 (0 : Int32) (1 : Int32))) (hv156_53 : v156_53 = (if v51 = v113_47 then (1 : Int32) else (0 : Int32))) (hc35_20 : ¬ (v19 = (0 : Int32))) (hc65_32 : ¬ (v19 = (1 : Int32))) (hc91_44 : v19 = (2 : Int32)) (nz16_15 : v14 ≠ (0 : Int32)) (nz25_17 : v14 ≠ (0 : Int32)) : v156_53 = 1 := by
  have n1 := own_side hv14
  have r := own_mod n1 hv16
  have c := own_mod n1 hv18
  have o : (1 : Int32).toInt = 1 := rfl
  have z : (0 : Int32).toInt = 0 := rfl
  have mo : (-1 : Int32).toInt = -1 := rfl
  have bn := v14.toInt_lt
  have e : (v14 - (1 : Int32)).toInt = v14.toInt - 1 := Jvm.Kit.i32_sub (by rw [o]; omega) (by rw [o]; omega)
  rw [hv156_53, hv51, hv113_47, own_mv r c (by decide) (by decide)]
  simp only [Int32.lt_iff_toInt_lt, e, o, z, mo]
  rw [if_pos]
  repeat' split
  all_goals first | rfl | (exfalso; omega)
set_option maxRecDepth 65536 in
theorem own_pl0_5 {xw : Int32} {xr : Int32} {xc : Int32} {xs : Int32} {v14 : Int32} {v16 : Int32} {v18 : Int32} {v19 : Int32} {v133_58 : Int32} {v62 : Int32} {v156_64 : Int32} (hv14 : v14 = (own_f1 (1 : Int32) (xs &&& (2147483647 : Int32)))) (hv16 : v16 = ((xr &&& (2147483647 : Int32)) % v14)) (hv18 : v18 = ((xc &&& (2147483647 : Int32)) % v14)) (hv19 : v19 = (xw &&& (3 : Int32))) (hv133_58 : v133_58 = (if (0 : Int32) < v16 then (1 : Int32) else (0 : Int32))) (hv62 : v62 = (own_f2 v16 v18 v14 (-1 : Int32) (0 : Int32))) (hv156_64 : v156_64 = (if v62 = v133_58 then (1 : Int32) else (0 : Int32))) (hc35_20 : ¬ (v19 = (0 : Int32))) (hc65_32 : ¬ (v19 = (1 : Int32))) (hc91_44 : ¬ (v19 = (2 : Int32))) (nz16_15 : v14 ≠ (0 : Int32)) (nz25_17 : v14 ≠ (0 : Int32)) : v156_64 = 1 := by
  have n1 := own_side hv14
  have r := own_mod n1 hv16
  have c := own_mod n1 hv18
  have o : (1 : Int32).toInt = 1 := rfl
  have z : (0 : Int32).toInt = 0 := rfl
  have mo : (-1 : Int32).toInt = -1 := rfl
  have bn := v14.toInt_lt
  have e : (v14 - (1 : Int32)).toInt = v14.toInt - 1 := Jvm.Kit.i32_sub (by rw [o]; omega) (by rw [o]; omega)
  rw [hv156_64, hv62, hv133_58, own_mv r c (by decide) (by decide)]
  simp only [Int32.lt_iff_toInt_lt, e, o, z, mo]
  rw [if_pos]
  repeat' split
  all_goals first | rfl | (exfalso; omega)
set_option maxRecDepth 65536 in
set_option maxHeartbeats 40000000 in
theorem rm0 (l : Launch) (Z : State) (a0 : Array Value) (hw : ∀ d ∈ tables_1, d.before a0 Z = true) (ws : List Jvm.Cond) (xw : Int32) (xr : Int32) (xc : Int32) (xs : Int32) (s_D : Addr) (s_L : Addr) (s_R : Addr) (s_U : Addr) (h0 : Heap) (n0 : Nat) (Z0 : n0 ≤ h0.size) (OL : Old Z n0 h0) (S_D : Sta Z Z.heap "com/example/gridwright/gridwright/games/slide/Move" "D" "Lcom/example/gridwright/gridwright/games/slide/Move;" (.ref s_D)) (S_L : Sta Z Z.heap "com/example/gridwright/gridwright/games/slide/Move" "L" "Lcom/example/gridwright/gridwright/games/slide/Move;" (.ref s_L)) (S_R : Sta Z Z.heap "com/example/gridwright/gridwright/games/slide/Move" "R" "Lcom/example/gridwright/gridwright/games/slide/Move;" (.ref s_R)) (S_U : Sta Z Z.heap "com/example/gridwright/gridwright/games/slide/Move" "U" "Lcom/example/gridwright/gridwright/games/slide/Move;" (.ref s_U)) (E_D : Exa Z Z.heap s_D "com/example/gridwright/gridwright/games/slide/Move") (E_L : Exa Z Z.heap s_L "com/example/gridwright/gridwright/games/slide/Move") (E_R : Exa Z Z.heap s_R "com/example/gridwright/gridwright/games/slide/Move") (E_U : Exa Z Z.heap s_U "com/example/gridwright/gridwright/games/slide/Move") (F_D_rows : Fld Z Z.heap s_D "com/example/gridwright/gridwright/games/slide/Move" "rows" "I" (.int (1 : Int32))) (F_D_columns : Fld Z Z.heap s_D "com/example/gridwright/gridwright/games/slide/Move" "columns" "I" (.int (0 : Int32))) (F_L_rows : Fld Z Z.heap s_L "com/example/gridwright/gridwright/games/slide/Move" "rows" "I" (.int (0 : Int32))) (F_L_columns : Fld Z Z.heap s_L "com/example/gridwright/gridwright/games/slide/Move" "columns" "I" (.int (-1 : Int32))) (F_R_rows : Fld Z Z.heap s_R "com/example/gridwright/gridwright/games/slide/Move" "rows" "I" (.int (0 : Int32))) (F_R_columns : Fld Z Z.heap s_R "com/example/gridwright/gridwright/games/slide/Move" "columns" "I" (.int (1 : Int32))) (F_U_rows : Fld Z Z.heap s_U "com/example/gridwright/gridwright/games/slide/Move" "rows" "I" (.int (-1 : Int32))) (F_U_columns : Fld Z Z.heap s_U "com/example/gridwright/gridwright/games/slide/Move" "columns" "I" (.int (0 : Int32))) :
    MetFree l x (head1 (Jvm.Cond.code x code maxLocals ret :: ws) room_1) (fun a U => a = #[(.int xw), (.int xr), (.int xc), (.int xs)] ∧ Z.Warmed39 U.vm ∧ U.heap = h0) (fun _ _ _ _ _ => True) (fun _ U o U' => ∃ v L, o = .returned v ∧ Q0 Z xw xr xc xs s_D s_L s_R s_U h0 n0 v U'.heap L ∧ FrameEnd U o U' L 0 0) := by
  refine MetFree.of_bodySF (plainFor_of_name pn_0) hisR ?_
  intro p e s m args below meth c s₁ Bd hml0 hP hK
  obtain ⟨rfl, hZ, hh⟩ := hP
  have hx := Bd.exec
  have hby := Bd.bytes
  have hml : c.maxLocals = 10 := hml0
  have hown : s.vm.findClass "com/example/gridwright/gridwright/games/slide/MoveKeepsOnBoardPinLaw" = some m.cls := findClass_of_methodNamed Bd.named
  have hnm := (name_of_methodNamed Bd.named Bd.method).1
  have X0 : Stand p l e room_1 s m #[(.int xw), (.int xr), (.int xc), (.int xs)] below meth c s₁ [] 0 0 := Stand.of_body Bd
  have e0 : s₁.heap = h0 := by rw [← hh, Bd.state]; rfl
  have N0 := Fr.nil n0
  suffices G : own_Goes p.tables e below (fun o U' => ∃ v L, o = .returned v ∧ Q0 Z xw xr xc xs s_D s_L s_R s_U h0 n0 v U'.heap L ∧ FrameEnd s o U' L 0 0) s₁ (mkF m 0 #[.val (.int xw), .val (.int xr), .val (.int xc), .val (.int xs), .unset, .unset, .unset, .unset, .unset, .unset] []) by
    obtain ⟨t2_, o2_, z1_, z2_, z3_, z4_⟩ := G
    exact ⟨t2_, o2_, castTop (ef_0 m xw xr xc xs) z1_, z2_, z3_, z4_⟩
  generalize hPd : (fun (o : Outcome) (U' : State) => ∃ v L, o = .returned v ∧ Q0 Z xw xr xc xs s_D s_L s_R s_U h0 n0 v U'.heap L ∧ FrameEnd s o U' L 0 0) = P
  have E1 : Exa Z h0 s_D "com/example/gridwright/gridwright/games/slide/Move" := E_D.ext OL.2
  have F2 : Fld Z h0 s_D "com/example/gridwright/gridwright/games/slide/Move" "rows" "I" (.int (1 : Int32)) := F_D_rows.ext OL.2
  have F3 : Fld Z h0 s_D "com/example/gridwright/gridwright/games/slide/Move" "columns" "I" (.int (0 : Int32)) := F_D_columns.ext OL.2
  have E4 : Exa Z h0 s_L "com/example/gridwright/gridwright/games/slide/Move" := E_L.ext OL.2
  have F5 : Fld Z h0 s_L "com/example/gridwright/gridwright/games/slide/Move" "rows" "I" (.int (0 : Int32)) := F_L_rows.ext OL.2
  have F6 : Fld Z h0 s_L "com/example/gridwright/gridwright/games/slide/Move" "columns" "I" (.int (-1 : Int32)) := F_L_columns.ext OL.2
  have E7 : Exa Z h0 s_R "com/example/gridwright/gridwright/games/slide/Move" := E_R.ext OL.2
  have F8 : Fld Z h0 s_R "com/example/gridwright/gridwright/games/slide/Move" "rows" "I" (.int (0 : Int32)) := F_R_rows.ext OL.2
  have F9 : Fld Z h0 s_R "com/example/gridwright/gridwright/games/slide/Move" "columns" "I" (.int (1 : Int32)) := F_R_columns.ext OL.2
  have E10 : Exa Z h0 s_U "com/example/gridwright/gridwright/games/slide/Move" := E_U.ext OL.2
  have F11 : Fld Z h0 s_U "com/example/gridwright/gridwright/games/slide/Move" "rows" "I" (.int (-1 : Int32)) := F_U_rows.ext OL.2
  have F12 : Fld Z h0 s_U "com/example/gridwright/gridwright/games/slide/Move" "columns" "I" (.int (0 : Int32)) := F_U_columns.ext OL.2
  refine own_Goes.via (T' := s₁) (g' := (mkF m 1 #[.val (.int xw), .val (.int xr), .val (.int xc), .val (.int xs), .unset, .unset, .unset, .unset, .unset, .unset] [(.int (1 : Int32))])) (fun t_ k_ => XS.iconst X0.here hx rfl (hb hby at_0) k_) ?_
  refine own_Goes.via (T' := s₁) (g' := (mkF m 2 #[.val (.int xw), .val (.int xr), .val (.int xc), .val (.int xs), .unset, .unset, .unset, .unset, .unset, .unset] [(.int xs), (.int (1 : Int32))])) (fun t_ k_ => XS.iloadN X0.here hx rfl (hb hby at_1) rfl k_) ?_
  refine own_Goes.via (T' := s₁) (g' := (mkF m 4 #[.val (.int xw), .val (.int xr), .val (.int xc), .val (.int xs), .unset, .unset, .unset, .unset, .unset, .unset] [(.int (2147483647 : Int32)), (.int xs), (.int (1 : Int32))])) (X0.ldcInt hx hown (mvT hZ (hw _ (List.mem_of_getElem? (i := 0) rfl))) (g := (mkF m 2 #[.val (.int xw), .val (.int xr), .val (.int xc), .val (.int xs), .unset, .unset, .unset, .unset, .unset, .unset] [(.int xs), (.int (1 : Int32))])) rfl (hb hby at_2)) ?_
  refine own_Goes.via (T' := s₁) (g' := (mkF m 5 #[.val (.int xw), .val (.int xr), .val (.int xc), .val (.int xs), .unset, .unset, .unset, .unset, .unset, .unset] [(.int (xs &&& (2147483647 : Int32))), (.int (1 : Int32))])) (fun t_ k_ => XS.iand X0.here hx rfl (hb hby at_4) rfl k_) ?_
  obtain ⟨_, _, ⟨T13, L13, k13, n13⟩, -, X13, ⟨Lc13, hQ13, l13, y13, z13⟩, st13⟩ := Jvm.LawKit.callS X0 hx (y := (⟨"java/lang/Math", "max", "(II)I"⟩ : MethodName)) hown (mvT hZ (hw _ (List.mem_of_getElem? (i := 1) rfl))) (mvT hZ (hw _ (List.mem_of_getElem? (i := 2) rfl))) (mvT hZ (hw _ (List.mem_of_getElem? (i := 3) rfl))) (mvT hZ (hw _ (List.mem_of_getElem? (i := 4) rfl))) (by decide) (backOf (W := 0) (rm1 l Z a0 hw [] (1 : Int32) (xs &&& (2147483647 : Int32)) h0 n0 Z0 ) hZ (hw _ (List.mem_of_getElem? (i := 4) rfl)) (hw _ (List.mem_of_getElem? (i := 3) rfl)) (by decide) (by decide)) (g := (mkF m 5 #[.val (.int xw), .val (.int xr), .val (.int xc), .val (.int xs), .unset, .unset, .unset, .unset, .unset, .unset] [(.int (xs &&& (2147483647 : Int32))), (.int (1 : Int32))])) rfl (by rw [hml]; rfl) (argsL := [(.int (1 : Int32)), (.int (xs &&& (2147483647 : Int32)))]) (rest := []) (lenOf pd_0_0 rfl) rfl (by show 2 * 0 + _ ≤ _; exact Nat.le_of_eq rfl) (hb hby at_5) (fun _ _ => ⟨rfl, e0, (by decide : 0 + 0 ≤ _), (by decide : 0 + 0 ≤ _)⟩)
  dsimp only [Pt.U, Pt.locs, Pt.cells, Pt.slots] at X13 l13 y13 z13 st13 hQ13
  subst l13 y13 z13
  obtain ⟨rfl, Nq13, hh13⟩ := hQ13
  have N13 := Fr.app N0 Nq13
  refine own_Goes.via (T' := T13) (g' := (mkF m 8 #[.val (.int xw), .val (.int xr), .val (.int xc), .val (.int xs), .unset, .unset, .unset, .unset, .unset, .unset] [(.int (own_f1 (1 : Int32) (xs &&& (2147483647 : Int32))))])) (st13) ?_
  obtain ⟨v14, hv14⟩ : ∃ z : Int32, z = (own_f1 (1 : Int32) (xs &&& (2147483647 : Int32))) := ⟨_, rfl⟩
  rw [← hv14]
  refine own_Goes.via (T' := T13) (g' := (mkF m 10 #[.val (.int xw), .val (.int xr), .val (.int xc), .val (.int xs), .val (.int v14), .unset, .unset, .unset, .unset, .unset] [])) (fun t_ k_ => XS.istore X13.here hx rfl (hb hby at_8) rfl (l' := #[.val (.int xw), .val (.int xr), .val (.int xc), .val (.int xs), .val (.int v14), .unset, .unset, .unset, .unset, .unset]) rfl k_) ?_
  refine own_Goes.via (T' := T13) (g' := (mkF m 11 #[.val (.int xw), .val (.int xr), .val (.int xc), .val (.int xs), .val (.int v14), .unset, .unset, .unset, .unset, .unset] [(.int xr)])) (fun t_ k_ => XS.iloadN X13.here hx rfl (hb hby at_10) rfl k_) ?_
  refine own_Goes.via (T' := T13) (g' := (mkF m 13 #[.val (.int xw), .val (.int xr), .val (.int xc), .val (.int xs), .val (.int v14), .unset, .unset, .unset, .unset, .unset] [(.int (2147483647 : Int32)), (.int xr)])) (X13.ldcInt hx hown (mvT hZ (hw _ (List.mem_of_getElem? (i := 0) rfl))) (g := (mkF m 11 #[.val (.int xw), .val (.int xr), .val (.int xc), .val (.int xs), .val (.int v14), .unset, .unset, .unset, .unset, .unset] [(.int xr)])) rfl (hb hby at_11)) ?_
  refine own_Goes.via (T' := T13) (g' := (mkF m 14 #[.val (.int xw), .val (.int xr), .val (.int xc), .val (.int xs), .val (.int v14), .unset, .unset, .unset, .unset, .unset] [(.int (xr &&& (2147483647 : Int32)))])) (fun t_ k_ => XS.iand X13.here hx rfl (hb hby at_13) rfl k_) ?_
  refine own_Goes.via (T' := T13) (g' := (mkF m 16 #[.val (.int xw), .val (.int xr), .val (.int xc), .val (.int xs), .val (.int v14), .unset, .unset, .unset, .unset, .unset] [(.int v14), (.int (xr &&& (2147483647 : Int32)))])) (fun t_ k_ => XS.iload X13.here hx rfl (hb hby at_14) rfl k_) ?_
  have nz16_15 : v14 ≠ (0 : Int32) := own_pl0_0 hv14
  refine own_Goes.via (T' := T13) (g' := (mkF m 17 #[.val (.int xw), .val (.int xr), .val (.int xc), .val (.int xs), .val (.int v14), .unset, .unset, .unset, .unset, .unset] [(.int ((xr &&& (2147483647 : Int32)) % v14))])) (fun t_ k_ => iremM X13 hx rfl (hb hby at_16) rfl nz16_15 k_) ?_
  refine own_Goes.via (T' := T13) (g' := (mkF m 19 #[.val (.int xw), .val (.int xr), .val (.int xc), .val (.int xs), .val (.int v14), .val (.int ((xr &&& (2147483647 : Int32)) % v14)), .unset, .unset, .unset, .unset] [])) (fun t_ k_ => XS.istore X13.here hx rfl (hb hby at_17) rfl (l' := #[.val (.int xw), .val (.int xr), .val (.int xc), .val (.int xs), .val (.int v14), .val (.int ((xr &&& (2147483647 : Int32)) % v14)), .unset, .unset, .unset, .unset]) rfl k_) ?_
  obtain ⟨v16, hv16⟩ : ∃ z : Int32, z = ((xr &&& (2147483647 : Int32)) % v14) := ⟨_, rfl⟩
  rw [← hv16]
  refine own_Goes.via (T' := T13) (g' := (mkF m 20 #[.val (.int xw), .val (.int xr), .val (.int xc), .val (.int xs), .val (.int v14), .val (.int v16), .unset, .unset, .unset, .unset] [(.int xc)])) (fun t_ k_ => XS.iloadN X13.here hx rfl (hb hby at_19) rfl k_) ?_
  refine own_Goes.via (T' := T13) (g' := (mkF m 22 #[.val (.int xw), .val (.int xr), .val (.int xc), .val (.int xs), .val (.int v14), .val (.int v16), .unset, .unset, .unset, .unset] [(.int (2147483647 : Int32)), (.int xc)])) (X13.ldcInt hx hown (mvT hZ (hw _ (List.mem_of_getElem? (i := 0) rfl))) (g := (mkF m 20 #[.val (.int xw), .val (.int xr), .val (.int xc), .val (.int xs), .val (.int v14), .val (.int v16), .unset, .unset, .unset, .unset] [(.int xc)])) rfl (hb hby at_20)) ?_
  refine own_Goes.via (T' := T13) (g' := (mkF m 23 #[.val (.int xw), .val (.int xr), .val (.int xc), .val (.int xs), .val (.int v14), .val (.int v16), .unset, .unset, .unset, .unset] [(.int (xc &&& (2147483647 : Int32)))])) (fun t_ k_ => XS.iand X13.here hx rfl (hb hby at_22) rfl k_) ?_
  refine own_Goes.via (T' := T13) (g' := (mkF m 25 #[.val (.int xw), .val (.int xr), .val (.int xc), .val (.int xs), .val (.int v14), .val (.int v16), .unset, .unset, .unset, .unset] [(.int v14), (.int (xc &&& (2147483647 : Int32)))])) (fun t_ k_ => XS.iload X13.here hx rfl (hb hby at_23) rfl k_) ?_
  have nz25_17 : v14 ≠ (0 : Int32) := own_pl0_1 hv14 hv16 nz16_15
  refine own_Goes.via (T' := T13) (g' := (mkF m 26 #[.val (.int xw), .val (.int xr), .val (.int xc), .val (.int xs), .val (.int v14), .val (.int v16), .unset, .unset, .unset, .unset] [(.int ((xc &&& (2147483647 : Int32)) % v14))])) (fun t_ k_ => iremM X13 hx rfl (hb hby at_25) rfl nz25_17 k_) ?_
  refine own_Goes.via (T' := T13) (g' := (mkF m 28 #[.val (.int xw), .val (.int xr), .val (.int xc), .val (.int xs), .val (.int v14), .val (.int v16), .val (.int ((xc &&& (2147483647 : Int32)) % v14)), .unset, .unset, .unset] [])) (fun t_ k_ => XS.istore X13.here hx rfl (hb hby at_26) rfl (l' := #[.val (.int xw), .val (.int xr), .val (.int xc), .val (.int xs), .val (.int v14), .val (.int v16), .val (.int ((xc &&& (2147483647 : Int32)) % v14)), .unset, .unset, .unset]) rfl k_) ?_
  obtain ⟨v18, hv18⟩ : ∃ z : Int32, z = ((xc &&& (2147483647 : Int32)) % v14) := ⟨_, rfl⟩
  rw [← hv18]
  refine own_Goes.via (T' := T13) (g' := (mkF m 29 #[.val (.int xw), .val (.int xr), .val (.int xc), .val (.int xs), .val (.int v14), .val (.int v16), .val (.int v18), .unset, .unset, .unset] [(.int xw)])) (fun t_ k_ => XS.iloadN X13.here hx rfl (hb hby at_28) rfl k_) ?_
  refine own_Goes.via (T' := T13) (g' := (mkF m 30 #[.val (.int xw), .val (.int xr), .val (.int xc), .val (.int xs), .val (.int v14), .val (.int v16), .val (.int v18), .unset, .unset, .unset] [(.int (3 : Int32)), (.int xw)])) (fun t_ k_ => XS.iconst X13.here hx rfl (hb hby at_29) k_) ?_
  refine own_Goes.via (T' := T13) (g' := (mkF m 31 #[.val (.int xw), .val (.int xr), .val (.int xc), .val (.int xs), .val (.int v14), .val (.int v16), .val (.int v18), .unset, .unset, .unset] [(.int (xw &&& (3 : Int32)))])) (fun t_ k_ => XS.iand X13.here hx rfl (hb hby at_30) rfl k_) ?_
  refine own_Goes.via (T' := T13) (g' := (mkF m 33 #[.val (.int xw), .val (.int xr), .val (.int xc), .val (.int xs), .val (.int v14), .val (.int v16), .val (.int v18), .val (.int (xw &&& (3 : Int32))), .unset, .unset] [])) (fun t_ k_ => XS.istore X13.here hx rfl (hb hby at_31) rfl (l' := #[.val (.int xw), .val (.int xr), .val (.int xc), .val (.int xs), .val (.int v14), .val (.int v16), .val (.int v18), .val (.int (xw &&& (3 : Int32))), .unset, .unset]) rfl k_) ?_
  obtain ⟨v19, hv19⟩ : ∃ z : Int32, z = (xw &&& (3 : Int32)) := ⟨_, rfl⟩
  rw [← hv19]
  refine own_Goes.via (T' := T13) (g' := (mkF m 35 #[.val (.int xw), .val (.int xr), .val (.int xc), .val (.int xs), .val (.int v14), .val (.int v16), .val (.int v18), .val (.int v19), .unset, .unset] [(.int v19)])) (fun t_ k_ => XS.iload X13.here hx rfl (hb hby at_33) rfl k_) ?_
  by_cases hc35_20 : v19 = (0 : Int32)
  · refine own_Goes.via (T' := T13) (g' := (mkF m 38 #[.val (.int xw), .val (.int xr), .val (.int xc), .val (.int xs), .val (.int v14), .val (.int v16), .val (.int v18), .val (.int v19), .unset, .unset] [])) (fun t_ k_ => XS.ifNo X13.here hx rfl (hb hby at_35) rfl ((if0 _ _).trans (teq hc35_20).2) k_) ?_
    obtain ⟨T21, X21, e21, st21⟩ := getS2 X13 hx hZ hown (host := "") (Or.inl (hw _ (List.mem_of_getElem? (i := 5) rfl))) Via.refl hh13 (S_D.ext OL.2) (g := (mkF m 38 #[.val (.int xw), .val (.int xr), .val (.int xc), .val (.int xs), .val (.int v14), .val (.int v16), .val (.int v18), .val (.int v19), .unset, .unset] [])) rfl (hb hby at_38)
    refine own_Goes.via (T' := T21) (g' := (mkF m 41 #[.val (.int xw), .val (.int xr), .val (.int xc), .val (.int xs), .val (.int v14), .val (.int v16), .val (.int v18), .val (.int v19), .unset, .unset] [(.ref s_D)])) (st21) ?_
    refine own_Goes.via (T' := T21) (g' := (mkF m 43 #[.val (.int xw), .val (.int xr), .val (.int xc), .val (.int xs), .val (.int v14), .val (.int v16), .val (.int v18), .val (.int v19), .val (.ref s_D), .unset] [])) (fun t_ k_ => XS.astore X21.here hx rfl (hb hby at_41) rfl rfl (l' := #[.val (.int xw), .val (.int xr), .val (.int xc), .val (.int xs), .val (.int v14), .val (.int v16), .val (.int v18), .val (.int v19), .val (.ref s_D), .unset]) rfl k_) ?_
    refine own_Goes.via (T' := T21) (g' := (mkF m 45 #[.val (.int xw), .val (.int xr), .val (.int xc), .val (.int xs), .val (.int v14), .val (.int v16), .val (.int v18), .val (.int v19), .val (.ref s_D), .unset] [(.int v16)])) (fun t_ k_ => XS.iload X21.here hx rfl (hb hby at_43) rfl k_) ?_
    refine own_Goes.via (T' := T21) (g' := (mkF m 47 #[.val (.int xw), .val (.int xr), .val (.int xc), .val (.int xs), .val (.int v14), .val (.int v16), .val (.int v18), .val (.int v19), .val (.ref s_D), .unset] [(.int v14), (.int v16)])) (fun t_ k_ => XS.iload X21.here hx rfl (hb hby at_45) rfl k_) ?_
    refine own_Goes.via (T' := T21) (g' := (mkF m 48 #[.val (.int xw), .val (.int xr), .val (.int xc), .val (.int xs), .val (.int v14), .val (.int v16), .val (.int v18), .val (.int v19), .val (.ref s_D), .unset] [(.int (1 : Int32)), (.int v14), (.int v16)])) (fun t_ k_ => XS.iconst X21.here hx rfl (hb hby at_47) k_) ?_
    refine own_Goes.via (T' := T21) (g' := (mkF m 49 #[.val (.int xw), .val (.int xr), .val (.int xc), .val (.int xs), .val (.int v14), .val (.int v16), .val (.int v18), .val (.int v19), .val (.ref s_D), .unset] [(.int (v14 - (1 : Int32))), (.int v16)])) (fun t_ k_ => XS.isub X21.here hx rfl (hb hby at_48) rfl k_) ?_
    suffices J57_25 : ∀ (v57_23 : Int32) (hv57_23 : v57_23 = (if v16 < (v14 - (1 : Int32)) then (1 : Int32) else (0 : Int32))), own_Goes p.tables e below P T21 (mkF m 57 #[.val (.int xw), .val (.int xr), .val (.int xc), .val (.int xs), .val (.int v14), .val (.int v16), .val (.int v18), .val (.int v19), .val (.ref s_D), .unset] [(.int v57_23)]) by
      by_cases hc49_22 : v16 < (v14 - (1 : Int32))
      · refine own_Goes.via (T' := T21) (g' := (mkF m 52 #[.val (.int xw), .val (.int xr), .val (.int xc), .val (.int xs), .val (.int v14), .val (.int v16), .val (.int v18), .val (.int v19), .val (.ref s_D), .unset] [])) (fun t_ k_ => XS.icmpNo X21.here hx rfl (hb hby at_49) rfl (tlt hc49_22).2.1 k_) ?_
        refine own_Goes.via (T' := T21) (g' := (mkF m 53 #[.val (.int xw), .val (.int xr), .val (.int xc), .val (.int xs), .val (.int v14), .val (.int v16), .val (.int v18), .val (.int v19), .val (.ref s_D), .unset] [(.int (1 : Int32))])) (fun t_ k_ => XS.iconst X21.here hx rfl (hb hby at_52) k_) ?_
        refine own_Goes.via (T' := T21) (g' := (mkF m 57 #[.val (.int xw), .val (.int xr), .val (.int xc), .val (.int xs), .val (.int v14), .val (.int v16), .val (.int v18), .val (.int v19), .val (.ref s_D), .unset] [(.int (1 : Int32))])) (fun t_ k_ => XS.goto X21.here hx rfl (pc0 := 53) (pc' := 57) rfl (hb hby at_53) (by decide) (by decide) k_) ?_
        exact J57_25 (1 : Int32) ((if_pos hc49_22)).symm
      · refine own_Goes.via (T' := T21) (g' := (mkF m 56 #[.val (.int xw), .val (.int xr), .val (.int xc), .val (.int xs), .val (.int v14), .val (.int v16), .val (.int v18), .val (.int v19), .val (.ref s_D), .unset] [])) (fun t_ k_ => XS.icmpYes X21.here hx rfl (pc0 := 49) (pc' := 56) rfl (hb hby at_49) rfl (flt hc49_22).2.1 (by decide) (by decide) k_) ?_
        refine own_Goes.via (T' := T21) (g' := (mkF m 57 #[.val (.int xw), .val (.int xr), .val (.int xc), .val (.int xs), .val (.int v14), .val (.int v16), .val (.int v18), .val (.int v19), .val (.ref s_D), .unset] [(.int (0 : Int32))])) (fun t_ k_ => XS.iconst X21.here hx rfl (hb hby at_56) k_) ?_
        exact J57_25 (0 : Int32) ((if_neg hc49_22)).symm
    intro v57_23 hv57_23
    refine own_Goes.via (T' := T21) (g' := (mkF m 59 #[.val (.int xw), .val (.int xr), .val (.int xc), .val (.int xs), .val (.int v14), .val (.int v16), .val (.int v18), .val (.int v19), .val (.ref s_D), .val (.int v57_23)] [])) (fun t_ k_ => XS.istore X21.here hx rfl (hb hby at_57) rfl (l' := #[.val (.int xw), .val (.int xr), .val (.int xc), .val (.int xs), .val (.int v14), .val (.int v16), .val (.int v18), .val (.int v19), .val (.ref s_D), .val (.int v57_23)]) rfl k_) ?_
    refine own_Goes.via (T' := T21) (g' := (mkF m 135 #[.val (.int xw), .val (.int xr), .val (.int xc), .val (.int xs), .val (.int v14), .val (.int v16), .val (.int v18), .val (.int v19), .val (.ref s_D), .val (.int v57_23)] [])) (fun t_ k_ => XS.goto X21.here hx rfl (pc0 := 59) (pc' := 135) rfl (hb hby at_59) (by decide) (by decide) k_) ?_
    refine own_Goes.via (T' := T21) (g' := (mkF m 137 #[.val (.int xw), .val (.int xr), .val (.int xc), .val (.int xs), .val (.int v14), .val (.int v16), .val (.int v18), .val (.int v19), .val (.ref s_D), .val (.int v57_23)] [(.ref s_D)])) (fun t_ k_ => XS.aload X21.here hx rfl (hb hby at_135) rfl rfl k_) ?_
    refine own_Goes.via (T' := T21) (g' := (mkF m 139 #[.val (.int xw), .val (.int xr), .val (.int xc), .val (.int xs), .val (.int v14), .val (.int v16), .val (.int v18), .val (.int v19), .val (.ref s_D), .val (.int v57_23)] [(.int v16), (.ref s_D)])) (fun t_ k_ => XS.iload X21.here hx rfl (hb hby at_137) rfl k_) ?_
    refine own_Goes.via (T' := T21) (g' := (mkF m 141 #[.val (.int xw), .val (.int xr), .val (.int xc), .val (.int xs), .val (.int v14), .val (.int v16), .val (.int v18), .val (.int v19), .val (.ref s_D), .val (.int v57_23)] [(.int v18), (.int v16), (.ref s_D)])) (fun t_ k_ => XS.iload X21.here hx rfl (hb hby at_139) rfl k_) ?_
    refine own_Goes.via (T' := T21) (g' := (mkF m 143 #[.val (.int xw), .val (.int xr), .val (.int xc), .val (.int xs), .val (.int v14), .val (.int v16), .val (.int v18), .val (.int v19), .val (.ref s_D), .val (.int v57_23)] [(.int v14), (.int v18), (.int v16), (.ref s_D)])) (fun t_ k_ => XS.iload X21.here hx rfl (hb hby at_141) rfl k_) ?_
    obtain ⟨cq26, kq26, q26a, q26b, q26c⟩ := isOf hZ e21 E1
    obtain ⟨_, _, ⟨T26, L26, k26, n26⟩, -, X26, ⟨Lc26, hQ26, l26, y26, z26⟩, st26⟩ := X21.virtualBack hx (y := (⟨"com/example/gridwright/gridwright/games/slide/Move", "keepsOnBoard", "(III)Z"⟩ : MethodName)) (z := (⟨"com/example/gridwright/gridwright/games/slide/Move", "keepsOnBoard", "(III)Z"⟩ : MethodName)) hown (mvT hZ (hw _ (List.mem_of_getElem? (i := 8) rfl))) (mvT hZ (hw _ (List.mem_of_getElem? (i := 9) rfl))) (notFace_of_selects (args := #[]) (mvT hZ (hw _ (List.mem_of_getElem? (i := 11) rfl)))) (mvT hZ (hw _ (List.mem_of_getElem? (i := 11) rfl))) (mvT hZ (hw _ (List.mem_of_getElem? (i := 10) rfl))) (by decide) (backOf (W := 0) (rm2 l Z a0 hw [] s_D v16 v18 v14 (1 : Int32) (0 : Int32) h0 n0 Z0 F2 F3) hZ (hw _ (List.mem_of_getElem? (i := 12) rfl)) (hw _ (List.mem_of_getElem? (i := 6) rfl)) (by decide) (by decide)) q26a q26c (g := (mkF m 143 #[.val (.int xw), .val (.int xr), .val (.int xc), .val (.int xs), .val (.int v14), .val (.int v16), .val (.int v18), .val (.int v19), .val (.ref s_D), .val (.int v57_23)] [(.int v14), (.int v18), (.int v16), (.ref s_D)])) rfl (by rw [hml]; rfl) (Steps.refl _) (argsL := [(.int v16), (.int v18), (.int v14)]) (rest := []) (lenOf pd_0_1 rfl) rfl (by show 2 * 0 + _ ≤ _; exact Nat.le_of_eq rfl) (hb hby at_143) (fun _ _ => ⟨rfl, e21, (by decide : 0 + 0 ≤ _), (by decide : 0 + 0 ≤ _)⟩)
    dsimp only [Pt.U, Pt.locs, Pt.cells, Pt.slots] at X26 l26 y26 z26 st26 hQ26
    subst l26 y26 z26
    obtain ⟨rfl, Nq26, hh26⟩ := hQ26
    have N26 := Fr.app N13 Nq26
    refine own_Goes.via (T' := T26) (g' := (mkF m 146 #[.val (.int xw), .val (.int xr), .val (.int xc), .val (.int xs), .val (.int v14), .val (.int v16), .val (.int v18), .val (.int v19), .val (.ref s_D), .val (.int v57_23)] [(.int (own_f2 v16 v18 v14 (1 : Int32) (0 : Int32)))])) (fun t_ k_ => st26.trans k_) ?_
    obtain ⟨v27, hv27⟩ : ∃ z : Int32, z = (own_f2 v16 v18 v14 (1 : Int32) (0 : Int32)) := ⟨_, rfl⟩
    rw [← hv27]
    refine own_Goes.via (T' := T26) (g' := (mkF m 148 #[.val (.int xw), .val (.int xr), .val (.int xc), .val (.int xs), .val (.int v14), .val (.int v16), .val (.int v18), .val (.int v19), .val (.ref s_D), .val (.int v57_23)] [(.int v57_23), (.int v27)])) (fun t_ k_ => XS.iload X26.here hx rfl (hb hby at_146) rfl k_) ?_
    suffices J156_31 : ∀ (v156_29 : Int32) (hv156_29 : v156_29 = (if v27 = v57_23 then (1 : Int32) else (0 : Int32))), own_Goes p.tables e below P T26 (mkF m 156 #[.val (.int xw), .val (.int xr), .val (.int xc), .val (.int xs), .val (.int v14), .val (.int v16), .val (.int v18), .val (.int v19), .val (.ref s_D), .val (.int v57_23)] [(.int v156_29)]) by
      by_cases hc148_28 : v27 = v57_23
      · refine own_Goes.via (T' := T26) (g' := (mkF m 151 #[.val (.int xw), .val (.int xr), .val (.int xc), .val (.int xs), .val (.int v14), .val (.int v16), .val (.int v18), .val (.int v19), .val (.ref s_D), .val (.int v57_23)] [])) (fun t_ k_ => XS.icmpNo X26.here hx rfl (hb hby at_148) rfl (teq hc148_28).2 k_) ?_
        refine own_Goes.via (T' := T26) (g' := (mkF m 152 #[.val (.int xw), .val (.int xr), .val (.int xc), .val (.int xs), .val (.int v14), .val (.int v16), .val (.int v18), .val (.int v19), .val (.ref s_D), .val (.int v57_23)] [(.int (1 : Int32))])) (fun t_ k_ => XS.iconst X26.here hx rfl (hb hby at_151) k_) ?_
        refine own_Goes.via (T' := T26) (g' := (mkF m 156 #[.val (.int xw), .val (.int xr), .val (.int xc), .val (.int xs), .val (.int v14), .val (.int v16), .val (.int v18), .val (.int v19), .val (.ref s_D), .val (.int v57_23)] [(.int (1 : Int32))])) (fun t_ k_ => XS.goto X26.here hx rfl (pc0 := 152) (pc' := 156) rfl (hb hby at_152) (by decide) (by decide) k_) ?_
        exact J156_31 (1 : Int32) ((if_pos hc148_28)).symm
      · refine own_Goes.via (T' := T26) (g' := (mkF m 155 #[.val (.int xw), .val (.int xr), .val (.int xc), .val (.int xs), .val (.int v14), .val (.int v16), .val (.int v18), .val (.int v19), .val (.ref s_D), .val (.int v57_23)] [])) (fun t_ k_ => XS.icmpYes X26.here hx rfl (pc0 := 148) (pc' := 155) rfl (hb hby at_148) rfl (feq hc148_28).2 (by decide) (by decide) k_) ?_
        refine own_Goes.via (T' := T26) (g' := (mkF m 156 #[.val (.int xw), .val (.int xr), .val (.int xc), .val (.int xs), .val (.int v14), .val (.int v16), .val (.int v18), .val (.int v19), .val (.ref s_D), .val (.int v57_23)] [(.int (0 : Int32))])) (fun t_ k_ => XS.iconst X26.here hx rfl (hb hby at_155) k_) ?_
        exact J156_31 (0 : Int32) ((if_neg hc148_28)).symm
    intro v156_29 hv156_29
    have hfin : v156_29 = 1 := own_pl0_2 hv14 hv16 hv18 hv19 hv57_23 hv27 hv156_29 hc35_20 nz16_15 nz25_17
    rw [hfin]
    obtain ⟨fs, hr, hrun, hended, hW, hsame⟩ := X26.leave (v := some (.int 1)) (fun h => by rw [Bd.returns] at h; cases h)
    refine own_Goes.fin (retN X26 hx (t := .boolean) Bd.returns (by simp) (hb hby at_156) hr) hrun hended ?_
    subst hPd
    refine ⟨_, _, rfl, ?_, ⟨_, rfl⟩, hW, hsame.mono (by decide) (by decide)⟩
    show Q0 Z xw xr xc xs s_D s_L s_R s_U h0 n0 _ T26.heap _
    rw [hh26]
    exact ⟨rfl, N26⟩
  · refine own_Goes.via (T' := T13) (g' := (mkF m 62 #[.val (.int xw), .val (.int xr), .val (.int xc), .val (.int xs), .val (.int v14), .val (.int v16), .val (.int v18), .val (.int v19), .unset, .unset] [])) (fun t_ k_ => XS.ifYes X13.here hx rfl (pc0 := 35) (pc' := 62) rfl (hb hby at_35) rfl ((if0 _ _).trans (feq hc35_20).2) (by decide) (by decide) k_) ?_
    refine own_Goes.via (T' := T13) (g' := (mkF m 64 #[.val (.int xw), .val (.int xr), .val (.int xc), .val (.int xs), .val (.int v14), .val (.int v16), .val (.int v18), .val (.int v19), .unset, .unset] [(.int v19)])) (fun t_ k_ => XS.iload X13.here hx rfl (hb hby at_62) rfl k_) ?_
    refine own_Goes.via (T' := T13) (g' := (mkF m 65 #[.val (.int xw), .val (.int xr), .val (.int xc), .val (.int xs), .val (.int v14), .val (.int v16), .val (.int v18), .val (.int v19), .unset, .unset] [(.int (1 : Int32)), (.int v19)])) (fun t_ k_ => XS.iconst X13.here hx rfl (hb hby at_64) k_) ?_
    by_cases hc65_32 : v19 = (1 : Int32)
    · refine own_Goes.via (T' := T13) (g' := (mkF m 68 #[.val (.int xw), .val (.int xr), .val (.int xc), .val (.int xs), .val (.int v14), .val (.int v16), .val (.int v18), .val (.int v19), .unset, .unset] [])) (fun t_ k_ => XS.icmpNo X13.here hx rfl (hb hby at_65) rfl (teq hc65_32).2 k_) ?_
      obtain ⟨T33, X33, e33, st33⟩ := getS2 X13 hx hZ hown (host := "") (Or.inl (hw _ (List.mem_of_getElem? (i := 21) rfl))) Via.refl hh13 (S_L.ext OL.2) (g := (mkF m 68 #[.val (.int xw), .val (.int xr), .val (.int xc), .val (.int xs), .val (.int v14), .val (.int v16), .val (.int v18), .val (.int v19), .unset, .unset] [])) rfl (hb hby at_68)
      refine own_Goes.via (T' := T33) (g' := (mkF m 71 #[.val (.int xw), .val (.int xr), .val (.int xc), .val (.int xs), .val (.int v14), .val (.int v16), .val (.int v18), .val (.int v19), .unset, .unset] [(.ref s_L)])) (st33) ?_
      refine own_Goes.via (T' := T33) (g' := (mkF m 73 #[.val (.int xw), .val (.int xr), .val (.int xc), .val (.int xs), .val (.int v14), .val (.int v16), .val (.int v18), .val (.int v19), .val (.ref s_L), .unset] [])) (fun t_ k_ => XS.astore X33.here hx rfl (hb hby at_71) rfl rfl (l' := #[.val (.int xw), .val (.int xr), .val (.int xc), .val (.int xs), .val (.int v14), .val (.int v16), .val (.int v18), .val (.int v19), .val (.ref s_L), .unset]) rfl k_) ?_
      refine own_Goes.via (T' := T33) (g' := (mkF m 75 #[.val (.int xw), .val (.int xr), .val (.int xc), .val (.int xs), .val (.int v14), .val (.int v16), .val (.int v18), .val (.int v19), .val (.ref s_L), .unset] [(.int v18)])) (fun t_ k_ => XS.iload X33.here hx rfl (hb hby at_73) rfl k_) ?_
      suffices J83_37 : ∀ (v83_35 : Int32) (hv83_35 : v83_35 = (if (0 : Int32) < v18 then (1 : Int32) else (0 : Int32))), own_Goes p.tables e below P T33 (mkF m 83 #[.val (.int xw), .val (.int xr), .val (.int xc), .val (.int xs), .val (.int v14), .val (.int v16), .val (.int v18), .val (.int v19), .val (.ref s_L), .unset] [(.int v83_35)]) by
        by_cases hc75_34 : (0 : Int32) < v18
        · refine own_Goes.via (T' := T33) (g' := (mkF m 78 #[.val (.int xw), .val (.int xr), .val (.int xc), .val (.int xs), .val (.int v14), .val (.int v16), .val (.int v18), .val (.int v19), .val (.ref s_L), .unset] [])) (fun t_ k_ => XS.ifNo X33.here hx rfl (hb hby at_75) rfl ((if0 _ _).trans (tlt hc75_34).2.2.2) k_) ?_
          refine own_Goes.via (T' := T33) (g' := (mkF m 79 #[.val (.int xw), .val (.int xr), .val (.int xc), .val (.int xs), .val (.int v14), .val (.int v16), .val (.int v18), .val (.int v19), .val (.ref s_L), .unset] [(.int (1 : Int32))])) (fun t_ k_ => XS.iconst X33.here hx rfl (hb hby at_78) k_) ?_
          refine own_Goes.via (T' := T33) (g' := (mkF m 83 #[.val (.int xw), .val (.int xr), .val (.int xc), .val (.int xs), .val (.int v14), .val (.int v16), .val (.int v18), .val (.int v19), .val (.ref s_L), .unset] [(.int (1 : Int32))])) (fun t_ k_ => XS.goto X33.here hx rfl (pc0 := 79) (pc' := 83) rfl (hb hby at_79) (by decide) (by decide) k_) ?_
          exact J83_37 (1 : Int32) ((if_pos hc75_34)).symm
        · refine own_Goes.via (T' := T33) (g' := (mkF m 82 #[.val (.int xw), .val (.int xr), .val (.int xc), .val (.int xs), .val (.int v14), .val (.int v16), .val (.int v18), .val (.int v19), .val (.ref s_L), .unset] [])) (fun t_ k_ => XS.ifYes X33.here hx rfl (pc0 := 75) (pc' := 82) rfl (hb hby at_75) rfl ((if0 _ _).trans (flt hc75_34).2.2.2) (by decide) (by decide) k_) ?_
          refine own_Goes.via (T' := T33) (g' := (mkF m 83 #[.val (.int xw), .val (.int xr), .val (.int xc), .val (.int xs), .val (.int v14), .val (.int v16), .val (.int v18), .val (.int v19), .val (.ref s_L), .unset] [(.int (0 : Int32))])) (fun t_ k_ => XS.iconst X33.here hx rfl (hb hby at_82) k_) ?_
          exact J83_37 (0 : Int32) ((if_neg hc75_34)).symm
      intro v83_35 hv83_35
      refine own_Goes.via (T' := T33) (g' := (mkF m 85 #[.val (.int xw), .val (.int xr), .val (.int xc), .val (.int xs), .val (.int v14), .val (.int v16), .val (.int v18), .val (.int v19), .val (.ref s_L), .val (.int v83_35)] [])) (fun t_ k_ => XS.istore X33.here hx rfl (hb hby at_83) rfl (l' := #[.val (.int xw), .val (.int xr), .val (.int xc), .val (.int xs), .val (.int v14), .val (.int v16), .val (.int v18), .val (.int v19), .val (.ref s_L), .val (.int v83_35)]) rfl k_) ?_
      refine own_Goes.via (T' := T33) (g' := (mkF m 135 #[.val (.int xw), .val (.int xr), .val (.int xc), .val (.int xs), .val (.int v14), .val (.int v16), .val (.int v18), .val (.int v19), .val (.ref s_L), .val (.int v83_35)] [])) (fun t_ k_ => XS.goto X33.here hx rfl (pc0 := 85) (pc' := 135) rfl (hb hby at_85) (by decide) (by decide) k_) ?_
      refine own_Goes.via (T' := T33) (g' := (mkF m 137 #[.val (.int xw), .val (.int xr), .val (.int xc), .val (.int xs), .val (.int v14), .val (.int v16), .val (.int v18), .val (.int v19), .val (.ref s_L), .val (.int v83_35)] [(.ref s_L)])) (fun t_ k_ => XS.aload X33.here hx rfl (hb hby at_135) rfl rfl k_) ?_
      refine own_Goes.via (T' := T33) (g' := (mkF m 139 #[.val (.int xw), .val (.int xr), .val (.int xc), .val (.int xs), .val (.int v14), .val (.int v16), .val (.int v18), .val (.int v19), .val (.ref s_L), .val (.int v83_35)] [(.int v16), (.ref s_L)])) (fun t_ k_ => XS.iload X33.here hx rfl (hb hby at_137) rfl k_) ?_
      refine own_Goes.via (T' := T33) (g' := (mkF m 141 #[.val (.int xw), .val (.int xr), .val (.int xc), .val (.int xs), .val (.int v14), .val (.int v16), .val (.int v18), .val (.int v19), .val (.ref s_L), .val (.int v83_35)] [(.int v18), (.int v16), (.ref s_L)])) (fun t_ k_ => XS.iload X33.here hx rfl (hb hby at_139) rfl k_) ?_
      refine own_Goes.via (T' := T33) (g' := (mkF m 143 #[.val (.int xw), .val (.int xr), .val (.int xc), .val (.int xs), .val (.int v14), .val (.int v16), .val (.int v18), .val (.int v19), .val (.ref s_L), .val (.int v83_35)] [(.int v14), (.int v18), (.int v16), (.ref s_L)])) (fun t_ k_ => XS.iload X33.here hx rfl (hb hby at_141) rfl k_) ?_
      obtain ⟨cq38, kq38, q38a, q38b, q38c⟩ := isOf hZ e33 E4
      obtain ⟨_, _, ⟨T38, L38, k38, n38⟩, -, X38, ⟨Lc38, hQ38, l38, y38, z38⟩, st38⟩ := X33.virtualBack hx (y := (⟨"com/example/gridwright/gridwright/games/slide/Move", "keepsOnBoard", "(III)Z"⟩ : MethodName)) (z := (⟨"com/example/gridwright/gridwright/games/slide/Move", "keepsOnBoard", "(III)Z"⟩ : MethodName)) hown (mvT hZ (hw _ (List.mem_of_getElem? (i := 8) rfl))) (mvT hZ (hw _ (List.mem_of_getElem? (i := 9) rfl))) (notFace_of_selects (args := #[]) (mvT hZ (hw _ (List.mem_of_getElem? (i := 11) rfl)))) (mvT hZ (hw _ (List.mem_of_getElem? (i := 11) rfl))) (mvT hZ (hw _ (List.mem_of_getElem? (i := 10) rfl))) (by decide) (backOf (W := 0) (rm2 l Z a0 hw [] s_L v16 v18 v14 (0 : Int32) (-1 : Int32) h0 n0 Z0 F5 F6) hZ (hw _ (List.mem_of_getElem? (i := 12) rfl)) (hw _ (List.mem_of_getElem? (i := 6) rfl)) (by decide) (by decide)) q38a q38c (g := (mkF m 143 #[.val (.int xw), .val (.int xr), .val (.int xc), .val (.int xs), .val (.int v14), .val (.int v16), .val (.int v18), .val (.int v19), .val (.ref s_L), .val (.int v83_35)] [(.int v14), (.int v18), (.int v16), (.ref s_L)])) rfl (by rw [hml]; rfl) (Steps.refl _) (argsL := [(.int v16), (.int v18), (.int v14)]) (rest := []) (lenOf pd_0_1 rfl) rfl (by show 2 * 0 + _ ≤ _; exact Nat.le_of_eq rfl) (hb hby at_143) (fun _ _ => ⟨rfl, e33, (by decide : 0 + 0 ≤ _), (by decide : 0 + 0 ≤ _)⟩)
      dsimp only [Pt.U, Pt.locs, Pt.cells, Pt.slots] at X38 l38 y38 z38 st38 hQ38
      subst l38 y38 z38
      obtain ⟨rfl, Nq38, hh38⟩ := hQ38
      have N38 := Fr.app N13 Nq38
      refine own_Goes.via (T' := T38) (g' := (mkF m 146 #[.val (.int xw), .val (.int xr), .val (.int xc), .val (.int xs), .val (.int v14), .val (.int v16), .val (.int v18), .val (.int v19), .val (.ref s_L), .val (.int v83_35)] [(.int (own_f2 v16 v18 v14 (0 : Int32) (-1 : Int32)))])) (fun t_ k_ => st38.trans k_) ?_
      obtain ⟨v39, hv39⟩ : ∃ z : Int32, z = (own_f2 v16 v18 v14 (0 : Int32) (-1 : Int32)) := ⟨_, rfl⟩
      rw [← hv39]
      refine own_Goes.via (T' := T38) (g' := (mkF m 148 #[.val (.int xw), .val (.int xr), .val (.int xc), .val (.int xs), .val (.int v14), .val (.int v16), .val (.int v18), .val (.int v19), .val (.ref s_L), .val (.int v83_35)] [(.int v83_35), (.int v39)])) (fun t_ k_ => XS.iload X38.here hx rfl (hb hby at_146) rfl k_) ?_
      suffices J156_43 : ∀ (v156_41 : Int32) (hv156_41 : v156_41 = (if v39 = v83_35 then (1 : Int32) else (0 : Int32))), own_Goes p.tables e below P T38 (mkF m 156 #[.val (.int xw), .val (.int xr), .val (.int xc), .val (.int xs), .val (.int v14), .val (.int v16), .val (.int v18), .val (.int v19), .val (.ref s_L), .val (.int v83_35)] [(.int v156_41)]) by
        by_cases hc148_40 : v39 = v83_35
        · refine own_Goes.via (T' := T38) (g' := (mkF m 151 #[.val (.int xw), .val (.int xr), .val (.int xc), .val (.int xs), .val (.int v14), .val (.int v16), .val (.int v18), .val (.int v19), .val (.ref s_L), .val (.int v83_35)] [])) (fun t_ k_ => XS.icmpNo X38.here hx rfl (hb hby at_148) rfl (teq hc148_40).2 k_) ?_
          refine own_Goes.via (T' := T38) (g' := (mkF m 152 #[.val (.int xw), .val (.int xr), .val (.int xc), .val (.int xs), .val (.int v14), .val (.int v16), .val (.int v18), .val (.int v19), .val (.ref s_L), .val (.int v83_35)] [(.int (1 : Int32))])) (fun t_ k_ => XS.iconst X38.here hx rfl (hb hby at_151) k_) ?_
          refine own_Goes.via (T' := T38) (g' := (mkF m 156 #[.val (.int xw), .val (.int xr), .val (.int xc), .val (.int xs), .val (.int v14), .val (.int v16), .val (.int v18), .val (.int v19), .val (.ref s_L), .val (.int v83_35)] [(.int (1 : Int32))])) (fun t_ k_ => XS.goto X38.here hx rfl (pc0 := 152) (pc' := 156) rfl (hb hby at_152) (by decide) (by decide) k_) ?_
          exact J156_43 (1 : Int32) ((if_pos hc148_40)).symm
        · refine own_Goes.via (T' := T38) (g' := (mkF m 155 #[.val (.int xw), .val (.int xr), .val (.int xc), .val (.int xs), .val (.int v14), .val (.int v16), .val (.int v18), .val (.int v19), .val (.ref s_L), .val (.int v83_35)] [])) (fun t_ k_ => XS.icmpYes X38.here hx rfl (pc0 := 148) (pc' := 155) rfl (hb hby at_148) rfl (feq hc148_40).2 (by decide) (by decide) k_) ?_
          refine own_Goes.via (T' := T38) (g' := (mkF m 156 #[.val (.int xw), .val (.int xr), .val (.int xc), .val (.int xs), .val (.int v14), .val (.int v16), .val (.int v18), .val (.int v19), .val (.ref s_L), .val (.int v83_35)] [(.int (0 : Int32))])) (fun t_ k_ => XS.iconst X38.here hx rfl (hb hby at_155) k_) ?_
          exact J156_43 (0 : Int32) ((if_neg hc148_40)).symm
      intro v156_41 hv156_41
      have hfin : v156_41 = 1 := own_pl0_3 hv14 hv16 hv18 hv19 hv83_35 hv39 hv156_41 hc35_20 hc65_32 nz16_15 nz25_17
      rw [hfin]
      obtain ⟨fs, hr, hrun, hended, hW, hsame⟩ := X38.leave (v := some (.int 1)) (fun h => by rw [Bd.returns] at h; cases h)
      refine own_Goes.fin (retN X38 hx (t := .boolean) Bd.returns (by simp) (hb hby at_156) hr) hrun hended ?_
      subst hPd
      refine ⟨_, _, rfl, ?_, ⟨_, rfl⟩, hW, hsame.mono (by decide) (by decide)⟩
      show Q0 Z xw xr xc xs s_D s_L s_R s_U h0 n0 _ T38.heap _
      rw [hh38]
      exact ⟨rfl, N38⟩
    · refine own_Goes.via (T' := T13) (g' := (mkF m 88 #[.val (.int xw), .val (.int xr), .val (.int xc), .val (.int xs), .val (.int v14), .val (.int v16), .val (.int v18), .val (.int v19), .unset, .unset] [])) (fun t_ k_ => XS.icmpYes X13.here hx rfl (pc0 := 65) (pc' := 88) rfl (hb hby at_65) rfl (feq hc65_32).2 (by decide) (by decide) k_) ?_
      refine own_Goes.via (T' := T13) (g' := (mkF m 90 #[.val (.int xw), .val (.int xr), .val (.int xc), .val (.int xs), .val (.int v14), .val (.int v16), .val (.int v18), .val (.int v19), .unset, .unset] [(.int v19)])) (fun t_ k_ => XS.iload X13.here hx rfl (hb hby at_88) rfl k_) ?_
      refine own_Goes.via (T' := T13) (g' := (mkF m 91 #[.val (.int xw), .val (.int xr), .val (.int xc), .val (.int xs), .val (.int v14), .val (.int v16), .val (.int v18), .val (.int v19), .unset, .unset] [(.int (2 : Int32)), (.int v19)])) (fun t_ k_ => XS.iconst X13.here hx rfl (hb hby at_90) k_) ?_
      by_cases hc91_44 : v19 = (2 : Int32)
      · refine own_Goes.via (T' := T13) (g' := (mkF m 94 #[.val (.int xw), .val (.int xr), .val (.int xc), .val (.int xs), .val (.int v14), .val (.int v16), .val (.int v18), .val (.int v19), .unset, .unset] [])) (fun t_ k_ => XS.icmpNo X13.here hx rfl (hb hby at_91) rfl (teq hc91_44).2 k_) ?_
        obtain ⟨T45, X45, e45, st45⟩ := getS2 X13 hx hZ hown (host := "") (Or.inl (hw _ (List.mem_of_getElem? (i := 19) rfl))) Via.refl hh13 (S_R.ext OL.2) (g := (mkF m 94 #[.val (.int xw), .val (.int xr), .val (.int xc), .val (.int xs), .val (.int v14), .val (.int v16), .val (.int v18), .val (.int v19), .unset, .unset] [])) rfl (hb hby at_94)
        refine own_Goes.via (T' := T45) (g' := (mkF m 97 #[.val (.int xw), .val (.int xr), .val (.int xc), .val (.int xs), .val (.int v14), .val (.int v16), .val (.int v18), .val (.int v19), .unset, .unset] [(.ref s_R)])) (st45) ?_
        refine own_Goes.via (T' := T45) (g' := (mkF m 99 #[.val (.int xw), .val (.int xr), .val (.int xc), .val (.int xs), .val (.int v14), .val (.int v16), .val (.int v18), .val (.int v19), .val (.ref s_R), .unset] [])) (fun t_ k_ => XS.astore X45.here hx rfl (hb hby at_97) rfl rfl (l' := #[.val (.int xw), .val (.int xr), .val (.int xc), .val (.int xs), .val (.int v14), .val (.int v16), .val (.int v18), .val (.int v19), .val (.ref s_R), .unset]) rfl k_) ?_
        refine own_Goes.via (T' := T45) (g' := (mkF m 101 #[.val (.int xw), .val (.int xr), .val (.int xc), .val (.int xs), .val (.int v14), .val (.int v16), .val (.int v18), .val (.int v19), .val (.ref s_R), .unset] [(.int v18)])) (fun t_ k_ => XS.iload X45.here hx rfl (hb hby at_99) rfl k_) ?_
        refine own_Goes.via (T' := T45) (g' := (mkF m 103 #[.val (.int xw), .val (.int xr), .val (.int xc), .val (.int xs), .val (.int v14), .val (.int v16), .val (.int v18), .val (.int v19), .val (.ref s_R), .unset] [(.int v14), (.int v18)])) (fun t_ k_ => XS.iload X45.here hx rfl (hb hby at_101) rfl k_) ?_
        refine own_Goes.via (T' := T45) (g' := (mkF m 104 #[.val (.int xw), .val (.int xr), .val (.int xc), .val (.int xs), .val (.int v14), .val (.int v16), .val (.int v18), .val (.int v19), .val (.ref s_R), .unset] [(.int (1 : Int32)), (.int v14), (.int v18)])) (fun t_ k_ => XS.iconst X45.here hx rfl (hb hby at_103) k_) ?_
        refine own_Goes.via (T' := T45) (g' := (mkF m 105 #[.val (.int xw), .val (.int xr), .val (.int xc), .val (.int xs), .val (.int v14), .val (.int v16), .val (.int v18), .val (.int v19), .val (.ref s_R), .unset] [(.int (v14 - (1 : Int32))), (.int v18)])) (fun t_ k_ => XS.isub X45.here hx rfl (hb hby at_104) rfl k_) ?_
        suffices J113_49 : ∀ (v113_47 : Int32) (hv113_47 : v113_47 = (if v18 < (v14 - (1 : Int32)) then (1 : Int32) else (0 : Int32))), own_Goes p.tables e below P T45 (mkF m 113 #[.val (.int xw), .val (.int xr), .val (.int xc), .val (.int xs), .val (.int v14), .val (.int v16), .val (.int v18), .val (.int v19), .val (.ref s_R), .unset] [(.int v113_47)]) by
          by_cases hc105_46 : v18 < (v14 - (1 : Int32))
          · refine own_Goes.via (T' := T45) (g' := (mkF m 108 #[.val (.int xw), .val (.int xr), .val (.int xc), .val (.int xs), .val (.int v14), .val (.int v16), .val (.int v18), .val (.int v19), .val (.ref s_R), .unset] [])) (fun t_ k_ => XS.icmpNo X45.here hx rfl (hb hby at_105) rfl (tlt hc105_46).2.1 k_) ?_
            refine own_Goes.via (T' := T45) (g' := (mkF m 109 #[.val (.int xw), .val (.int xr), .val (.int xc), .val (.int xs), .val (.int v14), .val (.int v16), .val (.int v18), .val (.int v19), .val (.ref s_R), .unset] [(.int (1 : Int32))])) (fun t_ k_ => XS.iconst X45.here hx rfl (hb hby at_108) k_) ?_
            refine own_Goes.via (T' := T45) (g' := (mkF m 113 #[.val (.int xw), .val (.int xr), .val (.int xc), .val (.int xs), .val (.int v14), .val (.int v16), .val (.int v18), .val (.int v19), .val (.ref s_R), .unset] [(.int (1 : Int32))])) (fun t_ k_ => XS.goto X45.here hx rfl (pc0 := 109) (pc' := 113) rfl (hb hby at_109) (by decide) (by decide) k_) ?_
            exact J113_49 (1 : Int32) ((if_pos hc105_46)).symm
          · refine own_Goes.via (T' := T45) (g' := (mkF m 112 #[.val (.int xw), .val (.int xr), .val (.int xc), .val (.int xs), .val (.int v14), .val (.int v16), .val (.int v18), .val (.int v19), .val (.ref s_R), .unset] [])) (fun t_ k_ => XS.icmpYes X45.here hx rfl (pc0 := 105) (pc' := 112) rfl (hb hby at_105) rfl (flt hc105_46).2.1 (by decide) (by decide) k_) ?_
            refine own_Goes.via (T' := T45) (g' := (mkF m 113 #[.val (.int xw), .val (.int xr), .val (.int xc), .val (.int xs), .val (.int v14), .val (.int v16), .val (.int v18), .val (.int v19), .val (.ref s_R), .unset] [(.int (0 : Int32))])) (fun t_ k_ => XS.iconst X45.here hx rfl (hb hby at_112) k_) ?_
            exact J113_49 (0 : Int32) ((if_neg hc105_46)).symm
        intro v113_47 hv113_47
        refine own_Goes.via (T' := T45) (g' := (mkF m 115 #[.val (.int xw), .val (.int xr), .val (.int xc), .val (.int xs), .val (.int v14), .val (.int v16), .val (.int v18), .val (.int v19), .val (.ref s_R), .val (.int v113_47)] [])) (fun t_ k_ => XS.istore X45.here hx rfl (hb hby at_113) rfl (l' := #[.val (.int xw), .val (.int xr), .val (.int xc), .val (.int xs), .val (.int v14), .val (.int v16), .val (.int v18), .val (.int v19), .val (.ref s_R), .val (.int v113_47)]) rfl k_) ?_
        refine own_Goes.via (T' := T45) (g' := (mkF m 135 #[.val (.int xw), .val (.int xr), .val (.int xc), .val (.int xs), .val (.int v14), .val (.int v16), .val (.int v18), .val (.int v19), .val (.ref s_R), .val (.int v113_47)] [])) (fun t_ k_ => XS.goto X45.here hx rfl (pc0 := 115) (pc' := 135) rfl (hb hby at_115) (by decide) (by decide) k_) ?_
        refine own_Goes.via (T' := T45) (g' := (mkF m 137 #[.val (.int xw), .val (.int xr), .val (.int xc), .val (.int xs), .val (.int v14), .val (.int v16), .val (.int v18), .val (.int v19), .val (.ref s_R), .val (.int v113_47)] [(.ref s_R)])) (fun t_ k_ => XS.aload X45.here hx rfl (hb hby at_135) rfl rfl k_) ?_
        refine own_Goes.via (T' := T45) (g' := (mkF m 139 #[.val (.int xw), .val (.int xr), .val (.int xc), .val (.int xs), .val (.int v14), .val (.int v16), .val (.int v18), .val (.int v19), .val (.ref s_R), .val (.int v113_47)] [(.int v16), (.ref s_R)])) (fun t_ k_ => XS.iload X45.here hx rfl (hb hby at_137) rfl k_) ?_
        refine own_Goes.via (T' := T45) (g' := (mkF m 141 #[.val (.int xw), .val (.int xr), .val (.int xc), .val (.int xs), .val (.int v14), .val (.int v16), .val (.int v18), .val (.int v19), .val (.ref s_R), .val (.int v113_47)] [(.int v18), (.int v16), (.ref s_R)])) (fun t_ k_ => XS.iload X45.here hx rfl (hb hby at_139) rfl k_) ?_
        refine own_Goes.via (T' := T45) (g' := (mkF m 143 #[.val (.int xw), .val (.int xr), .val (.int xc), .val (.int xs), .val (.int v14), .val (.int v16), .val (.int v18), .val (.int v19), .val (.ref s_R), .val (.int v113_47)] [(.int v14), (.int v18), (.int v16), (.ref s_R)])) (fun t_ k_ => XS.iload X45.here hx rfl (hb hby at_141) rfl k_) ?_
        obtain ⟨cq50, kq50, q50a, q50b, q50c⟩ := isOf hZ e45 E7
        obtain ⟨_, _, ⟨T50, L50, k50, n50⟩, -, X50, ⟨Lc50, hQ50, l50, y50, z50⟩, st50⟩ := X45.virtualBack hx (y := (⟨"com/example/gridwright/gridwright/games/slide/Move", "keepsOnBoard", "(III)Z"⟩ : MethodName)) (z := (⟨"com/example/gridwright/gridwright/games/slide/Move", "keepsOnBoard", "(III)Z"⟩ : MethodName)) hown (mvT hZ (hw _ (List.mem_of_getElem? (i := 8) rfl))) (mvT hZ (hw _ (List.mem_of_getElem? (i := 9) rfl))) (notFace_of_selects (args := #[]) (mvT hZ (hw _ (List.mem_of_getElem? (i := 11) rfl)))) (mvT hZ (hw _ (List.mem_of_getElem? (i := 11) rfl))) (mvT hZ (hw _ (List.mem_of_getElem? (i := 10) rfl))) (by decide) (backOf (W := 0) (rm2 l Z a0 hw [] s_R v16 v18 v14 (0 : Int32) (1 : Int32) h0 n0 Z0 F8 F9) hZ (hw _ (List.mem_of_getElem? (i := 12) rfl)) (hw _ (List.mem_of_getElem? (i := 6) rfl)) (by decide) (by decide)) q50a q50c (g := (mkF m 143 #[.val (.int xw), .val (.int xr), .val (.int xc), .val (.int xs), .val (.int v14), .val (.int v16), .val (.int v18), .val (.int v19), .val (.ref s_R), .val (.int v113_47)] [(.int v14), (.int v18), (.int v16), (.ref s_R)])) rfl (by rw [hml]; rfl) (Steps.refl _) (argsL := [(.int v16), (.int v18), (.int v14)]) (rest := []) (lenOf pd_0_1 rfl) rfl (by show 2 * 0 + _ ≤ _; exact Nat.le_of_eq rfl) (hb hby at_143) (fun _ _ => ⟨rfl, e45, (by decide : 0 + 0 ≤ _), (by decide : 0 + 0 ≤ _)⟩)
        dsimp only [Pt.U, Pt.locs, Pt.cells, Pt.slots] at X50 l50 y50 z50 st50 hQ50
        subst l50 y50 z50
        obtain ⟨rfl, Nq50, hh50⟩ := hQ50
        have N50 := Fr.app N13 Nq50
        refine own_Goes.via (T' := T50) (g' := (mkF m 146 #[.val (.int xw), .val (.int xr), .val (.int xc), .val (.int xs), .val (.int v14), .val (.int v16), .val (.int v18), .val (.int v19), .val (.ref s_R), .val (.int v113_47)] [(.int (own_f2 v16 v18 v14 (0 : Int32) (1 : Int32)))])) (fun t_ k_ => st50.trans k_) ?_
        obtain ⟨v51, hv51⟩ : ∃ z : Int32, z = (own_f2 v16 v18 v14 (0 : Int32) (1 : Int32)) := ⟨_, rfl⟩
        rw [← hv51]
        refine own_Goes.via (T' := T50) (g' := (mkF m 148 #[.val (.int xw), .val (.int xr), .val (.int xc), .val (.int xs), .val (.int v14), .val (.int v16), .val (.int v18), .val (.int v19), .val (.ref s_R), .val (.int v113_47)] [(.int v113_47), (.int v51)])) (fun t_ k_ => XS.iload X50.here hx rfl (hb hby at_146) rfl k_) ?_
        suffices J156_55 : ∀ (v156_53 : Int32) (hv156_53 : v156_53 = (if v51 = v113_47 then (1 : Int32) else (0 : Int32))), own_Goes p.tables e below P T50 (mkF m 156 #[.val (.int xw), .val (.int xr), .val (.int xc), .val (.int xs), .val (.int v14), .val (.int v16), .val (.int v18), .val (.int v19), .val (.ref s_R), .val (.int v113_47)] [(.int v156_53)]) by
          by_cases hc148_52 : v51 = v113_47
          · refine own_Goes.via (T' := T50) (g' := (mkF m 151 #[.val (.int xw), .val (.int xr), .val (.int xc), .val (.int xs), .val (.int v14), .val (.int v16), .val (.int v18), .val (.int v19), .val (.ref s_R), .val (.int v113_47)] [])) (fun t_ k_ => XS.icmpNo X50.here hx rfl (hb hby at_148) rfl (teq hc148_52).2 k_) ?_
            refine own_Goes.via (T' := T50) (g' := (mkF m 152 #[.val (.int xw), .val (.int xr), .val (.int xc), .val (.int xs), .val (.int v14), .val (.int v16), .val (.int v18), .val (.int v19), .val (.ref s_R), .val (.int v113_47)] [(.int (1 : Int32))])) (fun t_ k_ => XS.iconst X50.here hx rfl (hb hby at_151) k_) ?_
            refine own_Goes.via (T' := T50) (g' := (mkF m 156 #[.val (.int xw), .val (.int xr), .val (.int xc), .val (.int xs), .val (.int v14), .val (.int v16), .val (.int v18), .val (.int v19), .val (.ref s_R), .val (.int v113_47)] [(.int (1 : Int32))])) (fun t_ k_ => XS.goto X50.here hx rfl (pc0 := 152) (pc' := 156) rfl (hb hby at_152) (by decide) (by decide) k_) ?_
            exact J156_55 (1 : Int32) ((if_pos hc148_52)).symm
          · refine own_Goes.via (T' := T50) (g' := (mkF m 155 #[.val (.int xw), .val (.int xr), .val (.int xc), .val (.int xs), .val (.int v14), .val (.int v16), .val (.int v18), .val (.int v19), .val (.ref s_R), .val (.int v113_47)] [])) (fun t_ k_ => XS.icmpYes X50.here hx rfl (pc0 := 148) (pc' := 155) rfl (hb hby at_148) rfl (feq hc148_52).2 (by decide) (by decide) k_) ?_
            refine own_Goes.via (T' := T50) (g' := (mkF m 156 #[.val (.int xw), .val (.int xr), .val (.int xc), .val (.int xs), .val (.int v14), .val (.int v16), .val (.int v18), .val (.int v19), .val (.ref s_R), .val (.int v113_47)] [(.int (0 : Int32))])) (fun t_ k_ => XS.iconst X50.here hx rfl (hb hby at_155) k_) ?_
            exact J156_55 (0 : Int32) ((if_neg hc148_52)).symm
        intro v156_53 hv156_53
        have hfin : v156_53 = 1 := own_pl0_4 hv14 hv16 hv18 hv19 hv113_47 hv51 hv156_53 hc35_20 hc65_32 hc91_44 nz16_15 nz25_17
        rw [hfin]
        obtain ⟨fs, hr, hrun, hended, hW, hsame⟩ := X50.leave (v := some (.int 1)) (fun h => by rw [Bd.returns] at h; cases h)
        refine own_Goes.fin (retN X50 hx (t := .boolean) Bd.returns (by simp) (hb hby at_156) hr) hrun hended ?_
        subst hPd
        refine ⟨_, _, rfl, ?_, ⟨_, rfl⟩, hW, hsame.mono (by decide) (by decide)⟩
        show Q0 Z xw xr xc xs s_D s_L s_R s_U h0 n0 _ T50.heap _
        rw [hh50]
        exact ⟨rfl, N50⟩
      · refine own_Goes.via (T' := T13) (g' := (mkF m 118 #[.val (.int xw), .val (.int xr), .val (.int xc), .val (.int xs), .val (.int v14), .val (.int v16), .val (.int v18), .val (.int v19), .unset, .unset] [])) (fun t_ k_ => XS.icmpYes X13.here hx rfl (pc0 := 91) (pc' := 118) rfl (hb hby at_91) rfl (feq hc91_44).2 (by decide) (by decide) k_) ?_
        obtain ⟨T56, X56, e56, st56⟩ := getS2 X13 hx hZ hown (host := "") (Or.inl (hw _ (List.mem_of_getElem? (i := 17) rfl))) Via.refl hh13 (S_U.ext OL.2) (g := (mkF m 118 #[.val (.int xw), .val (.int xr), .val (.int xc), .val (.int xs), .val (.int v14), .val (.int v16), .val (.int v18), .val (.int v19), .unset, .unset] [])) rfl (hb hby at_118)
        refine own_Goes.via (T' := T56) (g' := (mkF m 121 #[.val (.int xw), .val (.int xr), .val (.int xc), .val (.int xs), .val (.int v14), .val (.int v16), .val (.int v18), .val (.int v19), .unset, .unset] [(.ref s_U)])) (st56) ?_
        refine own_Goes.via (T' := T56) (g' := (mkF m 123 #[.val (.int xw), .val (.int xr), .val (.int xc), .val (.int xs), .val (.int v14), .val (.int v16), .val (.int v18), .val (.int v19), .val (.ref s_U), .unset] [])) (fun t_ k_ => XS.astore X56.here hx rfl (hb hby at_121) rfl rfl (l' := #[.val (.int xw), .val (.int xr), .val (.int xc), .val (.int xs), .val (.int v14), .val (.int v16), .val (.int v18), .val (.int v19), .val (.ref s_U), .unset]) rfl k_) ?_
        refine own_Goes.via (T' := T56) (g' := (mkF m 125 #[.val (.int xw), .val (.int xr), .val (.int xc), .val (.int xs), .val (.int v14), .val (.int v16), .val (.int v18), .val (.int v19), .val (.ref s_U), .unset] [(.int v16)])) (fun t_ k_ => XS.iload X56.here hx rfl (hb hby at_123) rfl k_) ?_
        suffices J133_60 : ∀ (v133_58 : Int32) (hv133_58 : v133_58 = (if (0 : Int32) < v16 then (1 : Int32) else (0 : Int32))), own_Goes p.tables e below P T56 (mkF m 133 #[.val (.int xw), .val (.int xr), .val (.int xc), .val (.int xs), .val (.int v14), .val (.int v16), .val (.int v18), .val (.int v19), .val (.ref s_U), .unset] [(.int v133_58)]) by
          by_cases hc125_57 : (0 : Int32) < v16
          · refine own_Goes.via (T' := T56) (g' := (mkF m 128 #[.val (.int xw), .val (.int xr), .val (.int xc), .val (.int xs), .val (.int v14), .val (.int v16), .val (.int v18), .val (.int v19), .val (.ref s_U), .unset] [])) (fun t_ k_ => XS.ifNo X56.here hx rfl (hb hby at_125) rfl ((if0 _ _).trans (tlt hc125_57).2.2.2) k_) ?_
            refine own_Goes.via (T' := T56) (g' := (mkF m 129 #[.val (.int xw), .val (.int xr), .val (.int xc), .val (.int xs), .val (.int v14), .val (.int v16), .val (.int v18), .val (.int v19), .val (.ref s_U), .unset] [(.int (1 : Int32))])) (fun t_ k_ => XS.iconst X56.here hx rfl (hb hby at_128) k_) ?_
            refine own_Goes.via (T' := T56) (g' := (mkF m 133 #[.val (.int xw), .val (.int xr), .val (.int xc), .val (.int xs), .val (.int v14), .val (.int v16), .val (.int v18), .val (.int v19), .val (.ref s_U), .unset] [(.int (1 : Int32))])) (fun t_ k_ => XS.goto X56.here hx rfl (pc0 := 129) (pc' := 133) rfl (hb hby at_129) (by decide) (by decide) k_) ?_
            exact J133_60 (1 : Int32) ((if_pos hc125_57)).symm
          · refine own_Goes.via (T' := T56) (g' := (mkF m 132 #[.val (.int xw), .val (.int xr), .val (.int xc), .val (.int xs), .val (.int v14), .val (.int v16), .val (.int v18), .val (.int v19), .val (.ref s_U), .unset] [])) (fun t_ k_ => XS.ifYes X56.here hx rfl (pc0 := 125) (pc' := 132) rfl (hb hby at_125) rfl ((if0 _ _).trans (flt hc125_57).2.2.2) (by decide) (by decide) k_) ?_
            refine own_Goes.via (T' := T56) (g' := (mkF m 133 #[.val (.int xw), .val (.int xr), .val (.int xc), .val (.int xs), .val (.int v14), .val (.int v16), .val (.int v18), .val (.int v19), .val (.ref s_U), .unset] [(.int (0 : Int32))])) (fun t_ k_ => XS.iconst X56.here hx rfl (hb hby at_132) k_) ?_
            exact J133_60 (0 : Int32) ((if_neg hc125_57)).symm
        intro v133_58 hv133_58
        refine own_Goes.via (T' := T56) (g' := (mkF m 135 #[.val (.int xw), .val (.int xr), .val (.int xc), .val (.int xs), .val (.int v14), .val (.int v16), .val (.int v18), .val (.int v19), .val (.ref s_U), .val (.int v133_58)] [])) (fun t_ k_ => XS.istore X56.here hx rfl (hb hby at_133) rfl (l' := #[.val (.int xw), .val (.int xr), .val (.int xc), .val (.int xs), .val (.int v14), .val (.int v16), .val (.int v18), .val (.int v19), .val (.ref s_U), .val (.int v133_58)]) rfl k_) ?_
        refine own_Goes.via (T' := T56) (g' := (mkF m 137 #[.val (.int xw), .val (.int xr), .val (.int xc), .val (.int xs), .val (.int v14), .val (.int v16), .val (.int v18), .val (.int v19), .val (.ref s_U), .val (.int v133_58)] [(.ref s_U)])) (fun t_ k_ => XS.aload X56.here hx rfl (hb hby at_135) rfl rfl k_) ?_
        refine own_Goes.via (T' := T56) (g' := (mkF m 139 #[.val (.int xw), .val (.int xr), .val (.int xc), .val (.int xs), .val (.int v14), .val (.int v16), .val (.int v18), .val (.int v19), .val (.ref s_U), .val (.int v133_58)] [(.int v16), (.ref s_U)])) (fun t_ k_ => XS.iload X56.here hx rfl (hb hby at_137) rfl k_) ?_
        refine own_Goes.via (T' := T56) (g' := (mkF m 141 #[.val (.int xw), .val (.int xr), .val (.int xc), .val (.int xs), .val (.int v14), .val (.int v16), .val (.int v18), .val (.int v19), .val (.ref s_U), .val (.int v133_58)] [(.int v18), (.int v16), (.ref s_U)])) (fun t_ k_ => XS.iload X56.here hx rfl (hb hby at_139) rfl k_) ?_
        refine own_Goes.via (T' := T56) (g' := (mkF m 143 #[.val (.int xw), .val (.int xr), .val (.int xc), .val (.int xs), .val (.int v14), .val (.int v16), .val (.int v18), .val (.int v19), .val (.ref s_U), .val (.int v133_58)] [(.int v14), (.int v18), (.int v16), (.ref s_U)])) (fun t_ k_ => XS.iload X56.here hx rfl (hb hby at_141) rfl k_) ?_
        obtain ⟨cq61, kq61, q61a, q61b, q61c⟩ := isOf hZ e56 E10
        obtain ⟨_, _, ⟨T61, L61, k61, n61⟩, -, X61, ⟨Lc61, hQ61, l61, y61, z61⟩, st61⟩ := X56.virtualBack hx (y := (⟨"com/example/gridwright/gridwright/games/slide/Move", "keepsOnBoard", "(III)Z"⟩ : MethodName)) (z := (⟨"com/example/gridwright/gridwright/games/slide/Move", "keepsOnBoard", "(III)Z"⟩ : MethodName)) hown (mvT hZ (hw _ (List.mem_of_getElem? (i := 8) rfl))) (mvT hZ (hw _ (List.mem_of_getElem? (i := 9) rfl))) (notFace_of_selects (args := #[]) (mvT hZ (hw _ (List.mem_of_getElem? (i := 11) rfl)))) (mvT hZ (hw _ (List.mem_of_getElem? (i := 11) rfl))) (mvT hZ (hw _ (List.mem_of_getElem? (i := 10) rfl))) (by decide) (backOf (W := 0) (rm2 l Z a0 hw [] s_U v16 v18 v14 (-1 : Int32) (0 : Int32) h0 n0 Z0 F11 F12) hZ (hw _ (List.mem_of_getElem? (i := 12) rfl)) (hw _ (List.mem_of_getElem? (i := 6) rfl)) (by decide) (by decide)) q61a q61c (g := (mkF m 143 #[.val (.int xw), .val (.int xr), .val (.int xc), .val (.int xs), .val (.int v14), .val (.int v16), .val (.int v18), .val (.int v19), .val (.ref s_U), .val (.int v133_58)] [(.int v14), (.int v18), (.int v16), (.ref s_U)])) rfl (by rw [hml]; rfl) (Steps.refl _) (argsL := [(.int v16), (.int v18), (.int v14)]) (rest := []) (lenOf pd_0_1 rfl) rfl (by show 2 * 0 + _ ≤ _; exact Nat.le_of_eq rfl) (hb hby at_143) (fun _ _ => ⟨rfl, e56, (by decide : 0 + 0 ≤ _), (by decide : 0 + 0 ≤ _)⟩)
        dsimp only [Pt.U, Pt.locs, Pt.cells, Pt.slots] at X61 l61 y61 z61 st61 hQ61
        subst l61 y61 z61
        obtain ⟨rfl, Nq61, hh61⟩ := hQ61
        have N61 := Fr.app N13 Nq61
        refine own_Goes.via (T' := T61) (g' := (mkF m 146 #[.val (.int xw), .val (.int xr), .val (.int xc), .val (.int xs), .val (.int v14), .val (.int v16), .val (.int v18), .val (.int v19), .val (.ref s_U), .val (.int v133_58)] [(.int (own_f2 v16 v18 v14 (-1 : Int32) (0 : Int32)))])) (fun t_ k_ => st61.trans k_) ?_
        obtain ⟨v62, hv62⟩ : ∃ z : Int32, z = (own_f2 v16 v18 v14 (-1 : Int32) (0 : Int32)) := ⟨_, rfl⟩
        rw [← hv62]
        refine own_Goes.via (T' := T61) (g' := (mkF m 148 #[.val (.int xw), .val (.int xr), .val (.int xc), .val (.int xs), .val (.int v14), .val (.int v16), .val (.int v18), .val (.int v19), .val (.ref s_U), .val (.int v133_58)] [(.int v133_58), (.int v62)])) (fun t_ k_ => XS.iload X61.here hx rfl (hb hby at_146) rfl k_) ?_
        suffices J156_66 : ∀ (v156_64 : Int32) (hv156_64 : v156_64 = (if v62 = v133_58 then (1 : Int32) else (0 : Int32))), own_Goes p.tables e below P T61 (mkF m 156 #[.val (.int xw), .val (.int xr), .val (.int xc), .val (.int xs), .val (.int v14), .val (.int v16), .val (.int v18), .val (.int v19), .val (.ref s_U), .val (.int v133_58)] [(.int v156_64)]) by
          by_cases hc148_63 : v62 = v133_58
          · refine own_Goes.via (T' := T61) (g' := (mkF m 151 #[.val (.int xw), .val (.int xr), .val (.int xc), .val (.int xs), .val (.int v14), .val (.int v16), .val (.int v18), .val (.int v19), .val (.ref s_U), .val (.int v133_58)] [])) (fun t_ k_ => XS.icmpNo X61.here hx rfl (hb hby at_148) rfl (teq hc148_63).2 k_) ?_
            refine own_Goes.via (T' := T61) (g' := (mkF m 152 #[.val (.int xw), .val (.int xr), .val (.int xc), .val (.int xs), .val (.int v14), .val (.int v16), .val (.int v18), .val (.int v19), .val (.ref s_U), .val (.int v133_58)] [(.int (1 : Int32))])) (fun t_ k_ => XS.iconst X61.here hx rfl (hb hby at_151) k_) ?_
            refine own_Goes.via (T' := T61) (g' := (mkF m 156 #[.val (.int xw), .val (.int xr), .val (.int xc), .val (.int xs), .val (.int v14), .val (.int v16), .val (.int v18), .val (.int v19), .val (.ref s_U), .val (.int v133_58)] [(.int (1 : Int32))])) (fun t_ k_ => XS.goto X61.here hx rfl (pc0 := 152) (pc' := 156) rfl (hb hby at_152) (by decide) (by decide) k_) ?_
            exact J156_66 (1 : Int32) ((if_pos hc148_63)).symm
          · refine own_Goes.via (T' := T61) (g' := (mkF m 155 #[.val (.int xw), .val (.int xr), .val (.int xc), .val (.int xs), .val (.int v14), .val (.int v16), .val (.int v18), .val (.int v19), .val (.ref s_U), .val (.int v133_58)] [])) (fun t_ k_ => XS.icmpYes X61.here hx rfl (pc0 := 148) (pc' := 155) rfl (hb hby at_148) rfl (feq hc148_63).2 (by decide) (by decide) k_) ?_
            refine own_Goes.via (T' := T61) (g' := (mkF m 156 #[.val (.int xw), .val (.int xr), .val (.int xc), .val (.int xs), .val (.int v14), .val (.int v16), .val (.int v18), .val (.int v19), .val (.ref s_U), .val (.int v133_58)] [(.int (0 : Int32))])) (fun t_ k_ => XS.iconst X61.here hx rfl (hb hby at_155) k_) ?_
            exact J156_66 (0 : Int32) ((if_neg hc148_63)).symm
        intro v156_64 hv156_64
        have hfin : v156_64 = 1 := own_pl0_5 hv14 hv16 hv18 hv19 hv133_58 hv62 hv156_64 hc35_20 hc65_32 hc91_44 nz16_15 nz25_17
        rw [hfin]
        obtain ⟨fs, hr, hrun, hended, hW, hsame⟩ := X61.leave (v := some (.int 1)) (fun h => by rw [Bd.returns] at h; cases h)
        refine own_Goes.fin (retN X61 hx (t := .boolean) Bd.returns (by simp) (hb hby at_156) hr) hrun hended ?_
        subst hPd
        refine ⟨_, _, rfl, ?_, ⟨_, rfl⟩, hW, hsame.mono (by decide) (by decide)⟩
        show Q0 Z xw xr xc xs s_D s_L s_R s_U h0 n0 _ T61.heap _
        rw [hh61]
        exact ⟨rfl, N61⟩
set_option maxRecDepth 65536 in
set_option maxHeartbeats 40000000 in
theorem comes_1 {Post : Tables → Env → Array Value → State → Outcome → State → Prop} (hpost : ∀ tb e args s v u, (limb_1_1.after args s (.returned v) u = true ∧ limb_1_2.after args s (.returned v) u = true ∧ True) → FrameEnd s (.returned v) u (Jvm.fieldLocs frame_1_writes args s ++ Jvm.arrayLocs frame_1_arrays args s ++ Jvm.staticLocs frame_1_statics s) 0 0 → Post tb e args s (.returned v) u) :
    ArmFor flags0 classFile x code maxLocals ret World_1 tables_1 room_1 Calls_1 rest_1 Pre_1 Post := by
  intro l hfl _ _ p e ha hc hk s m args below hf hA hF happ hP
  obtain ⟨hcalls, hrest, hpre⟩ := hP
  obtain ⟨-, -, -, hnamed, -, -, -, hat⟩ := (Spec.applies_iff hf).mp happ
  obtain ⟨hg, hn⟩ := and_e (Cond.before_iff.mp (show (Jvm.Cond.and given_1 narrow_1).before args s = true from hpre))
  obtain ⟨g1, g2⟩ := and_e hg
  obtain ⟨g3, g4⟩ := and_e g2
  obtain ⟨g5, g6⟩ := and_e g4
  obtain ⟨g7, g8⟩ := and_e g6
  obtain ⟨w0, w1, w2, w3, rfl⟩ : ∃ w0 w1 w2 w3 : Value, args = #[w0, w1, w2, w3] := by
    have hs : args.size = 4 := by simpa [Cond.value, given_1] using g1
    obtain ⟨L⟩ := args
    match L, hs with
    | [w0, w1, w2, w3], _ => exact ⟨w0, w1, w2, w3, rfl⟩
  have hw := fun d (hd : d ∈ tables_1) => atoms_spec (ws := Jvm.Cond.code x code maxLocals ret :: tables_1) hat d (List.mem_cons_of_mem _ hd)
  have hfit : Fit s := fun {y c} hc i hi => by
    obtain ⟨ha, rfl⟩ := Array.getElem?_eq_some_iff.mp hc
    have q := List.all_eq_true.mp ((Array.all_eq_true_iff_forall_mem.mp hF) _ (Array.getElem_mem ha)) i (List.mem_range.mpr hi)
    simpa [Array.getElem?_eq_getElem hi] using q
  obtain ⟨i0, ei0⟩ := is_v g3
  obtain rfl : w0 = (.int i0) := Option.some.inj ei0
  obtain ⟨i1, ei1⟩ := is_v g5
  obtain rfl : w1 = (.int i1) := Option.some.inj ei1
  obtain ⟨i2, ei2⟩ := is_v g7
  obtain rfl : w2 = (.int i2) := Option.some.inj ei2
  obtain ⟨i3, ei3⟩ := is_v g8
  obtain rfl : w3 = (.int i3) := Option.some.inj ei3
  obtain ⟨n1, n2⟩ := and_e hn
  obtain ⟨n3, n4⟩ := and_e n2
  obtain ⟨n5, n6⟩ := and_e n4
  obtain ⟨n7, n8⟩ := and_e n6
  obtain ⟨n9, n10⟩ := and_e n8
  obtain ⟨n11, n12⟩ := and_e n10
  obtain ⟨n13, n14⟩ := and_e n12
  obtain ⟨n15, n16⟩ := and_e n14
  obtain ⟨n17, n18⟩ := and_e n16
  obtain ⟨n19, n20⟩ := and_e n18
  obtain ⟨n21, n22⟩ := and_e n20
  obtain ⟨s_D, ev_D⟩ := exa_v n1
  have S_D : Sta s s.heap "com/example/gridwright/gridwright/games/slide/Move" "D" "Lcom/example/gridwright/gridwright/games/slide/Move;" (.ref s_D) := Sta.start ev_D (Or.inr ⟨(hw _ (List.mem_of_getElem? (i := 6) rfl)), (hw _ (List.mem_of_getElem? (i := 7) rfl))⟩)
  have E_D : Exa s s.heap s_D "com/example/gridwright/gridwright/games/slide/Move" := Exa.start ev_D n1
  have F_D_rows : Fld s s.heap s_D "com/example/gridwright/gridwright/games/slide/Move" "rows" "I" (.int (1 : Int32)) := Fld.start ((fld_at ev_D).symm.trans (own_eqInt n3))
  have F_D_columns : Fld s s.heap s_D "com/example/gridwright/gridwright/games/slide/Move" "columns" "I" (.int (0 : Int32)) := Fld.start ((fld_at ev_D).symm.trans (own_eqInt n5))
  obtain ⟨s_U, ev_U⟩ := exa_v n7
  have S_U : Sta s s.heap "com/example/gridwright/gridwright/games/slide/Move" "U" "Lcom/example/gridwright/gridwright/games/slide/Move;" (.ref s_U) := Sta.start ev_U (Or.inr ⟨(hw _ (List.mem_of_getElem? (i := 6) rfl)), (hw _ (List.mem_of_getElem? (i := 18) rfl))⟩)
  have E_U : Exa s s.heap s_U "com/example/gridwright/gridwright/games/slide/Move" := Exa.start ev_U n7
  have F_U_rows : Fld s s.heap s_U "com/example/gridwright/gridwright/games/slide/Move" "rows" "I" (.int (-1 : Int32)) := Fld.start ((fld_at ev_U).symm.trans (own_eqInt n9))
  have F_U_columns : Fld s s.heap s_U "com/example/gridwright/gridwright/games/slide/Move" "columns" "I" (.int (0 : Int32)) := Fld.start ((fld_at ev_U).symm.trans (own_eqInt n11))
  obtain ⟨s_R, ev_R⟩ := exa_v n13
  have S_R : Sta s s.heap "com/example/gridwright/gridwright/games/slide/Move" "R" "Lcom/example/gridwright/gridwright/games/slide/Move;" (.ref s_R) := Sta.start ev_R (Or.inr ⟨(hw _ (List.mem_of_getElem? (i := 6) rfl)), (hw _ (List.mem_of_getElem? (i := 20) rfl))⟩)
  have E_R : Exa s s.heap s_R "com/example/gridwright/gridwright/games/slide/Move" := Exa.start ev_R n13
  have F_R_rows : Fld s s.heap s_R "com/example/gridwright/gridwright/games/slide/Move" "rows" "I" (.int (0 : Int32)) := Fld.start ((fld_at ev_R).symm.trans (own_eqInt n15))
  have F_R_columns : Fld s s.heap s_R "com/example/gridwright/gridwright/games/slide/Move" "columns" "I" (.int (1 : Int32)) := Fld.start ((fld_at ev_R).symm.trans (own_eqInt n17))
  obtain ⟨s_L, ev_L⟩ := exa_v n19
  have S_L : Sta s s.heap "com/example/gridwright/gridwright/games/slide/Move" "L" "Lcom/example/gridwright/gridwright/games/slide/Move;" (.ref s_L) := Sta.start ev_L (Or.inr ⟨(hw _ (List.mem_of_getElem? (i := 6) rfl)), (hw _ (List.mem_of_getElem? (i := 22) rfl))⟩)
  have E_L : Exa s s.heap s_L "com/example/gridwright/gridwright/games/slide/Move" := Exa.start ev_L n19
  have F_L_rows : Fld s s.heap s_L "com/example/gridwright/gridwright/games/slide/Move" "rows" "I" (.int (0 : Int32)) := Fld.start ((fld_at ev_L).symm.trans (own_eqInt n21))
  have F_L_columns : Fld s s.heap s_L "com/example/gridwright/gridwright/games/slide/Move" "columns" "I" (.int (-1 : Int32)) := Fld.start ((fld_at ev_L).symm.trans (own_eqInt n22))
  obtain ⟨n, o, h1, h2, h3, _, L, rfl, ⟨rfl, N⟩, hq⟩ := rm0 l s _ hw tables_1 i0 i1 i2 i3 s_D s_L s_R s_U s.heap s.heap.size (Nat.le_refl _) (Old.start s) S_D S_L S_R S_U E_D E_L E_R E_U F_D_rows F_D_columns F_L_rows F_L_columns F_R_rows F_R_columns F_U_rows F_U_columns p e ha hc hk s m _ below hf ((Spec.applies_iff_loose hf).mp happ).1 ⟨rfl, State.Warmed39.refl s, rfl⟩ trivial
  refine ⟨n, _, h1, h2, h3, hpost _ _ _ _ _ _ ⟨Cond.after_iff.mpr rfl, Cond.after_iff.mpr (eq_i res_at (Term.int_eval (1)) rfl), trivial⟩ ⟨hq.1, hq.2.1, (hq.2.2.sift fun y hy => Or.inr (N y hy)).mono (by decide) (by decide)⟩⟩
theorem main_1_1 : Claimed_1_1 := comes_1 fun _ _ _ _ _ _ h hF => ⟨h.1, hF⟩
theorem main_1_2 : Claimed_1_2 := comes_1 fun _ _ _ _ _ _ h hF => ⟨h.2.1, hF⟩
end Jvm.Pilot.@@N@@
namespace Jvm.Pilot.@@N@@
open Jvm Jvm.ClassFile Sem Op Lib Jvm.Free Jvm.Stand Jvm.Pilot.@@N@@.Jvm.D
/-! MADE BY PROGRAM (witnessworld.py) out of the Statement's table words and the real class files: 13 classes; the members and pool entries that the words name. The judged class is class 1, her method 1. -/
namespace start1
open Jvm.ClassFile
def u (s : String) : CpInfo := .utf8 (stringToUtf16 s)
/-- a pool by its gaps: so many unusable entries, then the entry; so many at the end -/
def gap : Nat → List CpInfo → List CpInfo
  | 0, r => r
  | n + 1, r => .unusable :: gap n r
def poolList (es : List (Nat × CpInfo)) (last : Nat) : List CpInfo := es.foldr (fun e r => gap e.1 (e.2 :: r)) (gap last [])
def pool (es : List (Nat × CpInfo)) (last : Nat) : Array CpInfo := ⟨poolList es last⟩
def fileOf (pool : Array CpInfo) (this : Nat) (attrs : Array Attribute := #[]) (ms : Array MethodInfo := #[]) (fl : Nat := 33) (sup : Nat := 0) (ifs : Array Nat := #[]) (fds : Array FieldInfo := #[]) : ClassFile where
  minorVersion := 0
  majorVersion := 65
  constantPool := pool
  accessFlags := fl
  thisClass := this
  superClass := sup
  interfaces := ifs
  fields := fds
  methods := ms
  attributes := attrs
def plain (name : String) (sup : Option ClassId) : Class where
  name := name
  kind := .ordinary
  loader := none
  accessFlags := 33
  super := sup
  interfaces := #[]
  cf := none
  fields := #[]
  methods := #[]
  instanceTypes := #[]
  staticTypes := #[]
  resolved := #[]
  callSites := []
  init := .initialized
  statics := none
  mirror := none

def pool0 : Array CpInfo := pool [(5, u "<init>"), (0, u "()V"), (1, .class_ 10), (1, u "java/lang/Object")] 113

def k0m0 : Method := { name := "<init>", desc := "()V", sig := { parameters := [], returnType := none }, accessFlags := 1, code := none }
/-- java/lang/Object -/
def k0 : Class := { plain "java/lang/Object" none with
  accessFlags := 33
  interfaces := #[]
  cf := some (fileOf pool0 8 #[] #[{ accessFlags := 1, nameIndex := 5, descriptorIndex := 6, attributes := #[] }] 33 0 #[] #[])
  fields := #[]
  methods := #[k0m0]
  instanceTypes := #[]
  staticTypes := #[]
  resolved := Array.replicate 124 none
  statics := none }

def pool1 : Array CpInfo := pool [(2, .class_ 4), (1, u "java/lang/Object"), (0, u "<init>"), (0, u "()V"), (0, .integer 2147483647), (0, .methodref 9 10), (0, .class_ 11), (0, .nameAndType 12 13), (0, u "java/lang/Math"), (0, u "max"), (0, u "(II)I"), (0, .fieldref 15 16), (0, .class_ 17), (0, .nameAndType 18 19), (0, u "com/example/gridwright/gridwright/games/slide/Move"), (0, u "D"), (0, u "Lcom/example/gridwright/gridwright/games/slide/Move;"), (0, .fieldref 15 21), (0, .nameAndType 22 19), (0, u "L"), (0, .fieldref 15 24), (0, .nameAndType 25 19), (0, u "R"), (0, .fieldref 15 27), (0, .nameAndType 28 19), (0, u "U"), (0, .methodref 15 30), (0, .nameAndType 31 32), (0, u "keepsOnBoard"), (0, u "(III)Z"), (0, .class_ 34), (0, u "com/example/gridwright/gridwright/games/slide/MoveKeepsOnBoardPinLaw"), (2, u "law"), (0, u "(IIII)Z")] 3

def k1m0 : Method := { name := "<init>", desc := "()V", sig := { parameters := [], returnType := none }, accessFlags := 1, code := none }
def k1c1 : Code := { maxStack := 4, maxLocals := 10, code := code, exceptionTable := #[], attributes := #[] }
def k1m1 : Method := { name := "law", desc := "(IIII)Z", sig := { parameters := [.int, .int, .int, .int], returnType := some .boolean }, accessFlags := 9, code := some k1c1 }
/-- com/example/gridwright/gridwright/games/slide/MoveKeepsOnBoardPinLaw -/
def k1 : Class := { plain "com/example/gridwright/gridwright/games/slide/MoveKeepsOnBoardPinLaw" (some 0) with
  accessFlags := 49
  interfaces := #[]
  cf := some (fileOf pool1 33 #[] #[{ accessFlags := 1, nameIndex := 5, descriptorIndex := 6, attributes := #[] }, { accessFlags := 9, nameIndex := 37, descriptorIndex := 38, attributes := #[] }] 49 2 #[] #[])
  fields := #[]
  methods := #[k1m0, k1m1]
  instanceTypes := #[]
  staticTypes := #[]
  resolved := Array.replicate 42 none
  statics := none }

def pool2 : Array CpInfo := pool [(1, .class_ 2), (0, u "java/lang/Math"), (1, .class_ 6), (1, u "java/lang/Object"), (0, u "<init>"), (0, u "()V"), (89, .class_ 100), (1, u "java/lang/Math$RandomNumberGeneratorHolder"), (71, u "negativeZeroFloatBits"), (0, u "J"), (2, u "negativeZeroDoubleBits"), (21, u "max"), (46, u "$assertionsDisabled"), (0, u "Z"), (88, u "(II)I"), (2, u "twoToTheDoubleScaleDown"), (0, u "D"), (4, u "twoToTheDoubleScaleUp"), (9, u "E"), (3, u "PI"), (2, u "TAU"), (2, u "DEGREES_TO_RADIANS"), (0, u "RADIANS_TO_DEGREES")] 94

def k2m0 : Method := { name := "<init>", desc := "()V", sig := { parameters := [], returnType := none }, accessFlags := 2, code := none }
def k2c1 : Code := { maxStack := 2, maxLocals := 2, code := jdk_29_method_65_code, exceptionTable := #[], attributes := #[] }
def k2m1 : Method := { name := "max", desc := "(II)I", sig := { parameters := [.int, .int], returnType := some .int }, accessFlags := 9, code := some k2c1 }
/-- java/lang/Math -/
def k2 : Class := { plain "java/lang/Math" (some 0) with
  accessFlags := 49
  interfaces := #[]
  cf := some (fileOf pool2 1 #[.nestMembers #[98]] #[{ accessFlags := 2, nameIndex := 7, descriptorIndex := 8, attributes := #[] }, { accessFlags := 9, nameIndex := 198, descriptorIndex := 335, attributes := #[] }] 49 4 #[] #[{ accessFlags := 25, nameIndex := 354, descriptorIndex := 339, attributes := #[] }, { accessFlags := 25, nameIndex := 358, descriptorIndex := 339, attributes := #[] }, { accessFlags := 25, nameIndex := 361, descriptorIndex := 339, attributes := #[] }, { accessFlags := 26, nameIndex := 364, descriptorIndex := 339, attributes := #[] }, { accessFlags := 26, nameIndex := 365, descriptorIndex := 339, attributes := #[] }, { accessFlags := 26, nameIndex := 172, descriptorIndex := 173, attributes := #[] }, { accessFlags := 26, nameIndex := 176, descriptorIndex := 173, attributes := #[] }, { accessFlags := 8, nameIndex := 344, descriptorIndex := 339, attributes := #[] }, { accessFlags := 8, nameIndex := 338, descriptorIndex := 339, attributes := #[] }, { accessFlags := 4120, nameIndex := 245, descriptorIndex := 246, attributes := #[] }])
  fields := #[{ name := "E", type := .double, accessFlags := 25, slot := 0, constantValue := 0 }, { name := "PI", type := .double, accessFlags := 25, slot := 1, constantValue := 0 }, { name := "TAU", type := .double, accessFlags := 25, slot := 2, constantValue := 0 }, { name := "DEGREES_TO_RADIANS", type := .double, accessFlags := 26, slot := 3, constantValue := 0 }, { name := "RADIANS_TO_DEGREES", type := .double, accessFlags := 26, slot := 4, constantValue := 0 }, { name := "negativeZeroFloatBits", type := .long, accessFlags := 26, slot := 5, constantValue := 0 }, { name := "negativeZeroDoubleBits", type := .long, accessFlags := 26, slot := 6, constantValue := 0 }, { name := "twoToTheDoubleScaleUp", type := .double, accessFlags := 8, slot := 7, constantValue := 0 }, { name := "twoToTheDoubleScaleDown", type := .double, accessFlags := 8, slot := 8, constantValue := 0 }, { name := "$assertionsDisabled", type := .boolean, accessFlags := 4120, slot := 9, constantValue := 0 }]
  methods := #[k2m0, k2m1]
  instanceTypes := #[]
  staticTypes := #[.double, .double, .double, .double, .double, .long, .long, .double, .double, .boolean]
  resolved := Array.replicate 460 none
  statics := none }

def pool3 : Array CpInfo := pool [(1, .class_ 2), (0, u "java/lang/constant/Constable"), (0, .class_ 4), (0, u "java/lang/Object")] 6

/-- java/lang/constant/Constable -/
def k3 : Class := { plain "java/lang/constant/Constable" (some 0) with
  accessFlags := 1537
  interfaces := #[]
  cf := some (fileOf pool3 1 #[] #[] 1537 3 #[] #[])
  fields := #[]
  methods := #[]
  instanceTypes := #[]
  staticTypes := #[]
  resolved := Array.replicate 11 none
  statics := none }

def pool4 : Array CpInfo := pool [(1, .class_ 2), (0, u "java/lang/Comparable"), (0, .class_ 4), (0, u "java/lang/Object")] 7

/-- java/lang/Comparable -/
def k4 : Class := { plain "java/lang/Comparable" (some 0) with
  accessFlags := 1537
  interfaces := #[]
  cf := some (fileOf pool4 1 #[] #[] 1537 3 #[] #[])
  fields := #[]
  methods := #[]
  instanceTypes := #[]
  staticTypes := #[]
  resolved := Array.replicate 12 none
  statics := none }

def pool5 : Array CpInfo := pool [(1, .class_ 2), (0, u "java/io/Serializable"), (0, .class_ 4), (0, u "java/lang/Object")] 2

/-- java/io/Serializable -/
def k5 : Class := { plain "java/io/Serializable" (some 0) with
  accessFlags := 1537
  interfaces := #[]
  cf := some (fileOf pool5 1 #[] #[] 1537 3 #[] #[])
  fields := #[]
  methods := #[]
  instanceTypes := #[]
  staticTypes := #[]
  resolved := Array.replicate 7 none
  statics := none }

def pool6 : Array CpInfo := pool [(2, .class_ 4), (1, u "java/lang/Enum"), (0, u "name"), (0, u "Ljava/lang/String;"), (2, u "ordinal"), (0, u "I"), (1, .class_ 14), (1, u "java/lang/Object"), (4, u "hash"), (86, .class_ 108), (1, u "java/lang/Enum$EnumDesc"), (2, .class_ 112), (0, u "java/lang/constant/Constable"), (0, .class_ 114), (0, u "java/lang/Comparable"), (0, .class_ 116), (0, u "java/io/Serializable")] 87

/-- java/lang/Enum -/
def k6 : Class := { plain "java/lang/Enum" (some 0) with
  accessFlags := 1057
  interfaces := #[3, 4, 5]
  cf := some (fileOf pool6 2 #[.nestMembers #[106]] #[] 1057 12 #[111, 113, 115] #[{ accessFlags := 18, nameIndex := 5, descriptorIndex := 6, attributes := #[] }, { accessFlags := 18, nameIndex := 9, descriptorIndex := 10, attributes := #[] }, { accessFlags := 2, nameIndex := 19, descriptorIndex := 10, attributes := #[] }])
  fields := #[{ name := "name", type := (.object "java/lang/String"), accessFlags := 18, slot := 0, constantValue := 0 }, { name := "ordinal", type := .int, accessFlags := 18, slot := 1, constantValue := 0 }, { name := "hash", type := .int, accessFlags := 2, slot := 2, constantValue := 0 }]
  methods := #[]
  instanceTypes := #[(.object "java/lang/String"), .int, .int]
  staticTypes := #[]
  resolved := Array.replicate 204 none
  statics := none }

def pool7 : Array CpInfo := pool [(1, .class_ 2), (0, u "com/example/gridwright/gridwright/games/slide/Move"), (2, u "D"), (0, u "Lcom/example/gridwright/gridwright/games/slide/Move;"), (2, u "L"), (2, u "R"), (2, u "U"), (2, u "$VALUES"), (0, u "[Lcom/example/gridwright/gridwright/games/slide/Move;"), (6, .class_ 28), (1, u "java/lang/Enum"), (6, .fieldref 1 36), (0, .nameAndType 37 38), (0, u "rows"), (0, u "I"), (0, .fieldref 1 40), (0, .nameAndType 41 38), (0, u "columns"), (2, u "ALL"), (43, u "WHAT"), (0, u "Ljava/lang/String;"), (14, u "keepsOnBoard"), (0, u "(III)Z")] 5

def k7c0 : Code := { maxStack := 2, maxLocals := 6, code := prog_67_method_9_code, exceptionTable := #[], attributes := #[] }
def k7m0 : Method := { name := "keepsOnBoard", desc := "(III)Z", sig := { parameters := [.int, .int, .int], returnType := some .boolean }, accessFlags := 0, code := some k7c0 }
/-- com/example/gridwright/gridwright/games/slide/Move -/
def k7 : Class := { plain "com/example/gridwright/gridwright/games/slide/Move" (some 6) with
  accessFlags := 16432
  interfaces := #[]
  cf := some (fileOf pool7 1 #[] #[{ accessFlags := 0, nameIndex := 104, descriptorIndex := 105, attributes := #[] }] 16432 26 #[] #[{ accessFlags := 16409, nameIndex := 5, descriptorIndex := 6, attributes := #[] }, { accessFlags := 16409, nameIndex := 9, descriptorIndex := 6, attributes := #[] }, { accessFlags := 16409, nameIndex := 12, descriptorIndex := 6, attributes := #[] }, { accessFlags := 16409, nameIndex := 15, descriptorIndex := 6, attributes := #[] }, { accessFlags := 16, nameIndex := 37, descriptorIndex := 38, attributes := #[] }, { accessFlags := 16, nameIndex := 41, descriptorIndex := 38, attributes := #[] }, { accessFlags := 24, nameIndex := 88, descriptorIndex := 89, attributes := #[] }, { accessFlags := 26, nameIndex := 44, descriptorIndex := 19, attributes := #[] }, { accessFlags := 4122, nameIndex := 18, descriptorIndex := 19, attributes := #[] }])
  fields := #[{ name := "D", type := (.object "com/example/gridwright/gridwright/games/slide/Move"), accessFlags := 16409, slot := 0, constantValue := 0 }, { name := "L", type := (.object "com/example/gridwright/gridwright/games/slide/Move"), accessFlags := 16409, slot := 1, constantValue := 0 }, { name := "R", type := (.object "com/example/gridwright/gridwright/games/slide/Move"), accessFlags := 16409, slot := 2, constantValue := 0 }, { name := "U", type := (.object "com/example/gridwright/gridwright/games/slide/Move"), accessFlags := 16409, slot := 3, constantValue := 0 }, { name := "rows", type := .int, accessFlags := 16, slot := 3, constantValue := 0 }, { name := "columns", type := .int, accessFlags := 16, slot := 4, constantValue := 0 }, { name := "WHAT", type := (.object "java/lang/String"), accessFlags := 24, slot := 4, constantValue := 0 }, { name := "ALL", type := (.array (.object "com/example/gridwright/gridwright/games/slide/Move")), accessFlags := 26, slot := 5, constantValue := 0 }, { name := "$VALUES", type := (.array (.object "com/example/gridwright/gridwright/games/slide/Move")), accessFlags := 4122, slot := 6, constantValue := 0 }]
  methods := #[k7m0]
  instanceTypes := #[(.object "java/lang/String"), .int, .int, .int, .int]
  staticTypes := #[(.object "com/example/gridwright/gridwright/games/slide/Move"), (.object "com/example/gridwright/gridwright/games/slide/Move"), (.object "com/example/gridwright/gridwright/games/slide/Move"), (.object "com/example/gridwright/gridwright/games/slide/Move"), (.object "java/lang/String"), (.array (.object "com/example/gridwright/gridwright/games/slide/Move")), (.array (.object "com/example/gridwright/gridwright/games/slide/Move"))]
  resolved := Array.replicate 111 none
  statics := some 0 }

def pool8 : Array CpInfo := pool [(1, u "java/lang/Cloneable"), (0, .class_ 1), (0, u "java/lang/Object"), (0, .class_ 3)] 3

/-- java/lang/Cloneable -/
def k8 : Class := { plain "java/lang/Cloneable" (some 0) with
  accessFlags := 1537
  interfaces := #[]
  cf := some (fileOf pool8 2 #[] #[] 1537 4 #[] #[])
  fields := #[]
  methods := #[]
  instanceTypes := #[]
  staticTypes := #[]
  resolved := Array.replicate 8 none
  statics := none }

/-- the primitive byte -/
def k9 : Class := { plain "byte" none with kind := .primitive 'B', accessFlags := 0x411 }
/-- [B -/
def k10 : Class := { plain "[B" (some 0) with kind := .array 9 .byte, interfaces := #[8, 5], accessFlags := 1041 }

/-- the primitive int -/
def k11 : Class := { plain "int" none with kind := .primitive 'I', accessFlags := 0x411 }
/-- [I -/
def k12 : Class := { plain "[I" (some 0) with kind := .array 11 .int, interfaces := #[8, 5], accessFlags := 1041 }

def heap : Heap := #[{ cls := 7, slots := #[.ref 1, .ref 2, .ref 3, .ref 4, .null, .null, .null], vm := .statics 7 },
  { cls := 7, slots := #[.null, .int 0, .int 0, .int 1, .int 0], vm := .none },
  { cls := 7, slots := #[.null, .int 1, .int 0, .int 0, .int (-1)], vm := .none },
  { cls := 7, slots := #[.null, .int 2, .int 0, .int 0, .int 1], vm := .none },
  { cls := 7, slots := #[.null, .int 3, .int 0, .int (-1), .int 0], vm := .none }]
def classes : Array Class := #[k0, k1, k2, k3, k4, k5, k6, k7, k8, k9, k10, k11, k12]
def interned : List (Array UInt16 × Addr) := []
def slotsUsed : Nat := 27
def theMethod : MethodId := ⟨1, 1⟩
def args0 : Array Value := #[.int 5, .int 7, .int 9, .int 1]
def aboutOver (below : List Frame) : State where
  vm := { classes := classes, interned := interned.toArray }
  heap := heap
  slotsUsed := slotsUsed
  threads := #[{ frames := .invoking theMethod args0 :: below }]
def below0 : List Frame := [.native { method := ⟨0, 0⟩, args := #[] }]
def about1 : State := aboutOver below0
def p0 : Program := .bare "" "" ""
def e0 : Env := launch0.env 0 0 0
theorem w_frames : about1.frames = Frame.invoking theMethod args0 :: below0 := rfl
set_option maxRecDepth 65536 in
theorem w_args : argsFit about1.vm theMethod args0 = true := by decide +kernel
set_option maxRecDepth 65536 in
theorem w_heap : heapFits about1 = true := by decide +kernel
set_option maxRecDepth 65536 in
theorem w_runnable : about1.curStatus? = some .runnable := by decide +kernel
set_option maxRecDepth 65536 in
theorem w_alone : about1.alone = true := by decide +kernel
set_option maxRecDepth 65536 in
theorem w_named : about1.methodNamed? x = some theMethod := by decide +kernel
set_option maxRecDepth 65536 in
theorem w_hears : about1.hears theMethod below0 = true := by decide +kernel
set_option maxRecDepth 65536 in
theorem w_ripe : about1.ripe theMethod args0 below0 = true := by decide +kernel
theorem w_running : about1.status = .running := rfl
set_option maxRecDepth 65536 in
theorem w_room : about1.hasRoom e0.platform room_1 = true :=
  launch0.hasRoom_least _ room_1 (by decide +kernel) (by decide +kernel) (by decide +kernel) (by decide +kernel) (by decide +kernel) (by decide +kernel)
theorem allAtoms_all (ts : List Jvm.Cond) (a : Array Jvm.Value) (st : Jvm.State) : (allAtoms ts).before a st = ts.all (fun c => c.before a st) := by
  induction ts with
  | nil => rfl
  | cons c t ih =>
    show (Jvm.Cond.and c (allAtoms t)).before a st = _
    rw [Jvm.Cond.before_and, ih, List.all_cons]
def words1 : List Jvm.Cond := Jvm.Cond.code x code maxLocals ret :: tables_1
/-- a 'code' word, met by the world's own term for the bytes: nothing is compared byte by byte -/
theorem code_word {y : MethodName} {bytes : ByteArray} {mx : Nat} {rt : Option FieldType} {a : Array Value} {s : State} {m : MethodId} {meth : Method} {c : Code} (h1 : s.methodNamed? y = some m) (h2 : s.vm.method? m = some meth) (h3 : meth.code = some c) (h4 : c.code = bytes)
    (h5 : (c.maxLocals == mx && c.exceptionTable.isEmpty && decide (c.maxStack ≤ mostOperands) && decide (meth.sig.returnType = rt) && !meth.locks && decide (parseMethodDescriptor y.desc = some meth.sig)) = true) : (Jvm.Cond.code y bytes mx rt).before a s = true := by
  simp only [Bool.and_eq_true, beq_iff_eq, Bool.not_eq_true', decide_eq_true_eq] at h5
  obtain ⟨⟨⟨⟨⟨g1, g2⟩, g3⟩, g4⟩, g5⟩, g6⟩ := h5
  simp [Cond.before, Cond.holds, Cond.value, h1, h2, h3, h4, g1, g2, g3, g4, g5, g6]
def isCode : Jvm.Cond → Bool
  | .code _ _ _ _ => true
  | _ => false
theorem all_split {L : List Jvm.Cond} {P : Jvm.Cond → Bool} (h1 : L.all (fun c => isCode c || P c) = true) (h2 : ∀ c ∈ L.filter isCode, P c = true) : L.all P = true := by
  refine List.all_eq_true.mpr fun c hc => ?_
  have h := List.all_eq_true.mp h1 c hc
  rcases Bool.eq_false_or_eq_true (isCode c) with hi | hi
  · exact h2 c (List.mem_filter.mpr ⟨hc, hi⟩)
  · simpa [hi] using h
set_option maxRecDepth 65536 in
theorem w_c0 : (Jvm.Cond.code x code maxLocals ret).before args0 about1 = true := code_word (m := ⟨1, 1⟩) (meth := k1m1) (c := k1c1) (by decide +kernel) rfl rfl rfl (by decide +kernel)
set_option maxRecDepth 65536 in
theorem w_c1 : (Jvm.Cond.code ({ cls := "java/lang/Math", name := "max", desc := "(II)I" } : Jvm.MethodName) jdk_29_method_65_code (2 : Nat) (Option.some Jvm.ClassFile.FieldType.int)).before args0 about1 = true := code_word (m := ⟨2, 1⟩) (meth := k2m1) (c := k2c1) (by decide +kernel) rfl rfl rfl (by decide +kernel)
set_option maxRecDepth 65536 in
theorem w_c2 : (Jvm.Cond.code ({ cls := "com/example/gridwright/gridwright/games/slide/Move", name := "keepsOnBoard", desc := "(III)Z" } : Jvm.MethodName) prog_67_method_9_code (6 : Nat) (Option.some Jvm.ClassFile.FieldType.boolean)).before args0 about1 = true := code_word (m := ⟨7, 0⟩) (meth := k7m0) (c := k7c0) (by decide +kernel) rfl rfl rfl (by decide +kernel)
def codes1 : List Jvm.Cond := [Jvm.Cond.code x code maxLocals ret, Jvm.Cond.code ({ cls := "java/lang/Math", name := "max", desc := "(II)I" } : Jvm.MethodName) jdk_29_method_65_code (2 : Nat) (Option.some Jvm.ClassFile.FieldType.int), Jvm.Cond.code ({ cls := "com/example/gridwright/gridwright/games/slide/Move", name := "keepsOnBoard", desc := "(III)Z" } : Jvm.MethodName) prog_67_method_9_code (6 : Nat) (Option.some Jvm.ClassFile.FieldType.boolean)]
set_option maxRecDepth 65536 in
theorem codes_eq : words1.filter isCode = codes1 := rfl
theorem w_codes : ∀ c ∈ words1.filter isCode, c.before args0 about1 = true := by
  rw [codes_eq]
  intro c hc
  simp only [codes1, List.mem_cons, List.not_mem_nil, or_false] at hc
  rcases hc with rfl | rfl | rfl
  · exact w_c0
  · exact w_c1
  · exact w_c2
set_option maxRecDepth 65536 in
theorem w_t1 : words1.all (fun c => isCode c || c.before args0 about1) = true := by decide +kernel
theorem w_tables : (allAtoms (Jvm.Cond.code x code maxLocals ret :: tables_1)).before args0 about1 = true := by
  rw [allAtoms_all]
  show words1.all (fun c => c.before args0 about1) = true
  refine all_split ?_ w_codes
  rw [w_t1]
set_option maxRecDepth 65536 in
theorem w_case : (Jvm.Cond.and given_1 narrow_1).before args0 about1 = true := by decide +kernel
theorem w_applies : (headSpec (Jvm.Cond.code x code maxLocals ret :: tables_1) room_1).applies x e0.platform about1 = true :=
  (Spec.applies_iff w_frames).mpr ⟨w_running, w_runnable, w_alone, w_named, w_hears, w_ripe, w_room, w_tables⟩
theorem atStart : AtStart classFile x code maxLocals ret World_1 tables_1 room_1 Calls_1 rest_1 Pre_1 launch0 p0 e0 about1 theMethod args0 below0 :=
  ⟨lists_1, trivial, launch0.admits_env _ _ _, launch0.least_env, fairChoices_fair.cas, fairChoices_fair.clock, w_frames, w_args, w_heap, w_applies, trivial, trivial, w_case⟩
end start1
theorem witness_1 : WitnessClaimed_1 := ⟨start1.p0, start1.e0, start1.about1, start1.theMethod, start1.args0, start1.below0, start1.atStart⟩
end Jvm.Pilot.@@N@@
