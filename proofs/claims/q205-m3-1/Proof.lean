import JvmDerived
import JvmDerived.Pilot.@@N@@Statement
import JvmDerived.Pilot.@@N@@Code
set_option linter.unusedVariables false
set_option linter.unusedSimpArgs false
@@BLOCK:NumsL.lean.txt@@
namespace Jvm.Pilot.@@N@@
open Jvm Jvm.ClassFile Sem Op Lib Jvm.Free Jvm.Stand Jvm.LawKit Jvm.RoadKit Bundle Jvm.Pilot.@@N@@.Jvm.D
/-- from the state T with the frame g the run comes to an end that P speaks of -/
def own_Goes (tb : Tables) (e : Env) (below : List Frame) (P : Outcome → State → Prop) (T : State) (g : JFrame) : Prop :=
  ∃ s₂ o, Steps tb e below (T.setTop g) s₂ ∧ s₂.status = .running ∧ Ended s₂ below o ∧ P o s₂
theorem own_Goes.via {tb : Tables} {e : Env} {below : List Frame} {P : Outcome → State → Prop} {T T' : State} {g g' : JFrame} (h : ∀ t, Steps tb e below (T'.setTop g') t → Steps tb e below (T.setTop g) t) (k : own_Goes tb e below P T' g') : own_Goes tb e below P T g := by
  obtain ⟨s₂, o, a, b⟩ := k
  exact ⟨s₂, o, h _ a, b⟩
theorem own_Goes.fin {tb : Tables} {e : Env} {below : List Frame} {P : Outcome → State → Prop} {T s₂ : State} {g : JFrame} {o : Outcome} (h1 : Steps tb e below (T.setTop g) s₂) (h2 : s₂.status = .running) (h3 : Ended s₂ below o) (h4 : P o s₂) : own_Goes tb e below P T g := ⟨s₂, o, h1, h2, h3, h4⟩
theorem own_ltT {x y : Int64} (h : x < y) : ifCond.holds .lt (lcmpW x y) = true ∧ ifCond.holds .ge (lcmpW x y) = false := by
  have q : lcmpW x y < 0 := by rw [lcW]; exact (lc_lt x y).mpr h
  exact ⟨(if0 _ _).trans (tlt q).1, (if0 _ _).trans (tlt q).2.1⟩
theorem own_ltF {x y : Int64} (h : ¬ x < y) : ifCond.holds .lt (lcmpW x y) = false ∧ ifCond.holds .ge (lcmpW x y) = true := by
  have q : ¬ lcmpW x y < 0 := by rw [lcW]; exact fun z => h ((lc_lt x y).mp z)
  exact ⟨(if0 _ _).trans (flt q).1, (if0 _ _).trans (flt q).2.1⟩
theorem own_gtT {x y : Int64} (h : y < x) : ifCond.holds .gt (lcmpW x y) = true ∧ ifCond.holds .le (lcmpW x y) = false := by
  have q : 0 < lcmpW x y := by rw [lcW]; exact (lc_gt x y).mpr h
  exact ⟨(if0 _ _).trans (tlt q).2.2.1, (if0 _ _).trans (tlt q).2.2.2⟩
theorem own_gtF {x y : Int64} (h : ¬ y < x) : ifCond.holds .gt (lcmpW x y) = false ∧ ifCond.holds .le (lcmpW x y) = true := by
  have q : ¬ 0 < lcmpW x y := by rw [lcW]; exact fun z => h ((lc_gt x y).mp z)
  exact ⟨(if0 _ _).trans (flt q).2.2.1, (if0 _ _).trans (flt q).2.2.2⟩
theorem own_eqT {x y : Int64} (h : x = y) : ifCond.holds .eq (lcmpW x y) = true ∧ ifCond.holds .ne (lcmpW x y) = false := by
  have q : lcmpW x y = 0 := by rw [lcW]; exact (lc_eq x y).mpr h
  exact ⟨(if0 _ _).trans (teq q).1, (if0 _ _).trans (teq q).2⟩
theorem own_eqF {x y : Int64} (h : ¬ x = y) : ifCond.holds .eq (lcmpW x y) = false ∧ ifCond.holds .ne (lcmpW x y) = true := by
  have q : ¬ lcmpW x y = 0 := by rw [lcW]; exact fun z => h ((lc_eq x y).mp z)
  exact ⟨(if0 _ _).trans (feq q).1, (if0 _ _).trans (feq q).2⟩
theorem own_lrem (x y : Int64) : x - (x / y) * y = x % y := Int64.toInt_inj.mp (by rw [Jvm.Kit.i64_rem, Int64.toInt_mod])
theorem d1_0 : decode method_2_code 0 = .ok (.iload_n 0, 1) := by decide +kernel
theorem d1_1 : decode method_2_code 1 = .ok (.iconst 1, 1) := by decide +kernel
theorem d1_2 : decode method_2_code 2 = .ok (.if_icmp .ne 11, 3) := by decide +kernel
theorem d1_5 : decode method_2_code 5 = .ok (.iload_n 2, 1) := by decide +kernel
theorem d1_6 : decode method_2_code 6 = .ok (.iload_n 1, 1) := by decide +kernel
theorem d1_7 : decode method_2_code 7 = .ok (.iconst 1, 1) := by decide +kernel
theorem d1_8 : decode method_2_code 8 = .ok (.iand, 1) := by decide +kernel
theorem d1_9 : decode method_2_code 9 = .ok (.iadd, 1) := by decide +kernel
theorem d1_10 : decode method_2_code 10 = .ok (.iconst 1, 1) := by decide +kernel
theorem d1_11 : decode method_2_code 11 = .ok (.isub, 1) := by decide +kernel
theorem d1_12 : decode method_2_code 12 = .ok (.ireturn, 1) := by decide +kernel
theorem d1_13 : decode method_2_code 13 = .ok (.iload_n 0, 1) := by decide +kernel
theorem d1_14 : decode method_2_code 14 = .ok (.iconst 2, 1) := by decide +kernel
theorem d1_15 : decode method_2_code 15 = .ok (.if_icmp .ne 9, 3) := by decide +kernel
theorem d1_18 : decode method_2_code 18 = .ok (.iload_n 1, 1) := by decide +kernel
theorem d1_19 : decode method_2_code 19 = .ok (.iconst 1, 1) := by decide +kernel
theorem d1_20 : decode method_2_code 20 = .ok (.iand, 1) := by decide +kernel
theorem d1_21 : decode method_2_code 21 = .ok (.iconst 1, 1) := by decide +kernel
theorem d1_22 : decode method_2_code 22 = .ok (.isub, 1) := by decide +kernel
theorem d1_23 : decode method_2_code 23 = .ok (.ireturn, 1) := by decide +kernel
theorem d1_24 : decode method_2_code 24 = .ok (.iload_n 1, 1) := by decide +kernel
theorem d1_25 : decode method_2_code 25 = .ok (.ireturn, 1) := by decide +kernel
theorem pn_1 : plainName "com/example/gridwright/gridwright/grid/CellIsOnPinLaw" = true := by first | (simp [plainName, overriddenIn]; done) | decide +kernel
theorem ef_1 (m : MethodId) (xm : Int32) (xr : Int32) (xb : Int32) : entryFrame m #[(.int xm), (.int xr), (.int xb)] 3 = mkF m 0 #[.val (.int xm), .val (.int xr), .val (.int xb)] [] := by first | (simp [entryFrame, mkF, argsToLocals, Value.category]; done) | rfl
def own_f1 (xm : Int32) (xr : Int32) (xb : Int32) : Int32 := (if xm = (1 : Int32) then ((xb + (xr &&& (1 : Int32))) - (1 : Int32)) else (if xm = (2 : Int32) then ((xr &&& (1 : Int32)) - (1 : Int32)) else xr))
def Q1 (Z : State) (xm : Int32) (xr : Int32) (xb : Int32) (h0 : Heap) (n0 : Nat) (v : Option Value) (h : Heap) (L : List Loc) : Prop := v = some (.int (own_f1 xm xr xb)) ∧ Fr n0 L ∧ h = h0
set_option maxRecDepth 65536 in
set_option maxHeartbeats 40000000 in
theorem rm1 (l : Launch) (Z : State) (a0 : Array Value) (hw : ∀ d ∈ tables_1, d.before a0 Z = true) (ws : List Jvm.Cond) (xm : Int32) (xr : Int32) (xb : Int32) (h0 : Heap) (n0 : Nat) (Z0 : n0 ≤ h0.size) :
    MetFree l (⟨"com/example/gridwright/gridwright/grid/CellIsOnPinLaw", "pick", "(III)I"⟩ : MethodName) (head1 (Jvm.Cond.code (⟨"com/example/gridwright/gridwright/grid/CellIsOnPinLaw", "pick", "(III)I"⟩ : MethodName) method_2_code 3 (some .int) :: ws) ({ frames := 0, cells := 0, slots := 0, locals := 0 } : Room)) (fun a U => a = #[(.int xm), (.int xr), (.int xb)] ∧ Z.Warmed39 U.vm ∧ U.heap = h0) (fun _ _ _ _ _ => True) (fun _ U o U' => ∃ v L, o = .returned v ∧ Q1 Z xm xr xb h0 n0 v U'.heap L ∧ FrameEnd U o U' L ({ frames := 0, cells := 0, slots := 0, locals := 0 } : Room).cells ({ frames := 0, cells := 0, slots := 0, locals := 0 } : Room).slots) := by
  refine MetFree.of_bodySF (plainFor_of_name pn_1) hisR ?_
  intro p e s m args below meth c s₁ Bd hml0 hP hK
  obtain ⟨rfl, hZ, hh⟩ := hP
  have hx := Bd.exec
  have hby := Bd.bytes
  have hml : c.maxLocals = 3 := hml0
  have hown : s.vm.findClass "com/example/gridwright/gridwright/grid/CellIsOnPinLaw" = some m.cls := findClass_of_methodNamed Bd.named
  have hnm := (name_of_methodNamed Bd.named Bd.method).1
  have X0 : Stand p l e ({ frames := 0, cells := 0, slots := 0, locals := 0 } : Room) s m #[(.int xm), (.int xr), (.int xb)] below meth c s₁ [] 0 0 := Stand.of_body Bd
  have e0 : s₁.heap = h0 := by rw [← hh, Bd.state]; rfl
  have N0 := Fr.nil n0
  suffices G : own_Goes p.tables e below (fun o U' => ∃ v L, o = .returned v ∧ Q1 Z xm xr xb h0 n0 v U'.heap L ∧ FrameEnd s o U' L ({ frames := 0, cells := 0, slots := 0, locals := 0 } : Room).cells ({ frames := 0, cells := 0, slots := 0, locals := 0 } : Room).slots) s₁ (mkF m 0 #[.val (.int xm), .val (.int xr), .val (.int xb)] []) by
    obtain ⟨t2_, o2_, z1_, z2_, z3_, z4_⟩ := G
    exact ⟨t2_, o2_, castTop (ef_1 m xm xr xb) z1_, z2_, z3_, z4_⟩
  generalize hPd : (fun (o : Outcome) (U' : State) => ∃ v L, o = .returned v ∧ Q1 Z xm xr xb h0 n0 v U'.heap L ∧ FrameEnd s o U' L ({ frames := 0, cells := 0, slots := 0, locals := 0 } : Room).cells ({ frames := 0, cells := 0, slots := 0, locals := 0 } : Room).slots) = P
  refine own_Goes.via (T' := s₁) (g' := (mkF m 1 #[.val (.int xm), .val (.int xr), .val (.int xb)] [(.int xm)])) (fun t_ k_ => XS.iloadN X0.here hx rfl (hb hby d1_0) rfl k_) ?_
  refine own_Goes.via (T' := s₁) (g' := (mkF m 2 #[.val (.int xm), .val (.int xr), .val (.int xb)] [(.int (1 : Int32)), (.int xm)])) (fun t_ k_ => XS.iconst X0.here hx rfl (hb hby d1_1) k_) ?_
  by_cases hc2_1 : xm = (1 : Int32)
  · refine own_Goes.via (T' := s₁) (g' := (mkF m 5 #[.val (.int xm), .val (.int xr), .val (.int xb)] [])) (fun t_ k_ => XS.icmpNo X0.here hx rfl (hb hby d1_2) rfl (teq hc2_1).2 k_) ?_
    refine own_Goes.via (T' := s₁) (g' := (mkF m 6 #[.val (.int xm), .val (.int xr), .val (.int xb)] [(.int xb)])) (fun t_ k_ => XS.iloadN X0.here hx rfl (hb hby d1_5) rfl k_) ?_
    refine own_Goes.via (T' := s₁) (g' := (mkF m 7 #[.val (.int xm), .val (.int xr), .val (.int xb)] [(.int xr), (.int xb)])) (fun t_ k_ => XS.iloadN X0.here hx rfl (hb hby d1_6) rfl k_) ?_
    refine own_Goes.via (T' := s₁) (g' := (mkF m 8 #[.val (.int xm), .val (.int xr), .val (.int xb)] [(.int (1 : Int32)), (.int xr), (.int xb)])) (fun t_ k_ => XS.iconst X0.here hx rfl (hb hby d1_7) k_) ?_
    refine own_Goes.via (T' := s₁) (g' := (mkF m 9 #[.val (.int xm), .val (.int xr), .val (.int xb)] [(.int (xr &&& (1 : Int32))), (.int xb)])) (fun t_ k_ => XS.iand X0.here hx rfl (hb hby d1_8) rfl k_) ?_
    refine own_Goes.via (T' := s₁) (g' := (mkF m 10 #[.val (.int xm), .val (.int xr), .val (.int xb)] [(.int (xb + (xr &&& (1 : Int32))))])) (fun t_ k_ => XS.iadd X0.here hx rfl (hb hby d1_9) rfl k_) ?_
    refine own_Goes.via (T' := s₁) (g' := (mkF m 11 #[.val (.int xm), .val (.int xr), .val (.int xb)] [(.int (1 : Int32)), (.int (xb + (xr &&& (1 : Int32))))])) (fun t_ k_ => XS.iconst X0.here hx rfl (hb hby d1_10) k_) ?_
    refine own_Goes.via (T' := s₁) (g' := (mkF m 12 #[.val (.int xm), .val (.int xr), .val (.int xb)] [(.int ((xb + (xr &&& (1 : Int32))) - (1 : Int32)))])) (fun t_ k_ => XS.isub X0.here hx rfl (hb hby d1_11) rfl k_) ?_
    obtain ⟨fs, hr, hrun, hended, hW, hsame⟩ := X0.leave (v := some (.int ((xb + (xr &&& (1 : Int32))) - (1 : Int32)))) (fun h => by rw [Bd.returns] at h; cases h)
    refine own_Goes.fin (retOut X0 hx Bd.returns rfl (Or.inl ⟨rfl, Or.inl rfl, _, rfl⟩) (hb hby d1_12) hr) hrun hended ?_
    subst hPd
    refine ⟨_, _, rfl, ?_, ⟨_, rfl⟩, hW, hsame.mono (by decide) (by decide)⟩
    show Q1 Z xm xr xb h0 n0 _ s₁.heap _
    rw [e0]
    exact ⟨(by first | rfl | (simp only [own_f1, if_pos hc2_1])), N0, rfl⟩
  · refine own_Goes.via (T' := s₁) (g' := (mkF m 13 #[.val (.int xm), .val (.int xr), .val (.int xb)] [])) (fun t_ k_ => XS.icmpYes X0.here hx rfl (pc0 := 2) (pc' := 13) rfl (hb hby d1_2) rfl (feq hc2_1).2 (by decide) (by decide) k_) ?_
    refine own_Goes.via (T' := s₁) (g' := (mkF m 14 #[.val (.int xm), .val (.int xr), .val (.int xb)] [(.int xm)])) (fun t_ k_ => XS.iloadN X0.here hx rfl (hb hby d1_13) rfl k_) ?_
    refine own_Goes.via (T' := s₁) (g' := (mkF m 15 #[.val (.int xm), .val (.int xr), .val (.int xb)] [(.int (2 : Int32)), (.int xm)])) (fun t_ k_ => XS.iconst X0.here hx rfl (hb hby d1_14) k_) ?_
    by_cases hc15_2 : xm = (2 : Int32)
    · refine own_Goes.via (T' := s₁) (g' := (mkF m 18 #[.val (.int xm), .val (.int xr), .val (.int xb)] [])) (fun t_ k_ => XS.icmpNo X0.here hx rfl (hb hby d1_15) rfl (teq hc15_2).2 k_) ?_
      refine own_Goes.via (T' := s₁) (g' := (mkF m 19 #[.val (.int xm), .val (.int xr), .val (.int xb)] [(.int xr)])) (fun t_ k_ => XS.iloadN X0.here hx rfl (hb hby d1_18) rfl k_) ?_
      refine own_Goes.via (T' := s₁) (g' := (mkF m 20 #[.val (.int xm), .val (.int xr), .val (.int xb)] [(.int (1 : Int32)), (.int xr)])) (fun t_ k_ => XS.iconst X0.here hx rfl (hb hby d1_19) k_) ?_
      refine own_Goes.via (T' := s₁) (g' := (mkF m 21 #[.val (.int xm), .val (.int xr), .val (.int xb)] [(.int (xr &&& (1 : Int32)))])) (fun t_ k_ => XS.iand X0.here hx rfl (hb hby d1_20) rfl k_) ?_
      refine own_Goes.via (T' := s₁) (g' := (mkF m 22 #[.val (.int xm), .val (.int xr), .val (.int xb)] [(.int (1 : Int32)), (.int (xr &&& (1 : Int32)))])) (fun t_ k_ => XS.iconst X0.here hx rfl (hb hby d1_21) k_) ?_
      refine own_Goes.via (T' := s₁) (g' := (mkF m 23 #[.val (.int xm), .val (.int xr), .val (.int xb)] [(.int ((xr &&& (1 : Int32)) - (1 : Int32)))])) (fun t_ k_ => XS.isub X0.here hx rfl (hb hby d1_22) rfl k_) ?_
      obtain ⟨fs, hr, hrun, hended, hW, hsame⟩ := X0.leave (v := some (.int ((xr &&& (1 : Int32)) - (1 : Int32)))) (fun h => by rw [Bd.returns] at h; cases h)
      refine own_Goes.fin (retOut X0 hx Bd.returns rfl (Or.inl ⟨rfl, Or.inl rfl, _, rfl⟩) (hb hby d1_23) hr) hrun hended ?_
      subst hPd
      refine ⟨_, _, rfl, ?_, ⟨_, rfl⟩, hW, hsame.mono (by decide) (by decide)⟩
      show Q1 Z xm xr xb h0 n0 _ s₁.heap _
      rw [e0]
      exact ⟨(by first | rfl | (simp only [own_f1, if_neg hc2_1, if_pos hc15_2])), N0, rfl⟩
    · refine own_Goes.via (T' := s₁) (g' := (mkF m 24 #[.val (.int xm), .val (.int xr), .val (.int xb)] [])) (fun t_ k_ => XS.icmpYes X0.here hx rfl (pc0 := 15) (pc' := 24) rfl (hb hby d1_15) rfl (feq hc15_2).2 (by decide) (by decide) k_) ?_
      refine own_Goes.via (T' := s₁) (g' := (mkF m 25 #[.val (.int xm), .val (.int xr), .val (.int xb)] [(.int xr)])) (fun t_ k_ => XS.iloadN X0.here hx rfl (hb hby d1_24) rfl k_) ?_
      obtain ⟨fs, hr, hrun, hended, hW, hsame⟩ := X0.leave (v := some (.int xr)) (fun h => by rw [Bd.returns] at h; cases h)
      refine own_Goes.fin (retOut X0 hx Bd.returns rfl (Or.inl ⟨rfl, Or.inl rfl, _, rfl⟩) (hb hby d1_25) hr) hrun hended ?_
      subst hPd
      refine ⟨_, _, rfl, ?_, ⟨_, rfl⟩, hW, hsame.mono (by decide) (by decide)⟩
      show Q1 Z xm xr xb h0 n0 _ s₁.heap _
      rw [e0]
      exact ⟨(by first | rfl | (simp only [own_f1, if_neg hc2_1, if_neg hc15_2])), N0, rfl⟩
theorem d3_0 : decode jdk_30_method_1_code 0 = .ok (.aload_n 0, 1) := by decide +kernel
theorem d3_1 : decode jdk_30_method_1_code 1 = .ok (.invokespecial 1, 3) := by decide +kernel
theorem d3_4 : decode jdk_30_method_1_code 4 = .ok (.return_, 1) := by decide +kernel
theorem pn_3 : plainName "java/lang/Record" = true := by first | (simp [plainName, overriddenIn]; done) | decide +kernel
theorem ef_3 (m : MethodId) (ao : Addr) : entryFrame m #[(.ref ao)] 1 = mkF m 0 #[.val (.ref ao)] [] := by first | (simp [entryFrame, mkF, argsToLocals, Value.category]; done) | rfl
def Q3 (Z : State) (ao : Addr) (h0 : Heap) (n0 : Nat) (v : Option Value) (h : Heap) (L : List Loc) : Prop := v = none ∧ Fr n0 L ∧ h = h0
set_option maxRecDepth 65536 in
set_option maxHeartbeats 40000000 in
theorem rm3 (l : Launch) (Z : State) (a0 : Array Value) (hw : ∀ d ∈ tables_1, d.before a0 Z = true) (ws : List Jvm.Cond) (ao : Addr) (h0 : Heap) (n0 : Nat) (Z0 : n0 ≤ h0.size) :
    MetFree l (⟨"java/lang/Record", "<init>", "()V"⟩ : MethodName) (head1 (Jvm.Cond.code (⟨"java/lang/Record", "<init>", "()V"⟩ : MethodName) jdk_30_method_1_code 1 none :: ws) ({ frames := 1, cells := 0, slots := 0, locals := 12 } : Room)) (fun a U => a = #[(.ref ao)] ∧ Z.Warmed39 U.vm ∧ U.heap = h0) (fun _ _ _ _ _ => True) (fun _ U o U' => ∃ v L, o = .returned v ∧ Q3 Z ao h0 n0 v U'.heap L ∧ FrameEnd U o U' L ({ frames := 1, cells := 0, slots := 0, locals := 12 } : Room).cells ({ frames := 1, cells := 0, slots := 0, locals := 12 } : Room).slots) := by
  refine MetFree.of_bodySF (plainFor_of_name pn_3) hisR ?_
  intro p e s m args below meth c s₁ Bd hml0 hP hK
  obtain ⟨rfl, hZ, hh⟩ := hP
  have hx := Bd.exec
  have hby := Bd.bytes
  have hml : c.maxLocals = 1 := hml0
  have hown : s.vm.findClass "java/lang/Record" = some m.cls := findClass_of_methodNamed Bd.named
  have hnm := (name_of_methodNamed Bd.named Bd.method).1
  have X0 : Stand p l e ({ frames := 1, cells := 0, slots := 0, locals := 12 } : Room) s m #[(.ref ao)] below meth c s₁ [] 0 0 := Stand.of_body Bd
  have e0 : s₁.heap = h0 := by rw [← hh, Bd.state]; rfl
  have N0 := Fr.nil n0
  suffices G : own_Goes p.tables e below (fun o U' => ∃ v L, o = .returned v ∧ Q3 Z ao h0 n0 v U'.heap L ∧ FrameEnd s o U' L ({ frames := 1, cells := 0, slots := 0, locals := 12 } : Room).cells ({ frames := 1, cells := 0, slots := 0, locals := 12 } : Room).slots) s₁ (mkF m 0 #[.val (.ref ao)] []) by
    obtain ⟨t2_, o2_, z1_, z2_, z3_, z4_⟩ := G
    exact ⟨t2_, o2_, castTop (ef_3 m ao) z1_, z2_, z3_, z4_⟩
  generalize hPd : (fun (o : Outcome) (U' : State) => ∃ v L, o = .returned v ∧ Q3 Z ao h0 n0 v U'.heap L ∧ FrameEnd s o U' L ({ frames := 1, cells := 0, slots := 0, locals := 12 } : Room).cells ({ frames := 1, cells := 0, slots := 0, locals := 12 } : Room).slots) = P
  refine own_Goes.via (T' := s₁) (g' := (mkF m 1 #[.val (.ref ao)] [(.ref ao)])) (fun t_ k_ => XS.aloadN X0.here hx rfl (hb hby d3_0) rfl rfl k_) ?_
  obtain ⟨T1, X1, e1, st1⟩ := initO X0 hx hZ hown (hw _ (List.mem_of_getElem? (i := 15) rfl)) (hw _ (List.mem_of_getElem? (i := 16) rfl)) (hw _ (List.mem_of_getElem? (i := 17) rfl)) e0 (g := (mkF m 1 #[.val (.ref ao)] [(.ref ao)])) rfl (by rw [hml]; rfl) rfl (hb hby d3_1) (by decide) (W := 0) (by show 2 * 0 + _ ≤ _; exact Nat.le_of_eq rfl) (by decide)
  refine own_Goes.via (T' := T1) (g' := (mkF m 4 #[.val (.ref ao)] [])) (st1) ?_
  obtain ⟨fs, hr, hrun, hended, hW, hsame⟩ := X1.leave (v := none) (fun _ => rfl)
  refine own_Goes.fin (X1.returnOut hx Bd.returns (hb hby d3_4) hr) hrun hended ?_
  subst hPd
  refine ⟨_, _, rfl, ?_, ⟨_, rfl⟩, hW, hsame.mono (by decide) (by decide)⟩
  show Q3 Z ao h0 n0 _ T1.heap _
  rw [e1]
  exact ⟨rfl, N0, rfl⟩
theorem d2_0 : decode prog_84_method_1_code 0 = .ok (.aload_n 0, 1) := by decide +kernel
theorem d2_1 : decode prog_84_method_1_code 1 = .ok (.invokespecial 1, 3) := by decide +kernel
theorem d2_4 : decode prog_84_method_1_code 4 = .ok (.aload_n 0, 1) := by decide +kernel
theorem d2_5 : decode prog_84_method_1_code 5 = .ok (.iload_n 1, 1) := by decide +kernel
theorem d2_6 : decode prog_84_method_1_code 6 = .ok (.putfield 7, 3) := by decide +kernel
theorem d2_9 : decode prog_84_method_1_code 9 = .ok (.aload_n 0, 1) := by decide +kernel
theorem d2_10 : decode prog_84_method_1_code 10 = .ok (.iload_n 2, 1) := by decide +kernel
theorem d2_11 : decode prog_84_method_1_code 11 = .ok (.putfield 13, 3) := by decide +kernel
theorem d2_14 : decode prog_84_method_1_code 14 = .ok (.return_, 1) := by decide +kernel
theorem pn_2 : plainName "com/example/gridwright/gridwright/grid/Cell" = true := by first | (simp [plainName, overriddenIn]; done) | decide +kernel
theorem pd_2_0 : parseMethodDescriptor "()V" = some ⟨[], none⟩ := by decide +kernel
theorem ef_2 (m : MethodId) (ao : Addr) (xr : Int32) (xc : Int32) : entryFrame m #[(.ref ao), (.int xr), (.int xc)] 3 = mkF m 0 #[.val (.ref ao), .val (.int xr), .val (.int xc)] [] := by first | (simp [entryFrame, mkF, argsToLocals, Value.category]; done) | rfl
def Q2 (Z : State) (ao : Addr) (xr : Int32) (xc : Int32) (h0 : Heap) (n0 : Nat) (v : Option Value) (h : Heap) (L : List Loc) : Prop := v = none ∧ Fr n0 L ∧ Keep h0 h [ao] ∧ Exa Z h ao "com/example/gridwright/gridwright/grid/Cell" ∧ Fld Z h ao "com/example/gridwright/gridwright/grid/Cell" "row" "I" (.int xr) ∧ Fld Z h ao "com/example/gridwright/gridwright/grid/Cell" "column" "I" (.int xc)
set_option maxRecDepth 65536 in
set_option maxHeartbeats 40000000 in
theorem rm2 (l : Launch) (Z : State) (a0 : Array Value) (hw : ∀ d ∈ tables_1, d.before a0 Z = true) (ws : List Jvm.Cond) (ao : Addr) (xr : Int32) (xc : Int32) (h0 : Heap) (n0 : Nat) (Z0 : n0 ≤ h0.size) (PF0 : Exa Z h0 ao "com/example/gridwright/gridwright/grid/Cell") (PF1 : Fld Z h0 ao "com/example/gridwright/gridwright/grid/Cell" "row" "I" (.int (0 : Int32))) (PF2 : Fld Z h0 ao "com/example/gridwright/gridwright/grid/Cell" "column" "I" (.int (0 : Int32))) (ge_ao : n0 ≤ ao) :
    MetFree l (⟨"com/example/gridwright/gridwright/grid/Cell", "<init>", "(II)V"⟩ : MethodName) (head1 (Jvm.Cond.code (⟨"com/example/gridwright/gridwright/grid/Cell", "<init>", "(II)V"⟩ : MethodName) prog_84_method_1_code 3 none :: ws) ({ frames := 2, cells := 0, slots := 0, locals := 24 } : Room)) (fun a U => a = #[(.ref ao), (.int xr), (.int xc)] ∧ Z.Warmed39 U.vm ∧ U.heap = h0) (fun _ _ _ _ _ => True) (fun _ U o U' => ∃ v L, o = .returned v ∧ Q2 Z ao xr xc h0 n0 v U'.heap L ∧ FrameEnd U o U' L ({ frames := 2, cells := 0, slots := 0, locals := 24 } : Room).cells ({ frames := 2, cells := 0, slots := 0, locals := 24 } : Room).slots) := by
  refine MetFree.of_bodySF (plainFor_of_name pn_2) hisR ?_
  intro p e s m args below meth c s₁ Bd hml0 hP hK
  obtain ⟨rfl, hZ, hh⟩ := hP
  have hx := Bd.exec
  have hby := Bd.bytes
  have hml : c.maxLocals = 3 := hml0
  have hown : s.vm.findClass "com/example/gridwright/gridwright/grid/Cell" = some m.cls := findClass_of_methodNamed Bd.named
  have hnm := (name_of_methodNamed Bd.named Bd.method).1
  have X0 : Stand p l e ({ frames := 2, cells := 0, slots := 0, locals := 24 } : Room) s m #[(.ref ao), (.int xr), (.int xc)] below meth c s₁ [] 0 0 := Stand.of_body Bd
  have e0 : s₁.heap = h0 := by rw [← hh, Bd.state]; rfl
  have N0 := Fr.nil n0
  suffices G : own_Goes p.tables e below (fun o U' => ∃ v L, o = .returned v ∧ Q2 Z ao xr xc h0 n0 v U'.heap L ∧ FrameEnd s o U' L ({ frames := 2, cells := 0, slots := 0, locals := 24 } : Room).cells ({ frames := 2, cells := 0, slots := 0, locals := 24 } : Room).slots) s₁ (mkF m 0 #[.val (.ref ao), .val (.int xr), .val (.int xc)] []) by
    obtain ⟨t2_, o2_, z1_, z2_, z3_, z4_⟩ := G
    exact ⟨t2_, o2_, castTop (ef_2 m ao xr xc) z1_, z2_, z3_, z4_⟩
  generalize hPd : (fun (o : Outcome) (U' : State) => ∃ v L, o = .returned v ∧ Q2 Z ao xr xc h0 n0 v U'.heap L ∧ FrameEnd s o U' L ({ frames := 2, cells := 0, slots := 0, locals := 24 } : Room).cells ({ frames := 2, cells := 0, slots := 0, locals := 24 } : Room).slots) = P
  refine own_Goes.via (T' := s₁) (g' := (mkF m 1 #[.val (.ref ao), .val (.int xr), .val (.int xc)] [(.ref ao)])) (fun t_ k_ => XS.aloadN X0.here hx rfl (hb hby d2_0) rfl rfl k_) ?_
  obtain ⟨_, _, ⟨T1, L1, k1, n1⟩, -, X1, ⟨Lc1, hQ1, l1, y1, z1⟩, st1⟩ := X0.specialBack hx (y := (⟨"java/lang/Record", "<init>", "()V"⟩ : MethodName)) rfl hown (mvT hZ (hw _ (List.mem_of_getElem? (i := 10) rfl))) (mvT hZ (hw _ (List.mem_of_getElem? (i := 11) rfl))) (mvT hZ (hw _ (List.mem_of_getElem? (i := 14) rfl))) (by decide) (backOf (W := 0) (rm3 l Z a0 hw [] ao h0 n0 Z0 ) hZ (hw _ (List.mem_of_getElem? (i := 14) rfl)) (hw _ (List.mem_of_getElem? (i := 13) rfl)) (by decide) (by decide)) (g := (mkF m 1 #[.val (.ref ao), .val (.int xr), .val (.int xc)] [(.ref ao)])) rfl (by rw [hml]; rfl) (Steps.refl _) (a := ao) (argsL := []) (rest := []) (lenOf pd_2_0 rfl) rfl (by show 2 * 0 + _ ≤ _; exact Nat.le_of_eq rfl) (hb hby d2_1) (fun _ _ => ⟨rfl, e0, (by decide : 0 + 0 ≤ _), (by decide : 0 + 0 ≤ _)⟩)
  dsimp only [Pt.U, Pt.locs, Pt.cells, Pt.slots] at X1 l1 y1 z1 st1 hQ1
  subst l1 y1 z1
  obtain ⟨rfl, Nq1, hh1⟩ := hQ1
  have N1 := Fr.app N0 Nq1
  refine own_Goes.via (T' := T1) (g' := (mkF m 4 #[.val (.ref ao), .val (.int xr), .val (.int xc)] [])) (fun t_ k_ => st1.trans k_) ?_
  refine own_Goes.via (T' := T1) (g' := (mkF m 5 #[.val (.ref ao), .val (.int xr), .val (.int xc)] [(.ref ao)])) (fun t_ k_ => XS.aloadN X1.here hx rfl (hb hby d2_4) rfl rfl k_) ?_
  refine own_Goes.via (T' := T1) (g' := (mkF m 6 #[.val (.ref ao), .val (.int xr), .val (.int xc)] [(.int xr), (.ref ao)])) (fun t_ k_ => XS.iloadN X1.here hx rfl (hb hby d2_5) rfl k_) ?_
  obtain ⟨T2, h2, X2, e2, W2, st2⟩ := putF X1 hx hZ hown (host := "") (Or.inl (hw _ (List.mem_of_getElem? (i := 18) rfl))) Via.refl hh1 PF1 PF0 (Or.inr ⟨(hw _ (List.mem_of_getElem? (i := 19) rfl)), rfl, hnm⟩) (hw _ (List.mem_of_getElem? (i := 5) rfl)) (ty := .int) (by decide) rfl rfl (g := (mkF m 6 #[.val (.ref ao), .val (.int xr), .val (.int xc)] [(.int xr), (.ref ao)])) rfl rfl (hb hby d2_6)
  have E3 : Exa Z h2 ao "com/example/gridwright/gridwright/grid/Cell" := PF0.wr W2
  have F4 : Fld Z h2 ao "com/example/gridwright/gridwright/grid/Cell" "column" "I" (.int (0 : Int32)) := PF2.other W2 (Or.inr (slot_ne (Or.inr (hw _ (List.mem_of_getElem? (i := 21) rfl))) (Or.inr (hw _ (List.mem_of_getElem? (i := 19) rfl))) (by decide) (t := .int) (t' := .int) (by decide) (by decide)))
  have F5 : Fld Z h2 ao "com/example/gridwright/gridwright/grid/Cell" "row" "I" (.int xr) := PF1.same W2
  have N2 := Fr.snoc X2 N1 ge_ao
  have sz2 : n0 ≤ h2.size := Nat.le_trans Z0 (Keep.of_wr W2).1
  have K2 : Keep h0 h2 [ao] := ((Keep.refl h0 [ao])).wr W2 (Or.inl (List.mem_of_getElem? (i := 0) rfl))
  refine own_Goes.via (T' := T2) (g' := (mkF m 9 #[.val (.ref ao), .val (.int xr), .val (.int xc)] [])) (st2) ?_
  refine own_Goes.via (T' := T2) (g' := (mkF m 10 #[.val (.ref ao), .val (.int xr), .val (.int xc)] [(.ref ao)])) (fun t_ k_ => XS.aloadN X2.here hx rfl (hb hby d2_9) rfl rfl k_) ?_
  refine own_Goes.via (T' := T2) (g' := (mkF m 11 #[.val (.ref ao), .val (.int xr), .val (.int xc)] [(.int xc), (.ref ao)])) (fun t_ k_ => XS.iloadN X2.here hx rfl (hb hby d2_10) rfl k_) ?_
  obtain ⟨T6, h6, X6, e6, W6, st6⟩ := putF X2 hx hZ hown (host := "") (Or.inl (hw _ (List.mem_of_getElem? (i := 20) rfl))) Via.refl e2 F4 E3 (Or.inr ⟨(hw _ (List.mem_of_getElem? (i := 21) rfl)), rfl, hnm⟩) (hw _ (List.mem_of_getElem? (i := 5) rfl)) (ty := .int) (by decide) rfl rfl (g := (mkF m 11 #[.val (.ref ao), .val (.int xr), .val (.int xc)] [(.int xc), (.ref ao)])) rfl rfl (hb hby d2_11)
  have E7 : Exa Z h6 ao "com/example/gridwright/gridwright/grid/Cell" := E3.wr W6
  have F8 : Fld Z h6 ao "com/example/gridwright/gridwright/grid/Cell" "row" "I" (.int xr) := F5.other W6 (Or.inr (slot_ne (Or.inr (hw _ (List.mem_of_getElem? (i := 19) rfl))) (Or.inr (hw _ (List.mem_of_getElem? (i := 21) rfl))) (by decide) (t := .int) (t' := .int) (by decide) (by decide)))
  have F9 : Fld Z h6 ao "com/example/gridwright/gridwright/grid/Cell" "column" "I" (.int xc) := F4.same W6
  have N6 := Fr.snoc X6 N2 ge_ao
  have sz6 : n0 ≤ h6.size := Nat.le_trans sz2 (Keep.of_wr W6).1
  have K6 : Keep h0 h6 [ao] := (K2).wr W6 (Or.inl (List.mem_of_getElem? (i := 0) rfl))
  refine own_Goes.via (T' := T6) (g' := (mkF m 14 #[.val (.ref ao), .val (.int xr), .val (.int xc)] [])) (st6) ?_
  obtain ⟨fs, hr, hrun, hended, hW, hsame⟩ := X6.leave (v := none) (fun _ => rfl)
  refine own_Goes.fin (X6.returnOut hx Bd.returns (hb hby d2_14) hr) hrun hended ?_
  subst hPd
  refine ⟨_, _, rfl, ?_, ⟨_, rfl⟩, hW, hsame.mono (by decide) (by decide)⟩
  show Q2 Z ao xr xc h0 n0 _ T6.heap _
  rw [e6]
  exact ⟨rfl, N6, K6, E7, F8, F9⟩
theorem d5_0 : decode prog_84_method_4_code 0 = .ok (.aload_n 0, 1) := by decide +kernel
theorem d5_1 : decode prog_84_method_4_code 1 = .ok (.getfield 7, 3) := by decide +kernel
theorem d5_4 : decode prog_84_method_4_code 4 = .ok (.ifCond .lt 30, 3) := by decide +kernel
theorem d5_7 : decode prog_84_method_4_code 7 = .ok (.aload_n 0, 1) := by decide +kernel
theorem d5_8 : decode prog_84_method_4_code 8 = .ok (.getfield 7, 3) := by decide +kernel
theorem d5_11 : decode prog_84_method_4_code 11 = .ok (.iload_n 1, 1) := by decide +kernel
theorem d5_12 : decode prog_84_method_4_code 12 = .ok (.if_icmp .ge 22, 3) := by decide +kernel
theorem d5_15 : decode prog_84_method_4_code 15 = .ok (.aload_n 0, 1) := by decide +kernel
theorem d5_16 : decode prog_84_method_4_code 16 = .ok (.getfield 13, 3) := by decide +kernel
theorem d5_19 : decode prog_84_method_4_code 19 = .ok (.ifCond .lt 15, 3) := by decide +kernel
theorem d5_22 : decode prog_84_method_4_code 22 = .ok (.aload_n 0, 1) := by decide +kernel
theorem d5_23 : decode prog_84_method_4_code 23 = .ok (.getfield 13, 3) := by decide +kernel
theorem d5_26 : decode prog_84_method_4_code 26 = .ok (.iload_n 2, 1) := by decide +kernel
theorem d5_27 : decode prog_84_method_4_code 27 = .ok (.if_icmp .ge 7, 3) := by decide +kernel
theorem d5_30 : decode prog_84_method_4_code 30 = .ok (.iconst 1, 1) := by decide +kernel
theorem d5_31 : decode prog_84_method_4_code 31 = .ok (.goto 4, 3) := by decide +kernel
theorem d5_34 : decode prog_84_method_4_code 34 = .ok (.iconst 0, 1) := by decide +kernel
theorem d5_35 : decode prog_84_method_4_code 35 = .ok (.ireturn, 1) := by decide +kernel
theorem pn_5 : plainName "com/example/gridwright/gridwright/grid/Cell" = true := by first | (simp [plainName, overriddenIn]; done) | decide +kernel
theorem ef_5 (m : MethodId) (ao : Addr) (xm : Int32) (xn : Int32) : entryFrame m #[(.ref ao), (.int xm), (.int xn)] 3 = mkF m 0 #[.val (.ref ao), .val (.int xm), .val (.int xn)] [] := by first | (simp [entryFrame, mkF, argsToLocals, Value.category]; done) | rfl
def own_f5 (xm : Int32) (xn : Int32) (xr : Int32) (xc : Int32) : Int32 := (if xr < (0 : Int32) then (0 : Int32) else (if xr < xm then (if xc < (0 : Int32) then (0 : Int32) else (if xc < xn then (1 : Int32) else (0 : Int32))) else (0 : Int32)))
def Q5 (Z : State) (ao : Addr) (xm : Int32) (xn : Int32) (xr : Int32) (xc : Int32) (h0 : Heap) (n0 : Nat) (v : Option Value) (h : Heap) (L : List Loc) : Prop := v = some (.int (own_f5 xm xn xr xc)) ∧ Fr n0 L ∧ h = h0
set_option maxRecDepth 65536 in
set_option maxHeartbeats 40000000 in
theorem rm5 (l : Launch) (Z : State) (a0 : Array Value) (hw : ∀ d ∈ tables_1, d.before a0 Z = true) (ws : List Jvm.Cond) (ao : Addr) (xm : Int32) (xn : Int32) (xr : Int32) (xc : Int32) (h0 : Heap) (n0 : Nat) (Z0 : n0 ≤ h0.size) (PF0 : Fld Z h0 ao "com/example/gridwright/gridwright/grid/Cell" "row" "I" (.int xr)) (PF1 : Fld Z h0 ao "com/example/gridwright/gridwright/grid/Cell" "column" "I" (.int xc)) :
    MetFree l (⟨"com/example/gridwright/gridwright/grid/Cell", "isOn", "(II)Z"⟩ : MethodName) (head1 (Jvm.Cond.code (⟨"com/example/gridwright/gridwright/grid/Cell", "isOn", "(II)Z"⟩ : MethodName) prog_84_method_4_code 3 (some .boolean) :: ws) ({ frames := 0, cells := 0, slots := 0, locals := 0 } : Room)) (fun a U => a = #[(.ref ao), (.int xm), (.int xn)] ∧ Z.Warmed39 U.vm ∧ U.heap = h0) (fun _ _ _ _ _ => True) (fun _ U o U' => ∃ v L, o = .returned v ∧ Q5 Z ao xm xn xr xc h0 n0 v U'.heap L ∧ FrameEnd U o U' L ({ frames := 0, cells := 0, slots := 0, locals := 0 } : Room).cells ({ frames := 0, cells := 0, slots := 0, locals := 0 } : Room).slots) := by
  refine MetFree.of_bodySF (plainFor_of_name pn_5) hisR ?_
  intro p e s m args below meth c s₁ Bd hml0 hP hK
  obtain ⟨rfl, hZ, hh⟩ := hP
  have hx := Bd.exec
  have hby := Bd.bytes
  have hml : c.maxLocals = 3 := hml0
  have hown : s.vm.findClass "com/example/gridwright/gridwright/grid/Cell" = some m.cls := findClass_of_methodNamed Bd.named
  have hnm := (name_of_methodNamed Bd.named Bd.method).1
  have X0 : Stand p l e ({ frames := 0, cells := 0, slots := 0, locals := 0 } : Room) s m #[(.ref ao), (.int xm), (.int xn)] below meth c s₁ [] 0 0 := Stand.of_body Bd
  have e0 : s₁.heap = h0 := by rw [← hh, Bd.state]; rfl
  have N0 := Fr.nil n0
  suffices G : own_Goes p.tables e below (fun o U' => ∃ v L, o = .returned v ∧ Q5 Z ao xm xn xr xc h0 n0 v U'.heap L ∧ FrameEnd s o U' L ({ frames := 0, cells := 0, slots := 0, locals := 0 } : Room).cells ({ frames := 0, cells := 0, slots := 0, locals := 0 } : Room).slots) s₁ (mkF m 0 #[.val (.ref ao), .val (.int xm), .val (.int xn)] []) by
    obtain ⟨t2_, o2_, z1_, z2_, z3_, z4_⟩ := G
    exact ⟨t2_, o2_, castTop (ef_5 m ao xm xn) z1_, z2_, z3_, z4_⟩
  generalize hPd : (fun (o : Outcome) (U' : State) => ∃ v L, o = .returned v ∧ Q5 Z ao xm xn xr xc h0 n0 v U'.heap L ∧ FrameEnd s o U' L ({ frames := 0, cells := 0, slots := 0, locals := 0 } : Room).cells ({ frames := 0, cells := 0, slots := 0, locals := 0 } : Room).slots) = P
  refine own_Goes.via (T' := s₁) (g' := (mkF m 1 #[.val (.ref ao), .val (.int xm), .val (.int xn)] [(.ref ao)])) (fun t_ k_ => XS.aloadN X0.here hx rfl (hb hby d5_0) rfl rfl k_) ?_
  obtain ⟨T1, X1, e1, st1⟩ := getF X0 hx hZ hown (host := "") (Or.inl (hw _ (List.mem_of_getElem? (i := 18) rfl))) Via.refl e0 PF0 (g := (mkF m 1 #[.val (.ref ao), .val (.int xm), .val (.int xn)] [(.ref ao)])) rfl rfl (hb hby d5_1)
  refine own_Goes.via (T' := T1) (g' := (mkF m 4 #[.val (.ref ao), .val (.int xm), .val (.int xn)] [(.int xr)])) (st1) ?_
  suffices J35_5 : ∀ (T4 : State) (L4 : List Loc) (X4 : Stand p l e ({ frames := 0, cells := 0, slots := 0, locals := 0 } : Room) s m #[(.ref ao), (.int xm), (.int xn)] below meth c T4 L4 0 0) (e4 : T4.heap = h0) (N4 : Fr n0 L4) (v35_3 : Int32) (hv35_3 : v35_3 = (if xr < (0 : Int32) then (0 : Int32) else (if xr < xm then (if xc < (0 : Int32) then (0 : Int32) else (if xc < xn then (1 : Int32) else (0 : Int32))) else (0 : Int32)))), own_Goes p.tables e below P T4 (mkF m 35 #[.val (.ref ao), .val (.int xm), .val (.int xn)] [(.int v35_3)]) by
    by_cases hc4_2 : xr < (0 : Int32)
    · refine own_Goes.via (T' := T1) (g' := (mkF m 34 #[.val (.ref ao), .val (.int xm), .val (.int xn)] [])) (fun t_ k_ => XS.ifYes X1.here hx rfl (pc0 := 4) (pc' := 34) rfl (hb hby d5_4) rfl ((if0 _ _).trans (tlt hc4_2).1) (by decide) (by decide) k_) ?_
      refine own_Goes.via (T' := T1) (g' := (mkF m 35 #[.val (.ref ao), .val (.int xm), .val (.int xn)] [(.int (0 : Int32))])) (fun t_ k_ => XS.iconst X1.here hx rfl (hb hby d5_34) k_) ?_
      exact J35_5 T1 _ X1 e1 N0 (0 : Int32) ((if_pos hc4_2)).symm
    · refine own_Goes.via (T' := T1) (g' := (mkF m 7 #[.val (.ref ao), .val (.int xm), .val (.int xn)] [])) (fun t_ k_ => XS.ifNo X1.here hx rfl (hb hby d5_4) rfl ((if0 _ _).trans (flt hc4_2).1) k_) ?_
      refine own_Goes.via (T' := T1) (g' := (mkF m 8 #[.val (.ref ao), .val (.int xm), .val (.int xn)] [(.ref ao)])) (fun t_ k_ => XS.aloadN X1.here hx rfl (hb hby d5_7) rfl rfl k_) ?_
      obtain ⟨T6, X6, e6, st6⟩ := getF X1 hx hZ hown (host := "") (Or.inl (hw _ (List.mem_of_getElem? (i := 18) rfl))) Via.refl e1 PF0 (g := (mkF m 8 #[.val (.ref ao), .val (.int xm), .val (.int xn)] [(.ref ao)])) rfl rfl (hb hby d5_8)
      refine own_Goes.via (T' := T6) (g' := (mkF m 11 #[.val (.ref ao), .val (.int xm), .val (.int xn)] [(.int xr)])) (st6) ?_
      refine own_Goes.via (T' := T6) (g' := (mkF m 12 #[.val (.ref ao), .val (.int xm), .val (.int xn)] [(.int xm), (.int xr)])) (fun t_ k_ => XS.iloadN X6.here hx rfl (hb hby d5_11) rfl k_) ?_
      by_cases hc12_7 : xr < xm
      · refine own_Goes.via (T' := T6) (g' := (mkF m 15 #[.val (.ref ao), .val (.int xm), .val (.int xn)] [])) (fun t_ k_ => XS.icmpNo X6.here hx rfl (hb hby d5_12) rfl (tlt hc12_7).2.1 k_) ?_
        refine own_Goes.via (T' := T6) (g' := (mkF m 16 #[.val (.ref ao), .val (.int xm), .val (.int xn)] [(.ref ao)])) (fun t_ k_ => XS.aloadN X6.here hx rfl (hb hby d5_15) rfl rfl k_) ?_
        obtain ⟨T8, X8, e8, st8⟩ := getF X6 hx hZ hown (host := "") (Or.inl (hw _ (List.mem_of_getElem? (i := 20) rfl))) Via.refl e6 PF1 (g := (mkF m 16 #[.val (.ref ao), .val (.int xm), .val (.int xn)] [(.ref ao)])) rfl rfl (hb hby d5_16)
        refine own_Goes.via (T' := T8) (g' := (mkF m 19 #[.val (.ref ao), .val (.int xm), .val (.int xn)] [(.int xc)])) (st8) ?_
        by_cases hc19_9 : xc < (0 : Int32)
        · refine own_Goes.via (T' := T8) (g' := (mkF m 34 #[.val (.ref ao), .val (.int xm), .val (.int xn)] [])) (fun t_ k_ => XS.ifYes X8.here hx rfl (pc0 := 19) (pc' := 34) rfl (hb hby d5_19) rfl ((if0 _ _).trans (tlt hc19_9).1) (by decide) (by decide) k_) ?_
          refine own_Goes.via (T' := T8) (g' := (mkF m 35 #[.val (.ref ao), .val (.int xm), .val (.int xn)] [(.int (0 : Int32))])) (fun t_ k_ => XS.iconst X8.here hx rfl (hb hby d5_34) k_) ?_
          exact J35_5 T8 _ X8 e8 N0 (0 : Int32) (((if_neg hc4_2).trans ((if_pos hc12_7).trans (if_pos hc19_9)))).symm
        · refine own_Goes.via (T' := T8) (g' := (mkF m 22 #[.val (.ref ao), .val (.int xm), .val (.int xn)] [])) (fun t_ k_ => XS.ifNo X8.here hx rfl (hb hby d5_19) rfl ((if0 _ _).trans (flt hc19_9).1) k_) ?_
          refine own_Goes.via (T' := T8) (g' := (mkF m 23 #[.val (.ref ao), .val (.int xm), .val (.int xn)] [(.ref ao)])) (fun t_ k_ => XS.aloadN X8.here hx rfl (hb hby d5_22) rfl rfl k_) ?_
          obtain ⟨T10, X10, e10, st10⟩ := getF X8 hx hZ hown (host := "") (Or.inl (hw _ (List.mem_of_getElem? (i := 20) rfl))) Via.refl e8 PF1 (g := (mkF m 23 #[.val (.ref ao), .val (.int xm), .val (.int xn)] [(.ref ao)])) rfl rfl (hb hby d5_23)
          refine own_Goes.via (T' := T10) (g' := (mkF m 26 #[.val (.ref ao), .val (.int xm), .val (.int xn)] [(.int xc)])) (st10) ?_
          refine own_Goes.via (T' := T10) (g' := (mkF m 27 #[.val (.ref ao), .val (.int xm), .val (.int xn)] [(.int xn), (.int xc)])) (fun t_ k_ => XS.iloadN X10.here hx rfl (hb hby d5_26) rfl k_) ?_
          by_cases hc27_11 : xc < xn
          · refine own_Goes.via (T' := T10) (g' := (mkF m 30 #[.val (.ref ao), .val (.int xm), .val (.int xn)] [])) (fun t_ k_ => XS.icmpNo X10.here hx rfl (hb hby d5_27) rfl (tlt hc27_11).2.1 k_) ?_
            refine own_Goes.via (T' := T10) (g' := (mkF m 31 #[.val (.ref ao), .val (.int xm), .val (.int xn)] [(.int (1 : Int32))])) (fun t_ k_ => XS.iconst X10.here hx rfl (hb hby d5_30) k_) ?_
            refine own_Goes.via (T' := T10) (g' := (mkF m 35 #[.val (.ref ao), .val (.int xm), .val (.int xn)] [(.int (1 : Int32))])) (fun t_ k_ => XS.goto X10.here hx rfl (pc0 := 31) (pc' := 35) rfl (hb hby d5_31) (by decide) (by decide) k_) ?_
            exact J35_5 T10 _ X10 e10 N0 (1 : Int32) (((if_neg hc4_2).trans ((if_pos hc12_7).trans ((if_neg hc19_9).trans (if_pos hc27_11))))).symm
          · refine own_Goes.via (T' := T10) (g' := (mkF m 34 #[.val (.ref ao), .val (.int xm), .val (.int xn)] [])) (fun t_ k_ => XS.icmpYes X10.here hx rfl (pc0 := 27) (pc' := 34) rfl (hb hby d5_27) rfl (flt hc27_11).2.1 (by decide) (by decide) k_) ?_
            refine own_Goes.via (T' := T10) (g' := (mkF m 35 #[.val (.ref ao), .val (.int xm), .val (.int xn)] [(.int (0 : Int32))])) (fun t_ k_ => XS.iconst X10.here hx rfl (hb hby d5_34) k_) ?_
            exact J35_5 T10 _ X10 e10 N0 (0 : Int32) (((if_neg hc4_2).trans ((if_pos hc12_7).trans ((if_neg hc19_9).trans (if_neg hc27_11))))).symm
      · refine own_Goes.via (T' := T6) (g' := (mkF m 34 #[.val (.ref ao), .val (.int xm), .val (.int xn)] [])) (fun t_ k_ => XS.icmpYes X6.here hx rfl (pc0 := 12) (pc' := 34) rfl (hb hby d5_12) rfl (flt hc12_7).2.1 (by decide) (by decide) k_) ?_
        refine own_Goes.via (T' := T6) (g' := (mkF m 35 #[.val (.ref ao), .val (.int xm), .val (.int xn)] [(.int (0 : Int32))])) (fun t_ k_ => XS.iconst X6.here hx rfl (hb hby d5_34) k_) ?_
        exact J35_5 T6 _ X6 e6 N0 (0 : Int32) (((if_neg hc4_2).trans (if_neg hc12_7))).symm
  intro T4 L4 X4 e4 N4 v35_3 hv35_3
  have hnar12 : nar .boolean v35_3 = v35_3 := by rw [hv35_3]; (repeat' split) <;> rfl
  obtain ⟨fs, hr, hrun, hended, hW, hsame⟩ := X4.leave (v := some (.int v35_3)) (fun h => by rw [Bd.returns] at h; cases h)
  refine own_Goes.fin (retN X4 hx (t := .boolean) Bd.returns (by simp) (hb hby d5_35) (by rw [hnar12]; exact hr)) hrun hended ?_
  subst hPd
  refine ⟨_, _, rfl, ?_, ⟨_, rfl⟩, hW, hsame.mono (by decide) (by decide)⟩
  show Q5 Z ao xm xn xr xc h0 n0 _ T4.heap _
  rw [e4]
  exact ⟨(by subst hv35_3; first | rfl | (simp only [own_f5])), N4, rfl⟩
theorem d6_0 : decode method_3_code 0 = .ok (.iload_n 0, 1) := by decide +kernel
theorem d6_1 : decode method_3_code 1 = .ok (.i2l, 1) := by decide +kernel
theorem d6_2 : decode method_3_code 2 = .ok (.ldc2_w 7, 3) := by decide +kernel
theorem d6_5 : decode method_3_code 5 = .ok (.land, 1) := by decide +kernel
theorem d6_6 : decode method_3_code 6 = .ok (.lstore_n 2, 1) := by decide +kernel
theorem d6_7 : decode method_3_code 7 = .ok (.lload_n 2, 1) := by decide +kernel
theorem d6_8 : decode method_3_code 8 = .ok (.iload_n 1, 1) := by decide +kernel
theorem d6_9 : decode method_3_code 9 = .ok (.i2l, 1) := by decide +kernel
theorem d6_10 : decode method_3_code 10 = .ok (.lcmp, 1) := by decide +kernel
theorem d6_11 : decode method_3_code 11 = .ok (.ifCond .ge 7, 3) := by decide +kernel
theorem d6_14 : decode method_3_code 14 = .ok (.iconst 1, 1) := by decide +kernel
theorem d6_15 : decode method_3_code 15 = .ok (.goto 4, 3) := by decide +kernel
theorem d6_18 : decode method_3_code 18 = .ok (.iconst 0, 1) := by decide +kernel
theorem d6_19 : decode method_3_code 19 = .ok (.ireturn, 1) := by decide +kernel
theorem pn_6 : plainName "com/example/gridwright/gridwright/grid/CellIsOnPinLaw" = true := by first | (simp [plainName, overriddenIn]; done) | decide +kernel
theorem ef_6 (m : MethodId) (xx : Int32) (xn : Int32) : entryFrame m #[(.int xx), (.int xn)] 4 = mkF m 0 #[.val (.int xx), .val (.int xn), .unset, .unset] [] := by first | (simp [entryFrame, mkF, argsToLocals, Value.category]; done) | rfl
def own_f6 (xx : Int32) (xn : Int32) : Int32 := (if ((xx.toInt64) &&& (4294967295 : Int64)) < (xn.toInt64) then (1 : Int32) else (0 : Int32))
def Q6 (Z : State) (xx : Int32) (xn : Int32) (h0 : Heap) (n0 : Nat) (v : Option Value) (h : Heap) (L : List Loc) : Prop := v = some (.int (own_f6 xx xn)) ∧ Fr n0 L ∧ h = h0
set_option maxRecDepth 65536 in
set_option maxHeartbeats 40000000 in
theorem rm6 (l : Launch) (Z : State) (a0 : Array Value) (hw : ∀ d ∈ tables_1, d.before a0 Z = true) (ws : List Jvm.Cond) (xx : Int32) (xn : Int32) (h0 : Heap) (n0 : Nat) (Z0 : n0 ≤ h0.size) :
    MetFree l (⟨"com/example/gridwright/gridwright/grid/CellIsOnPinLaw", "within", "(II)Z"⟩ : MethodName) (head1 (Jvm.Cond.code (⟨"com/example/gridwright/gridwright/grid/CellIsOnPinLaw", "within", "(II)Z"⟩ : MethodName) method_3_code 4 (some .boolean) :: ws) ({ frames := 0, cells := 0, slots := 0, locals := 0 } : Room)) (fun a U => a = #[(.int xx), (.int xn)] ∧ Z.Warmed39 U.vm ∧ U.heap = h0) (fun _ _ _ _ _ => True) (fun _ U o U' => ∃ v L, o = .returned v ∧ Q6 Z xx xn h0 n0 v U'.heap L ∧ FrameEnd U o U' L ({ frames := 0, cells := 0, slots := 0, locals := 0 } : Room).cells ({ frames := 0, cells := 0, slots := 0, locals := 0 } : Room).slots) := by
  refine MetFree.of_bodySF (plainFor_of_name pn_6) hisR ?_
  intro p e s m args below meth c s₁ Bd hml0 hP hK
  obtain ⟨rfl, hZ, hh⟩ := hP
  have hx := Bd.exec
  have hby := Bd.bytes
  have hml : c.maxLocals = 4 := hml0
  have hown : s.vm.findClass "com/example/gridwright/gridwright/grid/CellIsOnPinLaw" = some m.cls := findClass_of_methodNamed Bd.named
  have hnm := (name_of_methodNamed Bd.named Bd.method).1
  have X0 : Stand p l e ({ frames := 0, cells := 0, slots := 0, locals := 0 } : Room) s m #[(.int xx), (.int xn)] below meth c s₁ [] 0 0 := Stand.of_body Bd
  have e0 : s₁.heap = h0 := by rw [← hh, Bd.state]; rfl
  have N0 := Fr.nil n0
  suffices G : own_Goes p.tables e below (fun o U' => ∃ v L, o = .returned v ∧ Q6 Z xx xn h0 n0 v U'.heap L ∧ FrameEnd s o U' L ({ frames := 0, cells := 0, slots := 0, locals := 0 } : Room).cells ({ frames := 0, cells := 0, slots := 0, locals := 0 } : Room).slots) s₁ (mkF m 0 #[.val (.int xx), .val (.int xn), .unset, .unset] []) by
    obtain ⟨t2_, o2_, z1_, z2_, z3_, z4_⟩ := G
    exact ⟨t2_, o2_, castTop (ef_6 m xx xn) z1_, z2_, z3_, z4_⟩
  generalize hPd : (fun (o : Outcome) (U' : State) => ∃ v L, o = .returned v ∧ Q6 Z xx xn h0 n0 v U'.heap L ∧ FrameEnd s o U' L ({ frames := 0, cells := 0, slots := 0, locals := 0 } : Room).cells ({ frames := 0, cells := 0, slots := 0, locals := 0 } : Room).slots) = P
  refine own_Goes.via (T' := s₁) (g' := (mkF m 1 #[.val (.int xx), .val (.int xn), .unset, .unset] [(.int xx)])) (fun t_ k_ => XS.iloadN X0.here hx rfl (hb hby d6_0) rfl k_) ?_
  refine own_Goes.via (T' := s₁) (g' := (mkF m 2 #[.val (.int xx), .val (.int xn), .unset, .unset] [(.long (xx.toInt64))])) (fun t_ k_ => XS.i2l X0.here hx rfl (hb hby d6_1) rfl k_) ?_
  refine own_Goes.via (T' := s₁) (g' := (mkF m 5 #[.val (.int xx), .val (.int xn), .unset, .unset] [(.long (4294967295 : Int64)), (.long (xx.toInt64))])) (X0.ldc2Long hx hown (mvT hZ (hw _ (List.mem_of_getElem? (i := 30) rfl))) (g := (mkF m 2 #[.val (.int xx), .val (.int xn), .unset, .unset] [(.long (xx.toInt64))])) rfl (hb hby d6_2)) ?_
  refine own_Goes.via (T' := s₁) (g' := (mkF m 6 #[.val (.int xx), .val (.int xn), .unset, .unset] [(.long ((xx.toInt64) &&& (4294967295 : Int64)))])) (fun t_ k_ => XS.land X0.here hx rfl (hb hby d6_5) rfl k_) ?_
  refine own_Goes.via (T' := s₁) (g' := (mkF m 7 #[.val (.int xx), .val (.int xn), .val (.long ((xx.toInt64) &&& (4294967295 : Int64))), .second] [])) (fun t_ k_ => XS.lstoreN X0.here hx rfl (hb hby d6_6) rfl (l' := #[.val (.int xx), .val (.int xn), .val (.long ((xx.toInt64) &&& (4294967295 : Int64))), .second]) rfl k_) ?_
  obtain ⟨v1, hv1⟩ : ∃ z : Int64, z = ((xx.toInt64) &&& (4294967295 : Int64)) := ⟨_, rfl⟩
  rw [← hv1]
  refine own_Goes.via (T' := s₁) (g' := (mkF m 8 #[.val (.int xx), .val (.int xn), .val (.long v1), .second] [(.long v1)])) (fun t_ k_ => XS.lloadN X0.here hx rfl (hb hby d6_7) rfl k_) ?_
  refine own_Goes.via (T' := s₁) (g' := (mkF m 9 #[.val (.int xx), .val (.int xn), .val (.long v1), .second] [(.int xn), (.long v1)])) (fun t_ k_ => XS.iloadN X0.here hx rfl (hb hby d6_8) rfl k_) ?_
  refine own_Goes.via (T' := s₁) (g' := (mkF m 10 #[.val (.int xx), .val (.int xn), .val (.long v1), .second] [(.long (xn.toInt64)), (.long v1)])) (fun t_ k_ => XS.i2l X0.here hx rfl (hb hby d6_9) rfl k_) ?_
  refine own_Goes.via (T' := s₁) (g' := (mkF m 11 #[.val (.int xx), .val (.int xn), .val (.long v1), .second] [(.int (lcmpW v1 (xn.toInt64)))])) (fun t_ k_ => XS.lcmp X0.here hx rfl (hb hby d6_10) rfl k_) ?_
  suffices J19_5 : ∀ (v19_3 : Int32) (hv19_3 : v19_3 = (if v1 < (xn.toInt64) then (1 : Int32) else (0 : Int32))), own_Goes p.tables e below P s₁ (mkF m 19 #[.val (.int xx), .val (.int xn), .val (.long v1), .second] [(.int v19_3)]) by
    by_cases hc11_2 : v1 < (xn.toInt64)
    · refine own_Goes.via (T' := s₁) (g' := (mkF m 14 #[.val (.int xx), .val (.int xn), .val (.long v1), .second] [])) (fun t_ k_ => XS.ifNo X0.here hx rfl (hb hby d6_11) rfl (own_ltT hc11_2).2 k_) ?_
      refine own_Goes.via (T' := s₁) (g' := (mkF m 15 #[.val (.int xx), .val (.int xn), .val (.long v1), .second] [(.int (1 : Int32))])) (fun t_ k_ => XS.iconst X0.here hx rfl (hb hby d6_14) k_) ?_
      refine own_Goes.via (T' := s₁) (g' := (mkF m 19 #[.val (.int xx), .val (.int xn), .val (.long v1), .second] [(.int (1 : Int32))])) (fun t_ k_ => XS.goto X0.here hx rfl (pc0 := 15) (pc' := 19) rfl (hb hby d6_15) (by decide) (by decide) k_) ?_
      exact J19_5 (1 : Int32) ((if_pos hc11_2)).symm
    · refine own_Goes.via (T' := s₁) (g' := (mkF m 18 #[.val (.int xx), .val (.int xn), .val (.long v1), .second] [])) (fun t_ k_ => XS.ifYes X0.here hx rfl (pc0 := 11) (pc' := 18) rfl (hb hby d6_11) rfl (own_ltF hc11_2).2 (by decide) (by decide) k_) ?_
      refine own_Goes.via (T' := s₁) (g' := (mkF m 19 #[.val (.int xx), .val (.int xn), .val (.long v1), .second] [(.int (0 : Int32))])) (fun t_ k_ => XS.iconst X0.here hx rfl (hb hby d6_18) k_) ?_
      exact J19_5 (0 : Int32) ((if_neg hc11_2)).symm
  intro v19_3 hv19_3
  have hnar6 : nar .boolean v19_3 = v19_3 := by rw [hv19_3]; (repeat' split) <;> rfl
  obtain ⟨fs, hr, hrun, hended, hW, hsame⟩ := X0.leave (v := some (.int v19_3)) (fun h => by rw [Bd.returns] at h; cases h)
  refine own_Goes.fin (retN X0 hx (t := .boolean) Bd.returns (by simp) (hb hby d6_19) (by rw [hnar6]; exact hr)) hrun hended ?_
  subst hPd
  refine ⟨_, _, rfl, ?_, ⟨_, rfl⟩, hW, hsame.mono (by decide) (by decide)⟩
  show Q6 Z xx xn h0 n0 _ s₁.heap _
  rw [e0]
  exact ⟨(by subst hv19_3; subst hv1; first | rfl | (simp only [own_f6])), N0, rfl⟩
theorem own_in (x n : Int32) : own_f6 x n = (if x < (0 : Int32) then (0 : Int32) else (if x < n then (1 : Int32) else (0 : Int32))) := by
  have b1 := x.toInt_lt
  have b2 := x.le_toInt
  have b3 := n.toInt_lt
  have z : (0 : Int32).toInt = 0 := rfl
  have m := Jvm.Kit.i64_mask x.toInt64 (4294967295 : Int64) (k := 32) (by decide) (by decide)
  rw [Int32.toInt_toInt64] at m
  have w : n.toInt64.toInt = n.toInt := Int32.toInt_toInt64 n
  unfold own_f6
  simp only [Int64.lt_iff_toInt_lt, Int32.lt_iff_toInt_lt, m, w, z]
  by_cases h1 : x.toInt < 0
  · rw [if_pos h1, if_neg (by omega)]
  · rw [if_neg h1]
    by_cases h2 : x.toInt < n.toInt
    · rw [if_pos h2, if_pos (by omega)]
    · rw [if_neg h2, if_neg (by omega)]
theorem pn_0 : plainName "com/example/gridwright/gridwright/grid/CellIsOnPinLaw" = true := by first | (simp [plainName, overriddenIn]; done) | decide +kernel
theorem pd_0_0 : parseMethodDescriptor "(III)I" = some ⟨[.int, .int, .int], some .int⟩ := by decide +kernel
theorem pd_0_1 : parseMethodDescriptor "(II)V" = some ⟨[.int, .int], none⟩ := by decide +kernel
theorem pd_0_2 : parseMethodDescriptor "(II)Z" = some ⟨[.int, .int], some .boolean⟩ := by decide +kernel
theorem ef_0 (m : MethodId) (xr : Int32) (xc : Int32) (xm : Int32) (xn : Int32) (xd : Int32) : entryFrame m #[(.int xr), (.int xc), (.int xm), (.int xn), (.int xd)] maxLocals = mkF m 0 #[.val (.int xr), .val (.int xc), .val (.int xm), .val (.int xn), .val (.int xd), .unset, .unset, .unset, .unset, .unset] [] := by first | (simp [entryFrame, mkF, argsToLocals, Value.category, maxLocals]; done) | rfl
def Q0 (Z : State) (xr : Int32) (xc : Int32) (xm : Int32) (xn : Int32) (xd : Int32) (h0 : Heap) (n0 : Nat) (v : Option Value) (h : Heap) (L : List Loc) : Prop := v = some (.int 1) ∧ Fr n0 L
set_option maxRecDepth 65536 in
theorem own_pl0_0 {xr : Int32} {xc : Int32} {xm : Int32} {xn : Int32} {xd : Int32} {v2 : Int32} {v4 : Int32} {v12 : Int32} {v14 : Int32} {v69_16 : Int32} {v83_22 : Int32} (hv2 : v2 = (own_f1 (xd &&& (3 : Int32)) xr xm)) (hv4 : v4 = (own_f1 ((xd >>> ((2 : Int32) &&& 31)) &&& (3 : Int32)) xc xn)) (hv12 : v12 = (own_f5 xm xn v2 v4)) (hv14 : v14 = (own_f6 v2 xm)) (hv69_16 : v69_16 = (if v14 = (0 : Int32) then (0 : Int32) else (if (own_f6 v4 xn) = (0 : Int32) then (0 : Int32) else (1 : Int32)))) (hv83_22 : v83_22 = (if v12 = v69_16 then (1 : Int32) else (0 : Int32))) : v83_22 = 1 := by
  rw [hv83_22, hv12, hv69_16, hv14, own_in, own_in]
  unfold own_f5
  by_cases h1 : v2 < (0 : Int32)
  · simp [h1]
  · by_cases h2 : v2 < xm
    · by_cases h3 : v4 < (0 : Int32)
      · simp [h1, h2, h3]
      · by_cases h4 : v4 < xn
        · simp [h1, h2, h3, h4]
        · simp [h1, h2, h3, h4]
    · simp [h1, h2]
set_option maxRecDepth 65536 in
set_option maxHeartbeats 40000000 in
theorem rm0 (l : Launch) (Z : State) (a0 : Array Value) (hw : ∀ d ∈ tables_1, d.before a0 Z = true) (ws : List Jvm.Cond) (xr : Int32) (xc : Int32) (xm : Int32) (xn : Int32) (xd : Int32) (h0 : Heap) (n0 : Nat) (Z0 : n0 ≤ h0.size) :
    MetFree l x (head1 (Jvm.Cond.code x code maxLocals ret :: ws) room_1) (fun a U => a = #[(.int xr), (.int xc), (.int xm), (.int xn), (.int xd)] ∧ Z.Warmed39 U.vm ∧ U.heap = h0) (fun _ _ _ _ _ => True) (fun _ U o U' => ∃ v L, o = .returned v ∧ Q0 Z xr xc xm xn xd h0 n0 v U'.heap L ∧ FrameEnd U o U' L 1 2) := by
  refine MetFree.of_bodySF (plainFor_of_name pn_0) hisR ?_
  intro p e s m args below meth c s₁ Bd hml0 hP hK
  obtain ⟨rfl, hZ, hh⟩ := hP
  have hx := Bd.exec
  have hby := Bd.bytes
  have hml : c.maxLocals = 10 := hml0
  have hown : s.vm.findClass "com/example/gridwright/gridwright/grid/CellIsOnPinLaw" = some m.cls := findClass_of_methodNamed Bd.named
  have hnm := (name_of_methodNamed Bd.named Bd.method).1
  have X0 : Stand p l e room_1 s m #[(.int xr), (.int xc), (.int xm), (.int xn), (.int xd)] below meth c s₁ [] 0 0 := Stand.of_body Bd
  have e0 : s₁.heap = h0 := by rw [← hh, Bd.state]; rfl
  have N0 := Fr.nil n0
  suffices G : own_Goes p.tables e below (fun o U' => ∃ v L, o = .returned v ∧ Q0 Z xr xc xm xn xd h0 n0 v U'.heap L ∧ FrameEnd s o U' L 1 2) s₁ (mkF m 0 #[.val (.int xr), .val (.int xc), .val (.int xm), .val (.int xn), .val (.int xd), .unset, .unset, .unset, .unset, .unset] []) by
    obtain ⟨t2_, o2_, z1_, z2_, z3_, z4_⟩ := G
    exact ⟨t2_, o2_, castTop (ef_0 m xr xc xm xn xd) z1_, z2_, z3_, z4_⟩
  generalize hPd : (fun (o : Outcome) (U' : State) => ∃ v L, o = .returned v ∧ Q0 Z xr xc xm xn xd h0 n0 v U'.heap L ∧ FrameEnd s o U' L 1 2) = P
  refine own_Goes.via (T' := s₁) (g' := (mkF m 2 #[.val (.int xr), .val (.int xc), .val (.int xm), .val (.int xn), .val (.int xd), .unset, .unset, .unset, .unset, .unset] [(.int xd)])) (fun t_ k_ => XS.iload X0.here hx rfl (hb hby at_0) rfl k_) ?_
  refine own_Goes.via (T' := s₁) (g' := (mkF m 3 #[.val (.int xr), .val (.int xc), .val (.int xm), .val (.int xn), .val (.int xd), .unset, .unset, .unset, .unset, .unset] [(.int (3 : Int32)), (.int xd)])) (fun t_ k_ => XS.iconst X0.here hx rfl (hb hby at_2) k_) ?_
  refine own_Goes.via (T' := s₁) (g' := (mkF m 4 #[.val (.int xr), .val (.int xc), .val (.int xm), .val (.int xn), .val (.int xd), .unset, .unset, .unset, .unset, .unset] [(.int (xd &&& (3 : Int32)))])) (fun t_ k_ => XS.iand X0.here hx rfl (hb hby at_3) rfl k_) ?_
  refine own_Goes.via (T' := s₁) (g' := (mkF m 5 #[.val (.int xr), .val (.int xc), .val (.int xm), .val (.int xn), .val (.int xd), .unset, .unset, .unset, .unset, .unset] [(.int xr), (.int (xd &&& (3 : Int32)))])) (fun t_ k_ => XS.iloadN X0.here hx rfl (hb hby at_4) rfl k_) ?_
  refine own_Goes.via (T' := s₁) (g' := (mkF m 6 #[.val (.int xr), .val (.int xc), .val (.int xm), .val (.int xn), .val (.int xd), .unset, .unset, .unset, .unset, .unset] [(.int xm), (.int xr), (.int (xd &&& (3 : Int32)))])) (fun t_ k_ => XS.iloadN X0.here hx rfl (hb hby at_5) rfl k_) ?_
  obtain ⟨_, _, ⟨T1, L1, k1, n1⟩, -, X1, ⟨Lc1, hQ1, l1, y1, z1⟩, st1⟩ := Jvm.LawKit.callS X0 hx (y := (⟨"com/example/gridwright/gridwright/grid/CellIsOnPinLaw", "pick", "(III)I"⟩ : MethodName)) hown (mvT hZ (hw _ (List.mem_of_getElem? (i := 0) rfl))) (mvT hZ (hw _ (List.mem_of_getElem? (i := 1) rfl))) (mvT hZ (hw _ (List.mem_of_getElem? (i := 2) rfl))) (mvT hZ (hw _ (List.mem_of_getElem? (i := 3) rfl))) (by decide) (backOf (W := 0) (rm1 l Z a0 hw [] (xd &&& (3 : Int32)) xr xm h0 n0 Z0 ) hZ (hw _ (List.mem_of_getElem? (i := 3) rfl)) (hw _ (List.mem_of_getElem? (i := 2) rfl)) (by decide) (by decide)) (g := (mkF m 6 #[.val (.int xr), .val (.int xc), .val (.int xm), .val (.int xn), .val (.int xd), .unset, .unset, .unset, .unset, .unset] [(.int xm), (.int xr), (.int (xd &&& (3 : Int32)))])) rfl (by rw [hml]; rfl) (argsL := [(.int (xd &&& (3 : Int32))), (.int xr), (.int xm)]) (rest := []) (lenOf pd_0_0 rfl) rfl (by show 2 * 0 + _ ≤ _; exact Nat.le_of_eq rfl) (hb hby at_6) (fun _ _ => ⟨rfl, e0, (by decide : 0 + 0 ≤ _), (by decide : 0 + 0 ≤ _)⟩)
  dsimp only [Pt.U, Pt.locs, Pt.cells, Pt.slots] at X1 l1 y1 z1 st1 hQ1
  subst l1 y1 z1
  obtain ⟨rfl, Nq1, hh1⟩ := hQ1
  have N1 := Fr.app N0 Nq1
  refine own_Goes.via (T' := T1) (g' := (mkF m 9 #[.val (.int xr), .val (.int xc), .val (.int xm), .val (.int xn), .val (.int xd), .unset, .unset, .unset, .unset, .unset] [(.int (own_f1 (xd &&& (3 : Int32)) xr xm))])) (st1) ?_
  obtain ⟨v2, hv2⟩ : ∃ z : Int32, z = (own_f1 (xd &&& (3 : Int32)) xr xm) := ⟨_, rfl⟩
  rw [← hv2]
  refine own_Goes.via (T' := T1) (g' := (mkF m 11 #[.val (.int xr), .val (.int xc), .val (.int xm), .val (.int xn), .val (.int xd), .val (.int v2), .unset, .unset, .unset, .unset] [])) (fun t_ k_ => XS.istore X1.here hx rfl (hb hby at_9) rfl (l' := #[.val (.int xr), .val (.int xc), .val (.int xm), .val (.int xn), .val (.int xd), .val (.int v2), .unset, .unset, .unset, .unset]) rfl k_) ?_
  refine own_Goes.via (T' := T1) (g' := (mkF m 13 #[.val (.int xr), .val (.int xc), .val (.int xm), .val (.int xn), .val (.int xd), .val (.int v2), .unset, .unset, .unset, .unset] [(.int xd)])) (fun t_ k_ => XS.iload X1.here hx rfl (hb hby at_11) rfl k_) ?_
  refine own_Goes.via (T' := T1) (g' := (mkF m 14 #[.val (.int xr), .val (.int xc), .val (.int xm), .val (.int xn), .val (.int xd), .val (.int v2), .unset, .unset, .unset, .unset] [(.int (2 : Int32)), (.int xd)])) (fun t_ k_ => XS.iconst X1.here hx rfl (hb hby at_13) k_) ?_
  refine own_Goes.via (T' := T1) (g' := (mkF m 15 #[.val (.int xr), .val (.int xc), .val (.int xm), .val (.int xn), .val (.int xd), .val (.int v2), .unset, .unset, .unset, .unset] [(.int (xd >>> ((2 : Int32) &&& 31)))])) (fun t_ k_ => XS.ishr X1.here hx rfl (hb hby at_14) rfl k_) ?_
  refine own_Goes.via (T' := T1) (g' := (mkF m 16 #[.val (.int xr), .val (.int xc), .val (.int xm), .val (.int xn), .val (.int xd), .val (.int v2), .unset, .unset, .unset, .unset] [(.int (3 : Int32)), (.int (xd >>> ((2 : Int32) &&& 31)))])) (fun t_ k_ => XS.iconst X1.here hx rfl (hb hby at_15) k_) ?_
  refine own_Goes.via (T' := T1) (g' := (mkF m 17 #[.val (.int xr), .val (.int xc), .val (.int xm), .val (.int xn), .val (.int xd), .val (.int v2), .unset, .unset, .unset, .unset] [(.int ((xd >>> ((2 : Int32) &&& 31)) &&& (3 : Int32)))])) (fun t_ k_ => XS.iand X1.here hx rfl (hb hby at_16) rfl k_) ?_
  refine own_Goes.via (T' := T1) (g' := (mkF m 18 #[.val (.int xr), .val (.int xc), .val (.int xm), .val (.int xn), .val (.int xd), .val (.int v2), .unset, .unset, .unset, .unset] [(.int xc), (.int ((xd >>> ((2 : Int32) &&& 31)) &&& (3 : Int32)))])) (fun t_ k_ => XS.iloadN X1.here hx rfl (hb hby at_17) rfl k_) ?_
  refine own_Goes.via (T' := T1) (g' := (mkF m 19 #[.val (.int xr), .val (.int xc), .val (.int xm), .val (.int xn), .val (.int xd), .val (.int v2), .unset, .unset, .unset, .unset] [(.int xn), (.int xc), (.int ((xd >>> ((2 : Int32) &&& 31)) &&& (3 : Int32)))])) (fun t_ k_ => XS.iloadN X1.here hx rfl (hb hby at_18) rfl k_) ?_
  obtain ⟨_, _, ⟨T3, L3, k3, n3⟩, -, X3, ⟨Lc3, hQ3, l3, y3, z3⟩, st3⟩ := Jvm.LawKit.callS X1 hx (y := (⟨"com/example/gridwright/gridwright/grid/CellIsOnPinLaw", "pick", "(III)I"⟩ : MethodName)) hown (mvT hZ (hw _ (List.mem_of_getElem? (i := 0) rfl))) (mvT hZ (hw _ (List.mem_of_getElem? (i := 1) rfl))) (mvT hZ (hw _ (List.mem_of_getElem? (i := 2) rfl))) (mvT hZ (hw _ (List.mem_of_getElem? (i := 3) rfl))) (by decide) (backOf (W := 0) (rm1 l Z a0 hw [] ((xd >>> ((2 : Int32) &&& 31)) &&& (3 : Int32)) xc xn h0 n0 Z0 ) hZ (hw _ (List.mem_of_getElem? (i := 3) rfl)) (hw _ (List.mem_of_getElem? (i := 2) rfl)) (by decide) (by decide)) (g := (mkF m 19 #[.val (.int xr), .val (.int xc), .val (.int xm), .val (.int xn), .val (.int xd), .val (.int v2), .unset, .unset, .unset, .unset] [(.int xn), (.int xc), (.int ((xd >>> ((2 : Int32) &&& 31)) &&& (3 : Int32)))])) rfl (by rw [hml]; rfl) (argsL := [(.int ((xd >>> ((2 : Int32) &&& 31)) &&& (3 : Int32))), (.int xc), (.int xn)]) (rest := []) (lenOf pd_0_0 rfl) rfl (by show 2 * 0 + _ ≤ _; exact Nat.le_of_eq rfl) (hb hby at_19) (fun _ _ => ⟨rfl, hh1, (by decide : 0 + 0 ≤ _), (by decide : 0 + 0 ≤ _)⟩)
  dsimp only [Pt.U, Pt.locs, Pt.cells, Pt.slots] at X3 l3 y3 z3 st3 hQ3
  subst l3 y3 z3
  obtain ⟨rfl, Nq3, hh3⟩ := hQ3
  have N3 := Fr.app N1 Nq3
  refine own_Goes.via (T' := T3) (g' := (mkF m 22 #[.val (.int xr), .val (.int xc), .val (.int xm), .val (.int xn), .val (.int xd), .val (.int v2), .unset, .unset, .unset, .unset] [(.int (own_f1 ((xd >>> ((2 : Int32) &&& 31)) &&& (3 : Int32)) xc xn))])) (st3) ?_
  obtain ⟨v4, hv4⟩ : ∃ z : Int32, z = (own_f1 ((xd >>> ((2 : Int32) &&& 31)) &&& (3 : Int32)) xc xn) := ⟨_, rfl⟩
  rw [← hv4]
  refine own_Goes.via (T' := T3) (g' := (mkF m 24 #[.val (.int xr), .val (.int xc), .val (.int xm), .val (.int xn), .val (.int xd), .val (.int v2), .val (.int v4), .unset, .unset, .unset] [])) (fun t_ k_ => XS.istore X3.here hx rfl (hb hby at_22) rfl (l' := #[.val (.int xr), .val (.int xc), .val (.int xm), .val (.int xn), .val (.int xd), .val (.int v2), .val (.int v4), .unset, .unset, .unset]) rfl k_) ?_
  obtain ⟨T5, h5, X5, e5, E5, A5, D5, -, st5⟩ := newO X3 hx hZ hown (hw _ (List.mem_of_getElem? (i := 4) rfl)) (hw _ (List.mem_of_getElem? (i := 5) rfl)) (hw _ (List.mem_of_getElem? (i := 6) rfl)) hh3 (g := (mkF m 24 #[.val (.int xr), .val (.int xc), .val (.int xm), .val (.int xn), .val (.int xd), .val (.int v2), .val (.int v4), .unset, .unset, .unset] [])) rfl (hb hby at_24) (by decide) (by decide)
  obtain ⟨b5, g5⟩ : ∃ z, z = h0.size := ⟨_, rfl⟩
  rw [← g5] at A5 D5 st5
  have ge_b5 : n0 ≤ b5 := Nat.le_trans Z0 (Nat.le_of_eq g5.symm)
  have sz_b5 : h0.size ≤ b5 := Nat.le_trans ((Keep.refl h0 [])).1 (Nat.le_of_eq g5.symm)
  have sz5 : n0 ≤ h5.size := Nat.le_trans Z0 E5.1
  have K5 : Keep h0 h5 [] := ((Keep.refl h0 [])).ext E5
  have E6 : Exa Z h5 b5 "com/example/gridwright/gridwright/grid/Cell" := A5
  have F7 : Fld Z h5 b5 "com/example/gridwright/gridwright/grid/Cell" "row" "I" (.int (0 : Int32)) := D5 (Or.inr (hw _ (List.mem_of_getElem? (i := 19) rfl))) (ty := .int) (by decide)
  have F8 : Fld Z h5 b5 "com/example/gridwright/gridwright/grid/Cell" "column" "I" (.int (0 : Int32)) := D5 (Or.inr (hw _ (List.mem_of_getElem? (i := 21) rfl))) (ty := .int) (by decide)
  refine own_Goes.via (T' := T5) (g' := (mkF m 27 #[.val (.int xr), .val (.int xc), .val (.int xm), .val (.int xn), .val (.int xd), .val (.int v2), .val (.int v4), .unset, .unset, .unset] [(.ref b5)])) (st5) ?_
  refine own_Goes.via (T' := T5) (g' := (mkF m 28 #[.val (.int xr), .val (.int xc), .val (.int xm), .val (.int xn), .val (.int xd), .val (.int v2), .val (.int v4), .unset, .unset, .unset] [(.ref b5), (.ref b5)])) (fun t_ k_ => XS.dup X5.here hx rfl (hb hby at_27) rfl rfl k_) ?_
  refine own_Goes.via (T' := T5) (g' := (mkF m 30 #[.val (.int xr), .val (.int xc), .val (.int xm), .val (.int xn), .val (.int xd), .val (.int v2), .val (.int v4), .unset, .unset, .unset] [(.int v2), (.ref b5), (.ref b5)])) (fun t_ k_ => XS.iload X5.here hx rfl (hb hby at_28) rfl k_) ?_
  refine own_Goes.via (T' := T5) (g' := (mkF m 32 #[.val (.int xr), .val (.int xc), .val (.int xm), .val (.int xn), .val (.int xd), .val (.int v2), .val (.int v4), .unset, .unset, .unset] [(.int v4), (.int v2), (.ref b5), (.ref b5)])) (fun t_ k_ => XS.iload X5.here hx rfl (hb hby at_30) rfl k_) ?_
  obtain ⟨_, _, ⟨T9, L9, k9, n9⟩, -, X9, ⟨Lc9, hQ9, l9, y9, z9⟩, st9⟩ := X5.specialBack hx (y := (⟨"com/example/gridwright/gridwright/grid/Cell", "<init>", "(II)V"⟩ : MethodName)) rfl hown (mvT hZ (hw _ (List.mem_of_getElem? (i := 7) rfl))) (mvT hZ (hw _ (List.mem_of_getElem? (i := 8) rfl))) (mvT hZ (hw _ (List.mem_of_getElem? (i := 9) rfl))) (by decide) (backOf (W := 1) (rm2 l Z a0 hw [] b5 v2 v4 h5 n0 sz5 E6 F7 F8 ge_b5) hZ (hw _ (List.mem_of_getElem? (i := 9) rfl)) (hw _ (List.mem_of_getElem? (i := 6) rfl)) (by decide) (by decide)) (g := (mkF m 32 #[.val (.int xr), .val (.int xc), .val (.int xm), .val (.int xn), .val (.int xd), .val (.int v2), .val (.int v4), .unset, .unset, .unset] [(.int v4), (.int v2), (.ref b5), (.ref b5)])) rfl (by rw [hml]; rfl) (Steps.refl _) (a := b5) (argsL := [(.int v2), (.int v4)]) (rest := [(.ref b5)]) (lenOf pd_0_1 rfl) rfl (by show 2 * 0 + _ ≤ _; exact Nat.le_of_eq rfl) (hb hby at_32) (fun _ _ => ⟨rfl, e5, (by decide : 1 + 0 ≤ _), (by decide : 2 + 0 ≤ _)⟩)
  dsimp only [Pt.U, Pt.locs, Pt.cells, Pt.slots] at X9 l9 y9 z9 st9 hQ9
  subst l9 y9 z9
  obtain ⟨rfl, Nq9, Kq9, pf9_0, pf9_1, pf9_2⟩ := hQ9
  have N9 := Fr.app N3 Nq9
  have E10 : Exa Z T9.heap b5 "com/example/gridwright/gridwright/grid/Cell" := E6.keep Kq9
  have sz9 : n0 ≤ T9.heap.size := Nat.le_trans sz5 Kq9.1
  have K9 : Keep h0 T9.heap [] := (K5).trans Kq9 (allS (Or.inr sz_b5) all0)
  refine own_Goes.via (T' := T9) (g' := (mkF m 35 #[.val (.int xr), .val (.int xc), .val (.int xm), .val (.int xn), .val (.int xd), .val (.int v2), .val (.int v4), .unset, .unset, .unset] [(.ref b5)])) (fun t_ k_ => st9.trans k_) ?_
  refine own_Goes.via (T' := T9) (g' := (mkF m 37 #[.val (.int xr), .val (.int xc), .val (.int xm), .val (.int xn), .val (.int xd), .val (.int v2), .val (.int v4), .val (.ref b5), .unset, .unset] [])) (fun t_ k_ => XS.astore X9.here hx rfl (hb hby at_35) rfl rfl (l' := #[.val (.int xr), .val (.int xc), .val (.int xm), .val (.int xn), .val (.int xd), .val (.int v2), .val (.int v4), .val (.ref b5), .unset, .unset]) rfl k_) ?_
  refine own_Goes.via (T' := T9) (g' := (mkF m 39 #[.val (.int xr), .val (.int xc), .val (.int xm), .val (.int xn), .val (.int xd), .val (.int v2), .val (.int v4), .val (.ref b5), .unset, .unset] [(.ref b5)])) (fun t_ k_ => XS.aload X9.here hx rfl (hb hby at_37) rfl rfl k_) ?_
  refine own_Goes.via (T' := T9) (g' := (mkF m 40 #[.val (.int xr), .val (.int xc), .val (.int xm), .val (.int xn), .val (.int xd), .val (.int v2), .val (.int v4), .val (.ref b5), .unset, .unset] [(.int xm), (.ref b5)])) (fun t_ k_ => XS.iloadN X9.here hx rfl (hb hby at_39) rfl k_) ?_
  refine own_Goes.via (T' := T9) (g' := (mkF m 41 #[.val (.int xr), .val (.int xc), .val (.int xm), .val (.int xn), .val (.int xd), .val (.int v2), .val (.int v4), .val (.ref b5), .unset, .unset] [(.int xn), (.int xm), (.ref b5)])) (fun t_ k_ => XS.iloadN X9.here hx rfl (hb hby at_40) rfl k_) ?_
  obtain ⟨cq11, kq11, q11a, q11b, q11c⟩ := isOf hZ rfl pf9_0
  obtain ⟨_, _, ⟨T11, L11, k11, n11⟩, -, X11, ⟨Lc11, hQ11, l11, y11, z11⟩, st11⟩ := X9.virtualBack hx (y := (⟨"com/example/gridwright/gridwright/grid/Cell", "isOn", "(II)Z"⟩ : MethodName)) (z := (⟨"com/example/gridwright/gridwright/grid/Cell", "isOn", "(II)Z"⟩ : MethodName)) hown (mvT hZ (hw _ (List.mem_of_getElem? (i := 22) rfl))) (mvT hZ (hw _ (List.mem_of_getElem? (i := 23) rfl))) (notFace_of_selects (args := #[]) (mvT hZ (hw _ (List.mem_of_getElem? (i := 25) rfl)))) (mvT hZ (hw _ (List.mem_of_getElem? (i := 25) rfl))) (mvT hZ (hw _ (List.mem_of_getElem? (i := 24) rfl))) (by decide) (backOf (W := 0) (rm5 l Z a0 hw [] b5 xm xn v2 v4 T9.heap n0 sz9 pf9_1 pf9_2) hZ (hw _ (List.mem_of_getElem? (i := 26) rfl)) (hw _ (List.mem_of_getElem? (i := 6) rfl)) (by decide) (by decide)) q11a q11c (g := (mkF m 41 #[.val (.int xr), .val (.int xc), .val (.int xm), .val (.int xn), .val (.int xd), .val (.int v2), .val (.int v4), .val (.ref b5), .unset, .unset] [(.int xn), (.int xm), (.ref b5)])) rfl (by rw [hml]; rfl) (Steps.refl _) (argsL := [(.int xm), (.int xn)]) (rest := []) (lenOf pd_0_2 rfl) rfl (by show 2 * 0 + _ ≤ _; exact Nat.le_of_eq rfl) (hb hby at_41) (fun _ _ => ⟨rfl, rfl, (by decide : 1 + 0 ≤ _), (by decide : 2 + 0 ≤ _)⟩)
  dsimp only [Pt.U, Pt.locs, Pt.cells, Pt.slots] at X11 l11 y11 z11 st11 hQ11
  subst l11 y11 z11
  obtain ⟨rfl, Nq11, hh11⟩ := hQ11
  have N11 := Fr.app N9 Nq11
  refine own_Goes.via (T' := T11) (g' := (mkF m 44 #[.val (.int xr), .val (.int xc), .val (.int xm), .val (.int xn), .val (.int xd), .val (.int v2), .val (.int v4), .val (.ref b5), .unset, .unset] [(.int (own_f5 xm xn v2 v4))])) (fun t_ k_ => st11.trans k_) ?_
  obtain ⟨v12, hv12⟩ : ∃ z : Int32, z = (own_f5 xm xn v2 v4) := ⟨_, rfl⟩
  rw [← hv12]
  refine own_Goes.via (T' := T11) (g' := (mkF m 46 #[.val (.int xr), .val (.int xc), .val (.int xm), .val (.int xn), .val (.int xd), .val (.int v2), .val (.int v4), .val (.ref b5), .val (.int v12), .unset] [])) (fun t_ k_ => XS.istore X11.here hx rfl (hb hby at_44) rfl (l' := #[.val (.int xr), .val (.int xc), .val (.int xm), .val (.int xn), .val (.int xd), .val (.int v2), .val (.int v4), .val (.ref b5), .val (.int v12), .unset]) rfl k_) ?_
  refine own_Goes.via (T' := T11) (g' := (mkF m 48 #[.val (.int xr), .val (.int xc), .val (.int xm), .val (.int xn), .val (.int xd), .val (.int v2), .val (.int v4), .val (.ref b5), .val (.int v12), .unset] [(.int v2)])) (fun t_ k_ => XS.iload X11.here hx rfl (hb hby at_46) rfl k_) ?_
  refine own_Goes.via (T' := T11) (g' := (mkF m 49 #[.val (.int xr), .val (.int xc), .val (.int xm), .val (.int xn), .val (.int xd), .val (.int v2), .val (.int v4), .val (.ref b5), .val (.int v12), .unset] [(.int xm), (.int v2)])) (fun t_ k_ => XS.iloadN X11.here hx rfl (hb hby at_48) rfl k_) ?_
  obtain ⟨_, _, ⟨T13, L13, k13, n13⟩, -, X13, ⟨Lc13, hQ13, l13, y13, z13⟩, st13⟩ := Jvm.LawKit.callS X11 hx (y := (⟨"com/example/gridwright/gridwright/grid/CellIsOnPinLaw", "within", "(II)Z"⟩ : MethodName)) hown (mvT hZ (hw _ (List.mem_of_getElem? (i := 27) rfl))) (mvT hZ (hw _ (List.mem_of_getElem? (i := 28) rfl))) (mvT hZ (hw _ (List.mem_of_getElem? (i := 2) rfl))) (mvT hZ (hw _ (List.mem_of_getElem? (i := 29) rfl))) (by decide) (backOf (W := 0) (rm6 l Z a0 hw [] v2 xm T9.heap n0 sz9 ) hZ (hw _ (List.mem_of_getElem? (i := 29) rfl)) (hw _ (List.mem_of_getElem? (i := 2) rfl)) (by decide) (by decide)) (g := (mkF m 49 #[.val (.int xr), .val (.int xc), .val (.int xm), .val (.int xn), .val (.int xd), .val (.int v2), .val (.int v4), .val (.ref b5), .val (.int v12), .unset] [(.int xm), (.int v2)])) rfl (by rw [hml]; rfl) (argsL := [(.int v2), (.int xm)]) (rest := []) (lenOf pd_0_2 rfl) rfl (by show 2 * 0 + _ ≤ _; exact Nat.le_of_eq rfl) (hb hby at_49) (fun _ _ => ⟨rfl, hh11, (by decide : 1 + 0 ≤ _), (by decide : 2 + 0 ≤ _)⟩)
  dsimp only [Pt.U, Pt.locs, Pt.cells, Pt.slots] at X13 l13 y13 z13 st13 hQ13
  subst l13 y13 z13
  obtain ⟨rfl, Nq13, hh13⟩ := hQ13
  have N13 := Fr.app N11 Nq13
  refine own_Goes.via (T' := T13) (g' := (mkF m 52 #[.val (.int xr), .val (.int xc), .val (.int xm), .val (.int xn), .val (.int xd), .val (.int v2), .val (.int v4), .val (.ref b5), .val (.int v12), .unset] [(.int (own_f6 v2 xm))])) (st13) ?_
  obtain ⟨v14, hv14⟩ : ∃ z : Int32, z = (own_f6 v2 xm) := ⟨_, rfl⟩
  rw [← hv14]
  suffices J69_18 : ∀ (T17 : State) (L17 : List Loc) (X17 : Stand p l e room_1 s m #[(.int xr), (.int xc), (.int xm), (.int xn), (.int xd)] below meth c T17 L17 1 2) (e17 : T17.heap = T9.heap) (N17 : Fr n0 L17) (v69_16 : Int32) (hv69_16 : v69_16 = (if v14 = (0 : Int32) then (0 : Int32) else (if (own_f6 v4 xn) = (0 : Int32) then (0 : Int32) else (1 : Int32)))), own_Goes p.tables e below P T17 (mkF m 69 #[.val (.int xr), .val (.int xc), .val (.int xm), .val (.int xn), .val (.int xd), .val (.int v2), .val (.int v4), .val (.ref b5), .val (.int v12), .unset] [(.int v69_16)]) by
    by_cases hc52_15 : v14 = (0 : Int32)
    · refine own_Goes.via (T' := T13) (g' := (mkF m 68 #[.val (.int xr), .val (.int xc), .val (.int xm), .val (.int xn), .val (.int xd), .val (.int v2), .val (.int v4), .val (.ref b5), .val (.int v12), .unset] [])) (fun t_ k_ => XS.ifYes X13.here hx rfl (pc0 := 52) (pc' := 68) rfl (hb hby at_52) rfl ((if0 _ _).trans (teq hc52_15).1) (by decide) (by decide) k_) ?_
      refine own_Goes.via (T' := T13) (g' := (mkF m 69 #[.val (.int xr), .val (.int xc), .val (.int xm), .val (.int xn), .val (.int xd), .val (.int v2), .val (.int v4), .val (.ref b5), .val (.int v12), .unset] [(.int (0 : Int32))])) (fun t_ k_ => XS.iconst X13.here hx rfl (hb hby at_68) k_) ?_
      exact J69_18 T13 _ X13 hh13 N13 (0 : Int32) ((if_pos hc52_15)).symm
    · refine own_Goes.via (T' := T13) (g' := (mkF m 55 #[.val (.int xr), .val (.int xc), .val (.int xm), .val (.int xn), .val (.int xd), .val (.int v2), .val (.int v4), .val (.ref b5), .val (.int v12), .unset] [])) (fun t_ k_ => XS.ifNo X13.here hx rfl (hb hby at_52) rfl ((if0 _ _).trans (feq hc52_15).1) k_) ?_
      refine own_Goes.via (T' := T13) (g' := (mkF m 57 #[.val (.int xr), .val (.int xc), .val (.int xm), .val (.int xn), .val (.int xd), .val (.int v2), .val (.int v4), .val (.ref b5), .val (.int v12), .unset] [(.int v4)])) (fun t_ k_ => XS.iload X13.here hx rfl (hb hby at_55) rfl k_) ?_
      refine own_Goes.via (T' := T13) (g' := (mkF m 58 #[.val (.int xr), .val (.int xc), .val (.int xm), .val (.int xn), .val (.int xd), .val (.int v2), .val (.int v4), .val (.ref b5), .val (.int v12), .unset] [(.int xn), (.int v4)])) (fun t_ k_ => XS.iloadN X13.here hx rfl (hb hby at_57) rfl k_) ?_
      obtain ⟨_, _, ⟨T19, L19, k19, n19⟩, -, X19, ⟨Lc19, hQ19, l19, y19, z19⟩, st19⟩ := Jvm.LawKit.callS X13 hx (y := (⟨"com/example/gridwright/gridwright/grid/CellIsOnPinLaw", "within", "(II)Z"⟩ : MethodName)) hown (mvT hZ (hw _ (List.mem_of_getElem? (i := 27) rfl))) (mvT hZ (hw _ (List.mem_of_getElem? (i := 28) rfl))) (mvT hZ (hw _ (List.mem_of_getElem? (i := 2) rfl))) (mvT hZ (hw _ (List.mem_of_getElem? (i := 29) rfl))) (by decide) (backOf (W := 0) (rm6 l Z a0 hw [] v4 xn T9.heap n0 sz9 ) hZ (hw _ (List.mem_of_getElem? (i := 29) rfl)) (hw _ (List.mem_of_getElem? (i := 2) rfl)) (by decide) (by decide)) (g := (mkF m 58 #[.val (.int xr), .val (.int xc), .val (.int xm), .val (.int xn), .val (.int xd), .val (.int v2), .val (.int v4), .val (.ref b5), .val (.int v12), .unset] [(.int xn), (.int v4)])) rfl (by rw [hml]; rfl) (argsL := [(.int v4), (.int xn)]) (rest := []) (lenOf pd_0_2 rfl) rfl (by show 2 * 0 + _ ≤ _; exact Nat.le_of_eq rfl) (hb hby at_58) (fun _ _ => ⟨rfl, hh13, (by decide : 1 + 0 ≤ _), (by decide : 2 + 0 ≤ _)⟩)
      dsimp only [Pt.U, Pt.locs, Pt.cells, Pt.slots] at X19 l19 y19 z19 st19 hQ19
      subst l19 y19 z19
      obtain ⟨rfl, Nq19, hh19⟩ := hQ19
      have N19 := Fr.app N13 Nq19
      refine own_Goes.via (T' := T19) (g' := (mkF m 61 #[.val (.int xr), .val (.int xc), .val (.int xm), .val (.int xn), .val (.int xd), .val (.int v2), .val (.int v4), .val (.ref b5), .val (.int v12), .unset] [(.int (own_f6 v4 xn))])) (st19) ?_
      by_cases hc61_20 : (own_f6 v4 xn) = (0 : Int32)
      · refine own_Goes.via (T' := T19) (g' := (mkF m 68 #[.val (.int xr), .val (.int xc), .val (.int xm), .val (.int xn), .val (.int xd), .val (.int v2), .val (.int v4), .val (.ref b5), .val (.int v12), .unset] [])) (fun t_ k_ => XS.ifYes X19.here hx rfl (pc0 := 61) (pc' := 68) rfl (hb hby at_61) rfl ((if0 _ _).trans (teq hc61_20).1) (by decide) (by decide) k_) ?_
        refine own_Goes.via (T' := T19) (g' := (mkF m 69 #[.val (.int xr), .val (.int xc), .val (.int xm), .val (.int xn), .val (.int xd), .val (.int v2), .val (.int v4), .val (.ref b5), .val (.int v12), .unset] [(.int (0 : Int32))])) (fun t_ k_ => XS.iconst X19.here hx rfl (hb hby at_68) k_) ?_
        exact J69_18 T19 _ X19 hh19 N19 (0 : Int32) (((if_neg hc52_15).trans (if_pos hc61_20))).symm
      · refine own_Goes.via (T' := T19) (g' := (mkF m 64 #[.val (.int xr), .val (.int xc), .val (.int xm), .val (.int xn), .val (.int xd), .val (.int v2), .val (.int v4), .val (.ref b5), .val (.int v12), .unset] [])) (fun t_ k_ => XS.ifNo X19.here hx rfl (hb hby at_61) rfl ((if0 _ _).trans (feq hc61_20).1) k_) ?_
        refine own_Goes.via (T' := T19) (g' := (mkF m 65 #[.val (.int xr), .val (.int xc), .val (.int xm), .val (.int xn), .val (.int xd), .val (.int v2), .val (.int v4), .val (.ref b5), .val (.int v12), .unset] [(.int (1 : Int32))])) (fun t_ k_ => XS.iconst X19.here hx rfl (hb hby at_64) k_) ?_
        refine own_Goes.via (T' := T19) (g' := (mkF m 69 #[.val (.int xr), .val (.int xc), .val (.int xm), .val (.int xn), .val (.int xd), .val (.int v2), .val (.int v4), .val (.ref b5), .val (.int v12), .unset] [(.int (1 : Int32))])) (fun t_ k_ => XS.goto X19.here hx rfl (pc0 := 65) (pc' := 69) rfl (hb hby at_65) (by decide) (by decide) k_) ?_
        exact J69_18 T19 _ X19 hh19 N19 (1 : Int32) (((if_neg hc52_15).trans (if_neg hc61_20))).symm
  intro T17 L17 X17 e17 N17 v69_16 hv69_16
  refine own_Goes.via (T' := T17) (g' := (mkF m 71 #[.val (.int xr), .val (.int xc), .val (.int xm), .val (.int xn), .val (.int xd), .val (.int v2), .val (.int v4), .val (.ref b5), .val (.int v12), .val (.int v69_16)] [])) (fun t_ k_ => XS.istore X17.here hx rfl (hb hby at_69) rfl (l' := #[.val (.int xr), .val (.int xc), .val (.int xm), .val (.int xn), .val (.int xd), .val (.int v2), .val (.int v4), .val (.ref b5), .val (.int v12), .val (.int v69_16)]) rfl k_) ?_
  refine own_Goes.via (T' := T17) (g' := (mkF m 73 #[.val (.int xr), .val (.int xc), .val (.int xm), .val (.int xn), .val (.int xd), .val (.int v2), .val (.int v4), .val (.ref b5), .val (.int v12), .val (.int v69_16)] [(.int v12)])) (fun t_ k_ => XS.iload X17.here hx rfl (hb hby at_71) rfl k_) ?_
  refine own_Goes.via (T' := T17) (g' := (mkF m 75 #[.val (.int xr), .val (.int xc), .val (.int xm), .val (.int xn), .val (.int xd), .val (.int v2), .val (.int v4), .val (.ref b5), .val (.int v12), .val (.int v69_16)] [(.int v69_16), (.int v12)])) (fun t_ k_ => XS.iload X17.here hx rfl (hb hby at_73) rfl k_) ?_
  suffices J83_24 : ∀ (v83_22 : Int32) (hv83_22 : v83_22 = (if v12 = v69_16 then (1 : Int32) else (0 : Int32))), own_Goes p.tables e below P T17 (mkF m 83 #[.val (.int xr), .val (.int xc), .val (.int xm), .val (.int xn), .val (.int xd), .val (.int v2), .val (.int v4), .val (.ref b5), .val (.int v12), .val (.int v69_16)] [(.int v83_22)]) by
    by_cases hc75_21 : v12 = v69_16
    · refine own_Goes.via (T' := T17) (g' := (mkF m 78 #[.val (.int xr), .val (.int xc), .val (.int xm), .val (.int xn), .val (.int xd), .val (.int v2), .val (.int v4), .val (.ref b5), .val (.int v12), .val (.int v69_16)] [])) (fun t_ k_ => XS.icmpNo X17.here hx rfl (hb hby at_75) rfl (teq hc75_21).2 k_) ?_
      refine own_Goes.via (T' := T17) (g' := (mkF m 79 #[.val (.int xr), .val (.int xc), .val (.int xm), .val (.int xn), .val (.int xd), .val (.int v2), .val (.int v4), .val (.ref b5), .val (.int v12), .val (.int v69_16)] [(.int (1 : Int32))])) (fun t_ k_ => XS.iconst X17.here hx rfl (hb hby at_78) k_) ?_
      refine own_Goes.via (T' := T17) (g' := (mkF m 83 #[.val (.int xr), .val (.int xc), .val (.int xm), .val (.int xn), .val (.int xd), .val (.int v2), .val (.int v4), .val (.ref b5), .val (.int v12), .val (.int v69_16)] [(.int (1 : Int32))])) (fun t_ k_ => XS.goto X17.here hx rfl (pc0 := 79) (pc' := 83) rfl (hb hby at_79) (by decide) (by decide) k_) ?_
      exact J83_24 (1 : Int32) ((if_pos hc75_21)).symm
    · refine own_Goes.via (T' := T17) (g' := (mkF m 82 #[.val (.int xr), .val (.int xc), .val (.int xm), .val (.int xn), .val (.int xd), .val (.int v2), .val (.int v4), .val (.ref b5), .val (.int v12), .val (.int v69_16)] [])) (fun t_ k_ => XS.icmpYes X17.here hx rfl (pc0 := 75) (pc' := 82) rfl (hb hby at_75) rfl (feq hc75_21).2 (by decide) (by decide) k_) ?_
      refine own_Goes.via (T' := T17) (g' := (mkF m 83 #[.val (.int xr), .val (.int xc), .val (.int xm), .val (.int xn), .val (.int xd), .val (.int v2), .val (.int v4), .val (.ref b5), .val (.int v12), .val (.int v69_16)] [(.int (0 : Int32))])) (fun t_ k_ => XS.iconst X17.here hx rfl (hb hby at_82) k_) ?_
      exact J83_24 (0 : Int32) ((if_neg hc75_21)).symm
  intro v83_22 hv83_22
  have hfin : v83_22 = 1 := own_pl0_0 hv2 hv4 hv12 hv14 hv69_16 hv83_22
  rw [hfin]
  obtain ⟨fs, hr, hrun, hended, hW, hsame⟩ := X17.leave (v := some (.int 1)) (fun h => by rw [Bd.returns] at h; cases h)
  refine own_Goes.fin (retN X17 hx (t := .boolean) Bd.returns (by simp) (hb hby at_83) hr) hrun hended ?_
  subst hPd
  refine ⟨_, _, rfl, ?_, ⟨_, rfl⟩, hW, hsame.mono (by decide) (by decide)⟩
  show Q0 Z xr xc xm xn xd h0 n0 _ T17.heap _
  rw [e17]
  exact ⟨rfl, N17⟩
set_option maxRecDepth 65536 in
set_option maxHeartbeats 40000000 in
theorem comes_1 {Post : Tables → Env → Array Value → State → Outcome → State → Prop} (hpost : ∀ tb e args s v u, (limb_1_1.after args s (.returned v) u = true ∧ limb_1_2.after args s (.returned v) u = true ∧ True) → FrameEnd s (.returned v) u (Jvm.fieldLocs frame_1_writes args s ++ Jvm.arrayLocs frame_1_arrays args s ++ Jvm.staticLocs frame_1_statics s) 16 128 → Post tb e args s (.returned v) u) :
    ArmFor flags0 classFile x code maxLocals ret World_1 tables_1 room_1 Calls_1 rest_1 Pre_1 Post := by
  intro l hfl _ _ p e ha hc hk s m args below hf hA hF happ hP
  obtain ⟨hcalls, hrest, hpre⟩ := hP
  obtain ⟨-, -, -, hnamed, -, -, -, hat⟩ := (Spec.applies_iff hf).mp happ
  obtain ⟨hg, hn⟩ := and_e (Cond.before_iff.mp (show (Jvm.Cond.and given_1 narrow_1).before args s = true from hpre))
  obtain ⟨g1, g2⟩ := and_e hg
  obtain ⟨g3, g4⟩ := and_e g2
  obtain ⟨g5, g6⟩ := and_e g4
  obtain ⟨g7, g8⟩ := and_e g6
  obtain ⟨g9, g10⟩ := and_e g8
  obtain ⟨w0, w1, w2, w3, w4, rfl⟩ : ∃ w0 w1 w2 w3 w4 : Value, args = #[w0, w1, w2, w3, w4] := by
    have hs : args.size = 5 := by simpa [Cond.value, given_1] using g1
    obtain ⟨L⟩ := args
    match L, hs with
    | [w0, w1, w2, w3, w4], _ => exact ⟨w0, w1, w2, w3, w4, rfl⟩
  have hw := fun d (hd : d ∈ tables_1) => atoms_spec (ws := Jvm.Cond.code x code maxLocals ret :: tables_1) hat d (List.mem_cons_of_mem _ hd)
  have hfit : Fit s := fun {y c} hc i hi => by
    obtain ⟨ha, rfl⟩ := Array.getElem?_eq_some_iff.mp hc
    have q := List.all_eq_true.mp ((Array.all_eq_true_iff_forall_mem.mp hF) _ (Array.getElem_mem ha)) i (List.mem_range.mpr hi)
    simpa [Array.getElem?_eq_getElem hi] using q
  obtain ⟨i0, ei0⟩ := is_v g3
  obtain rfl : w0 = (.int i0) := Option.some.inj ei0
  obtain ⟨i1, ei1⟩ := is_v g5
  obtain rfl : w1 = (.int i1) := Option.some.inj ei1
  obtain ⟨i2, ei2⟩ := is_v g7
  obtain rfl : w2 = (.int i2) := Option.some.inj ei2
  obtain ⟨i3, ei3⟩ := is_v g9
  obtain rfl : w3 = (.int i3) := Option.some.inj ei3
  obtain ⟨i4, ei4⟩ := is_v g10
  obtain rfl : w4 = (.int i4) := Option.some.inj ei4
  obtain ⟨n, o, h1, h2, h3, _, L, rfl, ⟨rfl, N⟩, hq⟩ := rm0 l s _ hw tables_1 i0 i1 i2 i3 i4  s.heap s.heap.size (Nat.le_refl _)  p e ha hc hk s m _ below hf ((Spec.applies_iff_loose hf).mp happ).1 ⟨rfl, State.Warmed39.refl s, rfl⟩ trivial
  refine ⟨n, _, h1, h2, h3, hpost _ _ _ _ _ _ ⟨Cond.after_iff.mpr rfl, Cond.after_iff.mpr (eq_i res_at (Term.int_eval (1)) rfl), trivial⟩ ⟨hq.1, hq.2.1, (hq.2.2.sift fun y hy => Or.inr (N y hy)).mono (by decide) (by decide)⟩⟩
theorem main_1_1 : Claimed_1_1 := comes_1 fun _ _ _ _ _ _ h hF => ⟨h.1, hF⟩
theorem main_1_2 : Claimed_1_2 := comes_1 fun _ _ _ _ _ _ h hF => ⟨h.2.1, hF⟩
end Jvm.Pilot.@@N@@
namespace Jvm.Pilot.@@N@@
open Jvm Jvm.ClassFile Sem Op Lib Jvm.Free Jvm.Stand Jvm.Pilot.@@N@@.Jvm.D
/-! MADE BY PROGRAM (witnessworld.py) out of the Statement's table words and the real class files: 11 classes; the members and pool entries that the words name. The judged class is class 1, her method 3. -/
namespace start1
open Jvm.ClassFile
def u (s : String) : CpInfo := .utf8 (stringToUtf16 s)
/-- a pool by its gaps: so many unusable entries, then the entry; so many at the end -/
def gap : Nat → List CpInfo → List CpInfo
  | 0, r => r
  | n + 1, r => .unusable :: gap n r
def poolList (es : List (Nat × CpInfo)) (last : Nat) : List CpInfo := es.foldr (fun e r => gap e.1 (e.2 :: r)) (gap last [])
def pool (es : List (Nat × CpInfo)) (last : Nat) : Array CpInfo := ⟨poolList es last⟩
def fileOf (pool : Array CpInfo) (this : Nat) (attrs : Array Attribute := #[]) (ms : Array MethodInfo := #[]) (fl : Nat := 33) (sup : Nat := 0) (ifs : Array Nat := #[]) (fds : Array FieldInfo := #[]) : ClassFile where
  minorVersion := 0
  majorVersion := 65
  constantPool := pool
  accessFlags := fl
  thisClass := this
  superClass := sup
  interfaces := ifs
  fields := fds
  methods := ms
  attributes := attrs
def plain (name : String) (sup : Option ClassId) : Class where
  name := name
  kind := .ordinary
  loader := none
  accessFlags := 33
  super := sup
  interfaces := #[]
  cf := none
  fields := #[]
  methods := #[]
  instanceTypes := #[]
  staticTypes := #[]
  resolved := #[]
  callSites := []
  init := .initialized
  statics := none
  mirror := none

def pool0 : Array CpInfo := pool [(5, u "<init>"), (0, u "()V"), (1, .class_ 10), (1, u "java/lang/Object")] 113

def k0c0 : Code := { maxStack := 0, maxLocals := 1, code := object_method_1_code, exceptionTable := #[], attributes := #[] }
def k0m0 : Method := { name := "<init>", desc := "()V", sig := { parameters := [], returnType := none }, accessFlags := 1, code := some k0c0 }
/-- java/lang/Object -/
def k0 : Class := { plain "java/lang/Object" none with
  accessFlags := 33
  interfaces := #[]
  cf := some (fileOf pool0 8 #[] #[{ accessFlags := 1, nameIndex := 5, descriptorIndex := 6, attributes := #[] }] 33 0 #[] #[])
  fields := #[]
  methods := #[k0m0]
  instanceTypes := #[]
  staticTypes := #[]
  resolved := Array.replicate 124 none
  statics := none }

def pool1 : Array CpInfo := pool [(2, .class_ 4), (1, u "java/lang/Object"), (0, u "<init>"), (0, u "()V"), (0, .long 4294967295), (1, .methodref 10 11), (0, .class_ 12), (0, .nameAndType 13 14), (0, u "com/example/gridwright/gridwright/grid/CellIsOnPinLaw"), (0, u "pick"), (0, u "(III)I"), (0, .class_ 16), (0, u "com/example/gridwright/gridwright/grid/Cell"), (0, .methodref 15 18), (0, .nameAndType 5 19), (0, u "(II)V"), (0, .methodref 15 21), (0, .nameAndType 22 23), (0, u "isOn"), (0, u "(II)Z"), (0, .methodref 10 25), (0, .nameAndType 26 23), (0, u "within"), (3, u "law"), (0, u "(IIIII)Z")] 2

def k1m0 : Method := { name := "<init>", desc := "()V", sig := { parameters := [], returnType := none }, accessFlags := 2, code := none }
def k1c1 : Code := { maxStack := 3, maxLocals := 3, code := method_2_code, exceptionTable := #[], attributes := #[] }
def k1m1 : Method := { name := "pick", desc := "(III)I", sig := { parameters := [.int, .int, .int], returnType := some .int }, accessFlags := 10, code := some k1c1 }
def k1c2 : Code := { maxStack := 4, maxLocals := 4, code := method_3_code, exceptionTable := #[], attributes := #[] }
def k1m2 : Method := { name := "within", desc := "(II)Z", sig := { parameters := [.int, .int], returnType := some .boolean }, accessFlags := 10, code := some k1c2 }
def k1c3 : Code := { maxStack := 4, maxLocals := 10, code := code, exceptionTable := #[], attributes := #[] }
def k1m3 : Method := { name := "law", desc := "(IIIII)Z", sig := { parameters := [.int, .int, .int, .int, .int], returnType := some .boolean }, accessFlags := 9, code := some k1c3 }
/-- com/example/gridwright/gridwright/grid/CellIsOnPinLaw -/
def k1 : Class := { plain "com/example/gridwright/gridwright/grid/CellIsOnPinLaw" (some 0) with
  accessFlags := 49
  interfaces := #[]
  cf := some (fileOf pool1 10 #[] #[{ accessFlags := 2, nameIndex := 5, descriptorIndex := 6, attributes := #[] }, { accessFlags := 10, nameIndex := 13, descriptorIndex := 14, attributes := #[] }, { accessFlags := 10, nameIndex := 26, descriptorIndex := 23, attributes := #[] }, { accessFlags := 9, nameIndex := 30, descriptorIndex := 31, attributes := #[] }] 49 2 #[] #[])
  fields := #[]
  methods := #[k1m0, k1m1, k1m2, k1m3]
  instanceTypes := #[]
  staticTypes := #[]
  resolved := Array.replicate 34 none
  statics := none }

def pool2 : Array CpInfo := pool [(1, .methodref 2 3), (0, .class_ 4), (0, .nameAndType 5 6), (0, u "java/lang/Object"), (0, u "<init>"), (0, u "()V"), (0, .class_ 8), (0, u "java/lang/Record")] 13

def k2c0 : Code := { maxStack := 1, maxLocals := 1, code := jdk_30_method_1_code, exceptionTable := #[], attributes := #[] }
def k2m0 : Method := { name := "<init>", desc := "()V", sig := { parameters := [], returnType := none }, accessFlags := 4, code := some k2c0 }
/-- java/lang/Record -/
def k2 : Class := { plain "java/lang/Record" (some 0) with
  accessFlags := 1057
  interfaces := #[]
  cf := some (fileOf pool2 7 #[] #[{ accessFlags := 4, nameIndex := 5, descriptorIndex := 6, attributes := #[] }] 1057 2 #[] #[])
  fields := #[]
  methods := #[k2m0]
  instanceTypes := #[]
  staticTypes := #[]
  resolved := Array.replicate 22 none
  statics := none }

def pool3 : Array CpInfo := pool [(1, .class_ 2), (0, u "java/lang/Comparable"), (0, .class_ 4), (0, u "java/lang/Object")] 7

/-- java/lang/Comparable -/
def k3 : Class := { plain "java/lang/Comparable" (some 0) with
  accessFlags := 1537
  interfaces := #[]
  cf := some (fileOf pool3 1 #[] #[] 1537 3 #[] #[])
  fields := #[]
  methods := #[]
  instanceTypes := #[]
  staticTypes := #[]
  resolved := Array.replicate 12 none
  statics := none }

def pool4 : Array CpInfo := pool [(1, .methodref 2 3), (0, .class_ 4), (0, .nameAndType 5 6), (0, u "java/lang/Record"), (0, u "<init>"), (0, u "()V"), (0, .fieldref 8 9), (0, .class_ 10), (0, .nameAndType 11 12), (0, u "com/example/gridwright/gridwright/grid/Cell"), (0, u "row"), (0, u "I"), (0, .fieldref 8 14), (0, .nameAndType 15 12), (0, u "column"), (25, u "(II)V"), (35, u "isOn"), (0, u "(II)Z"), (8, u "ORDER"), (0, u "Ljava/util/Comparator;"), (31, .class_ 121), (0, u "java/lang/Comparable")] 64

def k4c0 : Code := { maxStack := 2, maxLocals := 3, code := prog_84_method_1_code, exceptionTable := #[], attributes := #[] }
def k4m0 : Method := { name := "<init>", desc := "(II)V", sig := { parameters := [.int, .int], returnType := none }, accessFlags := 1, code := some k4c0 }
def k4c1 : Code := { maxStack := 2, maxLocals := 3, code := prog_84_method_4_code, exceptionTable := #[], attributes := #[] }
def k4m1 : Method := { name := "isOn", desc := "(II)Z", sig := { parameters := [.int, .int], returnType := some .boolean }, accessFlags := 1, code := some k4c1 }
/-- com/example/gridwright/gridwright/grid/Cell -/
def k4 : Class := { plain "com/example/gridwright/gridwright/grid/Cell" (some 2) with
  accessFlags := 49
  interfaces := #[3]
  cf := some (fileOf pool4 8 #[] #[{ accessFlags := 1, nameIndex := 5, descriptorIndex := 41, attributes := #[] }, { accessFlags := 1, nameIndex := 77, descriptorIndex := 78, attributes := #[] }] 49 2 #[120] #[{ accessFlags := 18, nameIndex := 11, descriptorIndex := 12, attributes := #[] }, { accessFlags := 18, nameIndex := 15, descriptorIndex := 12, attributes := #[] }, { accessFlags := 26, nameIndex := 87, descriptorIndex := 88, attributes := #[] }])
  fields := #[{ name := "row", type := .int, accessFlags := 18, slot := 0, constantValue := 0 }, { name := "column", type := .int, accessFlags := 18, slot := 1, constantValue := 0 }, { name := "ORDER", type := (.object "java/util/Comparator"), accessFlags := 26, slot := 0, constantValue := 0 }]
  methods := #[k4m0, k4m1]
  instanceTypes := #[.int, .int]
  staticTypes := #[(.object "java/util/Comparator")]
  resolved := Array.replicate 186 none
  statics := none }

def pool5 : Array CpInfo := pool [(1, u "java/lang/Cloneable"), (0, .class_ 1), (0, u "java/lang/Object"), (0, .class_ 3)] 3

/-- java/lang/Cloneable -/
def k5 : Class := { plain "java/lang/Cloneable" (some 0) with
  accessFlags := 1537
  interfaces := #[]
  cf := some (fileOf pool5 2 #[] #[] 1537 4 #[] #[])
  fields := #[]
  methods := #[]
  instanceTypes := #[]
  staticTypes := #[]
  resolved := Array.replicate 8 none
  statics := none }

def pool6 : Array CpInfo := pool [(1, u "java/io/Serializable"), (0, .class_ 1), (0, u "java/lang/Object"), (0, .class_ 3)] 3

/-- java/io/Serializable -/
def k6 : Class := { plain "java/io/Serializable" (some 0) with
  accessFlags := 1537
  interfaces := #[]
  cf := some (fileOf pool6 2 #[] #[] 1537 4 #[] #[])
  fields := #[]
  methods := #[]
  instanceTypes := #[]
  staticTypes := #[]
  resolved := Array.replicate 8 none
  statics := none }

/-- the primitive byte -/
def k7 : Class := { plain "byte" none with kind := .primitive 'B', accessFlags := 0x411 }
/-- [B -/
def k8 : Class := { plain "[B" (some 0) with kind := .array 7 .byte, interfaces := #[5, 6], accessFlags := 1041 }

/-- the primitive int -/
def k9 : Class := { plain "int" none with kind := .primitive 'I', accessFlags := 0x411 }
/-- [I -/
def k10 : Class := { plain "[I" (some 0) with kind := .array 9 .int, interfaces := #[5, 6], accessFlags := 1041 }

def heap : Heap := #[]
def classes : Array Class := #[k0, k1, k2, k3, k4, k5, k6, k7, k8, k9, k10]
def interned : List (Array UInt16 × Addr) := []
def slotsUsed : Nat := 0
def theMethod : MethodId := ⟨1, 3⟩
def args0 : Array Value := #[.int 1, .int 2, .int 3, .int 4, .int 0]
def aboutOver (below : List Frame) : State where
  vm := { classes := classes, interned := interned.toArray }
  heap := heap
  slotsUsed := slotsUsed
  threads := #[{ frames := .invoking theMethod args0 :: below }]
def below0 : List Frame := [.native { method := ⟨0, 0⟩, args := #[] }]
def about1 : State := aboutOver below0
def p0 : Program := .bare "" "" ""
def e0 : Env := launch0.env 0 0 0
theorem w_frames : about1.frames = Frame.invoking theMethod args0 :: below0 := rfl
set_option maxRecDepth 65536 in
theorem w_args : argsFit about1.vm theMethod args0 = true := by decide +kernel
set_option maxRecDepth 65536 in
theorem w_heap : heapFits about1 = true := by decide +kernel
set_option maxRecDepth 65536 in
theorem w_runnable : about1.curStatus? = some .runnable := by decide +kernel
set_option maxRecDepth 65536 in
theorem w_alone : about1.alone = true := by decide +kernel
set_option maxRecDepth 65536 in
theorem w_named : about1.methodNamed? x = some theMethod := by decide +kernel
set_option maxRecDepth 65536 in
theorem w_hears : about1.hears theMethod below0 = true := by decide +kernel
set_option maxRecDepth 65536 in
theorem w_ripe : about1.ripe theMethod args0 below0 = true := by decide +kernel
theorem w_running : about1.status = .running := rfl
set_option maxRecDepth 65536 in
theorem w_room : about1.hasRoom e0.platform room_1 = true :=
  launch0.hasRoom_least _ room_1 (by decide +kernel) (by decide +kernel) (by decide +kernel) (by decide +kernel) (by decide +kernel) (by decide +kernel)
theorem allAtoms_all (ts : List Jvm.Cond) (a : Array Jvm.Value) (st : Jvm.State) : (allAtoms ts).before a st = ts.all (fun c => c.before a st) := by
  induction ts with
  | nil => rfl
  | cons c t ih =>
    show (Jvm.Cond.and c (allAtoms t)).before a st = _
    rw [Jvm.Cond.before_and, ih, List.all_cons]
def words1 : List Jvm.Cond := Jvm.Cond.code x code maxLocals ret :: tables_1
/-- a 'code' word, met by the world's own term for the bytes: nothing is compared byte by byte -/
theorem code_word {y : MethodName} {bytes : ByteArray} {mx : Nat} {rt : Option FieldType} {a : Array Value} {s : State} {m : MethodId} {meth : Method} {c : Code} (h1 : s.methodNamed? y = some m) (h2 : s.vm.method? m = some meth) (h3 : meth.code = some c) (h4 : c.code = bytes)
    (h5 : (c.maxLocals == mx && c.exceptionTable.isEmpty && decide (c.maxStack ≤ mostOperands) && decide (meth.sig.returnType = rt) && !meth.locks && decide (parseMethodDescriptor y.desc = some meth.sig)) = true) : (Jvm.Cond.code y bytes mx rt).before a s = true := by
  simp only [Bool.and_eq_true, beq_iff_eq, Bool.not_eq_true', decide_eq_true_eq] at h5
  obtain ⟨⟨⟨⟨⟨g1, g2⟩, g3⟩, g4⟩, g5⟩, g6⟩ := h5
  simp [Cond.before, Cond.holds, Cond.value, h1, h2, h3, h4, g1, g2, g3, g4, g5, g6]
def isCode : Jvm.Cond → Bool
  | .code _ _ _ _ => true
  | _ => false
theorem all_split {L : List Jvm.Cond} {P : Jvm.Cond → Bool} (h1 : L.all (fun c => isCode c || P c) = true) (h2 : ∀ c ∈ L.filter isCode, P c = true) : L.all P = true := by
  refine List.all_eq_true.mpr fun c hc => ?_
  have h := List.all_eq_true.mp h1 c hc
  rcases Bool.eq_false_or_eq_true (isCode c) with hi | hi
  · exact h2 c (List.mem_filter.mpr ⟨hc, hi⟩)
  · simpa [hi] using h
set_option maxRecDepth 65536 in
theorem w_c0 : (Jvm.Cond.code x code maxLocals ret).before args0 about1 = true := code_word (m := ⟨1, 3⟩) (meth := k1m3) (c := k1c3) (by decide +kernel) rfl rfl rfl (by decide +kernel)
set_option maxRecDepth 65536 in
theorem w_c1 : (Jvm.Cond.code ({ cls := "com/example/gridwright/gridwright/grid/CellIsOnPinLaw", name := "pick", desc := "(III)I" } : Jvm.MethodName) method_2_code (3 : Nat) (Option.some Jvm.ClassFile.FieldType.int)).before args0 about1 = true := code_word (m := ⟨1, 1⟩) (meth := k1m1) (c := k1c1) (by decide +kernel) rfl rfl rfl (by decide +kernel)
set_option maxRecDepth 65536 in
theorem w_c2 : (Jvm.Cond.code ({ cls := "com/example/gridwright/gridwright/grid/Cell", name := "<init>", desc := "(II)V" } : Jvm.MethodName) prog_84_method_1_code (3 : Nat) (Option.none : Option Jvm.ClassFile.FieldType)).before args0 about1 = true := code_word (m := ⟨4, 0⟩) (meth := k4m0) (c := k4c0) (by decide +kernel) rfl rfl rfl (by decide +kernel)
set_option maxRecDepth 65536 in
theorem w_c3 : (Jvm.Cond.code ({ cls := "java/lang/Record", name := "<init>", desc := "()V" } : Jvm.MethodName) jdk_30_method_1_code (1 : Nat) (Option.none : Option Jvm.ClassFile.FieldType)).before args0 about1 = true := code_word (m := ⟨2, 0⟩) (meth := k2m0) (c := k2c0) (by decide +kernel) rfl rfl rfl (by decide +kernel)
set_option maxRecDepth 65536 in
theorem w_c4 : (Jvm.Cond.code ({ cls := "java/lang/Object", name := "<init>", desc := "()V" } : Jvm.MethodName) object_method_1_code (1 : Nat) (Option.none : Option Jvm.ClassFile.FieldType)).before args0 about1 = true := code_word (m := ⟨0, 0⟩) (meth := k0m0) (c := k0c0) (by decide +kernel) rfl rfl rfl (by decide +kernel)
set_option maxRecDepth 65536 in
theorem w_c5 : (Jvm.Cond.code ({ cls := "com/example/gridwright/gridwright/grid/Cell", name := "isOn", desc := "(II)Z" } : Jvm.MethodName) prog_84_method_4_code (3 : Nat) (Option.some Jvm.ClassFile.FieldType.boolean)).before args0 about1 = true := code_word (m := ⟨4, 1⟩) (meth := k4m1) (c := k4c1) (by decide +kernel) rfl rfl rfl (by decide +kernel)
set_option maxRecDepth 65536 in
theorem w_c6 : (Jvm.Cond.code ({ cls := "com/example/gridwright/gridwright/grid/CellIsOnPinLaw", name := "within", desc := "(II)Z" } : Jvm.MethodName) method_3_code (4 : Nat) (Option.some Jvm.ClassFile.FieldType.boolean)).before args0 about1 = true := code_word (m := ⟨1, 2⟩) (meth := k1m2) (c := k1c2) (by decide +kernel) rfl rfl rfl (by decide +kernel)
def codes1 : List Jvm.Cond := [Jvm.Cond.code x code maxLocals ret, Jvm.Cond.code ({ cls := "com/example/gridwright/gridwright/grid/CellIsOnPinLaw", name := "pick", desc := "(III)I" } : Jvm.MethodName) method_2_code (3 : Nat) (Option.some Jvm.ClassFile.FieldType.int), Jvm.Cond.code ({ cls := "com/example/gridwright/gridwright/grid/Cell", name := "<init>", desc := "(II)V" } : Jvm.MethodName) prog_84_method_1_code (3 : Nat) (Option.none : Option Jvm.ClassFile.FieldType), Jvm.Cond.code ({ cls := "java/lang/Record", name := "<init>", desc := "()V" } : Jvm.MethodName) jdk_30_method_1_code (1 : Nat) (Option.none : Option Jvm.ClassFile.FieldType), Jvm.Cond.code ({ cls := "java/lang/Object", name := "<init>", desc := "()V" } : Jvm.MethodName) object_method_1_code (1 : Nat) (Option.none : Option Jvm.ClassFile.FieldType), Jvm.Cond.code ({ cls := "com/example/gridwright/gridwright/grid/Cell", name := "isOn", desc := "(II)Z" } : Jvm.MethodName) prog_84_method_4_code (3 : Nat) (Option.some Jvm.ClassFile.FieldType.boolean), Jvm.Cond.code ({ cls := "com/example/gridwright/gridwright/grid/CellIsOnPinLaw", name := "within", desc := "(II)Z" } : Jvm.MethodName) method_3_code (4 : Nat) (Option.some Jvm.ClassFile.FieldType.boolean)]
set_option maxRecDepth 65536 in
theorem codes_eq : words1.filter isCode = codes1 := rfl
theorem w_codes : ∀ c ∈ words1.filter isCode, c.before args0 about1 = true := by
  rw [codes_eq]
  intro c hc
  simp only [codes1, List.mem_cons, List.not_mem_nil, or_false] at hc
  rcases hc with rfl | rfl | rfl | rfl | rfl | rfl | rfl
  · exact w_c0
  · exact w_c1
  · exact w_c2
  · exact w_c3
  · exact w_c4
  · exact w_c5
  · exact w_c6
set_option maxRecDepth 65536 in
theorem w_t1 : (words1.take 24).all (fun c => isCode c || c.before args0 about1) = true := by decide +kernel
set_option maxRecDepth 65536 in
theorem w_t2 : (words1.drop 24).all (fun c => isCode c || c.before args0 about1) = true := by decide +kernel
theorem w_tables : (allAtoms (Jvm.Cond.code x code maxLocals ret :: tables_1)).before args0 about1 = true := by
  rw [allAtoms_all]
  show words1.all (fun c => c.before args0 about1) = true
  refine all_split ?_ w_codes
  rw [← List.take_append_drop 24 words1, List.all_append, w_t1, w_t2]
  rfl
set_option maxRecDepth 65536 in
theorem w_case : (Jvm.Cond.and given_1 narrow_1).before args0 about1 = true := by decide +kernel
theorem w_applies : (headSpec (Jvm.Cond.code x code maxLocals ret :: tables_1) room_1).applies x e0.platform about1 = true :=
  (Spec.applies_iff w_frames).mpr ⟨w_running, w_runnable, w_alone, w_named, w_hears, w_ripe, w_room, w_tables⟩
theorem atStart : AtStart classFile x code maxLocals ret World_1 tables_1 room_1 Calls_1 rest_1 Pre_1 launch0 p0 e0 about1 theMethod args0 below0 :=
  ⟨lists_1, trivial, launch0.admits_env _ _ _, launch0.least_env, fairChoices_fair.cas, fairChoices_fair.clock, w_frames, w_args, w_heap, w_applies, trivial, trivial, w_case⟩
end start1
theorem witness_1 : WitnessClaimed_1 := ⟨start1.p0, start1.e0, start1.about1, start1.theMethod, start1.args0, start1.below0, start1.atStart⟩
end Jvm.Pilot.@@N@@
