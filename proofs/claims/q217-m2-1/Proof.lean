import JvmDerived
import JvmDerived.Pilot.@@N@@Statement
import JvmDerived.Pilot.@@N@@Code
set_option linter.unusedVariables false
set_option linter.unusedSimpArgs false
@@BLOCK:NumsL.lean.txt@@
namespace Jvm.Pilot.@@N@@
open Jvm Jvm.ClassFile Sem Op Lib Jvm.Free Jvm.Stand Jvm.LawKit Jvm.RoadKit Bundle Jvm.Pilot.@@N@@.Jvm.D
/-- from the state T with the frame g the run comes to an end that P speaks of -/
def own_Goes (tb : Tables) (e : Env) (below : List Frame) (P : Outcome → State → Prop) (T : State) (g : JFrame) : Prop :=
  ∃ s₂ o, Steps tb e below (T.setTop g) s₂ ∧ s₂.status = .running ∧ Ended s₂ below o ∧ P o s₂
theorem own_Goes.via {tb : Tables} {e : Env} {below : List Frame} {P : Outcome → State → Prop} {T T' : State} {g g' : JFrame} (h : ∀ t, Steps tb e below (T'.setTop g') t → Steps tb e below (T.setTop g) t) (k : own_Goes tb e below P T' g') : own_Goes tb e below P T g := by
  obtain ⟨s₂, o, a, b⟩ := k
  exact ⟨s₂, o, h _ a, b⟩
theorem own_Goes.fin {tb : Tables} {e : Env} {below : List Frame} {P : Outcome → State → Prop} {T s₂ : State} {g : JFrame} {o : Outcome} (h1 : Steps tb e below (T.setTop g) s₂) (h2 : s₂.status = .running) (h3 : Ended s₂ below o) (h4 : P o s₂) : own_Goes tb e below P T g := ⟨s₂, o, h1, h2, h3, h4⟩
theorem own_ltT {x y : Int64} (h : x < y) : ifCond.holds .lt (lcmpW x y) = true ∧ ifCond.holds .ge (lcmpW x y) = false := by
  have q : lcmpW x y < 0 := by rw [lcW]; exact (lc_lt x y).mpr h
  exact ⟨(if0 _ _).trans (tlt q).1, (if0 _ _).trans (tlt q).2.1⟩
theorem own_ltF {x y : Int64} (h : ¬ x < y) : ifCond.holds .lt (lcmpW x y) = false ∧ ifCond.holds .ge (lcmpW x y) = true := by
  have q : ¬ lcmpW x y < 0 := by rw [lcW]; exact fun z => h ((lc_lt x y).mp z)
  exact ⟨(if0 _ _).trans (flt q).1, (if0 _ _).trans (flt q).2.1⟩
theorem own_gtT {x y : Int64} (h : y < x) : ifCond.holds .gt (lcmpW x y) = true ∧ ifCond.holds .le (lcmpW x y) = false := by
  have q : 0 < lcmpW x y := by rw [lcW]; exact (lc_gt x y).mpr h
  exact ⟨(if0 _ _).trans (tlt q).2.2.1, (if0 _ _).trans (tlt q).2.2.2⟩
theorem own_gtF {x y : Int64} (h : ¬ y < x) : ifCond.holds .gt (lcmpW x y) = false ∧ ifCond.holds .le (lcmpW x y) = true := by
  have q : ¬ 0 < lcmpW x y := by rw [lcW]; exact fun z => h ((lc_gt x y).mp z)
  exact ⟨(if0 _ _).trans (flt q).2.2.1, (if0 _ _).trans (flt q).2.2.2⟩
theorem own_eqT {x y : Int64} (h : x = y) : ifCond.holds .eq (lcmpW x y) = true ∧ ifCond.holds .ne (lcmpW x y) = false := by
  have q : lcmpW x y = 0 := by rw [lcW]; exact (lc_eq x y).mpr h
  exact ⟨(if0 _ _).trans (teq q).1, (if0 _ _).trans (teq q).2⟩
theorem own_eqF {x y : Int64} (h : ¬ x = y) : ifCond.holds .eq (lcmpW x y) = false ∧ ifCond.holds .ne (lcmpW x y) = true := by
  have q : ¬ lcmpW x y = 0 := by rw [lcW]; exact fun z => h ((lc_eq x y).mp z)
  exact ⟨(if0 _ _).trans (feq q).1, (if0 _ _).trans (feq q).2⟩
theorem own_lrem (x y : Int64) : x - (x / y) * y = x % y := Int64.toInt_inj.mp (by rw [Jvm.Kit.i64_rem, Int64.toInt_mod])
theorem own_eqInt {args : Array Value} {s : State} {t : Term} {k : Int32} (h : (Cond.eq t (.int k)).value args s none s [] = some true) : t.eval args s none [] s = some (.int k) := by
  simp only [Cond.value, Term.eval] at h
  cases ht : t.eval args s none [] s with
  | none => simp [ht] at h
  | some x => cases x <;> simp [ht] at h ⊢ <;> exact h
theorem d1_0 : decode prog_29_method_5_code 0 = .ok (.aload_n 0, 1) := by decide +kernel
theorem d1_1 : decode prog_29_method_5_code 1 = .ok (.getstatic 3, 3) := by decide +kernel
theorem d1_4 : decode prog_29_method_5_code 4 = .ok (.if_acmp .ne 9, 3) := by decide +kernel
theorem d1_7 : decode prog_29_method_5_code 7 = .ok (.getstatic 7, 3) := by decide +kernel
theorem d1_10 : decode prog_29_method_5_code 10 = .ok (.goto 6, 3) := by decide +kernel
theorem d1_13 : decode prog_29_method_5_code 13 = .ok (.getstatic 3, 3) := by decide +kernel
theorem d1_16 : decode prog_29_method_5_code 16 = .ok (.areturn, 1) := by decide +kernel
theorem pn_1 : plainName "com/example/wattfold/wattfold/core/Vm$Half" = true := by first | (simp [plainName, overriddenIn]; done) | decide +kernel
theorem ef_1 (m : MethodId) (ao : Addr) : entryFrame m #[(.ref ao)] 1 = mkF m 0 #[.val (.ref ao)] [] := by first | (simp [entryFrame, mkF, argsToLocals, Value.category]; done) | rfl
def Q1 (Z : State) (ao : Addr) (s_A : Addr) (s_B : Addr) (xr : Addr) (h0 : Heap) (n0 : Nat) (v : Option Value) (h : Heap) (L : List Loc) : Prop := v = some (.ref xr) ∧ Fr n0 L ∧ h = h0
set_option maxRecDepth 65536 in
set_option maxHeartbeats 40000000 in
theorem rm1 (l : Launch) (Z : State) (a0 : Array Value) (hw : ∀ d ∈ tables_1, d.before a0 Z = true) (ws : List Jvm.Cond) (ao : Addr) (s_A : Addr) (s_B : Addr) (xr : Addr) (h0 : Heap) (n0 : Nat) (Z0 : n0 ≤ h0.size) (OL : Old Z n0 h0) (hxr : xr = (if ao = s_A then s_B else s_A)) (S_A : Sta Z Z.heap "com/example/wattfold/wattfold/core/Vm$Half" "A" "Lcom/example/wattfold/wattfold/core/Vm$Half;" (.ref s_A)) (S_B : Sta Z Z.heap "com/example/wattfold/wattfold/core/Vm$Half" "B" "Lcom/example/wattfold/wattfold/core/Vm$Half;" (.ref s_B)) :
    MetFree l (⟨"com/example/wattfold/wattfold/core/Vm$Half", "other", "()Lcom/example/wattfold/wattfold/core/Vm$Half;"⟩ : MethodName) (head1 (Jvm.Cond.code (⟨"com/example/wattfold/wattfold/core/Vm$Half", "other", "()Lcom/example/wattfold/wattfold/core/Vm$Half;"⟩ : MethodName) prog_29_method_5_code 1 (some (.object "com/example/wattfold/wattfold/core/Vm$Half")) :: ws) ({ frames := 0, cells := 0, slots := 0, locals := 0 } : Room)) (fun a U => a = #[(.ref ao)] ∧ Z.Warmed39 U.vm ∧ U.heap = h0) (fun _ _ _ _ _ => True) (fun _ U o U' => ∃ v L, o = .returned v ∧ Q1 Z ao s_A s_B xr h0 n0 v U'.heap L ∧ FrameEnd U o U' L ({ frames := 0, cells := 0, slots := 0, locals := 0 } : Room).cells ({ frames := 0, cells := 0, slots := 0, locals := 0 } : Room).slots) := by
  refine MetFree.of_bodySF (plainFor_of_name pn_1) hisR ?_
  intro p e s m args below meth c s₁ Bd hml0 hP hK
  obtain ⟨rfl, hZ, hh⟩ := hP
  have hx := Bd.exec
  have hby := Bd.bytes
  have hml : c.maxLocals = 1 := hml0
  have hown : s.vm.findClass "com/example/wattfold/wattfold/core/Vm$Half" = some m.cls := findClass_of_methodNamed Bd.named
  have hnm := (name_of_methodNamed Bd.named Bd.method).1
  have X0 : Stand p l e ({ frames := 0, cells := 0, slots := 0, locals := 0 } : Room) s m #[(.ref ao)] below meth c s₁ [] 0 0 := Stand.of_body Bd
  have e0 : s₁.heap = h0 := by rw [← hh, Bd.state]; rfl
  have N0 := Fr.nil n0
  suffices G : own_Goes p.tables e below (fun o U' => ∃ v L, o = .returned v ∧ Q1 Z ao s_A s_B xr h0 n0 v U'.heap L ∧ FrameEnd s o U' L ({ frames := 0, cells := 0, slots := 0, locals := 0 } : Room).cells ({ frames := 0, cells := 0, slots := 0, locals := 0 } : Room).slots) s₁ (mkF m 0 #[.val (.ref ao)] []) by
    obtain ⟨t2_, o2_, z1_, z2_, z3_, z4_⟩ := G
    exact ⟨t2_, o2_, castTop (ef_1 m ao) z1_, z2_, z3_, z4_⟩
  generalize hPd : (fun (o : Outcome) (U' : State) => ∃ v L, o = .returned v ∧ Q1 Z ao s_A s_B xr h0 n0 v U'.heap L ∧ FrameEnd s o U' L ({ frames := 0, cells := 0, slots := 0, locals := 0 } : Room).cells ({ frames := 0, cells := 0, slots := 0, locals := 0 } : Room).slots) = P
  refine own_Goes.via (T' := s₁) (g' := (mkF m 1 #[.val (.ref ao)] [(.ref ao)])) (fun t_ k_ => XS.aloadN X0.here hx rfl (hb hby d1_0) rfl rfl k_) ?_
  obtain ⟨T1, X1, e1, st1⟩ := getS2 X0 hx hZ hown (host := "") (Or.inl (hw _ (List.mem_of_getElem? (i := 8) rfl))) Via.refl e0 (S_A.ext OL.2) (g := (mkF m 1 #[.val (.ref ao)] [(.ref ao)])) rfl (hb hby d1_1)
  refine own_Goes.via (T' := T1) (g' := (mkF m 4 #[.val (.ref ao)] [(.ref s_A), (.ref ao)])) (st1) ?_
  suffices J16_5 : ∀ (T4 : State) (L4 : List Loc) (X4 : Stand p l e ({ frames := 0, cells := 0, slots := 0, locals := 0 } : Room) s m #[(.ref ao)] below meth c T4 L4 0 0) (e4 : T4.heap = h0) (N4 : Fr n0 L4) (v16_3 : Addr) (hv16_3 : v16_3 = (if ao = s_A then s_B else s_A)), own_Goes p.tables e below P T4 (mkF m 16 #[.val (.ref ao)] [(.ref v16_3)]) by
    by_cases hc4_2 : ao = s_A
    · refine own_Goes.via (T' := T1) (g' := (mkF m 7 #[.val (.ref ao)] [])) (fun t_ k_ => Jvm.RoadKit.acmp (g := (mkF m 4 #[.val (.ref ao)] [(.ref s_A), (.ref ao)])) X1 hx rfl rfl rfl (pc0 := 4) (pc' := 7) (same := true) rfl (hb hby d1_4) rfl (decide_eq_true (congrArg Value.ref hc4_2)) (by decide) (by decide) k_) ?_
      obtain ⟨T6, X6, e6, st6⟩ := getS2 X1 hx hZ hown (host := "") (Or.inl (hw _ (List.mem_of_getElem? (i := 9) rfl))) Via.refl e1 (S_B.ext OL.2) (g := (mkF m 7 #[.val (.ref ao)] [])) rfl (hb hby d1_7)
      refine own_Goes.via (T' := T6) (g' := (mkF m 10 #[.val (.ref ao)] [(.ref s_B)])) (st6) ?_
      refine own_Goes.via (T' := T6) (g' := (mkF m 16 #[.val (.ref ao)] [(.ref s_B)])) (fun t_ k_ => XS.goto X6.here hx rfl (pc0 := 10) (pc' := 16) rfl (hb hby d1_10) (by decide) (by decide) k_) ?_
      exact J16_5 T6 _ X6 e6 N0 s_B ((if_pos hc4_2)).symm
    · refine own_Goes.via (T' := T1) (g' := (mkF m 13 #[.val (.ref ao)] [])) (fun t_ k_ => Jvm.RoadKit.acmp (g := (mkF m 4 #[.val (.ref ao)] [(.ref s_A), (.ref ao)])) X1 hx rfl rfl rfl (pc0 := 4) (pc' := 13) (same := false) rfl (hb hby d1_4) rfl (decide_eq_false fun q => hc4_2 (Value.ref.inj q)) (by decide) (by decide) k_) ?_
      obtain ⟨T7, X7, e7, st7⟩ := getS2 X1 hx hZ hown (host := "") (Or.inl (hw _ (List.mem_of_getElem? (i := 8) rfl))) Via.refl e1 (S_A.ext OL.2) (g := (mkF m 13 #[.val (.ref ao)] [])) rfl (hb hby d1_13)
      refine own_Goes.via (T' := T7) (g' := (mkF m 16 #[.val (.ref ao)] [(.ref s_A)])) (st7) ?_
      exact J16_5 T7 _ X7 e7 N0 s_A ((if_neg hc4_2)).symm
  intro T4 L4 X4 e4 N4 v16_3 hv16_3
  obtain ⟨fs, hr, hrun, hended, hW, hsame⟩ := X4.leave (v := some (.ref v16_3)) (fun h => by rw [Bd.returns] at h; cases h)
  refine own_Goes.fin (retOut X4 hx Bd.returns rfl (Or.inr (Or.inr (Or.inr (Or.inr ⟨rfl, rfl, rfl⟩)))) (hb hby d1_16) hr) hrun hended ?_
  subst hPd
  refine ⟨_, _, rfl, ?_, ⟨_, rfl⟩, hW, hsame.mono (by decide) (by decide)⟩
  show Q1 Z ao s_A s_B xr h0 n0 _ T4.heap _
  rw [e4]
  exact ⟨(by subst_vars; rfl), N4, rfl⟩
theorem pn_0 : plainName "com/example/wattfold/wattfold/core/HalfOtherPinLaw" = true := by first | (simp [plainName, overriddenIn]; done) | decide +kernel
theorem pd_0_0 : parseMethodDescriptor "()Lcom/example/wattfold/wattfold/core/Vm$Half;" = some ⟨[], some (.object "com/example/wattfold/wattfold/core/Vm$Half")⟩ := by decide +kernel
theorem ef_0 (m : MethodId) (xx : Int32) : entryFrame m #[(.int xx)] maxLocals = mkF m 0 #[.val (.int xx), .unset, .unset] [] := by first | (simp [entryFrame, mkF, argsToLocals, Value.category, maxLocals]; done) | rfl
def Q0 (Z : State) (xx : Int32) (s_A : Addr) (s_B : Addr) (h0 : Heap) (n0 : Nat) (v : Option Value) (h : Heap) (L : List Loc) : Prop := v = some (.int 1) ∧ Fr n0 L
set_option maxRecDepth 65536 in
set_option maxHeartbeats 40000000 in
theorem rm0 (l : Launch) (Z : State) (a0 : Array Value) (hw : ∀ d ∈ tables_1, d.before a0 Z = true) (ws : List Jvm.Cond) (xx : Int32) (s_A : Addr) (s_B : Addr) (h0 : Heap) (n0 : Nat) (Z0 : n0 ≤ h0.size) (OL : Old Z n0 h0) (S_A : Sta Z Z.heap "com/example/wattfold/wattfold/core/Vm$Half" "A" "Lcom/example/wattfold/wattfold/core/Vm$Half;" (.ref s_A)) (S_B : Sta Z Z.heap "com/example/wattfold/wattfold/core/Vm$Half" "B" "Lcom/example/wattfold/wattfold/core/Vm$Half;" (.ref s_B)) (E_A : Exa Z Z.heap s_A "com/example/wattfold/wattfold/core/Vm$Half") (E_B : Exa Z Z.heap s_B "com/example/wattfold/wattfold/core/Vm$Half") (n_A_B : s_A ≠ s_B) :
    MetFree l x (head1 (Jvm.Cond.code x code maxLocals ret :: ws) room_1) (fun a U => a = #[(.int xx)] ∧ Z.Warmed39 U.vm ∧ U.heap = h0) (fun _ _ _ _ _ => True) (fun _ U o U' => ∃ v L, o = .returned v ∧ Q0 Z xx s_A s_B h0 n0 v U'.heap L ∧ FrameEnd U o U' L 0 0) := by
  refine MetFree.of_bodySF (plainFor_of_name pn_0) hisR ?_
  intro p e s m args below meth c s₁ Bd hml0 hP hK
  obtain ⟨rfl, hZ, hh⟩ := hP
  have hx := Bd.exec
  have hby := Bd.bytes
  have hml : c.maxLocals = 3 := hml0
  have hown : s.vm.findClass "com/example/wattfold/wattfold/core/HalfOtherPinLaw" = some m.cls := findClass_of_methodNamed Bd.named
  have hnm := (name_of_methodNamed Bd.named Bd.method).1
  have X0 : Stand p l e room_1 s m #[(.int xx)] below meth c s₁ [] 0 0 := Stand.of_body Bd
  have e0 : s₁.heap = h0 := by rw [← hh, Bd.state]; rfl
  have N0 := Fr.nil n0
  suffices G : own_Goes p.tables e below (fun o U' => ∃ v L, o = .returned v ∧ Q0 Z xx s_A s_B h0 n0 v U'.heap L ∧ FrameEnd s o U' L 0 0) s₁ (mkF m 0 #[.val (.int xx), .unset, .unset] []) by
    obtain ⟨t2_, o2_, z1_, z2_, z3_, z4_⟩ := G
    exact ⟨t2_, o2_, castTop (ef_0 m xx) z1_, z2_, z3_, z4_⟩
  generalize hPd : (fun (o : Outcome) (U' : State) => ∃ v L, o = .returned v ∧ Q0 Z xx s_A s_B h0 n0 v U'.heap L ∧ FrameEnd s o U' L 0 0) = P
  have E1 : Exa Z h0 s_A "com/example/wattfold/wattfold/core/Vm$Half" := E_A.ext OL.2
  have E2 : Exa Z h0 s_B "com/example/wattfold/wattfold/core/Vm$Half" := E_B.ext OL.2
  refine own_Goes.via (T' := s₁) (g' := (mkF m 1 #[.val (.int xx), .unset, .unset] [(.int xx)])) (fun t_ k_ => XS.iloadN X0.here hx rfl (hb hby at_0) rfl k_) ?_
  refine own_Goes.via (T' := s₁) (g' := (mkF m 2 #[.val (.int xx), .unset, .unset] [(.int (1 : Int32)), (.int xx)])) (fun t_ k_ => XS.iconst X0.here hx rfl (hb hby at_1) k_) ?_
  refine own_Goes.via (T' := s₁) (g' := (mkF m 3 #[.val (.int xx), .unset, .unset] [(.int (xx &&& (1 : Int32)))])) (fun t_ k_ => XS.iand X0.here hx rfl (hb hby at_2) rfl k_) ?_
  by_cases hc3_3 : (xx &&& (1 : Int32)) = (0 : Int32)
  · refine own_Goes.via (T' := s₁) (g' := (mkF m 6 #[.val (.int xx), .unset, .unset] [])) (fun t_ k_ => XS.ifNo X0.here hx rfl (hb hby at_3) rfl ((if0 _ _).trans (teq hc3_3).2) k_) ?_
    obtain ⟨T4, X4, e4, st4⟩ := getS2 X0 hx hZ hown (host := "") (Or.inl (hw _ (List.mem_of_getElem? (i := 0) rfl))) Via.refl e0 (S_A.ext OL.2) (g := (mkF m 6 #[.val (.int xx), .unset, .unset] [])) rfl (hb hby at_6)
    refine own_Goes.via (T' := T4) (g' := (mkF m 9 #[.val (.int xx), .unset, .unset] [(.ref s_A)])) (st4) ?_
    refine own_Goes.via (T' := T4) (g' := (mkF m 15 #[.val (.int xx), .unset, .unset] [(.ref s_A)])) (fun t_ k_ => XS.goto X4.here hx rfl (pc0 := 9) (pc' := 15) rfl (hb hby at_9) (by decide) (by decide) k_) ?_
    refine own_Goes.via (T' := T4) (g' := (mkF m 16 #[.val (.int xx), .val (.ref s_A), .unset] [])) (fun t_ k_ => XS.astoreN X4.here hx rfl (hb hby at_15) rfl rfl (l' := #[.val (.int xx), .val (.ref s_A), .unset]) rfl k_) ?_
    refine own_Goes.via (T' := T4) (g' := (mkF m 17 #[.val (.int xx), .val (.ref s_A), .unset] [(.ref s_A)])) (fun t_ k_ => XS.aloadN X4.here hx rfl (hb hby at_16) rfl rfl k_) ?_
    have cd17_6 : s_B = (if s_A = s_A then s_B else s_A) := (if_pos rfl).symm
    obtain ⟨cq5, kq5, q5a, q5b, q5c⟩ := isOf hZ e4 E1
    obtain ⟨_, _, ⟨T5, L5, k5, n5⟩, -, X5, ⟨Lc5, hQ5, l5, y5, z5⟩, st5⟩ := X4.virtualBack hx (y := (⟨"com/example/wattfold/wattfold/core/Vm$Half", "other", "()Lcom/example/wattfold/wattfold/core/Vm$Half;"⟩ : MethodName)) (z := (⟨"com/example/wattfold/wattfold/core/Vm$Half", "other", "()Lcom/example/wattfold/wattfold/core/Vm$Half;"⟩ : MethodName)) hown (mvT hZ (hw _ (List.mem_of_getElem? (i := 3) rfl))) (mvT hZ (hw _ (List.mem_of_getElem? (i := 4) rfl))) (notFace_of_selects (args := #[]) (mvT hZ (hw _ (List.mem_of_getElem? (i := 6) rfl)))) (mvT hZ (hw _ (List.mem_of_getElem? (i := 6) rfl))) (mvT hZ (hw _ (List.mem_of_getElem? (i := 5) rfl))) (by decide) (backOf (W := 0) (rm1 l Z a0 hw [] s_A s_A s_B s_B h0 n0 Z0 OL cd17_6 S_A S_B) hZ (hw _ (List.mem_of_getElem? (i := 7) rfl)) (hw _ (List.mem_of_getElem? (i := 1) rfl)) (by decide) (by decide)) q5a q5c (g := (mkF m 17 #[.val (.int xx), .val (.ref s_A), .unset] [(.ref s_A)])) rfl (by rw [hml]; rfl) (Steps.refl _) (argsL := []) (rest := []) (lenOf pd_0_0 rfl) rfl (by show 2 * 0 + _ ≤ _; exact Nat.le_of_eq rfl) (hb hby at_17) (fun _ _ => ⟨rfl, e4, (by decide : 0 + 0 ≤ _), (by decide : 0 + 0 ≤ _)⟩)
    dsimp only [Pt.U, Pt.locs, Pt.cells, Pt.slots] at X5 l5 y5 z5 st5 hQ5
    subst l5 y5 z5
    obtain ⟨rfl, Nq5, hh5⟩ := hQ5
    have N5 := Fr.app N0 Nq5
    refine own_Goes.via (T' := T5) (g' := (mkF m 20 #[.val (.int xx), .val (.ref s_A), .unset] [(.ref s_B)])) (fun t_ k_ => st5.trans k_) ?_
    refine own_Goes.via (T' := T5) (g' := (mkF m 21 #[.val (.int xx), .val (.ref s_A), .val (.ref s_B)] [])) (fun t_ k_ => XS.astoreN X5.here hx rfl (hb hby at_20) rfl rfl (l' := #[.val (.int xx), .val (.ref s_A), .val (.ref s_B)]) rfl k_) ?_
    refine own_Goes.via (T' := T5) (g' := (mkF m 22 #[.val (.int xx), .val (.ref s_A), .val (.ref s_B)] [(.ref s_B)])) (fun t_ k_ => XS.aloadN X5.here hx rfl (hb hby at_21) rfl rfl k_) ?_
    refine own_Goes.via (T' := T5) (g' := (mkF m 27 #[.val (.int xx), .val (.ref s_A), .val (.ref s_B)] [])) (fun t_ k_ => XS.ifnonnullYes X5.here hx rfl (pc0 := 22) (pc' := 27) rfl (hb hby at_22) rfl (by decide) (by decide) k_) ?_
    refine own_Goes.via (T' := T5) (g' := (mkF m 28 #[.val (.int xx), .val (.ref s_A), .val (.ref s_B)] [(.ref s_B)])) (fun t_ k_ => XS.aloadN X5.here hx rfl (hb hby at_27) rfl rfl k_) ?_
    refine own_Goes.via (T' := T5) (g' := (mkF m 29 #[.val (.int xx), .val (.ref s_A), .val (.ref s_B)] [(.ref s_A), (.ref s_B)])) (fun t_ k_ => XS.aloadN X5.here hx rfl (hb hby at_28) rfl rfl k_) ?_
    refine own_Goes.via (T' := T5) (g' := (mkF m 34 #[.val (.int xx), .val (.ref s_A), .val (.ref s_B)] [])) (fun t_ k_ => Jvm.RoadKit.acmp (g := (mkF m 29 #[.val (.int xx), .val (.ref s_A), .val (.ref s_B)] [(.ref s_A), (.ref s_B)])) X5 hx rfl rfl rfl (pc0 := 29) (pc' := 34) (same := false) rfl (hb hby at_29) rfl (decide_eq_false fun q => (Ne.symm n_A_B) (Value.ref.inj q)) (by decide) (by decide) k_) ?_
    refine own_Goes.via (T' := T5) (g' := (mkF m 35 #[.val (.int xx), .val (.ref s_A), .val (.ref s_B)] [(.ref s_B)])) (fun t_ k_ => XS.aloadN X5.here hx rfl (hb hby at_34) rfl rfl k_) ?_
    have cd35_8 : s_A = (if s_B = s_A then s_B else s_A) := (if_neg (Ne.symm n_A_B)).symm
    obtain ⟨cq7, kq7, q7a, q7b, q7c⟩ := isOf hZ hh5 E2
    obtain ⟨_, _, ⟨T7, L7, k7, n7⟩, -, X7, ⟨Lc7, hQ7, l7, y7, z7⟩, st7⟩ := X5.virtualBack hx (y := (⟨"com/example/wattfold/wattfold/core/Vm$Half", "other", "()Lcom/example/wattfold/wattfold/core/Vm$Half;"⟩ : MethodName)) (z := (⟨"com/example/wattfold/wattfold/core/Vm$Half", "other", "()Lcom/example/wattfold/wattfold/core/Vm$Half;"⟩ : MethodName)) hown (mvT hZ (hw _ (List.mem_of_getElem? (i := 3) rfl))) (mvT hZ (hw _ (List.mem_of_getElem? (i := 4) rfl))) (notFace_of_selects (args := #[]) (mvT hZ (hw _ (List.mem_of_getElem? (i := 6) rfl)))) (mvT hZ (hw _ (List.mem_of_getElem? (i := 6) rfl))) (mvT hZ (hw _ (List.mem_of_getElem? (i := 5) rfl))) (by decide) (backOf (W := 0) (rm1 l Z a0 hw [] s_B s_A s_B s_A h0 n0 Z0 OL cd35_8 S_A S_B) hZ (hw _ (List.mem_of_getElem? (i := 7) rfl)) (hw _ (List.mem_of_getElem? (i := 1) rfl)) (by decide) (by decide)) q7a q7c (g := (mkF m 35 #[.val (.int xx), .val (.ref s_A), .val (.ref s_B)] [(.ref s_B)])) rfl (by rw [hml]; rfl) (Steps.refl _) (argsL := []) (rest := []) (lenOf pd_0_0 rfl) rfl (by show 2 * 0 + _ ≤ _; exact Nat.le_of_eq rfl) (hb hby at_35) (fun _ _ => ⟨rfl, hh5, (by decide : 0 + 0 ≤ _), (by decide : 0 + 0 ≤ _)⟩)
    dsimp only [Pt.U, Pt.locs, Pt.cells, Pt.slots] at X7 l7 y7 z7 st7 hQ7
    subst l7 y7 z7
    obtain ⟨rfl, Nq7, hh7⟩ := hQ7
    have N7 := Fr.app N5 Nq7
    refine own_Goes.via (T' := T7) (g' := (mkF m 38 #[.val (.int xx), .val (.ref s_A), .val (.ref s_B)] [(.ref s_A)])) (fun t_ k_ => st7.trans k_) ?_
    refine own_Goes.via (T' := T7) (g' := (mkF m 39 #[.val (.int xx), .val (.ref s_A), .val (.ref s_B)] [(.ref s_A), (.ref s_A)])) (fun t_ k_ => XS.aloadN X7.here hx rfl (hb hby at_38) rfl rfl k_) ?_
    refine own_Goes.via (T' := T7) (g' := (mkF m 42 #[.val (.int xx), .val (.ref s_A), .val (.ref s_B)] [])) (fun t_ k_ => Jvm.RoadKit.acmp (g := (mkF m 39 #[.val (.int xx), .val (.ref s_A), .val (.ref s_B)] [(.ref s_A), (.ref s_A)])) X7 hx rfl rfl rfl (pc0 := 39) (pc' := 42) (same := true) rfl (hb hby at_39) rfl (decide_eq_true rfl) (by decide) (by decide) k_) ?_
    refine own_Goes.via (T' := T7) (g' := (mkF m 43 #[.val (.int xx), .val (.ref s_A), .val (.ref s_B)] [(.int (1 : Int32))])) (fun t_ k_ => XS.iconst X7.here hx rfl (hb hby at_42) k_) ?_
    refine own_Goes.via (T' := T7) (g' := (mkF m 47 #[.val (.int xx), .val (.ref s_A), .val (.ref s_B)] [(.int (1 : Int32))])) (fun t_ k_ => XS.goto X7.here hx rfl (pc0 := 43) (pc' := 47) rfl (hb hby at_43) (by decide) (by decide) k_) ?_
    obtain ⟨fs, hr, hrun, hended, hW, hsame⟩ := X7.leave (v := some (.int 1)) (fun h => by rw [Bd.returns] at h; cases h)
    refine own_Goes.fin (retN X7 hx (t := .boolean) Bd.returns (by simp) (hb hby at_47) hr) hrun hended ?_
    subst hPd
    refine ⟨_, _, rfl, ?_, ⟨_, rfl⟩, hW, hsame.mono (by decide) (by decide)⟩
    show Q0 Z xx s_A s_B h0 n0 _ T7.heap _
    rw [hh7]
    exact ⟨rfl, N7⟩
  · refine own_Goes.via (T' := s₁) (g' := (mkF m 12 #[.val (.int xx), .unset, .unset] [])) (fun t_ k_ => XS.ifYes X0.here hx rfl (pc0 := 3) (pc' := 12) rfl (hb hby at_3) rfl ((if0 _ _).trans (feq hc3_3).2) (by decide) (by decide) k_) ?_
    obtain ⟨T9, X9, e9, st9⟩ := getS2 X0 hx hZ hown (host := "") (Or.inl (hw _ (List.mem_of_getElem? (i := 11) rfl))) Via.refl e0 (S_B.ext OL.2) (g := (mkF m 12 #[.val (.int xx), .unset, .unset] [])) rfl (hb hby at_12)
    refine own_Goes.via (T' := T9) (g' := (mkF m 15 #[.val (.int xx), .unset, .unset] [(.ref s_B)])) (st9) ?_
    refine own_Goes.via (T' := T9) (g' := (mkF m 16 #[.val (.int xx), .val (.ref s_B), .unset] [])) (fun t_ k_ => XS.astoreN X9.here hx rfl (hb hby at_15) rfl rfl (l' := #[.val (.int xx), .val (.ref s_B), .unset]) rfl k_) ?_
    refine own_Goes.via (T' := T9) (g' := (mkF m 17 #[.val (.int xx), .val (.ref s_B), .unset] [(.ref s_B)])) (fun t_ k_ => XS.aloadN X9.here hx rfl (hb hby at_16) rfl rfl k_) ?_
    have cd17_11 : s_A = (if s_B = s_A then s_B else s_A) := (if_neg (Ne.symm n_A_B)).symm
    obtain ⟨cq10, kq10, q10a, q10b, q10c⟩ := isOf hZ e9 E2
    obtain ⟨_, _, ⟨T10, L10, k10, n10⟩, -, X10, ⟨Lc10, hQ10, l10, y10, z10⟩, st10⟩ := X9.virtualBack hx (y := (⟨"com/example/wattfold/wattfold/core/Vm$Half", "other", "()Lcom/example/wattfold/wattfold/core/Vm$Half;"⟩ : MethodName)) (z := (⟨"com/example/wattfold/wattfold/core/Vm$Half", "other", "()Lcom/example/wattfold/wattfold/core/Vm$Half;"⟩ : MethodName)) hown (mvT hZ (hw _ (List.mem_of_getElem? (i := 3) rfl))) (mvT hZ (hw _ (List.mem_of_getElem? (i := 4) rfl))) (notFace_of_selects (args := #[]) (mvT hZ (hw _ (List.mem_of_getElem? (i := 6) rfl)))) (mvT hZ (hw _ (List.mem_of_getElem? (i := 6) rfl))) (mvT hZ (hw _ (List.mem_of_getElem? (i := 5) rfl))) (by decide) (backOf (W := 0) (rm1 l Z a0 hw [] s_B s_A s_B s_A h0 n0 Z0 OL cd17_11 S_A S_B) hZ (hw _ (List.mem_of_getElem? (i := 7) rfl)) (hw _ (List.mem_of_getElem? (i := 1) rfl)) (by decide) (by decide)) q10a q10c (g := (mkF m 17 #[.val (.int xx), .val (.ref s_B), .unset] [(.ref s_B)])) rfl (by rw [hml]; rfl) (Steps.refl _) (argsL := []) (rest := []) (lenOf pd_0_0 rfl) rfl (by show 2 * 0 + _ ≤ _; exact Nat.le_of_eq rfl) (hb hby at_17) (fun _ _ => ⟨rfl, e9, (by decide : 0 + 0 ≤ _), (by decide : 0 + 0 ≤ _)⟩)
    dsimp only [Pt.U, Pt.locs, Pt.cells, Pt.slots] at X10 l10 y10 z10 st10 hQ10
    subst l10 y10 z10
    obtain ⟨rfl, Nq10, hh10⟩ := hQ10
    have N10 := Fr.app N0 Nq10
    refine own_Goes.via (T' := T10) (g' := (mkF m 20 #[.val (.int xx), .val (.ref s_B), .unset] [(.ref s_A)])) (fun t_ k_ => st10.trans k_) ?_
    refine own_Goes.via (T' := T10) (g' := (mkF m 21 #[.val (.int xx), .val (.ref s_B), .val (.ref s_A)] [])) (fun t_ k_ => XS.astoreN X10.here hx rfl (hb hby at_20) rfl rfl (l' := #[.val (.int xx), .val (.ref s_B), .val (.ref s_A)]) rfl k_) ?_
    refine own_Goes.via (T' := T10) (g' := (mkF m 22 #[.val (.int xx), .val (.ref s_B), .val (.ref s_A)] [(.ref s_A)])) (fun t_ k_ => XS.aloadN X10.here hx rfl (hb hby at_21) rfl rfl k_) ?_
    refine own_Goes.via (T' := T10) (g' := (mkF m 27 #[.val (.int xx), .val (.ref s_B), .val (.ref s_A)] [])) (fun t_ k_ => XS.ifnonnullYes X10.here hx rfl (pc0 := 22) (pc' := 27) rfl (hb hby at_22) rfl (by decide) (by decide) k_) ?_
    refine own_Goes.via (T' := T10) (g' := (mkF m 28 #[.val (.int xx), .val (.ref s_B), .val (.ref s_A)] [(.ref s_A)])) (fun t_ k_ => XS.aloadN X10.here hx rfl (hb hby at_27) rfl rfl k_) ?_
    refine own_Goes.via (T' := T10) (g' := (mkF m 29 #[.val (.int xx), .val (.ref s_B), .val (.ref s_A)] [(.ref s_B), (.ref s_A)])) (fun t_ k_ => XS.aloadN X10.here hx rfl (hb hby at_28) rfl rfl k_) ?_
    refine own_Goes.via (T' := T10) (g' := (mkF m 34 #[.val (.int xx), .val (.ref s_B), .val (.ref s_A)] [])) (fun t_ k_ => Jvm.RoadKit.acmp (g := (mkF m 29 #[.val (.int xx), .val (.ref s_B), .val (.ref s_A)] [(.ref s_B), (.ref s_A)])) X10 hx rfl rfl rfl (pc0 := 29) (pc' := 34) (same := false) rfl (hb hby at_29) rfl (decide_eq_false fun q => n_A_B (Value.ref.inj q)) (by decide) (by decide) k_) ?_
    refine own_Goes.via (T' := T10) (g' := (mkF m 35 #[.val (.int xx), .val (.ref s_B), .val (.ref s_A)] [(.ref s_A)])) (fun t_ k_ => XS.aloadN X10.here hx rfl (hb hby at_34) rfl rfl k_) ?_
    have cd35_13 : s_B = (if s_A = s_A then s_B else s_A) := (if_pos rfl).symm
    obtain ⟨cq12, kq12, q12a, q12b, q12c⟩ := isOf hZ hh10 E1
    obtain ⟨_, _, ⟨T12, L12, k12, n12⟩, -, X12, ⟨Lc12, hQ12, l12, y12, z12⟩, st12⟩ := X10.virtualBack hx (y := (⟨"com/example/wattfold/wattfold/core/Vm$Half", "other", "()Lcom/example/wattfold/wattfold/core/Vm$Half;"⟩ : MethodName)) (z := (⟨"com/example/wattfold/wattfold/core/Vm$Half", "other", "()Lcom/example/wattfold/wattfold/core/Vm$Half;"⟩ : MethodName)) hown (mvT hZ (hw _ (List.mem_of_getElem? (i := 3) rfl))) (mvT hZ (hw _ (List.mem_of_getElem? (i := 4) rfl))) (notFace_of_selects (args := #[]) (mvT hZ (hw _ (List.mem_of_getElem? (i := 6) rfl)))) (mvT hZ (hw _ (List.mem_of_getElem? (i := 6) rfl))) (mvT hZ (hw _ (List.mem_of_getElem? (i := 5) rfl))) (by decide) (backOf (W := 0) (rm1 l Z a0 hw [] s_A s_A s_B s_B h0 n0 Z0 OL cd35_13 S_A S_B) hZ (hw _ (List.mem_of_getElem? (i := 7) rfl)) (hw _ (List.mem_of_getElem? (i := 1) rfl)) (by decide) (by decide)) q12a q12c (g := (mkF m 35 #[.val (.int xx), .val (.ref s_B), .val (.ref s_A)] [(.ref s_A)])) rfl (by rw [hml]; rfl) (Steps.refl _) (argsL := []) (rest := []) (lenOf pd_0_0 rfl) rfl (by show 2 * 0 + _ ≤ _; exact Nat.le_of_eq rfl) (hb hby at_35) (fun _ _ => ⟨rfl, hh10, (by decide : 0 + 0 ≤ _), (by decide : 0 + 0 ≤ _)⟩)
    dsimp only [Pt.U, Pt.locs, Pt.cells, Pt.slots] at X12 l12 y12 z12 st12 hQ12
    subst l12 y12 z12
    obtain ⟨rfl, Nq12, hh12⟩ := hQ12
    have N12 := Fr.app N10 Nq12
    refine own_Goes.via (T' := T12) (g' := (mkF m 38 #[.val (.int xx), .val (.ref s_B), .val (.ref s_A)] [(.ref s_B)])) (fun t_ k_ => st12.trans k_) ?_
    refine own_Goes.via (T' := T12) (g' := (mkF m 39 #[.val (.int xx), .val (.ref s_B), .val (.ref s_A)] [(.ref s_B), (.ref s_B)])) (fun t_ k_ => XS.aloadN X12.here hx rfl (hb hby at_38) rfl rfl k_) ?_
    refine own_Goes.via (T' := T12) (g' := (mkF m 42 #[.val (.int xx), .val (.ref s_B), .val (.ref s_A)] [])) (fun t_ k_ => Jvm.RoadKit.acmp (g := (mkF m 39 #[.val (.int xx), .val (.ref s_B), .val (.ref s_A)] [(.ref s_B), (.ref s_B)])) X12 hx rfl rfl rfl (pc0 := 39) (pc' := 42) (same := true) rfl (hb hby at_39) rfl (decide_eq_true rfl) (by decide) (by decide) k_) ?_
    refine own_Goes.via (T' := T12) (g' := (mkF m 43 #[.val (.int xx), .val (.ref s_B), .val (.ref s_A)] [(.int (1 : Int32))])) (fun t_ k_ => XS.iconst X12.here hx rfl (hb hby at_42) k_) ?_
    refine own_Goes.via (T' := T12) (g' := (mkF m 47 #[.val (.int xx), .val (.ref s_B), .val (.ref s_A)] [(.int (1 : Int32))])) (fun t_ k_ => XS.goto X12.here hx rfl (pc0 := 43) (pc' := 47) rfl (hb hby at_43) (by decide) (by decide) k_) ?_
    obtain ⟨fs, hr, hrun, hended, hW, hsame⟩ := X12.leave (v := some (.int 1)) (fun h => by rw [Bd.returns] at h; cases h)
    refine own_Goes.fin (retN X12 hx (t := .boolean) Bd.returns (by simp) (hb hby at_47) hr) hrun hended ?_
    subst hPd
    refine ⟨_, _, rfl, ?_, ⟨_, rfl⟩, hW, hsame.mono (by decide) (by decide)⟩
    show Q0 Z xx s_A s_B h0 n0 _ T12.heap _
    rw [hh12]
    exact ⟨rfl, N12⟩
set_option maxRecDepth 65536 in
set_option maxHeartbeats 40000000 in
theorem comes_1 {Post : Tables → Env → Array Value → State → Outcome → State → Prop} (hpost : ∀ tb e args s v u, (limb_1_1.after args s (.returned v) u = true ∧ limb_1_2.after args s (.returned v) u = true ∧ True) → FrameEnd s (.returned v) u (Jvm.fieldLocs frame_1_writes args s ++ Jvm.arrayLocs frame_1_arrays args s ++ Jvm.staticLocs frame_1_statics s) 0 0 → Post tb e args s (.returned v) u) :
    ArmFor flags0 classFile x code maxLocals ret World_1 tables_1 room_1 Calls_1 rest_1 Pre_1 Post := by
  intro l hfl _ _ p e ha hc hk s m args below hf hA hF happ hP
  obtain ⟨hcalls, hrest, hpre⟩ := hP
  obtain ⟨-, -, -, hnamed, -, -, -, hat⟩ := (Spec.applies_iff hf).mp happ
  obtain ⟨hg, hn⟩ := and_e (Cond.before_iff.mp (show (Jvm.Cond.and given_1 narrow_1).before args s = true from hpre))
  obtain ⟨g1, g2⟩ := and_e hg
  obtain ⟨w0, rfl⟩ : ∃ w0 : Value, args = #[w0] := by
    have hs : args.size = 1 := by simpa [Cond.value, given_1] using g1
    obtain ⟨L⟩ := args
    match L, hs with
    | [w0], _ => exact ⟨w0, rfl⟩
  have hw := fun d (hd : d ∈ tables_1) => atoms_spec (ws := Jvm.Cond.code x code maxLocals ret :: tables_1) hat d (List.mem_cons_of_mem _ hd)
  have hfit : Fit s := fun {y c} hc i hi => by
    obtain ⟨ha, rfl⟩ := Array.getElem?_eq_some_iff.mp hc
    have q := List.all_eq_true.mp ((Array.all_eq_true_iff_forall_mem.mp hF) _ (Array.getElem_mem ha)) i (List.mem_range.mpr hi)
    simpa [Array.getElem?_eq_getElem hi] using q
  obtain ⟨i0, ei0⟩ := is_v g2
  obtain rfl : w0 = (.int i0) := Option.some.inj ei0
  obtain ⟨n1, n2⟩ := and_e hn
  obtain ⟨n3, n4⟩ := and_e n2
  obtain ⟨n5, n6⟩ := and_e n4
  obtain ⟨s_A, ev_A⟩ := exa_v n1
  have S_A : Sta s s.heap "com/example/wattfold/wattfold/core/Vm$Half" "A" "Lcom/example/wattfold/wattfold/core/Vm$Half;" (.ref s_A) := Sta.start ev_A (Or.inr ⟨(hw _ (List.mem_of_getElem? (i := 1) rfl)), (hw _ (List.mem_of_getElem? (i := 2) rfl))⟩)
  have E_A : Exa s s.heap s_A "com/example/wattfold/wattfold/core/Vm$Half" := Exa.start ev_A n1
  have F_A_ordinal : Fld s s.heap s_A "java/lang/Enum" "ordinal" "I" (.int (0 : Int32)) := Fld.start ((fld_at ev_A).symm.trans (own_eqInt n6))
  obtain ⟨s_B, ev_B⟩ := exa_v n3
  have S_B : Sta s s.heap "com/example/wattfold/wattfold/core/Vm$Half" "B" "Lcom/example/wattfold/wattfold/core/Vm$Half;" (.ref s_B) := Sta.start ev_B (Or.inr ⟨(hw _ (List.mem_of_getElem? (i := 1) rfl)), (hw _ (List.mem_of_getElem? (i := 10) rfl))⟩)
  have E_B : Exa s s.heap s_B "com/example/wattfold/wattfold/core/Vm$Half" := Exa.start ev_B n3
  have F_B_ordinal : Fld s s.heap s_B "java/lang/Enum" "ordinal" "I" (.int (1 : Int32)) := Fld.start ((fld_at ev_B).symm.trans (own_eqInt n5))
  have n_A_B : s_A ≠ s_B := Fld.ne F_A_ordinal F_B_ordinal (fun q => absurd (Value.int.inj q) (by decide))
  obtain ⟨n, o, h1, h2, h3, _, L, rfl, ⟨rfl, N⟩, hq⟩ := rm0 l s _ hw tables_1 i0 s_A s_B s.heap s.heap.size (Nat.le_refl _) (Old.start s) S_A S_B E_A E_B n_A_B p e ha hc hk s m _ below hf ((Spec.applies_iff_loose hf).mp happ).1 ⟨rfl, State.Warmed39.refl s, rfl⟩ trivial
  refine ⟨n, _, h1, h2, h3, hpost _ _ _ _ _ _ ⟨Cond.after_iff.mpr rfl, Cond.after_iff.mpr (eq_i res_at (Term.int_eval (1)) rfl), trivial⟩ ⟨hq.1, hq.2.1, (hq.2.2.sift fun y hy => Or.inr (N y hy)).mono (by decide) (by decide)⟩⟩
theorem main_1_1 : Claimed_1_1 := comes_1 fun _ _ _ _ _ _ h hF => ⟨h.1, hF⟩
theorem main_1_2 : Claimed_1_2 := comes_1 fun _ _ _ _ _ _ h hF => ⟨h.2.1, hF⟩
end Jvm.Pilot.@@N@@
namespace Jvm.Pilot.@@N@@
open Jvm Jvm.ClassFile Sem Op Lib Jvm.Free Jvm.Stand Jvm.Pilot.@@N@@.Jvm.D
/-! MADE BY PROGRAM (witnessworld.py) out of the Statement's table words and the real class files: 12 classes; the members and pool entries that the words name. The judged class is class 1, her method 1. -/
namespace start1
open Jvm.ClassFile
def u (s : String) : CpInfo := .utf8 (stringToUtf16 s)
/-- a pool by its gaps: so many unusable entries, then the entry; so many at the end -/
def gap : Nat → List CpInfo → List CpInfo
  | 0, r => r
  | n + 1, r => .unusable :: gap n r
def poolList (es : List (Nat × CpInfo)) (last : Nat) : List CpInfo := es.foldr (fun e r => gap e.1 (e.2 :: r)) (gap last [])
def pool (es : List (Nat × CpInfo)) (last : Nat) : Array CpInfo := ⟨poolList es last⟩
def fileOf (pool : Array CpInfo) (this : Nat) (attrs : Array Attribute := #[]) (ms : Array MethodInfo := #[]) (fl : Nat := 33) (sup : Nat := 0) (ifs : Array Nat := #[]) (fds : Array FieldInfo := #[]) : ClassFile where
  minorVersion := 0
  majorVersion := 65
  constantPool := pool
  accessFlags := fl
  thisClass := this
  superClass := sup
  interfaces := ifs
  fields := fds
  methods := ms
  attributes := attrs
def plain (name : String) (sup : Option ClassId) : Class where
  name := name
  kind := .ordinary
  loader := none
  accessFlags := 33
  super := sup
  interfaces := #[]
  cf := none
  fields := #[]
  methods := #[]
  instanceTypes := #[]
  staticTypes := #[]
  resolved := #[]
  callSites := []
  init := .initialized
  statics := none
  mirror := none

def pool0 : Array CpInfo := pool [(5, u "<init>"), (0, u "()V"), (1, .class_ 10), (1, u "java/lang/Object")] 113

def k0m0 : Method := { name := "<init>", desc := "()V", sig := { parameters := [], returnType := none }, accessFlags := 1, code := none }
/-- java/lang/Object -/
def k0 : Class := { plain "java/lang/Object" none with
  accessFlags := 33
  interfaces := #[]
  cf := some (fileOf pool0 8 #[] #[{ accessFlags := 1, nameIndex := 5, descriptorIndex := 6, attributes := #[] }] 33 0 #[] #[])
  fields := #[]
  methods := #[k0m0]
  instanceTypes := #[]
  staticTypes := #[]
  resolved := Array.replicate 124 none
  statics := none }

def pool1 : Array CpInfo := pool [(2, .class_ 4), (1, u "java/lang/Object"), (0, u "<init>"), (0, u "()V"), (0, .fieldref 8 9), (0, .class_ 10), (0, .nameAndType 11 12), (0, u "com/example/wattfold/wattfold/core/Vm$Half"), (0, u "A"), (0, u "Lcom/example/wattfold/wattfold/core/Vm$Half;"), (0, .fieldref 8 14), (0, .nameAndType 15 12), (0, u "B"), (0, .methodref 8 17), (0, .nameAndType 18 19), (0, u "other"), (0, u "()Lcom/example/wattfold/wattfold/core/Vm$Half;"), (0, .class_ 21), (0, u "com/example/wattfold/wattfold/core/HalfOtherPinLaw"), (2, u "law"), (0, u "(I)Z")] 7

def k1m0 : Method := { name := "<init>", desc := "()V", sig := { parameters := [], returnType := none }, accessFlags := 2, code := none }
def k1c1 : Code := { maxStack := 2, maxLocals := 3, code := code, exceptionTable := #[], attributes := #[] }
def k1m1 : Method := { name := "law", desc := "(I)Z", sig := { parameters := [.int], returnType := some .boolean }, accessFlags := 9, code := some k1c1 }
/-- com/example/wattfold/wattfold/core/HalfOtherPinLaw -/
def k1 : Class := { plain "com/example/wattfold/wattfold/core/HalfOtherPinLaw" (some 0) with
  accessFlags := 49
  interfaces := #[]
  cf := some (fileOf pool1 20 #[] #[{ accessFlags := 2, nameIndex := 5, descriptorIndex := 6, attributes := #[] }, { accessFlags := 9, nameIndex := 24, descriptorIndex := 25, attributes := #[] }] 49 2 #[] #[])
  fields := #[]
  methods := #[k1m0, k1m1]
  instanceTypes := #[]
  staticTypes := #[]
  resolved := Array.replicate 33 none
  statics := none }

def pool2 : Array CpInfo := pool [(1, .class_ 2), (0, u "java/lang/constant/Constable"), (0, .class_ 4), (0, u "java/lang/Object")] 6

/-- java/lang/constant/Constable -/
def k2 : Class := { plain "java/lang/constant/Constable" (some 0) with
  accessFlags := 1537
  interfaces := #[]
  cf := some (fileOf pool2 1 #[] #[] 1537 3 #[] #[])
  fields := #[]
  methods := #[]
  instanceTypes := #[]
  staticTypes := #[]
  resolved := Array.replicate 11 none
  statics := none }

def pool3 : Array CpInfo := pool [(1, .class_ 2), (0, u "java/lang/Comparable"), (0, .class_ 4), (0, u "java/lang/Object")] 7

/-- java/lang/Comparable -/
def k3 : Class := { plain "java/lang/Comparable" (some 0) with
  accessFlags := 1537
  interfaces := #[]
  cf := some (fileOf pool3 1 #[] #[] 1537 3 #[] #[])
  fields := #[]
  methods := #[]
  instanceTypes := #[]
  staticTypes := #[]
  resolved := Array.replicate 12 none
  statics := none }

def pool4 : Array CpInfo := pool [(1, .class_ 2), (0, u "java/io/Serializable"), (0, .class_ 4), (0, u "java/lang/Object")] 2

/-- java/io/Serializable -/
def k4 : Class := { plain "java/io/Serializable" (some 0) with
  accessFlags := 1537
  interfaces := #[]
  cf := some (fileOf pool4 1 #[] #[] 1537 3 #[] #[])
  fields := #[]
  methods := #[]
  instanceTypes := #[]
  staticTypes := #[]
  resolved := Array.replicate 7 none
  statics := none }

def pool5 : Array CpInfo := pool [(2, .class_ 4), (1, u "java/lang/Enum"), (0, u "name"), (0, u "Ljava/lang/String;"), (2, u "ordinal"), (0, u "I"), (1, .class_ 14), (1, u "java/lang/Object"), (4, u "hash"), (86, .class_ 108), (1, u "java/lang/Enum$EnumDesc"), (2, .class_ 112), (0, u "java/lang/constant/Constable"), (0, .class_ 114), (0, u "java/lang/Comparable"), (0, .class_ 116), (0, u "java/io/Serializable")] 87

/-- java/lang/Enum -/
def k5 : Class := { plain "java/lang/Enum" (some 0) with
  accessFlags := 1057
  interfaces := #[2, 3, 4]
  cf := some (fileOf pool5 2 #[.nestMembers #[106]] #[] 1057 12 #[111, 113, 115] #[{ accessFlags := 18, nameIndex := 5, descriptorIndex := 6, attributes := #[] }, { accessFlags := 18, nameIndex := 9, descriptorIndex := 10, attributes := #[] }, { accessFlags := 2, nameIndex := 19, descriptorIndex := 10, attributes := #[] }])
  fields := #[{ name := "name", type := (.object "java/lang/String"), accessFlags := 18, slot := 0, constantValue := 0 }, { name := "ordinal", type := .int, accessFlags := 18, slot := 1, constantValue := 0 }, { name := "hash", type := .int, accessFlags := 2, slot := 2, constantValue := 0 }]
  methods := #[]
  instanceTypes := #[(.object "java/lang/String"), .int, .int]
  staticTypes := #[]
  resolved := Array.replicate 204 none
  statics := none }

def pool6 : Array CpInfo := pool [(1, .class_ 2), (0, u "com/example/wattfold/wattfold/core/Vm$Half"), (0, .fieldref 1 4), (0, .nameAndType 5 6), (0, u "A"), (0, u "Lcom/example/wattfold/wattfold/core/Vm$Half;"), (0, .fieldref 1 8), (0, .nameAndType 9 6), (0, u "B"), (2, u "$VALUES"), (0, u "[Lcom/example/wattfold/wattfold/core/Vm$Half;"), (6, .class_ 22), (1, u "java/lang/Enum"), (37, u "other"), (0, u "()Lcom/example/wattfold/wattfold/core/Vm$Half;"), (6, .class_ 69), (0, u "com/example/wattfold/wattfold/core/Vm")] 2

def k6c0 : Code := { maxStack := 2, maxLocals := 1, code := prog_29_method_5_code, exceptionTable := #[], attributes := #[] }
def k6m0 : Method := { name := "other", desc := "()Lcom/example/wattfold/wattfold/core/Vm$Half;", sig := { parameters := [], returnType := some (.object "com/example/wattfold/wattfold/core/Vm$Half") }, accessFlags := 0, code := some k6c0 }
/-- com/example/wattfold/wattfold/core/Vm$Half -/
def k6 : Class := { plain "com/example/wattfold/wattfold/core/Vm$Half" (some 5) with
  accessFlags := 16433
  interfaces := #[]
  cf := some (fileOf pool6 1 #[.nestHost 68] #[{ accessFlags := 0, nameIndex := 60, descriptorIndex := 61, attributes := #[] }] 16433 20 #[] #[{ accessFlags := 16409, nameIndex := 5, descriptorIndex := 6, attributes := #[] }, { accessFlags := 16409, nameIndex := 9, descriptorIndex := 6, attributes := #[] }, { accessFlags := 4122, nameIndex := 12, descriptorIndex := 13, attributes := #[] }])
  fields := #[{ name := "A", type := (.object "com/example/wattfold/wattfold/core/Vm$Half"), accessFlags := 16409, slot := 0, constantValue := 0 }, { name := "B", type := (.object "com/example/wattfold/wattfold/core/Vm$Half"), accessFlags := 16409, slot := 1, constantValue := 0 }, { name := "$VALUES", type := (.array (.object "com/example/wattfold/wattfold/core/Vm$Half")), accessFlags := 4122, slot := 2, constantValue := 0 }]
  methods := #[k6m0]
  instanceTypes := #[(.object "java/lang/String"), .int, .int]
  staticTypes := #[(.object "com/example/wattfold/wattfold/core/Vm$Half"), (.object "com/example/wattfold/wattfold/core/Vm$Half"), (.array (.object "com/example/wattfold/wattfold/core/Vm$Half"))]
  resolved := Array.replicate 72 none
  statics := some 0 }

def pool7 : Array CpInfo := pool [(1, u "java/lang/Cloneable"), (0, .class_ 1), (0, u "java/lang/Object"), (0, .class_ 3)] 3

/-- java/lang/Cloneable -/
def k7 : Class := { plain "java/lang/Cloneable" (some 0) with
  accessFlags := 1537
  interfaces := #[]
  cf := some (fileOf pool7 2 #[] #[] 1537 4 #[] #[])
  fields := #[]
  methods := #[]
  instanceTypes := #[]
  staticTypes := #[]
  resolved := Array.replicate 8 none
  statics := none }

/-- the primitive byte -/
def k8 : Class := { plain "byte" none with kind := .primitive 'B', accessFlags := 0x411 }
/-- [B -/
def k9 : Class := { plain "[B" (some 0) with kind := .array 8 .byte, interfaces := #[7, 4], accessFlags := 1041 }

/-- the primitive int -/
def k10 : Class := { plain "int" none with kind := .primitive 'I', accessFlags := 0x411 }
/-- [I -/
def k11 : Class := { plain "[I" (some 0) with kind := .array 10 .int, interfaces := #[7, 4], accessFlags := 1041 }

def heap : Heap := #[{ cls := 6, slots := #[.ref 1, .ref 2, .null], vm := .statics 6 },
  { cls := 6, slots := #[.null, .int 0, .int 0], vm := .none },
  { cls := 6, slots := #[.null, .int 1, .int 0], vm := .none }]
def classes : Array Class := #[k0, k1, k2, k3, k4, k5, k6, k7, k8, k9, k10, k11]
def interned : List (Array UInt16 × Addr) := []
def slotsUsed : Nat := 9
def theMethod : MethodId := ⟨1, 1⟩
def args0 : Array Value := #[.int 5]
def aboutOver (below : List Frame) : State where
  vm := { classes := classes, interned := interned.toArray }
  heap := heap
  slotsUsed := slotsUsed
  threads := #[{ frames := .invoking theMethod args0 :: below }]
def below0 : List Frame := [.native { method := ⟨0, 0⟩, args := #[] }]
def about1 : State := aboutOver below0
def p0 : Program := .bare "" "" ""
def e0 : Env := launch0.env 0 0 0
theorem w_frames : about1.frames = Frame.invoking theMethod args0 :: below0 := rfl
set_option maxRecDepth 65536 in
theorem w_args : argsFit about1.vm theMethod args0 = true := by decide +kernel
set_option maxRecDepth 65536 in
theorem w_heap : heapFits about1 = true := by decide +kernel
set_option maxRecDepth 65536 in
theorem w_runnable : about1.curStatus? = some .runnable := by decide +kernel
set_option maxRecDepth 65536 in
theorem w_alone : about1.alone = true := by decide +kernel
set_option maxRecDepth 65536 in
theorem w_named : about1.methodNamed? x = some theMethod := by decide +kernel
set_option maxRecDepth 65536 in
theorem w_hears : about1.hears theMethod below0 = true := by decide +kernel
set_option maxRecDepth 65536 in
theorem w_ripe : about1.ripe theMethod args0 below0 = true := by decide +kernel
theorem w_running : about1.status = .running := rfl
set_option maxRecDepth 65536 in
theorem w_room : about1.hasRoom e0.platform room_1 = true :=
  launch0.hasRoom_least _ room_1 (by decide +kernel) (by decide +kernel) (by decide +kernel) (by decide +kernel) (by decide +kernel) (by decide +kernel)
theorem allAtoms_all (ts : List Jvm.Cond) (a : Array Jvm.Value) (st : Jvm.State) : (allAtoms ts).before a st = ts.all (fun c => c.before a st) := by
  induction ts with
  | nil => rfl
  | cons c t ih =>
    show (Jvm.Cond.and c (allAtoms t)).before a st = _
    rw [Jvm.Cond.before_and, ih, List.all_cons]
def words1 : List Jvm.Cond := Jvm.Cond.code x code maxLocals ret :: tables_1
/-- a 'code' word, met by the world's own term for the bytes: nothing is compared byte by byte -/
theorem code_word {y : MethodName} {bytes : ByteArray} {mx : Nat} {rt : Option FieldType} {a : Array Value} {s : State} {m : MethodId} {meth : Method} {c : Code} (h1 : s.methodNamed? y = some m) (h2 : s.vm.method? m = some meth) (h3 : meth.code = some c) (h4 : c.code = bytes)
    (h5 : (c.maxLocals == mx && c.exceptionTable.isEmpty && decide (c.maxStack ≤ mostOperands) && decide (meth.sig.returnType = rt) && !meth.locks && decide (parseMethodDescriptor y.desc = some meth.sig)) = true) : (Jvm.Cond.code y bytes mx rt).before a s = true := by
  simp only [Bool.and_eq_true, beq_iff_eq, Bool.not_eq_true', decide_eq_true_eq] at h5
  obtain ⟨⟨⟨⟨⟨g1, g2⟩, g3⟩, g4⟩, g5⟩, g6⟩ := h5
  simp [Cond.before, Cond.holds, Cond.value, h1, h2, h3, h4, g1, g2, g3, g4, g5, g6]
def isCode : Jvm.Cond → Bool
  | .code _ _ _ _ => true
  | _ => false
theorem all_split {L : List Jvm.Cond} {P : Jvm.Cond → Bool} (h1 : L.all (fun c => isCode c || P c) = true) (h2 : ∀ c ∈ L.filter isCode, P c = true) : L.all P = true := by
  refine List.all_eq_true.mpr fun c hc => ?_
  have h := List.all_eq_true.mp h1 c hc
  rcases Bool.eq_false_or_eq_true (isCode c) with hi | hi
  · exact h2 c (List.mem_filter.mpr ⟨hc, hi⟩)
  · simpa [hi] using h
set_option maxRecDepth 65536 in
theorem w_c0 : (Jvm.Cond.code x code maxLocals ret).before args0 about1 = true := code_word (m := ⟨1, 1⟩) (meth := k1m1) (c := k1c1) (by decide +kernel) rfl rfl rfl (by decide +kernel)
set_option maxRecDepth 65536 in
theorem w_c1 : (Jvm.Cond.code ({ cls := "com/example/wattfold/wattfold/core/Vm$Half", name := "other", desc := "()Lcom/example/wattfold/wattfold/core/Vm$Half;" } : Jvm.MethodName) prog_29_method_5_code (1 : Nat) (Option.some (Jvm.ClassFile.FieldType.object "com/example/wattfold/wattfold/core/Vm$Half"))).before args0 about1 = true := code_word (m := ⟨6, 0⟩) (meth := k6m0) (c := k6c0) (by decide +kernel) rfl rfl rfl (by decide +kernel)
def codes1 : List Jvm.Cond := [Jvm.Cond.code x code maxLocals ret, Jvm.Cond.code ({ cls := "com/example/wattfold/wattfold/core/Vm$Half", name := "other", desc := "()Lcom/example/wattfold/wattfold/core/Vm$Half;" } : Jvm.MethodName) prog_29_method_5_code (1 : Nat) (Option.some (Jvm.ClassFile.FieldType.object "com/example/wattfold/wattfold/core/Vm$Half"))]
set_option maxRecDepth 65536 in
theorem codes_eq : words1.filter isCode = codes1 := rfl
theorem w_codes : ∀ c ∈ words1.filter isCode, c.before args0 about1 = true := by
  rw [codes_eq]
  intro c hc
  simp only [codes1, List.mem_cons, List.not_mem_nil, or_false] at hc
  rcases hc with rfl | rfl
  · exact w_c0
  · exact w_c1
set_option maxRecDepth 65536 in
theorem w_t1 : words1.all (fun c => isCode c || c.before args0 about1) = true := by decide +kernel
theorem w_tables : (allAtoms (Jvm.Cond.code x code maxLocals ret :: tables_1)).before args0 about1 = true := by
  rw [allAtoms_all]
  show words1.all (fun c => c.before args0 about1) = true
  refine all_split ?_ w_codes
  rw [w_t1]
set_option maxRecDepth 65536 in
theorem w_case : (Jvm.Cond.and given_1 narrow_1).before args0 about1 = true := by decide +kernel
theorem w_applies : (headSpec (Jvm.Cond.code x code maxLocals ret :: tables_1) room_1).applies x e0.platform about1 = true :=
  (Spec.applies_iff w_frames).mpr ⟨w_running, w_runnable, w_alone, w_named, w_hears, w_ripe, w_room, w_tables⟩
theorem atStart : AtStart classFile x code maxLocals ret World_1 tables_1 room_1 Calls_1 rest_1 Pre_1 launch0 p0 e0 about1 theMethod args0 below0 :=
  ⟨lists_1, trivial, launch0.admits_env _ _ _, launch0.least_env, fairChoices_fair.cas, fairChoices_fair.clock, w_frames, w_args, w_heap, w_applies, trivial, trivial, w_case⟩
end start1
theorem witness_1 : WitnessClaimed_1 := ⟨start1.p0, start1.e0, start1.about1, start1.theMethod, start1.args0, start1.below0, start1.atStart⟩
end Jvm.Pilot.@@N@@
